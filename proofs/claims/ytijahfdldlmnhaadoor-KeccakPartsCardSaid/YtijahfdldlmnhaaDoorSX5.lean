/- Printed by this work's own program: the code of each function below comes to the answer that its plain form tells. -/
import Derived.Test.YtijahfdldlmnhaaDoorMr
import Derived.Test.YtijahfdldlmnhaaDoorProg
import Derived.Test.YtijahfdldlmnhaaDoorSF0
set_option linter.unusedVariables false
set_option linter.unusedSimpArgs false
set_option maxRecDepth 100000
set_option maxHeartbeats 4000000
namespace Go.Proofs.YtijahfdldlmnhaaDoor
open Go.Mx
attribute [local irreducible] wpOp

theorem ref01_Join.ok {K : Nat} {a0 : List (List Int)} {r0 : List Int} {a0_A : Option Addr} {a0_n : Nat} {a0_c : Nat} {a0_H : List HS} (h : ref01_Join.f K a0 = some r0) (w0 : World) (hp0 : LLP (CI .u8) w0 a0_A a0_n a0_c a0_H a0) : Calls Tryd.prog 14 #[.slice a0_A a0_n a0_c] w0 fun e w' => ∃ h : (Option Addr × Nat × Nat), e = .returned (.slice h.1 h.2.1 h.2.2) ∧ St w0 [] [.ownL (CI .u8) h.1 h.2.1 h.2.2 r0 5] [] w' := by
  refine calls_k Tryd.func14 rfl fun Q qq => ?_
  have hs := St.startR (all_cons (LLP.ent hp0) all_nil)
  refine wp_conv (a' := ⟨#[.slice a0_A a0_n a0_c, undef, undef, undef, undef, undef, undef, undef, undef, undef, undef, undef, undef, undef, undef, undef, undef, undef], []⟩) (by kernel_rfl) ?_
  refine wp_seq_k fun KS1 ks1 => ?_
  refine wp_regS (l := [0]) (by kernel_rfl) fun KR kr => ?_
  refine wpS.take 0 false (some 2) (.slice none 0 0) (by kernel_rfl) (yld fun _ => by kernel_rfl) ?_
  refine wpS.fin rfl (kr _ _ ?_)
  refine then_n (ks1 _ _ ?_)
  refine wp_seq_k fun KS2 ks2 => ?_
  refine wp_regS (l := [0]) (by kernel_rfl) fun KR kr => ?_
  refine wpS.take 0 false (some 3) (.slice none 0 0) (by kernel_rfl) (yld fun _ => by kernel_rfl) ?_
  refine wpS.fin rfl (kr _ _ ?_)
  refine then_n (ks2 _ _ ?_)
  refine wp_seq_k fun KS19 ks19 => ?_
  refine wp_seq_k fun KS20 ks20 => ?_
  refine wp_regS (l := [0]) (by kernel_rfl) fun KR kr => ?_
  refine wpS.take 0 false (some 4) (.int .i64 0) (by kernel_rfl) (yld fun _ => by kernel_rfl) ?_
  refine wpS.fin rfl (kr _ _ ?_)
  refine then_n (ks20 _ _ ?_)
  have hs := hs.addNilL (CI .u8) 5
  obtain ⟨y3, hy, hk0⟩ := of_bind h
  refine wp_exq (N := fun a w => ∃ (y3_A : Option Addr) (y3_n : Nat) (y3_c : Nat), St w0 [] [.ownL (CI .u8) y3_A y3_n y3_c y3 5] [.rowLL (CI .u8) a0_A a0_n a0_c a0_H a0] w ∧ ∃ g : Nat → Value, a = ⟨#[.slice a0_A a0_n a0_c, undef, .slice none 0 0, .slice y3_A y3_n y3_c, (g 4), (g 5), (g 6), (g 7), (g 8), (g 9), (g 10), (g 11), (g 12), (g 13), (g 14), (g 15), (g 16), undef], []⟩) (fun N0 nn0 => ?_) ?_
  · clear hk0
    refine wp_block ?_
    refine wp_loop_k (fun n a w => ∃ z1 z2, ∃ (z2_A : Option Addr) (z2_n : Nat) (z2_c : Nat), ref01_Join.l0 K n a0 z1 z2 = some y3 ∧ St w0 [] [.ownL (CI .u8) z2_A z2_n z2_c z2 5] [.rowLL (CI .u8) a0_A a0_n a0_c a0_H a0] w ∧ ∃ g : Nat → Value, a = ⟨#[.slice a0_A a0_n a0_c, undef, .slice none 0 0, .slice z2_A z2_n z2_c, .int .i64 z1, (g 5), (g 6), (g 7), (g 8), (g 9), (g 10), (g 11), (g 12), (g 13), (g 14), (g 15), (g 16), undef], []⟩) K ⟨0, ([] : List Int), none, 0, 0, hy, hs.conv rfl, exg (by kernel_rfl)⟩ ?_
    clear hs h hy
    rintro n a w ⟨z1, z2, z2_A, z2_n, z2_c, h, hs, g, rfl⟩ KL0 kl0
    cases n with
    | zero => exact nomatch (show none = some _ from h)
    | succ n =>
      refine wp_seq_k fun KS32 ks32 => ?_
      refine wp_seq_k fun KS33 ks33 => ?_
      refine wp_regS (l := [0, 1, 2, 3]) (by kernel_rfl) fun KR kr => ?_
      refine wpS.take 0 false (some 5) (.int .i64 z1) (by kernel_rfl) (yld fun _ => by kernel_rfl) ?_
      refine wpS.take 1 false (some 6) (.slice a0_A a0_n a0_c) (by kernel_rfl) (yld fun _ => by kernel_rfl) ?_
      refine wpS.take 2 false (some 7) (.int .i64 (a0.length : Int)) (by kernel_rfl) (yld_lenLL (hs.rowLL 0 rfl) (fun _ => by kernel_rfl)) ?_
      rcases of_if h with ⟨hc, h⟩ | ⟨hc, h⟩
      · refine wpS.take 3 false (some 8) (.bool true) (by kernel_rfl) (yld_b (dt hc) (fun _ => by kernel_rfl)) ?_
        refine wpS.fin rfl (kr _ _ ?_)
        refine then_n (ks33 _ _ ?_)
        refine wp_cond_t (by kernel_rfl) ?_
        refine wp_skip ?_
        refine then_n (ks32 _ _ ?_)
        refine wp_seq_k fun KS34 ks34 => ?_
        refine wp_block ?_
        refine wp_regS (l := [0, 1, 2, 3, 4, 5, 6]) (by kernel_rfl) fun KR kr => ?_
        refine wpS.take 0 false (some 11) (.slice z2_A z2_n z2_c) (by kernel_rfl) (yld fun _ => by kernel_rfl) ?_
        refine wpS.take 1 false (some 12) (.slice a0_A a0_n a0_c) (by kernel_rfl) (yld fun _ => by kernel_rfl) ?_
        refine wpS.take 2 false (some 13) (.int .i64 z1) (by kernel_rfl) (yld fun _ => by kernel_rfl) ?_
        obtain ⟨h0, h⟩ := of_chk h
        obtain ⟨h1, h⟩ := of_chk h
        have i0_35 := h0
        have i1_35 := h1
        refine wpS.take 3 false (some 14) (.pointer (adr a0_A ((z1 : Int).toNat * Cod.size (CI .u8)))) (by kernel_rfl) (yld_idxLL (C := (CI .u8)) (t := 35) (e := 26) (k := .i64) (x := z1) (hs.rowLL 0 rfl) (by kernel_rfl) (by kernel_rfl) (by kernel_rfl) h0 h1) ?_
        obtain ⟨s4_A, hA⟩ : ∃ A, A = (rdL CS a0_H z1).1 := ⟨_, rfl⟩
        obtain ⟨s4_n, hn⟩ : ∃ n, n = (rdL CS a0_H z1).2.1 := ⟨_, rfl⟩
        obtain ⟨s4_c, hc⟩ : ∃ c, c = (rdL CS a0_H z1).2.2 := ⟨_, rfl⟩
        refine wpS.take 4 true (some 15) (.slice s4_A s4_n s4_c) (by kernel_rfl) (by subst hA hn hc; exact yld_loadLL (C := (CI .u8)) (e := 26) (x := z1) (hs.rowLL 0 rfl) (by kernel_rfl) (by kernel_rfl) i0_35 i1_35) ?_
        have hs := hs.addInn (C := (CI .u8)) 0 rfl i0_35 i1_35 hA hn hc
        obtain ⟨h0, h⟩ := of_chk h
        refine wpS.only 5 (op_appendT (C := (CI .u8)) (t := 26) (ty := 26) (e := 5) (bytes := 1) (B := 140737488355328) (d := (some 16)) (by kernel_rfl) hs 0 rfl (hs.rowR 0 rfl) (by kernel_rfl) (by kernel_rfl) (by kernel_rfl) (by kernel_rfl) (by kernel_rfl) h0 (by decide) (by decide) ?_)
        intro s5_A s5_n s5_c w hs
        refine ⟨fun _ => trivial, ?_⟩
        refine wpS.take 6 false (some 3) (.slice s5_A s5_n s5_c) (by kernel_rfl) (yld fun _ => by kernel_rfl) ?_
        refine wpS.fin rfl (kr _ _ ?_)
        refine inBlock_n ?_
        refine then_n (ks34 _ _ ?_)
        refine wp_regS (l := [0, 1, 2]) (by kernel_rfl) fun KR kr => ?_
        refine wpS.take 0 false (some 9) (.int .i64 z1) (by kernel_rfl) (yld fun _ => by kernel_rfl) ?_
        refine wpS.take 1 false (some 10) (.int .i64 (iadd .i64 z1 1)) (by kernel_rfl) (yld fun _ => by kernel_rfl) ?_
        obtain ⟨x6, hx, h⟩ := of_bind h
        refine wpS.take 2 false (some 4) (.int .i64 x6) (by kernel_rfl) (yld_int hx (fun _ => by kernel_rfl)) ?_
        refine wpS.fin rfl (kr _ _ ?_)
        exact then_n (kl0 _ _ ⟨n, Nat.lt_succ_self n, x6, (z2 ++ (rdLL a0 z1)), s5_A, s5_n, s5_c, h, ((hs.conv (L' := [.ownL (CI .u8) s5_A s5_n s5_c (z2 ++ (rdLL a0 z1)) 5]) rfl).pickR (pick_cons 1 rfl pick_nil)), exg (by kernel_rfl)⟩)
      · refine wpS.take 3 false (some 8) (.bool false) (by kernel_rfl) (yld_b (df hc) (fun _ => by kernel_rfl)) ?_
        refine wpS.fin rfl (kr _ _ ?_)
        refine then_n (ks33 _ _ ?_)
        refine wp_cond_f (by kernel_rfl) ?_
        refine wp_exit ?_
        refine then_x ?_
        refine then_x ?_
        refine inBlock_hit ?_
        have q0 := of_some h
        subst q0
        exact exq_n (nn0 _ _ ⟨z2_A, z2_n, z2_c, (hs.conv rfl), exg (by kernel_rfl)⟩)
  · clear hs h hy
    rintro a w ⟨y3_A, y3_n, y3_c, hs, g, rfl⟩
    have h := hk0
    refine then_n (ks19 _ _ ?_)
    refine wp_seq_k fun KS36 ks36 => ?_
    refine wp_regS (l := [0, 1]) (by kernel_rfl) fun KR kr => ?_
    refine wpS.take 0 false (some 17) (.slice y3_A y3_n y3_c) (by kernel_rfl) (yld fun _ => by kernel_rfl) ?_
    refine wpS.take 1 false (some 2) (.slice y3_A y3_n y3_c) (by kernel_rfl) (yld fun _ => by kernel_rfl) ?_
    refine wpS.fin rfl (kr _ _ ?_)
    refine then_n (ks36 _ _ ?_)
    refine wp_ret ?_
    have q0 := of_some h
    subst q0
    exact qq _ _ (post_ret (by kernel_rfl) (run_results [.tmp 2] [.slice y3_A y3_n y3_c] (by kernel_rfl) (.cons (res_tmp (by kernel_rfl)) .nil)) ⟨⟨y3_A, y3_n, y3_c⟩, congrArg Ending.returned (by kernel_rfl), ((hs.conv (L' := [.ownL (CI .u8) y3_A y3_n y3_c y3 5]) rfl).pickR pick_nil)⟩)
end Go.Proofs.YtijahfdldlmnhaaDoor
