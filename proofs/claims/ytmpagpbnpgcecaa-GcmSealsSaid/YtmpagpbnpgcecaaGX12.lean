/- Printed by this work's own program: the code of each function below comes to the answer that its plain form tells. -/
import Derived.Test.YtmpagpbnpgcecaaMd
import Derived.Test.YtmpagpbnpgcecaaProg
import Derived.Test.YtmpagpbnpgcecaaGF0
set_option linter.unusedVariables false
set_option linter.unusedSimpArgs false
set_option maxRecDepth 100000
set_option maxHeartbeats 4000000
namespace Go.Proofs.Ytmpagpbnpgcecaa
open Go.Mx
attribute [local irreducible] wpOp

theorem ref01_Join.ok {K : Nat} {a0 : List (List Int)} {r0 : List Int} {a0_A : Option Addr} {a0_n : Nat} {a0_c : Nat} {a0_H : List HS} (h : ref01_Join.f K a0 = some r0) (w0 : World) (hp0 : LLP (CI .u8) w0 a0_A a0_n a0_c a0_H a0) : Calls Try.prog 43 #[.slice a0_A a0_n a0_c] w0 fun e w' => ∃ h : (Option Addr × Nat × Nat), e = .returned (.slice h.1 h.2.1 h.2.2) ∧ St w0 [] [.ownL (CI .u8) h.1 h.2.1 h.2.2 r0 5] [] w' := by
 refine calls_k Try.func43 rfl fun Q qq => ?_
 have hs := St.startR (all_cons (LLP.ent hp0) all_nil)
 refine wp_conv (a' := ⟨#[.slice a0_A a0_n a0_c, undef, undef, undef, undef, undef, undef, undef, undef, undef, undef, undef, undef, undef, undef, undef, undef, undef], []⟩) (by kernel_rfl) ?_
 refine xseq_k fun KS1 ks1 => ?_
 refine xregS [0] fun KR2 kr2 => ?_
 refine wpS.q 0 2 (.slice none 0 0) ?_
 refine wpS.fin rfl (kr2 _ _ (then_n (ks1 _ _ (xseq_k fun KS3 ks3 => (xregS [0] fun KR4 kr4 => ?_)))))
 refine wpS.q 0 3 (.slice none 0 0) ?_
 refine wpS.fin rfl (kr4 _ _ (then_n (ks3 _ _ (xseq_k fun KS5 ks5 => (xseq_k fun KS6 ks6 => (xregS [0] fun KR7 kr7 => ?_))))))
 refine wpS.q 0 4 (.int .i64 0) ?_
 refine wpS.fin rfl (kr7 _ _ (then_n (ks6 _ _ ?_)))
 have hs := hs.addNilL (CI .u8) 5
 obtain ⟨y3, hy, hk0⟩ := of_bind h
 refine wp_exq (N := fun a w => ∃ (y3_A : Option Addr) (y3_n : Nat) (y3_c : Nat), St w0 [] [.ownL (CI .u8) y3_A y3_n y3_c y3 5] [.rowLL (CI .u8) a0_A a0_n a0_c a0_H a0] w ∧ ∃ g9 : Nat → Value, a = ⟨#[.slice a0_A a0_n a0_c, undef, .slice none 0 0, .slice y3_A y3_n y3_c, (g9 4), (g9 5), (g9 6), (g9 7), (g9 8), (g9 9), (g9 10), (g9 11), (g9 12), (g9 13), (g9 14), (g9 15), (g9 16), undef], []⟩) (fun N0 nn0 => ?_) ?_
 ·clear hk0
  refine xblock ?_
  refine wp_loop_k (fun n a w => ∃ z1 z2, ∃ (z2_A : Option Addr) (z2_n : Nat) (z2_c : Nat), ref01_Join.l0 K n a0 z1 z2 = some y3 ∧ St w0 [] [.ownL (CI .u8) z2_A z2_n z2_c z2 5] [.rowLL (CI .u8) a0_A a0_n a0_c a0_H a0] w ∧ ∃ g8 : Nat → Value, a = ⟨#[.slice a0_A a0_n a0_c, undef, .slice none 0 0, .slice z2_A z2_n z2_c, .int .i64 z1, (g8 5), (g8 6), (g8 7), (g8 8), (g8 9), (g8 10), (g8 11), (g8 12), (g8 13), (g8 14), (g8 15), (g8 16), undef], []⟩) K ⟨0, ([] : List Int), none, 0, 0, hy, hs.conv rfl, exg (by kernel_rfl)⟩ ?_
  clear hs h hy
  rintro n a w ⟨z1, z2, z2_A, z2_n, z2_c, h, hs, g8, rfl⟩ KL0 kl0
  cases n with
  | zero => exact nomatch (show none = some _ from h)
  | succ n =>
   refine xseq_k fun KS10 ks10 => ?_
   refine xseq_k fun KS11 ks11 => ?_
   refine xregS [0, 1, 2, 3] fun KR12 kr12 => ?_
   refine wpS.qs [(0, 5, .int .i64 z1), (1, 6, .slice a0_A a0_n a0_c)] ?_
   refine wpS.tk 2 false (some 7) (.int .i64 (a0.length : Int)) (yld_lenLL (hs.rowLL 0 rfl) (fun _ => by kernel_rfl)) ?_
   rcases of_if h with ⟨hc, h⟩ | ⟨hc, h⟩
   ·refine wpS.tk 3 false (some 8) (.bool true) (yld_b (dt hc) (fun _ => by kernel_rfl)) ?_
    refine wpS.fin rfl (kr12 _ _ (then_n (ks11 _ _ (wp_cond_t (by kernel_rfl) (xskip (then_n (ks10 _ _ (xseq_k fun KS13 ks13 => (xblock (xregS [0, 1, 2, 3, 4, 5, 6] fun KR14 kr14 => ?_))))))))))
    refine wpS.qs [(0, 11, .slice z2_A z2_n z2_c), (1, 12, .slice a0_A a0_n a0_c), (2, 13, .int .i64 z1)] ?_
    obtain ⟨h0, h⟩ := of_chk h
    obtain ⟨h1, h⟩ := of_chk h
    have i0_15 := h0
    have i1_15 := h1
    refine wpS.tk 3 false (some 14) (.pointer (adr a0_A ((z1 : Int).toNat * Cod.size (CI .u8)))) (yld_idxLL (C := (CI .u8)) (t := 44) (e := 26) (k := .i64) (x := z1) (hs.rowLL 0 rfl) (by kernel_rfl) (by kernel_rfl) (by kernel_rfl) h0 h1) ?_
    obtain ⟨s4_A, hA⟩ : ∃ A, A = (rdL CS a0_H z1).1 := ⟨_, rfl⟩
    obtain ⟨s4_n, hn⟩ : ∃ n, n = (rdL CS a0_H z1).2.1 := ⟨_, rfl⟩
    obtain ⟨s4_c, hc⟩ : ∃ c, c = (rdL CS a0_H z1).2.2 := ⟨_, rfl⟩
    refine wpS.tk 4 true (some 15) (.slice s4_A s4_n s4_c) (by subst hA hn hc; exact yld_loadLL (C := (CI .u8)) (e := 26) (x := z1) (hs.rowLL 0 rfl) (by kernel_rfl) (by kernel_rfl) i0_15 i1_15) ?_
    have hs := hs.addInn (C := (CI .u8)) 0 rfl i0_15 i1_15 hA hn hc
    obtain ⟨h0, h⟩ := of_chk h
    refine wpS.only 5 (op_appendT (C := (CI .u8)) (t := 26) (ty := 26) (e := 5) (bytes := 1) (B := 140737488355328) (d := (some 16)) (by kernel_rfl) hs 0 rfl (hs.rowR 0 rfl) (by kernel_rfl) (by kernel_rfl) (by kernel_rfl) (by kernel_rfl) (by kernel_rfl) h0 (by decide) (by decide) ?_)
    intro s5_A s5_n s5_c w hs
    refine ⟨fun _ => trivial, ?_⟩
    refine wpS.q 6 3 (.slice s5_A s5_n s5_c) ?_
    refine wpS.fin rfl (kr14 _ _ (inBlock_n (then_n (ks13 _ _ (xregS [0, 1, 2] fun KR16 kr16 => ?_)))))
    refine wpS.qs [(0, 9, .int .i64 z1), (1, 10, .int .i64 (iadd .i64 z1 1))] ?_
    obtain ⟨x6, hx, h⟩ := of_bind h
    refine wpS.tk 2 false (some 4) (.int .i64 x6) (yld_int hx (fun _ => by kernel_rfl)) ?_
    refine wpS.fin rfl (kr16 _ _ ?_)
    exact then_n (kl0 _ _ ⟨n, Nat.lt_succ_self n, x6, (z2 ++ (rdLL a0 z1)), s5_A, s5_n, s5_c, h, (hs.pickR (pick_cons 1 rfl pick_nil)), exg (by kernel_rfl)⟩)
   refine wpS.tk 3 false (some 8) (.bool false) (yld_b (df hc) (fun _ => by kernel_rfl)) ?_
   refine wpS.fin rfl (kr12 _ _ (then_n (ks11 _ _ (wp_cond_f (by kernel_rfl) (xexit (then_x (then_x (inBlock_hit ?_))))))))
   have q0 := of_some h
   subst q0
   exact exq_n (nn0 _ _ ⟨z2_A, z2_n, z2_c, (hs.conv rfl), exg (by kernel_rfl)⟩)
 clear hs h hy
 rintro a w ⟨y3_A, y3_n, y3_c, hs, g9, rfl⟩
 have h := hk0
 refine then_n (ks5 _ _ (xseq_k fun KS17 ks17 => (xregS [0, 1] fun KR18 kr18 => ?_)))
 refine wpS.qs [(0, 17, .slice y3_A y3_n y3_c), (1, 2, .slice y3_A y3_n y3_c)] ?_
 refine wpS.fin rfl (kr18 _ _ (then_n (ks17 _ _ (xret ?_))))
 have q0 := of_some h
 subst q0
 exact qq _ _ (post_ret (by kernel_rfl) (run_results [.tmp 2] [.slice y3_A y3_n y3_c] (by kernel_rfl) (.cons (res_tmp (by kernel_rfl)) .nil)) ⟨⟨y3_A, y3_n, y3_c⟩, congrArg Ending.returned (by kernel_rfl), (hs.pickR pick_nil)⟩)
end Go.Proofs.Ytmpagpbnpgcecaa
