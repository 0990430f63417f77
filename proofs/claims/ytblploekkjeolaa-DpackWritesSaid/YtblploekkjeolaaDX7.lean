/- Printed by this work's own program: the code of each function below comes to the answer that its plain form tells. -/
import Derived.Test.YtblploekkjeolaaMj
import Derived.Test.YtblploekkjeolaaProg
import Derived.Test.YtblploekkjeolaaDF0
import Derived.Test.YtblploekkjeolaaDX0
import Derived.Test.YtblploekkjeolaaDX2
import Derived.Test.YtblploekkjeolaaDX6
set_option linter.unusedVariables false
set_option linter.unusedSimpArgs false
set_option maxRecDepth 100000
set_option maxHeartbeats 4000000
namespace Go.Proofs.Ytblploekkjeolaa
open Go.Mx
attribute [local irreducible] wpOp

theorem bits_Pack.ok {K : Nat} {a0 : List Int} {a1 : Int} {r0 : List Int} {a0_A : Option Addr} {a0_n : Nat} {a0_c : Nat} (h : bits_Pack.f K a0 a1 = some r0) (w0 : World) (hp0 : RowL (CI .u32) w0 a0_A a0_n a0_c a0) : Calls Try.prog 58 #[.slice a0_A a0_n a0_c, .int .i64 a1] w0 fun e w' => ∃ h : (Option Addr × Nat × Nat), e = .returned (.slice h.1 h.2.1 h.2.2) ∧ St w0 [] [.ownL (CI .u8) h.1 h.2.1 h.2.2 r0 5] [] w' := by
  refine calls_k Try.func58 rfl fun Q qq => ?_
  have hs := St.startR (all_cons (RowP.ent hp0) all_nil)
  refine wp_conv (a' := ⟨#[.slice a0_A a0_n a0_c, .int .i64 a1, undef, undef, undef, undef, undef, undef, undef, undef, undef, undef, undef, undef, undef, undef, undef, undef, undef, undef, undef, undef, undef, undef, undef, undef, undef, undef, undef, undef, undef, undef, undef, undef, undef, undef, undef, undef, undef, undef, undef, undef, undef, undef, undef, undef, undef, undef, undef, undef, undef, undef, undef, undef, undef, undef, undef, undef, undef, undef, undef, undef], []⟩) (by kernel_rfl) ?_
  refine xseq_k fun KS1 ks1 => ?_
  refine wp_regS (l := [0]) (by kernel_rfl) (by kernel_rfl) fun KR2 kr2 => ?_
  refine wpS.take 0 false (some 4) (.slice none 0 0) (by kernel_rfl) (yld fun _ => by kernel_rfl) ?_
  refine wpS.fin rfl (kr2 _ _ ?_)
  refine then_n (ks1 _ _ ?_)
  refine xseq_k fun KS9 ks9 => ?_
  refine xseq_k fun KS10 ks10 => ?_
  refine wp_regS (l := [0, 1, 2, 3, 4, 5]) (by kernel_rfl) (by kernel_rfl) fun KR11 kr11 => ?_
  refine wpS.take 0 false (some 10) (.int .i64 a1) (by kernel_rfl) (yld fun _ => by kernel_rfl) ?_
  rcases of_if h with ⟨hc, h⟩ | ⟨hc, h⟩
  · refine wpS.take 1 false (some 11) (.bool true) (by kernel_rfl) (yld_b (dt hc) (fun _ => by kernel_rfl)) ?_
    refine wpS.take 2 false (some 12) (.bool true) (by kernel_rfl) (yld fun _ => by kernel_rfl) ?_
    refine wpS.take 3 false (some 13) (undef) (by kernel_rfl) (yld fun _ => by kernel_rfl) ?_
    refine wpS.take 4 false (some 14) (undef) (by kernel_rfl) (yld fun _ => by kernel_rfl) ?_
    refine wpS.take 5 false (some 15) (.bool true) (by kernel_rfl) (yld fun _ => by kernel_rfl) ?_
    refine wpS.fin rfl (kr11 _ _ ?_)
    refine then_n (ks10 _ _ ?_)
    refine wp_cond_t (by kernel_rfl) ?_
    refine xseq_k fun KS12 ks12 => ?_
    refine wp_regS (l := [0]) (by kernel_rfl) (by kernel_rfl) fun KR13 kr13 => ?_
    refine wpS.take 0 false (some 4) (.slice none 0 0) (by kernel_rfl) (yld fun _ => by kernel_rfl) ?_
    refine wpS.fin rfl (kr13 _ _ ?_)
    refine then_n (ks12 _ _ ?_)
    refine xret ?_
    refine then_r ?_
    have q0 := of_some h
    subst q0
    have hs := hs.addNilL (CI .u8) 5
    exact qq _ _ (post_ret (by kernel_rfl) (run_results [.tmp 4] [.slice none 0 0] (by kernel_rfl) (.cons (res_tmp (by kernel_rfl)) .nil)) ⟨⟨none, 0, 0⟩, congrArg Ending.returned (by kernel_rfl), ((hs.conv (L' := [.ownL (CI .u8) none 0 0 ([] : List Int) 5]) rfl).pickR pick_nil)⟩)
  · refine wpS.take 1 false (some 11) (.bool false) (by kernel_rfl) (yld_b (df hc) (fun _ => by kernel_rfl)) ?_
    refine wpS.take 2 false (some 12) (.bool false) (by kernel_rfl) (yld fun _ => by kernel_rfl) ?_
    refine wpS.take 3 false (some 13) (.int .i64 a1) (by kernel_rfl) (yld fun _ => by kernel_rfl) ?_
    rcases of_if h with ⟨hc, h⟩ | ⟨hc, h⟩
    · refine wpS.take 4 false (some 14) (.bool true) (by kernel_rfl) (yld_b (dt hc) (fun _ => by kernel_rfl)) ?_
      refine wpS.take 5 false (some 15) (.bool true) (by kernel_rfl) (yld fun _ => by kernel_rfl) ?_
      refine wpS.fin rfl (kr11 _ _ ?_)
      refine then_n (ks10 _ _ ?_)
      refine wp_cond_t (by kernel_rfl) ?_
      refine xseq_k fun KS14 ks14 => ?_
      refine wp_regS (l := [0]) (by kernel_rfl) (by kernel_rfl) fun KR15 kr15 => ?_
      refine wpS.take 0 false (some 4) (.slice none 0 0) (by kernel_rfl) (yld fun _ => by kernel_rfl) ?_
      refine wpS.fin rfl (kr15 _ _ ?_)
      refine then_n (ks14 _ _ ?_)
      refine xret ?_
      refine then_r ?_
      have q0 := of_some h
      subst q0
      have hs := hs.addNilL (CI .u8) 5
      exact qq _ _ (post_ret (by kernel_rfl) (run_results [.tmp 4] [.slice none 0 0] (by kernel_rfl) (.cons (res_tmp (by kernel_rfl)) .nil)) ⟨⟨none, 0, 0⟩, congrArg Ending.returned (by kernel_rfl), ((hs.conv (L' := [.ownL (CI .u8) none 0 0 ([] : List Int) 5]) rfl).pickR pick_nil)⟩)
    · refine wpS.take 4 false (some 14) (.bool false) (by kernel_rfl) (yld_b (df hc) (fun _ => by kernel_rfl)) ?_
      refine wpS.take 5 false (some 15) (.bool false) (by kernel_rfl) (yld fun _ => by kernel_rfl) ?_
      refine wpS.fin rfl (kr11 _ _ ?_)
      refine then_n (ks10 _ _ ?_)
      refine wp_cond_f (by kernel_rfl) ?_
      refine xskip ?_
      refine then_n (ks9 _ _ ?_)
      refine xseq_k fun KS16 ks16 => ?_
      refine wp_regS (l := [0, 1, 2, 3, 4, 5, 6, 7]) (by kernel_rfl) (by kernel_rfl) fun KR17 kr17 => ?_
      refine wpS.take 0 false (some 16) (.slice a0_A a0_n a0_c) (by kernel_rfl) (yld fun _ => by kernel_rfl) ?_
      refine wpS.take 1 false (some 17) (.int .i64 (a0.length : Int)) (by kernel_rfl) (yld_lenL (hs.rowR 0 rfl) (fun _ => by kernel_rfl)) ?_
      refine wpS.take 2 false (some 18) (.int .i64 a1) (by kernel_rfl) (yld fun _ => by kernel_rfl) ?_
      refine wpS.take 3 false (some 19) (.int .i64 (imul .i64 (a0.length : Int) a1)) (by kernel_rfl) (yld fun _ => by kernel_rfl) ?_
      refine wpS.take 4 false (some 20) (.int .i64 (iadd .i64 (imul .i64 (a0.length : Int) a1) 7)) (by kernel_rfl) (yld fun _ => by kernel_rfl) ?_
      refine wpS.take 5 false (some 21) (.int .i64 (iquo .i64 (iadd .i64 (imul .i64 (a0.length : Int) a1) 7) 8)) (by kernel_rfl) (yld fun _ => by kernel_rfl) ?_
      obtain ⟨h0, h⟩ := of_chk h
      obtain ⟨h1, h⟩ := of_chk h
      refine wpS.only 6 (op_makeT0 (C := (CI .u8)) (t := 24) (e := 5) (bytes := 1) (B := 140737488355328) (kl := .i64) (kc := .i64) (x := (iquo .i64 (iadd .i64 (imul .i64 (a0.length : Int) a1) 7) 8)) (d := (some 22)) (by kernel_rfl) hs (by kernel_rfl) (by kernel_rfl) (by kernel_rfl) (by kernel_rfl) (by kernel_rfl) h0 h1 (by decide) (by decide) ?_)
      intro s1_A s1_n s1_c w gw hs
      refine ⟨fun _ => trivial, ?_⟩
      refine wpS.take 7 false (some 5) (.slice s1_A s1_n s1_c) (by kernel_rfl) (yld fun _ => by kernel_rfl) ?_
      refine wpS.fin rfl (kr17 _ _ ?_)
      refine then_n (ks16 _ _ ?_)
      refine xseq_k fun KS18 ks18 => ?_
      refine wp_regS (l := [0, 1]) (by kernel_rfl) (by kernel_rfl) fun KR19 kr19 => ?_
      refine wpS.take 0 false (some 6) (.int .u64 0) (by kernel_rfl) (yld fun _ => by kernel_rfl) ?_
      refine wpS.take 1 false (some 7) (.int .i64 0) (by kernel_rfl) (yld fun _ => by kernel_rfl) ?_
      refine wpS.fin rfl (kr19 _ _ ?_)
      refine then_n (ks18 _ _ ?_)
      refine xseq_k fun KS142 ks142 => ?_
      refine xseq_k fun KS143 ks143 => ?_
      refine wp_regS (l := [0, 1, 2]) (by kernel_rfl) (by kernel_rfl) fun KR144 kr144 => ?_
      refine wpS.take 0 false (some 23) (.slice a0_A a0_n a0_c) (by kernel_rfl) (yld fun _ => by kernel_rfl) ?_
      refine wpS.take 1 false (some 24) (.int .i64 (a0.length : Int)) (by kernel_rfl) (yld_lenL (hs.rowR 0 rfl) (fun _ => by kernel_rfl)) ?_
      refine wpS.take 2 false (some 25) (.int .i64 0) (by kernel_rfl) (yld fun _ => by kernel_rfl) ?_
      refine wpS.fin rfl (kr144 _ _ ?_)
      refine then_n (ks143 _ _ ?_)
      obtain ⟨⟨y6, y7, y8⟩, hy, hk0⟩ := of_bind h
      refine wp_exq (N := fun a w => ∃ (y8_A : Option Addr) (y8_n : Nat) (y8_c : Nat), St w0 [] [.ownL (CI .u8) y8_A y8_n y8_c y8 5] [.rowL (CI .u32) a0_A a0_n a0_c a0] w ∧ ∃ g : Nat → Value, a = ⟨#[.slice a0_A a0_n a0_c, .int .i64 a1, undef, undef, .slice none 0 0, .slice y8_A y8_n y8_c, .int .u64 y6, .int .i64 y7, undef, (g 9), .int .i64 a1, .bool false, .bool false, .int .i64 a1, .bool false, .bool false, .slice a0_A a0_n a0_c, .int .i64 (a0.length : Int), .int .i64 a1, .int .i64 (imul .i64 (a0.length : Int) a1), .int .i64 (iadd .i64 (imul .i64 (a0.length : Int) a1) 7), .int .i64 (iquo .i64 (iadd .i64 (imul .i64 (a0.length : Int) a1) 7) 8), .slice s1_A s1_n s1_c, .slice a0_A a0_n a0_c, .int .i64 (a0.length : Int), (g 25), (g 26), (g 27), (g 28), (g 29), (g 30), (g 31), (g 32), (g 33), (g 34), (g 35), (g 36), (g 37), (g 38), (g 39), (g 40), (g 41), (g 42), (g 43), (g 44), (g 45), (g 46), (g 47), (g 48), (g 49), (g 50), (g 51), (g 52), (g 53), undef, undef, undef, undef, undef, undef, undef, undef], []⟩) (fun N0 nn0 => ?_) ?_
      · clear hk0
        refine xblock ?_
        refine wp_loop_k (fun n a w => ∃ z2 z3 z4 z5, ∃ (z5_A : Option Addr) (z5_n : Nat) (z5_c : Nat), bits_Pack.l0 K n a0 a1 z2 z3 z4 z5 = some (y6, y7, y8) ∧ St w0 [] [.ownL (CI .u8) z5_A z5_n z5_c z5 5] [.rowL (CI .u32) a0_A a0_n a0_c a0] w ∧ ∃ g : Nat → Value, a = ⟨#[.slice a0_A a0_n a0_c, .int .i64 a1, undef, undef, .slice none 0 0, .slice z5_A z5_n z5_c, .int .u64 z2, .int .i64 z3, undef, (g 9), .int .i64 a1, .bool false, .bool false, .int .i64 a1, .bool false, .bool false, .slice a0_A a0_n a0_c, .int .i64 (a0.length : Int), .int .i64 a1, .int .i64 (imul .i64 (a0.length : Int) a1), .int .i64 (iadd .i64 (imul .i64 (a0.length : Int) a1) 7), .int .i64 (iquo .i64 (iadd .i64 (imul .i64 (a0.length : Int) a1) 7) 8), .slice s1_A s1_n s1_c, .slice a0_A a0_n a0_c, .int .i64 (a0.length : Int), .int .i64 z4, (g 26), (g 27), (g 28), (g 29), (g 30), (g 31), (g 32), (g 33), (g 34), (g 35), (g 36), (g 37), (g 38), (g 39), (g 40), (g 41), (g 42), (g 43), (g 44), (g 45), (g 46), (g 47), (g 48), (g 49), (g 50), (g 51), (g 52), (g 53), undef, undef, undef, undef, undef, undef, undef, undef], []⟩) K ⟨0, 0, 0, ([] : List Int), s1_A, s1_n, s1_c, hy, hs.conv rfl, exg (by kernel_rfl)⟩ ?_
        clear hs h hy
        rintro n a w ⟨z2, z3, z4, z5, z5_A, z5_n, z5_c, h, hs, g, rfl⟩ KL0 kl0
        cases n with
        | zero => exact nomatch (show none = some _ from h)
        | succ n =>
          refine xseq_k fun KS205 ks205 => ?_
          refine wp_regS (l := [0]) (by kernel_rfl) (by kernel_rfl) fun KR206 kr206 => ?_
          rcases of_if h with ⟨hc, h⟩ | ⟨hc, h⟩
          · refine wpS.take 0 false (some 26) (.bool true) (by kernel_rfl) (yld_b (dt hc) (fun _ => by kernel_rfl)) ?_
            refine wpS.fin rfl (kr206 _ _ ?_)
            refine then_n (ks205 _ _ ?_)
            refine xseq_k fun KS207 ks207 => ?_
            refine wp_cond_t (by kernel_rfl) ?_
            refine xskip ?_
            refine then_n (ks207 _ _ ?_)
            refine xseq_k fun KS235 ks235 => ?_
            refine xblock ?_
            refine xseq_k fun KS236 ks236 => ?_
            refine wp_regS (l := [0, 1, 2]) (by kernel_rfl) (by kernel_rfl) fun KR237 kr237 => ?_
            obtain ⟨h0, h⟩ := of_chk h
            obtain ⟨h1, h⟩ := of_chk h
            have i0_238 := h0
            have i1_238 := h1
            refine wpS.take 0 false (some 27) (.pointer (adr a0_A ((z4 : Int).toNat * Cod.size (CI .u32)))) (by kernel_rfl) (yld_idxL (C := (CI .u32)) (t := 82) (e := 84) (k := .i64) (x := z4) (hs.rowR 0 rfl) (by kernel_rfl) (by kernel_rfl) (by kernel_rfl) h0 h1) ?_
            refine wpS.take 1 true (some 28) (.int .u32 (rdL (CI .u32) a0 z4)) (by kernel_rfl) (yld_loadL (C := (CI .u32)) (e := 84) (x := z4) (hs.rowR 0 rfl) (by kernel_rfl) rfl (by kernel_rfl) i0_238 i1_238) ?_
            obtain ⟨x9, hx, h⟩ := of_bind h
            refine wpS.take 2 false (some 9) (.int .u32 x9) (by kernel_rfl) (yld_int hx (fun _ => by kernel_rfl)) ?_
            refine wpS.fin rfl (kr237 _ _ ?_)
            refine then_n (ks236 _ _ ?_)
            refine xseq_k fun KS239 ks239 => ?_
            refine wp_regS (l := [0, 1, 2, 3, 4, 5, 6, 7, 8, 9, 10]) (by kernel_rfl) (by kernel_rfl) fun KR240 kr240 => ?_
            refine wpS.take 0 false (some 29) (.int .u64 z2) (by kernel_rfl) (yld fun _ => by kernel_rfl) ?_
            refine wpS.take 1 false (some 30) (.int .u32 x9) (by kernel_rfl) (yld fun _ => by kernel_rfl) ?_
            refine wpS.take 2 false (some 31) (.int .i64 a1) (by kernel_rfl) (yld fun _ => by kernel_rfl) ?_
            obtain ⟨h0, h⟩ := of_chk h
            refine wpS.take 3 false (some 32) (.int .u32 (ishl .u32 1 a1)) (by kernel_rfl) (yld_shl (t := 84) (k' := .i64) (by kernel_rfl) h0) ?_
            refine wpS.take 4 false (some 33) (.int .u32 (isub .u32 (ishl .u32 1 a1) 1)) (by kernel_rfl) (yld fun _ => by kernel_rfl) ?_
            refine wpS.take 5 false (some 34) (.int .u32 (iand .u32 x9 (isub .u32 (ishl .u32 1 a1) 1))) (by kernel_rfl) (yld fun _ => by kernel_rfl) ?_
            refine wpS.take 6 false (some 35) (.int .u64 (iconv .u64 (iand .u32 x9 (isub .u32 (ishl .u32 1 a1) 1)))) (by kernel_rfl) (yld fun _ => by kernel_rfl) ?_
            refine wpS.take 7 false (some 36) (.int .i64 z3) (by kernel_rfl) (yld fun _ => by kernel_rfl) ?_
            obtain ⟨h0, h⟩ := of_chk h
            refine wpS.take 8 false (some 37) (.int .u64 (ishl .u64 (iconv .u64 (iand .u32 x9 (isub .u32 (ishl .u32 1 a1) 1))) z3)) (by kernel_rfl) (yld_shl (t := 104) (k' := .i64) (by kernel_rfl) h0) ?_
            refine wpS.take 9 false (some 38) (.int .u64 (ior .u64 z2 (ishl .u64 (iconv .u64 (iand .u32 x9 (isub .u32 (ishl .u32 1 a1) 1))) z3))) (by kernel_rfl) (yld fun _ => by kernel_rfl) ?_
            obtain ⟨x10, hx, h⟩ := of_bind h
            refine wpS.take 10 false (some 6) (.int .u64 x10) (by kernel_rfl) (yld_int hx (fun _ => by kernel_rfl)) ?_
            refine wpS.fin rfl (kr240 _ _ ?_)
            refine then_n (ks239 _ _ ?_)
            refine xseq_k fun KS241 ks241 => ?_
            refine wp_regS (l := [0, 1, 2, 3]) (by kernel_rfl) (by kernel_rfl) fun KR242 kr242 => ?_
            refine wpS.take 0 false (some 39) (.int .i64 z3) (by kernel_rfl) (yld fun _ => by kernel_rfl) ?_
            refine wpS.take 1 false (some 40) (.int .i64 a1) (by kernel_rfl) (yld fun _ => by kernel_rfl) ?_
            refine wpS.take 2 false (some 41) (.int .i64 (iadd .i64 z3 a1)) (by kernel_rfl) (yld fun _ => by kernel_rfl) ?_
            obtain ⟨x11, hx, h⟩ := of_bind h
            refine wpS.take 3 false (some 7) (.int .i64 x11) (by kernel_rfl) (yld_int hx (fun _ => by kernel_rfl)) ?_
            refine wpS.fin rfl (kr242 _ _ ?_)
            refine then_n (ks241 _ _ ?_)
            obtain ⟨⟨y15, y16, y17⟩, hy, hk1⟩ := of_bind h
            refine wp_exq (N := fun a w => ∃ (y17_A : Option Addr) (y17_n : Nat) (y17_c : Nat), St w0 [] [.ownL (CI .u8) y17_A y17_n y17_c y17 5] [.rowL (CI .u32) a0_A a0_n a0_c a0] w ∧ ∃ g : Nat → Value, a = ⟨#[.slice a0_A a0_n a0_c, .int .i64 a1, undef, undef, .slice none 0 0, .slice y17_A y17_n y17_c, .int .u64 y15, .int .i64 y16, undef, .int .u32 x9, .int .i64 a1, .bool false, .bool false, .int .i64 a1, .bool false, .bool false, .slice a0_A a0_n a0_c, .int .i64 (a0.length : Int), .int .i64 a1, .int .i64 (imul .i64 (a0.length : Int) a1), .int .i64 (iadd .i64 (imul .i64 (a0.length : Int) a1) 7), .int .i64 (iquo .i64 (iadd .i64 (imul .i64 (a0.length : Int) a1) 7) 8), .slice s1_A s1_n s1_c, .slice a0_A a0_n a0_c, .int .i64 (a0.length : Int), .int .i64 z4, .bool true, .pointer (adr a0_A ((z4 : Int).toNat * Cod.size (CI .u32))), .int .u32 (rdL (CI .u32) a0 z4), .int .u64 z2, .int .u32 x9, .int .i64 a1, .int .u32 (ishl .u32 1 a1), .int .u32 (isub .u32 (ishl .u32 1 a1) 1), .int .u32 (iand .u32 x9 (isub .u32 (ishl .u32 1 a1) 1)), .int .u64 (iconv .u64 (iand .u32 x9 (isub .u32 (ishl .u32 1 a1) 1))), .int .i64 z3, .int .u64 (ishl .u64 (iconv .u64 (iand .u32 x9 (isub .u32 (ishl .u32 1 a1) 1))) z3), .int .u64 (ior .u64 z2 (ishl .u64 (iconv .u64 (iand .u32 x9 (isub .u32 (ishl .u32 1 a1) 1))) z3)), .int .i64 z3, .int .i64 a1, .int .i64 (iadd .i64 z3 a1), (g 42), (g 43), (g 44), (g 45), (g 46), (g 47), (g 48), (g 49), (g 50), (g 51), (g 52), (g 53), undef, undef, undef, undef, undef, undef, undef, undef], []⟩) (fun N1 nn1 => ?_) ?_
            · clear hk1
              refine xblock ?_
              refine wp_loop_k (fun n a w => ∃ z12 z13 z14, ∃ (z14_A : Option Addr) (z14_n : Nat) (z14_c : Nat), bits_Pack.l1 K n z12 z13 z14 = some (y15, y16, y17) ∧ St w0 [] [.ownL (CI .u8) z14_A z14_n z14_c z14 5] [.rowL (CI .u32) a0_A a0_n a0_c a0] w ∧ ∃ g : Nat → Value, a = ⟨#[.slice a0_A a0_n a0_c, .int .i64 a1, undef, undef, .slice none 0 0, .slice z14_A z14_n z14_c, .int .u64 z12, .int .i64 z13, undef, .int .u32 x9, .int .i64 a1, .bool false, .bool false, .int .i64 a1, .bool false, .bool false, .slice a0_A a0_n a0_c, .int .i64 (a0.length : Int), .int .i64 a1, .int .i64 (imul .i64 (a0.length : Int) a1), .int .i64 (iadd .i64 (imul .i64 (a0.length : Int) a1) 7), .int .i64 (iquo .i64 (iadd .i64 (imul .i64 (a0.length : Int) a1) 7) 8), .slice s1_A s1_n s1_c, .slice a0_A a0_n a0_c, .int .i64 (a0.length : Int), .int .i64 z4, .bool true, .pointer (adr a0_A ((z4 : Int).toNat * Cod.size (CI .u32))), .int .u32 (rdL (CI .u32) a0 z4), .int .u64 z2, .int .u32 x9, .int .i64 a1, .int .u32 (ishl .u32 1 a1), .int .u32 (isub .u32 (ishl .u32 1 a1) 1), .int .u32 (iand .u32 x9 (isub .u32 (ishl .u32 1 a1) 1)), .int .u64 (iconv .u64 (iand .u32 x9 (isub .u32 (ishl .u32 1 a1) 1))), .int .i64 z3, .int .u64 (ishl .u64 (iconv .u64 (iand .u32 x9 (isub .u32 (ishl .u32 1 a1) 1))) z3), .int .u64 (ior .u64 z2 (ishl .u64 (iconv .u64 (iand .u32 x9 (isub .u32 (ishl .u32 1 a1) 1))) z3)), .int .i64 z3, .int .i64 a1, .int .i64 (iadd .i64 z3 a1), (g 42), (g 43), (g 44), (g 45), (g 46), (g 47), (g 48), (g 49), (g 50), (g 51), (g 52), (g 53), undef, undef, undef, undef, undef, undef, undef, undef], []⟩) K ⟨x10, x11, z5, z5_A, z5_n, z5_c, hy, hs.conv rfl, exg (by kernel_rfl)⟩ ?_
              clear hs h hy
              rintro n a w ⟨z12, z13, z14, z14_A, z14_n, z14_c, h, hs, g, rfl⟩ KL1 kl1
              cases n with
              | zero => exact nomatch (show none = some _ from h)
              | succ n =>
                refine xseq_k fun KS255 ks255 => ?_
                refine xseq_k fun KS256 ks256 => ?_
                refine wp_regS (l := [0, 1]) (by kernel_rfl) (by kernel_rfl) fun KR257 kr257 => ?_
                refine wpS.take 0 false (some 42) (.int .i64 z13) (by kernel_rfl) (yld fun _ => by kernel_rfl) ?_
                rcases of_if h with ⟨hc, h⟩ | ⟨hc, h⟩
                · refine wpS.take 1 false (some 43) (.bool true) (by kernel_rfl) (yld_b (dt hc) (fun _ => by kernel_rfl)) ?_
                  refine wpS.fin rfl (kr257 _ _ ?_)
                  refine then_n (ks256 _ _ ?_)
                  refine wp_cond_t (by kernel_rfl) ?_
                  refine xskip ?_
                  refine then_n (ks255 _ _ ?_)
                  refine xseq_k fun KS258 ks258 => ?_
                  refine xblock ?_
                  refine xseq_k fun KS259 ks259 => ?_
                  refine wp_regS (l := [0, 1, 2, 3, 4, 5]) (by kernel_rfl) (by kernel_rfl) fun KR260 kr260 => ?_
                  refine wpS.take 0 false (some 46) (.slice z14_A z14_n z14_c) (by kernel_rfl) (yld fun _ => by kernel_rfl) ?_
                  refine wpS.take 1 false (some 47) (.int .u64 z12) (by kernel_rfl) (yld fun _ => by kernel_rfl) ?_
                  refine wpS.take 2 false (some 48) (.int .u8 (iconv .u8 z12)) (by kernel_rfl) (yld fun _ => by kernel_rfl) ?_
                  refine wpS.only 3 (op_lit (C := (CI .u8)) (t := 24) (e := 5) (len := 1) (parts := #[(0, .int .u8 (iconv .u8 z12))]) (l := [(iconv .u8 z12)]) (d := (some 49)) (by kernel_rfl) hs (by kernel_rfl) (by kernel_rfl) (by kernel_rfl) (z := .int .u8 0) (by kernel_rfl) rfl (by decide) (by decide) (by kernel_rfl) ?_)
                  intro s18_A s18_n s18_c w gw hs
                  refine ⟨fun _ => trivial, ?_⟩
                  obtain ⟨h0, h⟩ := of_chk h
                  refine wpS.only 4 (op_appendT (C := (CI .u8)) (t := 24) (ty := 24) (e := 5) (bytes := 1) (B := 140737488355328) (d := (some 50)) (by kernel_rfl) hs 1 rfl (hs.rowL 0 rfl) (by kernel_rfl) (by kernel_rfl) (by kernel_rfl) (by kernel_rfl) (by kernel_rfl) h0 (by decide) (by decide) ?_)
                  intro s19_A s19_n s19_c w hs
                  refine ⟨fun _ => trivial, ?_⟩
                  refine wpS.take 5 false (some 5) (.slice s19_A s19_n s19_c) (by kernel_rfl) (yld fun _ => by kernel_rfl) ?_
                  refine wpS.fin rfl (kr260 _ _ ?_)
                  refine then_n (ks259 _ _ ?_)
                  refine wp_regS (l := [0, 1, 2]) (by kernel_rfl) (by kernel_rfl) fun KR261 kr261 => ?_
                  refine wpS.take 0 false (some 51) (.int .u64 z12) (by kernel_rfl) (yld fun _ => by kernel_rfl) ?_
                  refine wpS.take 1 false (some 52) (.int .u64 (ishr .u64 z12 8)) (by kernel_rfl) (yld fun _ => by kernel_rfl) ?_
                  obtain ⟨x20, hx, h⟩ := of_bind h
                  refine wpS.take 2 false (some 6) (.int .u64 x20) (by kernel_rfl) (yld_int hx (fun _ => by kernel_rfl)) ?_
                  refine wpS.fin rfl (kr261 _ _ ?_)
                  refine inBlock_n ?_
                  refine then_n (ks258 _ _ ?_)
                  refine wp_regS (l := [0, 1, 2]) (by kernel_rfl) (by kernel_rfl) fun KR262 kr262 => ?_
                  refine wpS.take 0 false (some 44) (.int .i64 z13) (by kernel_rfl) (yld fun _ => by kernel_rfl) ?_
                  refine wpS.take 1 false (some 45) (.int .i64 (isub .i64 z13 8)) (by kernel_rfl) (yld fun _ => by kernel_rfl) ?_
                  obtain ⟨x21, hx, h⟩ := of_bind h
                  refine wpS.take 2 false (some 7) (.int .i64 x21) (by kernel_rfl) (yld_int hx (fun _ => by kernel_rfl)) ?_
                  refine wpS.fin rfl (kr262 _ _ ?_)
                  exact then_n (kl1 _ _ ⟨n, Nat.lt_succ_self n, x20, x21, (z14 ++ ([(iconv .u8 z12)] : List Int)), s19_A, s19_n, s19_c, h, ((hs.conv (L' := [.ownL (CI .u8) s18_A s18_n s18_c ([(iconv .u8 z12)] : List Int) 5, .ownL (CI .u8) s19_A s19_n s19_c (z14 ++ ([(iconv .u8 z12)] : List Int)) 5]) rfl).drop (.cons _ (.cons_cons _ .slnil))), exg (by kernel_rfl)⟩)
                · refine wpS.take 1 false (some 43) (.bool false) (by kernel_rfl) (yld_b (df hc) (fun _ => by kernel_rfl)) ?_
                  refine wpS.fin rfl (kr257 _ _ ?_)
                  refine then_n (ks256 _ _ ?_)
                  refine wp_cond_f (by kernel_rfl) ?_
                  refine xexit ?_
                  refine then_x ?_
                  refine then_x ?_
                  refine inBlock_hit ?_
                  obtain ⟨q0, qr0⟩ := Prod.mk.inj (of_some h)
                  obtain ⟨q1, qr1⟩ := Prod.mk.inj (qr0)
                  have q2 := qr1
                  subst q0
                  subst q1
                  subst q2
                  exact exq_n (nn1 _ _ ⟨z14_A, z14_n, z14_c, (hs.conv rfl), exg (by kernel_rfl)⟩)
            · clear hs h hy
              rintro a w ⟨y17_A, y17_n, y17_c, hs, g, rfl⟩
              have h := hk1
              refine inBlock_n ?_
              refine then_n (ks235 _ _ ?_)
              refine wp_regS (l := [0, 1]) (by kernel_rfl) (by kernel_rfl) fun KR263 kr263 => ?_
              refine wpS.take 0 false (some 53) (.int .i64 (iadd .i64 z4 1)) (by kernel_rfl) (yld fun _ => by kernel_rfl) ?_
              refine wpS.take 1 false (some 25) (.int .i64 (iadd .i64 z4 1)) (by kernel_rfl) (yld fun _ => by kernel_rfl) ?_
              refine wpS.fin rfl (kr263 _ _ ?_)
              exact then_n (kl0 _ _ ⟨n, Nat.lt_succ_self n, y15, y16, (iadd .i64 z4 1), y17, y17_A, y17_n, y17_c, h, (hs.conv rfl), exg (by kernel_rfl)⟩)
          · refine wpS.take 0 false (some 26) (.bool false) (by kernel_rfl) (yld_b (df hc) (fun _ => by kernel_rfl)) ?_
            refine wpS.fin rfl (kr206 _ _ ?_)
            refine then_n (ks205 _ _ ?_)
            refine xseq_k fun KS264 ks264 => ?_
            refine wp_cond_f (by kernel_rfl) ?_
            refine xexit ?_
            refine then_x ?_
            refine then_x ?_
            refine inBlock_hit ?_
            obtain ⟨q0, qr0⟩ := Prod.mk.inj (of_some h)
            obtain ⟨q1, qr1⟩ := Prod.mk.inj (qr0)
            have q2 := qr1
            subst q0
            subst q1
            subst q2
            exact exq_n (nn0 _ _ ⟨z5_A, z5_n, z5_c, (hs.conv rfl), exg (by kernel_rfl)⟩)
      · clear hs h hy
        rintro a w ⟨y8_A, y8_n, y8_c, hs, g, rfl⟩
        have h := hk0
        refine then_n (ks142 _ _ ?_)
        obtain ⟨y22, hj, h⟩ := of_bind h
        refine xseq_k fun KS276 ks276 => wp_join (N := fun a w => ∃ (y22_A : Option Addr) (y22_n : Nat) (y22_c : Nat), St w0 [] [.ownL (CI .u8) y22_A y22_n y22_c y22 5] [.rowL (CI .u32) a0_A a0_n a0_c a0] w ∧ ∃ g : Nat → Value, a = ⟨#[.slice a0_A a0_n a0_c, .int .i64 a1, undef, undef, .slice none 0 0, .slice y22_A y22_n y22_c, .int .u64 y6, .int .i64 y7, undef, (g 9), .int .i64 a1, .bool false, .bool false, .int .i64 a1, .bool false, .bool false, .slice a0_A a0_n a0_c, .int .i64 (a0.length : Int), .int .i64 a1, .int .i64 (imul .i64 (a0.length : Int) a1), .int .i64 (iadd .i64 (imul .i64 (a0.length : Int) a1) 7), .int .i64 (iquo .i64 (iadd .i64 (imul .i64 (a0.length : Int) a1) 7) 8), .slice s1_A s1_n s1_c, .slice a0_A a0_n a0_c, .int .i64 (a0.length : Int), (g 25), (g 26), (g 27), (g 28), (g 29), (g 30), (g 31), (g 32), (g 33), (g 34), (g 35), (g 36), (g 37), (g 38), (g 39), (g 40), (g 41), (g 42), (g 43), (g 44), (g 45), (g 46), (g 47), (g 48), (g 49), (g 50), (g 51), (g 52), (g 53), (g 54), (g 55), (g 56), (g 57), (g 58), (g 59), (g 60), undef], []⟩) (fun N nj => ?_) ?_
        · clear h
          have h := hj
          refine xseq_k fun KS271 ks271 => ?_
          refine wp_regS (l := [0, 1]) (by kernel_rfl) (by kernel_rfl) fun KR272 kr272 => ?_
          refine wpS.take 0 false (some 54) (.int .i64 y7) (by kernel_rfl) (yld fun _ => by kernel_rfl) ?_
          rcases of_if h with ⟨hc, h⟩ | ⟨hc, h⟩
          · refine wpS.take 1 false (some 55) (.bool true) (by kernel_rfl) (yld_b (dt hc) (fun _ => by kernel_rfl)) ?_
            refine wpS.fin rfl (kr272 _ _ ?_)
            refine then_n (ks271 _ _ ?_)
            refine wp_cond_t (by kernel_rfl) ?_
            refine wp_regS (l := [0, 1, 2, 3, 4, 5]) (by kernel_rfl) (by kernel_rfl) fun KR273 kr273 => ?_
            refine wpS.take 0 false (some 56) (.slice y8_A y8_n y8_c) (by kernel_rfl) (yld fun _ => by kernel_rfl) ?_
            refine wpS.take 1 false (some 57) (.int .u64 y6) (by kernel_rfl) (yld fun _ => by kernel_rfl) ?_
            refine wpS.take 2 false (some 58) (.int .u8 (iconv .u8 y6)) (by kernel_rfl) (yld fun _ => by kernel_rfl) ?_
            refine wpS.only 3 (op_lit (C := (CI .u8)) (t := 24) (e := 5) (len := 1) (parts := #[(0, .int .u8 (iconv .u8 y6))]) (l := [(iconv .u8 y6)]) (d := (some 59)) (by kernel_rfl) hs (by kernel_rfl) (by kernel_rfl) (by kernel_rfl) (z := .int .u8 0) (by kernel_rfl) rfl (by decide) (by decide) (by kernel_rfl) ?_)
            intro s23_A s23_n s23_c w gw hs
            refine ⟨fun _ => trivial, ?_⟩
            obtain ⟨h0, h⟩ := of_chk h
            refine wpS.only 4 (op_appendT (C := (CI .u8)) (t := 24) (ty := 24) (e := 5) (bytes := 1) (B := 140737488355328) (d := (some 60)) (by kernel_rfl) hs 1 rfl (hs.rowL 0 rfl) (by kernel_rfl) (by kernel_rfl) (by kernel_rfl) (by kernel_rfl) (by kernel_rfl) h0 (by decide) (by decide) ?_)
            intro s24_A s24_n s24_c w hs
            refine ⟨fun _ => trivial, ?_⟩
            refine wpS.take 5 false (some 5) (.slice s24_A s24_n s24_c) (by kernel_rfl) (yld fun _ => by kernel_rfl) ?_
            refine wpS.fin rfl (kr273 _ _ ?_)
            have q0 := of_some h
            subst q0
            exact nj _ _ ⟨s24_A, s24_n, s24_c, ((hs.conv (L' := [.ownL (CI .u8) s23_A s23_n s23_c ([(iconv .u8 y6)] : List Int) 5, .ownL (CI .u8) s24_A s24_n s24_c (y8 ++ ([(iconv .u8 y6)] : List Int)) 5]) rfl).drop (.cons _ (.cons_cons _ .slnil))), exg (by kernel_rfl)⟩
          · refine wpS.take 1 false (some 55) (.bool false) (by kernel_rfl) (yld_b (df hc) (fun _ => by kernel_rfl)) ?_
            refine wpS.fin rfl (kr272 _ _ ?_)
            refine then_n (ks271 _ _ ?_)
            refine wp_cond_f (by kernel_rfl) ?_
            refine xskip ?_
            have q0 := of_some h
            subst q0
            exact nj _ _ ⟨y8_A, y8_n, y8_c, (hs.conv rfl), exg (by kernel_rfl)⟩
        · clear hj hs
          rintro a w ⟨y22_A, y22_n, y22_c, hs, g, rfl⟩
          refine then_n (ks276 _ _ ?_)
          refine xseq_k fun KS274 ks274 => ?_
          refine wp_regS (l := [0, 1]) (by kernel_rfl) (by kernel_rfl) fun KR275 kr275 => ?_
          refine wpS.take 0 false (some 61) (.slice y22_A y22_n y22_c) (by kernel_rfl) (yld fun _ => by kernel_rfl) ?_
          refine wpS.take 1 false (some 4) (.slice y22_A y22_n y22_c) (by kernel_rfl) (yld fun _ => by kernel_rfl) ?_
          refine wpS.fin rfl (kr275 _ _ ?_)
          refine then_n (ks274 _ _ ?_)
          refine xret ?_
          have q0 := of_some h
          subst q0
          exact qq _ _ (post_ret (by kernel_rfl) (run_results [.tmp 4] [.slice y22_A y22_n y22_c] (by kernel_rfl) (.cons (res_tmp (by kernel_rfl)) .nil)) ⟨⟨y22_A, y22_n, y22_c⟩, congrArg Ending.returned (by kernel_rfl), ((hs.conv (L' := [.ownL (CI .u8) y22_A y22_n y22_c y22 5]) rfl).pickR pick_nil)⟩)

theorem dpack_Pack.ok {K : Nat} {a0 : Arr 256} {a1 : Int} {a2 : Int} {r0 : List Int} (h : dpack_Pack.f K a0 a1 a2 = some r0) (w0 : World) : Calls Try.prog 25 #[.agg (enc .i32 a0).toArray, .int .i32 a1, .int .i32 a2] w0 fun e w' => ∃ h : (Option Addr × Nat × Nat), e = .returned (.slice h.1 h.2.1 h.2.2) ∧ St w0 [] [.ownL (CI .u8) h.1 h.2.1 h.2.2 r0 5] [] w' ∧ (r0 = [] → h.1 = none) := by
  refine calls_k Try.func25 rfl fun Q qq => ?_
  have hs := St.start w0
  refine wp_conv (a' := ⟨#[.agg (enc .i32 a0).toArray, .int .i32 a1, .int .i32 a2, undef, undef, undef, undef, undef, undef, undef, undef, undef, undef, undef, undef, undef, undef, undef, undef, undef, undef, undef, undef, undef, undef, undef, undef, undef, undef, undef, undef, undef, undef, undef, undef, undef, undef, undef, undef, undef, undef, undef, undef, undef, undef, undef, undef], []⟩) (by kernel_rfl) ?_
  refine xseq_k fun KS1 ks1 => ?_
  refine wp_regS (l := [0, 1]) (by kernel_rfl) (by kernel_rfl) fun KR2 kr2 => ?_
  refine wpS.only 0 (op_box (t := 40) (v := .agg (enc .i32 a0).toArray) (d := (some 3)) (by kernel_rfl) hs (enc .i32 a0) (by kernel_rfl) (by kernel_rfl) ?_)
  intro b1 w gw hs
  refine ⟨fun _ => trivial, ?_⟩
  refine wpS.take 1 false (some 6) (.slice none 0 0) (by kernel_rfl) (yld fun _ => by kernel_rfl) ?_
  refine wpS.fin rfl (kr2 _ _ ?_)
  refine then_n (ks1 _ _ ?_)
  refine xseq_k fun KS3 ks3 => ?_
  refine wp_regS (l := [0, 1, 2, 3, 4]) (by kernel_rfl) (by kernel_rfl) fun KR4 kr4 => ?_
  refine wpS.take 0 false (some 13) (.int .i32 a1) (by kernel_rfl) (yld fun _ => by kernel_rfl) ?_
  refine wpS.take 1 false (some 14) (.int .i32 a2) (by kernel_rfl) (yld fun _ => by kernel_rfl) ?_
  refine wpS.take 2 false (some 15) (.agg #[.int .i32 a1, .int .i32 a2]) (by kernel_rfl) (yld fun _ => by kernel_rfl) ?_
  refine wpS.only 3 (op_alloc (t := 73) (d := (some 7)) (by kernel_rfl) hs ([.int .i32 0, .int .i32 0]) (.agg #[.int .i32 0, .int .i32 0]) (by kernel_rfl) (by kernel_rfl) (by kernel_rfl) ?_)
  intro b2 w gw hs
  refine ⟨fun _ => trivial, ?_⟩
  refine wpS.only 4 (op_storeW (t := 73) (v := .agg #[.int .i32 a1, .int .i32 a2]) (d := none) (by kernel_rfl) hs 0 rfl (vs := [.int .i32 a1, .int .i32 a2]) (n := 2) (by kernel_rfl) (by kernel_rfl) (by kernel_rfl) (by simp [enc_len]) (by simp [enc_len]) (by simp [Value.oneCell']) ?_)
  intro w kp hs
  refine ⟨fun _ => trivial, ?_⟩
  refine wpS.fin rfl (kr4 _ _ ?_)
  refine then_n (ks3 _ _ ?_)
  refine xseq_k fun KS11 ks11 => ?_
  refine xseq_k fun KS12 ks12 => ?_
  refine wp_regS (l := [0, 1, 2, 3, 4, 5, 6, 7]) (by kernel_rfl) (by kernel_rfl) fun KR13 kr13 => ?_
  refine wpS.take 0 true (some 16) (.agg #[.int .i32 a1, .int .i32 a2]) (by kernel_rfl) (yld_loadW (e := 73) (n := 2) hs 0 rfl (by kernel_rfl) (by kernel_rfl) (by kernel_rfl) (by simp [enc_len]) .grow) ?_
  obtain ⟨r3, hg, h⟩ := of_bind h
  cases r3 with
  | true =>
    have h := of_if_t h
    refine wpS.only 1 (op_call (d := (some 17)) (by kernel_rfl) hs (fun _ => by kernel_rfl) (dpack_span_fit.ok hg _) ?_)
    intro w gw hs
    refine ⟨fun _ => trivial, ?_⟩
    refine wpS.take 2 false (some 18) (.bool false) (by kernel_rfl) (yld fun _ => by kernel_rfl) ?_
    refine wpS.take 3 false (some 19) (.bool false) (by kernel_rfl) (yld fun _ => by kernel_rfl) ?_
    refine wpS.take 4 true (some 20) (.agg (enc .i32 a0).toArray) (by kernel_rfl) (yld_loadW (e := 40) (n := 256) hs 1 rfl (by kernel_rfl) (by kernel_rfl) (by kernel_rfl) (by exact enc_len _ _) .grow) ?_
    obtain ⟨r4, hg, h⟩ := of_bind h
    cases r4 with
    | true =>
      have h := of_if_t h
      refine wpS.only 5 (op_call (d := (some 21)) (by kernel_rfl) hs (fun _ => by kernel_rfl) (zq_Fit.ok hg _) ?_)
      intro w gw hs
      refine ⟨fun _ => trivial, ?_⟩
      refine wpS.take 6 false (some 22) (.bool false) (by kernel_rfl) (yld fun _ => by kernel_rfl) ?_
      refine wpS.take 7 false (some 23) (.bool false) (by kernel_rfl) (yld fun _ => by kernel_rfl) ?_
      refine wpS.fin rfl (kr13 _ _ ?_)
      refine then_n (ks12 _ _ ?_)
      refine wp_cond_f (by kernel_rfl) ?_
      refine xskip ?_
      refine then_n (ks11 _ _ ?_)
      refine xseq_k fun KS14 ks14 => ?_
      refine wp_regS (l := [0, 1]) (by kernel_rfl) (by kernel_rfl) fun KR15 kr15 => ?_
      refine wpS.only 0 (op_makeT (C := (CI .u32)) (t := 82) (e := 84) (bytes := 4) (B := 35184372088832) (kl := .i64) (kc := .i64) (x := 256) (d := (some 24)) (by kernel_rfl) hs (by kernel_rfl) (by kernel_rfl) (by kernel_rfl) (by kernel_rfl) (by kernel_rfl) (by decide) (by decide) (by decide) (by decide) ?_)
      intro s5_A s5_n s5_c w gw hs
      refine ⟨fun _ => trivial, ?_⟩
      refine wpS.take 1 false (some 8) (.slice s5_A s5_n s5_c) (by kernel_rfl) (yld fun _ => by kernel_rfl) ?_
      refine wpS.fin rfl (kr15 _ _ ?_)
      refine then_n (ks14 _ _ ?_)
      refine xseq_k fun KS110 ks110 => ?_
      refine xseq_k fun KS111 ks111 => ?_
      refine wp_regS (l := [0, 1]) (by kernel_rfl) (by kernel_rfl) fun KR112 kr112 => ?_
      refine wpS.take 0 true (some 25) (.agg (enc .i32 a0).toArray) (by kernel_rfl) (yld_loadW (e := 40) (n := 256) hs 2 rfl (by kernel_rfl) (by kernel_rfl) (by kernel_rfl) (by exact enc_len _ _) .grow) ?_
      refine wpS.take 1 false (some 26) (.int .i64 0) (by kernel_rfl) (yld fun _ => by kernel_rfl) ?_
      refine wpS.fin rfl (kr112 _ _ ?_)
      refine then_n (ks111 _ _ ?_)
      obtain ⟨t0, hy, hk0⟩ := of_bind h
      refine wp_exq (N := fun a w => ∃ y8, t0 = .inl y8 ∧ St w0 [] [.ownL (CI .u32) s5_A s5_n s5_c y8 84, .blk b2 ([.int .i32 a1, .int .i32 a2]) 73, .blk b1 (enc .i32 a0) 40] [] w ∧ ∃ g : Nat → Value, a = ⟨#[.agg (enc .i32 a0).toArray, .int .i32 a1, .int .i32 a2, .pointer (some ⟨b1, 0, none⟩), undef, undef, (g 6), .pointer (some ⟨b2, 0, none⟩), .slice s5_A s5_n s5_c, (g 9), (g 10), (g 11), (g 12), .int .i32 a1, .int .i32 a2, .agg #[.int .i32 a1, .int .i32 a2], .agg #[.int .i32 a1, .int .i32 a2], .bool true, .bool false, .bool false, .agg (enc .i32 a0).toArray, .bool true, .bool false, .bool false, .slice s5_A s5_n s5_c, .agg (enc .i32 a0).toArray, (g 26), (g 27), (g 28), (g 29), (g 30), (g 31), (g 32), (g 33), (g 34), (g 35), (g 36), (g 37), (g 38), (g 39), (g 40), (g 41), (g 42), undef, undef, undef, undef], []⟩) (fun N0 nn0 => ?_) ?_
      · refine xblock ?_
        refine wp_loop_k (fun n a w => ∃ z6 z7, dpack_Pack.l0 K n a0 a1 a2 z6 z7 = some t0 ∧ St w0 [] [.ownL (CI .u32) s5_A s5_n s5_c z7 84, .blk b2 ([.int .i32 a1, .int .i32 a2]) 73, .blk b1 (enc .i32 a0) 40] [] w ∧ ∃ g : Nat → Value, a = ⟨#[.agg (enc .i32 a0).toArray, .int .i32 a1, .int .i32 a2, .pointer (some ⟨b1, 0, none⟩), undef, undef, (g 6), .pointer (some ⟨b2, 0, none⟩), .slice s5_A s5_n s5_c, (g 9), (g 10), (g 11), (g 12), .int .i32 a1, .int .i32 a2, .agg #[.int .i32 a1, .int .i32 a2], .agg #[.int .i32 a1, .int .i32 a2], .bool true, .bool false, .bool false, .agg (enc .i32 a0).toArray, .bool true, .bool false, .bool false, .slice s5_A s5_n s5_c, .agg (enc .i32 a0).toArray, .int .i64 z6, (g 27), (g 28), (g 29), (g 30), (g 31), (g 32), (g 33), (g 34), (g 35), (g 36), (g 37), (g 38), (g 39), (g 40), (g 41), (g 42), undef, undef, undef, undef], []⟩) K ⟨0, (List.replicate (256 : Int).toNat (Cod.zero (CI .u32))), hy, hs.conv rfl, exg (by kernel_rfl)⟩ ?_
        clear hs h hy
        rintro n a w ⟨z6, z7, h, hs, g, rfl⟩ KL0 kl0
        cases n with
        | zero => exact nomatch (show none = some _ from h)
        | succ n =>
          refine xseq_k fun KS159 ks159 => ?_
          refine wp_regS (l := [0]) (by kernel_rfl) (by kernel_rfl) fun KR160 kr160 => ?_
          rcases of_if h with ⟨hc, h⟩ | ⟨hc, h⟩
          · refine wpS.take 0 false (some 27) (.bool true) (by kernel_rfl) (yld_b (dt hc) (fun _ => by kernel_rfl)) ?_
            refine wpS.fin rfl (kr160 _ _ ?_)
            refine then_n (ks159 _ _ ?_)
            refine xseq_k fun KS161 ks161 => ?_
            refine wp_cond_t (by kernel_rfl) ?_
            refine xskip ?_
            refine then_n (ks161 _ _ ?_)
            refine xseq_k fun KS182 ks182 => ?_
            refine xblock ?_
            refine xseq_k fun KS183 ks183 => ?_
            refine wp_regS (l := [0, 1, 2, 3]) (by kernel_rfl) (by kernel_rfl) fun KR184 kr184 => ?_
            refine wpS.take 0 false (some 28) (.int .i64 z6) (by kernel_rfl) (yld fun _ => by kernel_rfl) ?_
            obtain ⟨h0, h⟩ := of_chk h
            obtain ⟨h1, h⟩ := of_chk h
            refine wpS.take 1 false (some 29) (.int .i32 (rd a0 z6)) (by kernel_rfl) (yld_at (t := 40) (e := 21) (k' := .i64) (by kernel_rfl) (by kernel_rfl) (by kernel_rfl) (by kernel_rfl) h0 h1) ?_
            refine wpS.take 2 false (some 9) (.int .i64 z6) (by kernel_rfl) (yld fun _ => by kernel_rfl) ?_
            obtain ⟨x9, hx, h⟩ := of_bind h
            refine wpS.take 3 false (some 10) (.int .i32 x9) (by kernel_rfl) (yld_int hx (fun _ => by kernel_rfl)) ?_
            refine wpS.fin rfl (kr184 _ _ ?_)
            refine then_n (ks183 _ _ ?_)
            refine xseq_k fun KS185 ks185 => ?_
            refine wp_regS (l := [0, 1, 2, 3, 4, 5, 6, 7]) (by kernel_rfl) (by kernel_rfl) fun KR186 kr186 => ?_
            refine wpS.take 0 true (some 31) (.agg #[.int .i32 a1, .int .i32 a2]) (by kernel_rfl) (yld_loadW (e := 73) (n := 2) hs 1 rfl (by kernel_rfl) (by kernel_rfl) (by kernel_rfl) (by simp [enc_len]) .grow) ?_
            refine wpS.take 1 false (some 32) (.int .i32 x9) (by kernel_rfl) (yld fun _ => by kernel_rfl) ?_
            obtain ⟨⟨r10, r11⟩, hg, h⟩ := of_bind h
            refine wpS.only 2 (op_call (d := (some 33)) (by kernel_rfl) hs (fun _ => by kernel_rfl) (dpack_span_turned.ok hg _) ?_)
            intro w gw hs
            refine ⟨fun _ => trivial, ?_⟩
            refine wpS.take 3 false (some 30) (.tuple #[.int .u32 r10, .bool r11]) (by kernel_rfl) (yld fun _ => by kernel_rfl) ?_
            refine wpS.take 4 false (some 34) (.int .u32 r10) (by kernel_rfl) (yld fun _ => by kernel_rfl) ?_
            cases r11 with
            | true =>
              have h := of_if_t h
              refine wpS.take 5 false (some 35) (.bool true) (by kernel_rfl) (yld fun _ => by kernel_rfl) ?_
              refine wpS.take 6 false (some 11) (.int .u32 r10) (by kernel_rfl) (yld fun _ => by kernel_rfl) ?_
              refine wpS.take 7 false (some 12) (.bool true) (by kernel_rfl) (yld fun _ => by kernel_rfl) ?_
              refine wpS.fin rfl (kr186 _ _ ?_)
              refine then_n (ks185 _ _ ?_)
              refine xseq_k fun KS189 ks189 => ?_
              refine xseq_k fun KS190 ks190 => ?_
              refine wp_regS (l := [0, 1]) (by kernel_rfl) (by kernel_rfl) fun KR191 kr191 => ?_
              refine wpS.take 0 false (some 36) (.bool true) (by kernel_rfl) (yld fun _ => by kernel_rfl) ?_
              refine wpS.take 1 false (some 37) (.bool false) (by kernel_rfl) (yld fun _ => by kernel_rfl) ?_
              refine wpS.fin rfl (kr191 _ _ ?_)
              refine then_n (ks190 _ _ ?_)
              refine wp_cond_f (by kernel_rfl) ?_
              refine xskip ?_
              refine then_n (ks189 _ _ ?_)
              refine wp_regS (l := [0, 1, 2, 3, 4]) (by kernel_rfl) (by kernel_rfl) fun KR192 kr192 => ?_
              refine wpS.take 0 false (some 38) (.slice s5_A s5_n s5_c) (by kernel_rfl) (yld fun _ => by kernel_rfl) ?_
              refine wpS.take 1 false (some 39) (.int .i64 z6) (by kernel_rfl) (yld fun _ => by kernel_rfl) ?_
              refine wpS.take 2 false (some 40) (.int .u32 r10) (by kernel_rfl) (yld fun _ => by kernel_rfl) ?_
              obtain ⟨h0, h⟩ := of_chk h
              obtain ⟨h1, h⟩ := of_chk h
              have i0_193 := h0
              have i1_193 := h1
              refine wpS.take 3 false (some 41) (.pointer (adr s5_A ((z6 : Int).toNat * Cod.size (CI .u32)))) (by kernel_rfl) (yld_idxL (C := (CI .u32)) (t := 82) (e := 84) (k := .i64) (x := z6) (hs.rowL 0 rfl) (by kernel_rfl) (by kernel_rfl) (by kernel_rfl) h0 h1) ?_
              refine wpS.only 4 (op_storeL (C := (CI .u32)) (t := 84) (x := z6) (v := r10) (d := none) (by kernel_rfl) hs 0 rfl (by kernel_rfl) (by kernel_rfl) i0_193 i1_193 ?_)
              intro w hs
              refine ⟨fun _ => trivial, ?_⟩
              refine wpS.fin rfl (kr192 _ _ ?_)
              refine inBlock_n ?_
              refine then_n (ks182 _ _ ?_)
              refine wp_regS (l := [0, 1]) (by kernel_rfl) (by kernel_rfl) fun KR194 kr194 => ?_
              refine wpS.take 0 false (some 42) (.int .i64 (iadd .i64 z6 1)) (by kernel_rfl) (yld fun _ => by kernel_rfl) ?_
              refine wpS.take 1 false (some 26) (.int .i64 (iadd .i64 z6 1)) (by kernel_rfl) (yld fun _ => by kernel_rfl) ?_
              refine wpS.fin rfl (kr194 _ _ ?_)
              exact then_n (kl0 _ _ ⟨n, Nat.lt_succ_self n, (iadd .i64 z6 1), (wrL z7 z6 r10), h, (hs.conv rfl), exg (by kernel_rfl)⟩)
            | false =>
              have h := of_if_f h
              refine wpS.take 5 false (some 35) (.bool false) (by kernel_rfl) (yld fun _ => by kernel_rfl) ?_
              refine wpS.take 6 false (some 11) (.int .u32 r10) (by kernel_rfl) (yld fun _ => by kernel_rfl) ?_
              refine wpS.take 7 false (some 12) (.bool false) (by kernel_rfl) (yld fun _ => by kernel_rfl) ?_
              refine wpS.fin rfl (kr186 _ _ ?_)
              refine then_n (ks185 _ _ ?_)
              refine xseq_k fun KS199 ks199 => ?_
              refine xseq_k fun KS200 ks200 => ?_
              refine wp_regS (l := [0, 1]) (by kernel_rfl) (by kernel_rfl) fun KR201 kr201 => ?_
              refine wpS.take 0 false (some 36) (.bool false) (by kernel_rfl) (yld fun _ => by kernel_rfl) ?_
              refine wpS.take 1 false (some 37) (.bool true) (by kernel_rfl) (yld fun _ => by kernel_rfl) ?_
              refine wpS.fin rfl (kr201 _ _ ?_)
              refine then_n (ks200 _ _ ?_)
              refine wp_cond_t (by kernel_rfl) ?_
              refine xseq_k fun KS202 ks202 => ?_
              refine wp_regS (l := [0]) (by kernel_rfl) (by kernel_rfl) fun KR203 kr203 => ?_
              refine wpS.take 0 false (some 6) (.slice none 0 0) (by kernel_rfl) (yld fun _ => by kernel_rfl) ?_
              refine wpS.fin rfl (kr203 _ _ ?_)
              refine then_n (ks202 _ _ ?_)
              refine xret ?_
              refine then_r ?_
              refine inBlock_r ?_
              refine then_r ?_
              refine then_r ?_
              refine inBlock_r ?_
              refine exq_r ?_
              refine then_r ?_
              have q0 := of_some h
              subst q0
              have q0 := of_some hk0
              subst q0
              have hs := hs.addNilL (CI .u8) 5
              exact qq _ _ (post_ret (by kernel_rfl) (run_results [.tmp 6] [.slice none 0 0] (by kernel_rfl) (.cons (res_tmp (by kernel_rfl)) .nil)) ⟨⟨none, 0, 0⟩, congrArg Ending.returned (by kernel_rfl), ((hs.conv (L' := [.ownL (CI .u8) none 0 0 ([] : List Int) 5, .ownL (CI .u32) s5_A s5_n s5_c z7 84, .blk b2 ([.int .i32 a1, .int .i32 a2]) 73, .blk b1 (enc .i32 a0) 40]) rfl).drop (.cons_cons _ (.cons _ (.cons _ (.cons _ .slnil))))), (fun _ => rfl)⟩)
          · refine wpS.take 0 false (some 27) (.bool false) (by kernel_rfl) (yld_b (df hc) (fun _ => by kernel_rfl)) ?_
            refine wpS.fin rfl (kr160 _ _ ?_)
            refine then_n (ks159 _ _ ?_)
            refine xseq_k fun KS204 ks204 => ?_
            refine wp_cond_f (by kernel_rfl) ?_
            refine xexit ?_
            refine then_x ?_
            refine then_x ?_
            refine inBlock_hit ?_
            have q0 := of_some h
            subst q0
            exact exq_n (nn0 _ _ ⟨z7, rfl, (hs.conv rfl), exg (by kernel_rfl)⟩)
      · clear hs h hy
        rintro a w ⟨y8, rfl, hs, g, rfl⟩
        have h := hk0
        refine then_n (ks110 _ _ ?_)
        refine xseq_k fun KS205 ks205 => ?_
        refine wp_regS (l := [0, 1, 2, 3, 4]) (by kernel_rfl) (by kernel_rfl) fun KR206 kr206 => ?_
        refine wpS.take 0 false (some 43) (.slice s5_A s5_n s5_c) (by kernel_rfl) (yld fun _ => by kernel_rfl) ?_
        refine wpS.take 1 true (some 44) (.agg #[.int .i32 a1, .int .i32 a2]) (by kernel_rfl) (yld_loadW (e := 73) (n := 2) hs 1 rfl (by kernel_rfl) (by kernel_rfl) (by kernel_rfl) (by simp [enc_len]) .grow) ?_
        obtain ⟨r12, hg, h⟩ := of_bind h
        refine wpS.only 2 (op_call (d := (some 45)) (by kernel_rfl) hs (fun _ => by kernel_rfl) (dpack_span_width.ok hg _) ?_)
        intro w gw hs
        refine ⟨fun _ => trivial, ?_⟩
        obtain ⟨r13, hg, h⟩ := of_bind h
        refine wpS.only 3 (op_callH (d := (some 46)) (by kernel_rfl) hs (fun _ => by kernel_rfl) (bits_Pack.ok hg _ (hs.rowL 0 rfl)) ?_)
        rintro ⟨r13_A, r13_n, r13_c⟩ w gw hs
        have hs := hs.conv (L' := [.ownL (CI .u8) r13_A r13_n r13_c r13 5, .ownL (CI .u32) s5_A s5_n s5_c y8 84, .blk b2 ([.int .i32 a1, .int .i32 a2]) 73, .blk b1 (enc .i32 a0) 40]) rfl
        refine ⟨fun _ => trivial, ?_⟩
        refine wpS.take 4 false (some 6) (.slice r13_A r13_n r13_c) (by kernel_rfl) (yld fun _ => by kernel_rfl) ?_
        refine wpS.fin rfl (kr206 _ _ ?_)
        refine then_n (ks205 _ _ ?_)
        refine xret ?_
        obtain ⟨hne, h⟩ := of_chk h
        have q0 := of_some h
        subst q0
        exact qq _ _ (post_ret (by kernel_rfl) (run_results [.tmp 6] [.slice r13_A r13_n r13_c] (by kernel_rfl) (.cons (res_tmp (by kernel_rfl)) .nil)) ⟨⟨r13_A, r13_n, r13_c⟩, congrArg Ending.returned (by kernel_rfl), ((hs.conv (L' := [.ownL (CI .u8) r13_A r13_n r13_c r13 5, .ownL (CI .u32) s5_A s5_n s5_c y8 84, .blk b2 ([.int .i32 a1, .int .i32 a2]) 73, .blk b1 (enc .i32 a0) 40]) rfl).drop (.cons_cons _ (.cons _ (.cons _ (.cons _ .slnil))))), (fun hl => absurd (by rw [hl]; rfl) hne)⟩)
    | false =>
      have h := of_if_f h
      refine wpS.only 5 (op_call (d := (some 21)) (by kernel_rfl) hs (fun _ => by kernel_rfl) (zq_Fit.ok hg _) ?_)
      intro w gw hs
      refine ⟨fun _ => trivial, ?_⟩
      refine wpS.take 6 false (some 22) (.bool true) (by kernel_rfl) (yld fun _ => by kernel_rfl) ?_
      refine wpS.take 7 false (some 23) (.bool true) (by kernel_rfl) (yld fun _ => by kernel_rfl) ?_
      refine wpS.fin rfl (kr13 _ _ ?_)
      refine then_n (ks12 _ _ ?_)
      refine wp_cond_t (by kernel_rfl) ?_
      refine xseq_k fun KS207 ks207 => ?_
      refine wp_regS (l := [0]) (by kernel_rfl) (by kernel_rfl) fun KR208 kr208 => ?_
      refine wpS.take 0 false (some 6) (.slice none 0 0) (by kernel_rfl) (yld fun _ => by kernel_rfl) ?_
      refine wpS.fin rfl (kr208 _ _ ?_)
      refine then_n (ks207 _ _ ?_)
      refine xret ?_
      refine then_r ?_
      have q0 := of_some h
      subst q0
      have hs := hs.addNilL (CI .u8) 5
      exact qq _ _ (post_ret (by kernel_rfl) (run_results [.tmp 6] [.slice none 0 0] (by kernel_rfl) (.cons (res_tmp (by kernel_rfl)) .nil)) ⟨⟨none, 0, 0⟩, congrArg Ending.returned (by kernel_rfl), ((hs.conv (L' := [.ownL (CI .u8) none 0 0 ([] : List Int) 5, .blk b2 ([.int .i32 a1, .int .i32 a2]) 73, .blk b1 (enc .i32 a0) 40]) rfl).drop (.cons_cons _ (.cons _ (.cons _ .slnil)))), (fun _ => rfl)⟩)
  | false =>
    have h := of_if_f h
    refine wpS.only 1 (op_call (d := (some 17)) (by kernel_rfl) hs (fun _ => by kernel_rfl) (dpack_span_fit.ok hg _) ?_)
    intro w gw hs
    refine ⟨fun _ => trivial, ?_⟩
    refine wpS.take 2 false (some 18) (.bool true) (by kernel_rfl) (yld fun _ => by kernel_rfl) ?_
    refine wpS.take 3 false (some 19) (.bool true) (by kernel_rfl) (yld fun _ => by kernel_rfl) ?_
    refine wpS.take 4 false (some 20) (undef) (by kernel_rfl) (yld fun _ => by kernel_rfl) ?_
    refine wpS.take 5 false (some 21) (undef) (by kernel_rfl) (yld fun _ => by kernel_rfl) ?_
    refine wpS.take 6 false (some 22) (undef) (by kernel_rfl) (yld fun _ => by kernel_rfl) ?_
    refine wpS.take 7 false (some 23) (.bool true) (by kernel_rfl) (yld fun _ => by kernel_rfl) ?_
    refine wpS.fin rfl (kr13 _ _ ?_)
    refine then_n (ks12 _ _ ?_)
    refine wp_cond_t (by kernel_rfl) ?_
    refine xseq_k fun KS209 ks209 => ?_
    refine wp_regS (l := [0]) (by kernel_rfl) (by kernel_rfl) fun KR210 kr210 => ?_
    refine wpS.take 0 false (some 6) (.slice none 0 0) (by kernel_rfl) (yld fun _ => by kernel_rfl) ?_
    refine wpS.fin rfl (kr210 _ _ ?_)
    refine then_n (ks209 _ _ ?_)
    refine xret ?_
    refine then_r ?_
    have q0 := of_some h
    subst q0
    have hs := hs.addNilL (CI .u8) 5
    exact qq _ _ (post_ret (by kernel_rfl) (run_results [.tmp 6] [.slice none 0 0] (by kernel_rfl) (.cons (res_tmp (by kernel_rfl)) .nil)) ⟨⟨none, 0, 0⟩, congrArg Ending.returned (by kernel_rfl), ((hs.conv (L' := [.ownL (CI .u8) none 0 0 ([] : List Int) 5, .blk b2 ([.int .i32 a1, .int .i32 a2]) 73, .blk b1 (enc .i32 a0) 40]) rfl).drop (.cons_cons _ (.cons _ (.cons _ .slnil)))), (fun _ => rfl)⟩)

theorem ref21_Fit.ok {K : Nat} {a0 : Arr 256} {r0 : Bool} (h : ref21_Fit.f K a0 = some r0) (w0 : World) : Ret Try.prog 59 #[.agg (enc .i32 a0).toArray] w0 (.bool r0) := by
  refine calls_k Try.func59 rfl fun Q qq => ?_
  have hs := St.start w0
  refine wp_conv (a' := ⟨#[.agg (enc .i32 a0).toArray, undef, undef, undef, undef, undef, undef, undef, undef, undef, undef, undef, undef, undef, undef, undef, undef, undef], []⟩) (by kernel_rfl) ?_
  refine xseq_k fun KS1 ks1 => ?_
  refine wp_regS (l := [0, 1]) (by kernel_rfl) (by kernel_rfl) fun KR2 kr2 => ?_
  refine wpS.only 0 (op_box (t := 40) (v := .agg (enc .i32 a0).toArray) (d := (some 1)) (by kernel_rfl) hs (enc .i32 a0) (by kernel_rfl) (by kernel_rfl) ?_)
  intro b1 w gw hs
  refine ⟨fun _ => trivial, ?_⟩
  refine wpS.take 1 false (some 2) (.bool false) (by kernel_rfl) (yld fun _ => by kernel_rfl) ?_
  refine wpS.fin rfl (kr2 _ _ ?_)
  refine then_n (ks1 _ _ ?_)
  refine xseq_k fun KS51 ks51 => ?_
  refine xseq_k fun KS52 ks52 => ?_
  refine wp_regS (l := [0]) (by kernel_rfl) (by kernel_rfl) fun KR53 kr53 => ?_
  refine wpS.take 0 false (some 3) (.int .i64 0) (by kernel_rfl) (yld fun _ => by kernel_rfl) ?_
  refine wpS.fin rfl (kr53 _ _ ?_)
  refine then_n (ks52 _ _ ?_)
  obtain ⟨t0, hy, hk0⟩ := of_bind h
  refine wp_exq (N := fun a w => t0 = .inl () ∧ St w0 [] [.blk b1 (enc .i32 a0) 40] [] w ∧ ∃ g : Nat → Value, a = ⟨#[.agg (enc .i32 a0).toArray, .pointer (some ⟨b1, 0, none⟩), (g 2), (g 3), (g 4), (g 5), (g 6), (g 7), (g 8), (g 9), (g 10), (g 11), (g 12), (g 13), (g 14), (g 15), (g 16), (g 17)], []⟩) (fun N0 nn0 => ?_) ?_
  · refine xblock ?_
    refine wp_loop_k (fun n a w => ∃ z2, ref21_Fit.l0 K n a0 z2 = some t0 ∧ St w0 [] [.blk b1 (enc .i32 a0) 40] [] w ∧ ∃ g : Nat → Value, a = ⟨#[.agg (enc .i32 a0).toArray, .pointer (some ⟨b1, 0, none⟩), (g 2), .int .i64 z2, (g 4), (g 5), (g 6), (g 7), (g 8), (g 9), (g 10), (g 11), (g 12), (g 13), (g 14), (g 15), (g 16), (g 17)], []⟩) K ⟨0, hy, hs.conv rfl, exg (by kernel_rfl)⟩ ?_
    clear hs h hy
    rintro n a w ⟨z2, h, hs, g, rfl⟩ KL0 kl0
    cases n with
    | zero => exact nomatch (show none = some _ from h)
    | succ n =>
      refine xseq_k fun KS79 ks79 => ?_
      refine xseq_k fun KS80 ks80 => ?_
      refine wp_regS (l := [0, 1]) (by kernel_rfl) (by kernel_rfl) fun KR81 kr81 => ?_
      refine wpS.take 0 false (some 4) (.int .i64 z2) (by kernel_rfl) (yld fun _ => by kernel_rfl) ?_
      rcases of_if h with ⟨hc, h⟩ | ⟨hc, h⟩
      · refine wpS.take 1 false (some 5) (.bool true) (by kernel_rfl) (yld_b (dt hc) (fun _ => by kernel_rfl)) ?_
        refine wpS.fin rfl (kr81 _ _ ?_)
        refine then_n (ks80 _ _ ?_)
        refine wp_cond_t (by kernel_rfl) ?_
        refine xskip ?_
        refine then_n (ks79 _ _ ?_)
        refine xseq_k fun KS90 ks90 => ?_
        refine xblock ?_
        refine xseq_k fun KS91 ks91 => ?_
        refine wp_regS (l := [0, 1, 2, 3, 4, 5, 6, 7, 8, 9]) (by kernel_rfl) (by kernel_rfl) fun KR92 kr92 => ?_
        refine wpS.take 0 false (some 8) (.int .i64 z2) (by kernel_rfl) (yld fun _ => by kernel_rfl) ?_
        obtain ⟨i0_93, h⟩ := of_chk h
        obtain ⟨i1_93, h⟩ := of_chk h
        refine wpS.take 1 false (some 9) (.pointer (some ⟨b1, 0 + (z2 : Int).toNat * 1, none⟩)) (by kernel_rfl) (yld_idx (t := 40) (e := 21) (n := 256) (sz := 1) (k := .i64) (x := z2) (by kernel_rfl) (by kernel_rfl) (by kernel_rfl) i0_93 i1_93) ?_
        refine wpS.take 2 true (some 10) (.int .i32 (rd a0 z2)) (by kernel_rfl) (yld_loadA (e := 21) (x := z2) hs 0 rfl (by kernel_rfl) (by kernel_rfl) i0_93 i1_93 .grow) ?_
        rcases of_if h with ⟨hc, h⟩ | ⟨hc, h⟩
        · refine wpS.take 3 false (some 11) (.bool true) (by kernel_rfl) (yld_b (dt hc) (fun _ => by kernel_rfl)) ?_
          refine wpS.take 4 false (some 12) (.bool true) (by kernel_rfl) (yld fun _ => by kernel_rfl) ?_
          refine wpS.take 5 false (some 13) (undef) (by kernel_rfl) (yld fun _ => by kernel_rfl) ?_
          refine wpS.take 6 false (some 14) (undef) (by kernel_rfl) (yld fun _ => by kernel_rfl) ?_
          refine wpS.take 7 false (some 15) (undef) (by kernel_rfl) (yld fun _ => by kernel_rfl) ?_
          refine wpS.take 8 false (some 16) (undef) (by kernel_rfl) (yld fun _ => by kernel_rfl) ?_
          refine wpS.take 9 false (some 17) (.bool true) (by kernel_rfl) (yld fun _ => by kernel_rfl) ?_
          refine wpS.fin rfl (kr92 _ _ ?_)
          refine then_n (ks91 _ _ ?_)
          refine wp_cond_t (by kernel_rfl) ?_
          refine xseq_k fun KS94 ks94 => ?_
          refine wp_regS (l := [0]) (by kernel_rfl) (by kernel_rfl) fun KR95 kr95 => ?_
          refine wpS.take 0 false (some 2) (.bool false) (by kernel_rfl) (yld fun _ => by kernel_rfl) ?_
          refine wpS.fin rfl (kr95 _ _ ?_)
          refine then_n (ks94 _ _ ?_)
          refine xret ?_
          refine inBlock_r ?_
          refine then_r ?_
          refine then_r ?_
          refine inBlock_r ?_
          refine exq_r ?_
          refine then_r ?_
          have q0 := of_some h
          subst q0
          have q0 := of_some hk0
          subst q0
          exact qq _ _ (post_ret (by kernel_rfl) (run_results [.tmp 2] [.bool false] (by kernel_rfl) (.cons (res_tmp (by kernel_rfl)) .nil)) ⟨congrArg Ending.returned (by kernel_rfl), hs.none⟩)
        · refine wpS.take 3 false (some 11) (.bool false) (by kernel_rfl) (yld_b (df hc) (fun _ => by kernel_rfl)) ?_
          refine wpS.take 4 false (some 12) (.bool false) (by kernel_rfl) (yld fun _ => by kernel_rfl) ?_
          refine wpS.take 5 false (some 13) (.int .i64 z2) (by kernel_rfl) (yld fun _ => by kernel_rfl) ?_
          obtain ⟨i0_96, h⟩ := of_chk h
          obtain ⟨i1_96, h⟩ := of_chk h
          refine wpS.take 6 false (some 14) (.pointer (some ⟨b1, 0 + (z2 : Int).toNat * 1, none⟩)) (by kernel_rfl) (yld_idx (t := 40) (e := 21) (n := 256) (sz := 1) (k := .i64) (x := z2) (by kernel_rfl) (by kernel_rfl) (by kernel_rfl) i0_96 i1_96) ?_
          refine wpS.take 7 true (some 15) (.int .i32 (rd a0 z2)) (by kernel_rfl) (yld_loadA (e := 21) (x := z2) hs 0 rfl (by kernel_rfl) (by kernel_rfl) i0_96 i1_96 .grow) ?_
          rcases of_if h with ⟨hc, h⟩ | ⟨hc, h⟩
          · refine wpS.take 8 false (some 16) (.bool true) (by kernel_rfl) (yld_b (dt hc) (fun _ => by kernel_rfl)) ?_
            refine wpS.take 9 false (some 17) (.bool true) (by kernel_rfl) (yld fun _ => by kernel_rfl) ?_
            refine wpS.fin rfl (kr92 _ _ ?_)
            refine then_n (ks91 _ _ ?_)
            refine wp_cond_t (by kernel_rfl) ?_
            refine xseq_k fun KS97 ks97 => ?_
            refine wp_regS (l := [0]) (by kernel_rfl) (by kernel_rfl) fun KR98 kr98 => ?_
            refine wpS.take 0 false (some 2) (.bool false) (by kernel_rfl) (yld fun _ => by kernel_rfl) ?_
            refine wpS.fin rfl (kr98 _ _ ?_)
            refine then_n (ks97 _ _ ?_)
            refine xret ?_
            refine inBlock_r ?_
            refine then_r ?_
            refine then_r ?_
            refine inBlock_r ?_
            refine exq_r ?_
            refine then_r ?_
            have q0 := of_some h
            subst q0
            have q0 := of_some hk0
            subst q0
            exact qq _ _ (post_ret (by kernel_rfl) (run_results [.tmp 2] [.bool false] (by kernel_rfl) (.cons (res_tmp (by kernel_rfl)) .nil)) ⟨congrArg Ending.returned (by kernel_rfl), hs.none⟩)
          · refine wpS.take 8 false (some 16) (.bool false) (by kernel_rfl) (yld_b (df hc) (fun _ => by kernel_rfl)) ?_
            refine wpS.take 9 false (some 17) (.bool false) (by kernel_rfl) (yld fun _ => by kernel_rfl) ?_
            refine wpS.fin rfl (kr92 _ _ ?_)
            refine then_n (ks91 _ _ ?_)
            refine wp_cond_f (by kernel_rfl) ?_
            refine xskip ?_
            refine inBlock_n ?_
            refine then_n (ks90 _ _ ?_)
            refine wp_regS (l := [0, 1, 2]) (by kernel_rfl) (by kernel_rfl) fun KR99 kr99 => ?_
            refine wpS.take 0 false (some 6) (.int .i64 z2) (by kernel_rfl) (yld fun _ => by kernel_rfl) ?_
            refine wpS.take 1 false (some 7) (.int .i64 (iadd .i64 z2 1)) (by kernel_rfl) (yld fun _ => by kernel_rfl) ?_
            obtain ⟨x3, hx, h⟩ := of_bind h
            refine wpS.take 2 false (some 3) (.int .i64 x3) (by kernel_rfl) (yld_int hx (fun _ => by kernel_rfl)) ?_
            refine wpS.fin rfl (kr99 _ _ ?_)
            exact then_n (kl0 _ _ ⟨n, Nat.lt_succ_self n, x3, h, (hs.conv rfl), exg (by kernel_rfl)⟩)
      · refine wpS.take 1 false (some 5) (.bool false) (by kernel_rfl) (yld_b (df hc) (fun _ => by kernel_rfl)) ?_
        refine wpS.fin rfl (kr81 _ _ ?_)
        refine then_n (ks80 _ _ ?_)
        refine wp_cond_f (by kernel_rfl) ?_
        refine xexit ?_
        refine then_x ?_
        refine then_x ?_
        refine inBlock_hit ?_
        have q0 := of_some h
        subst q0
        exact exq_n (nn0 _ _ ⟨rfl, (hs.conv rfl), exg (by kernel_rfl)⟩)
  · clear hs h hy
    rintro a w ⟨rfl, hs, g, rfl⟩
    have h := hk0
    refine then_n (ks51 _ _ ?_)
    refine xseq_k fun KS100 ks100 => ?_
    refine wp_regS (l := [0]) (by kernel_rfl) (by kernel_rfl) fun KR101 kr101 => ?_
    refine wpS.take 0 false (some 2) (.bool true) (by kernel_rfl) (yld fun _ => by kernel_rfl) ?_
    refine wpS.fin rfl (kr101 _ _ ?_)
    refine then_n (ks100 _ _ ?_)
    refine xret ?_
    have q0 := of_some h
    subst q0
    exact qq _ _ (post_ret (by kernel_rfl) (run_results [.tmp 2] [.bool true] (by kernel_rfl) (.cons (res_tmp (by kernel_rfl)) .nil)) ⟨congrArg Ending.returned (by kernel_rfl), hs.none⟩)

theorem ref01_Pack.ok {K : Nat} {a0 : List Int} {a1 : Int} {r0 : List Int} {a0_A : Option Addr} {a0_n : Nat} {a0_c : Nat} (h : ref01_Pack.f K a0 a1 = some r0) (w0 : World) (hp0 : RowL (CI .u32) w0 a0_A a0_n a0_c a0) : Calls Try.prog 60 #[.slice a0_A a0_n a0_c, .int .i64 a1] w0 fun e w' => ∃ h : (Option Addr × Nat × Nat), e = .returned (.slice h.1 h.2.1 h.2.2) ∧ St w0 [] [.ownL (CI .u8) h.1 h.2.1 h.2.2 r0 5] [] w' := by
  refine calls_k Try.func60 rfl fun Q qq => ?_
  have hs := St.startR (all_cons (RowP.ent hp0) all_nil)
  refine wp_conv (a' := ⟨#[.slice a0_A a0_n a0_c, .int .i64 a1, undef, undef, undef, undef, undef, undef, undef, undef, undef, undef, undef, undef, undef, undef, undef, undef, undef, undef, undef, undef, undef, undef, undef, undef, undef, undef, undef, undef, undef, undef, undef, undef, undef, undef, undef, undef, undef, undef, undef, undef, undef, undef, undef, undef, undef, undef, undef, undef, undef, undef, undef, undef, undef, undef, undef, undef, undef, undef], []⟩) (by kernel_rfl) ?_
  refine xseq_k fun KS1 ks1 => ?_
  refine wp_regS (l := [0]) (by kernel_rfl) (by kernel_rfl) fun KR2 kr2 => ?_
  refine wpS.take 0 false (some 4) (.slice none 0 0) (by kernel_rfl) (yld fun _ => by kernel_rfl) ?_
  refine wpS.fin rfl (kr2 _ _ ?_)
  refine then_n (ks1 _ _ ?_)
  refine xseq_k fun KS9 ks9 => ?_
  refine xseq_k fun KS10 ks10 => ?_
  refine wp_regS (l := [0, 1, 2, 3, 4, 5]) (by kernel_rfl) (by kernel_rfl) fun KR11 kr11 => ?_
  refine wpS.take 0 false (some 9) (.int .i64 a1) (by kernel_rfl) (yld fun _ => by kernel_rfl) ?_
  rcases of_if h with ⟨hc, h⟩ | ⟨hc, h⟩
  · refine wpS.take 1 false (some 10) (.bool true) (by kernel_rfl) (yld_b (dt hc) (fun _ => by kernel_rfl)) ?_
    refine wpS.take 2 false (some 11) (.bool true) (by kernel_rfl) (yld fun _ => by kernel_rfl) ?_
    refine wpS.take 3 false (some 12) (undef) (by kernel_rfl) (yld fun _ => by kernel_rfl) ?_
    refine wpS.take 4 false (some 13) (undef) (by kernel_rfl) (yld fun _ => by kernel_rfl) ?_
    refine wpS.take 5 false (some 14) (.bool true) (by kernel_rfl) (yld fun _ => by kernel_rfl) ?_
    refine wpS.fin rfl (kr11 _ _ ?_)
    refine then_n (ks10 _ _ ?_)
    refine wp_cond_t (by kernel_rfl) ?_
    refine xseq_k fun KS12 ks12 => ?_
    refine wp_regS (l := [0]) (by kernel_rfl) (by kernel_rfl) fun KR13 kr13 => ?_
    refine wpS.take 0 false (some 4) (.slice none 0 0) (by kernel_rfl) (yld fun _ => by kernel_rfl) ?_
    refine wpS.fin rfl (kr13 _ _ ?_)
    refine then_n (ks12 _ _ ?_)
    refine xret ?_
    refine then_r ?_
    have q0 := of_some h
    subst q0
    have hs := hs.addNilL (CI .u8) 5
    exact qq _ _ (post_ret (by kernel_rfl) (run_results [.tmp 4] [.slice none 0 0] (by kernel_rfl) (.cons (res_tmp (by kernel_rfl)) .nil)) ⟨⟨none, 0, 0⟩, congrArg Ending.returned (by kernel_rfl), ((hs.conv (L' := [.ownL (CI .u8) none 0 0 ([] : List Int) 5]) rfl).pickR pick_nil)⟩)
  · refine wpS.take 1 false (some 10) (.bool false) (by kernel_rfl) (yld_b (df hc) (fun _ => by kernel_rfl)) ?_
    refine wpS.take 2 false (some 11) (.bool false) (by kernel_rfl) (yld fun _ => by kernel_rfl) ?_
    refine wpS.take 3 false (some 12) (.int .i64 a1) (by kernel_rfl) (yld fun _ => by kernel_rfl) ?_
    rcases of_if h with ⟨hc, h⟩ | ⟨hc, h⟩
    · refine wpS.take 4 false (some 13) (.bool true) (by kernel_rfl) (yld_b (dt hc) (fun _ => by kernel_rfl)) ?_
      refine wpS.take 5 false (some 14) (.bool true) (by kernel_rfl) (yld fun _ => by kernel_rfl) ?_
      refine wpS.fin rfl (kr11 _ _ ?_)
      refine then_n (ks10 _ _ ?_)
      refine wp_cond_t (by kernel_rfl) ?_
      refine xseq_k fun KS14 ks14 => ?_
      refine wp_regS (l := [0]) (by kernel_rfl) (by kernel_rfl) fun KR15 kr15 => ?_
      refine wpS.take 0 false (some 4) (.slice none 0 0) (by kernel_rfl) (yld fun _ => by kernel_rfl) ?_
      refine wpS.fin rfl (kr15 _ _ ?_)
      refine then_n (ks14 _ _ ?_)
      refine xret ?_
      refine then_r ?_
      have q0 := of_some h
      subst q0
      have hs := hs.addNilL (CI .u8) 5
      exact qq _ _ (post_ret (by kernel_rfl) (run_results [.tmp 4] [.slice none 0 0] (by kernel_rfl) (.cons (res_tmp (by kernel_rfl)) .nil)) ⟨⟨none, 0, 0⟩, congrArg Ending.returned (by kernel_rfl), ((hs.conv (L' := [.ownL (CI .u8) none 0 0 ([] : List Int) 5]) rfl).pickR pick_nil)⟩)
    · refine wpS.take 4 false (some 13) (.bool false) (by kernel_rfl) (yld_b (df hc) (fun _ => by kernel_rfl)) ?_
      refine wpS.take 5 false (some 14) (.bool false) (by kernel_rfl) (yld fun _ => by kernel_rfl) ?_
      refine wpS.fin rfl (kr11 _ _ ?_)
      refine then_n (ks10 _ _ ?_)
      refine wp_cond_f (by kernel_rfl) ?_
      refine xskip ?_
      refine then_n (ks9 _ _ ?_)
      refine xseq_k fun KS16 ks16 => ?_
      refine wp_regS (l := [0, 1, 2, 3, 4, 5, 6, 7]) (by kernel_rfl) (by kernel_rfl) fun KR17 kr17 => ?_
      refine wpS.take 0 false (some 15) (.slice a0_A a0_n a0_c) (by kernel_rfl) (yld fun _ => by kernel_rfl) ?_
      refine wpS.take 1 false (some 16) (.int .i64 (a0.length : Int)) (by kernel_rfl) (yld_lenL (hs.rowR 0 rfl) (fun _ => by kernel_rfl)) ?_
      refine wpS.take 2 false (some 17) (.int .i64 a1) (by kernel_rfl) (yld fun _ => by kernel_rfl) ?_
      refine wpS.take 3 false (some 18) (.int .i64 (imul .i64 (a0.length : Int) a1)) (by kernel_rfl) (yld fun _ => by kernel_rfl) ?_
      refine wpS.take 4 false (some 19) (.int .i64 (iadd .i64 (imul .i64 (a0.length : Int) a1) 7)) (by kernel_rfl) (yld fun _ => by kernel_rfl) ?_
      refine wpS.take 5 false (some 20) (.int .i64 (iquo .i64 (iadd .i64 (imul .i64 (a0.length : Int) a1) 7) 8)) (by kernel_rfl) (yld fun _ => by kernel_rfl) ?_
      obtain ⟨h0, h⟩ := of_chk h
      obtain ⟨h1, h⟩ := of_chk h
      refine wpS.only 6 (op_makeT (C := (CI .u8)) (t := 24) (e := 5) (bytes := 1) (B := 140737488355328) (kl := .i64) (kc := .i64) (x := (iquo .i64 (iadd .i64 (imul .i64 (a0.length : Int) a1) 7) 8)) (d := (some 21)) (by kernel_rfl) hs (by kernel_rfl) (by kernel_rfl) (by kernel_rfl) (by kernel_rfl) (by kernel_rfl) h0 h1 (by decide) (by decide) ?_)
      intro s1_A s1_n s1_c w gw hs
      refine ⟨fun _ => trivial, ?_⟩
      refine wpS.take 7 false (some 5) (.slice s1_A s1_n s1_c) (by kernel_rfl) (yld fun _ => by kernel_rfl) ?_
      refine wpS.fin rfl (kr17 _ _ ?_)
      refine then_n (ks16 _ _ ?_)
      refine xseq_k fun KS178 ks178 => ?_
      refine xseq_k fun KS179 ks179 => ?_
      refine wp_regS (l := [0]) (by kernel_rfl) (by kernel_rfl) fun KR180 kr180 => ?_
      refine wpS.take 0 false (some 6) (.int .i64 0) (by kernel_rfl) (yld fun _ => by kernel_rfl) ?_
      refine wpS.fin rfl (kr180 _ _ ?_)
      refine then_n (ks179 _ _ ?_)
      obtain ⟨y4, hy, hk0⟩ := of_bind h
      refine wp_exq (N := fun a w => St w0 [] [.ownL (CI .u8) s1_A s1_n s1_c y4 5] [.rowL (CI .u32) a0_A a0_n a0_c a0] w ∧ ∃ g : Nat → Value, a = ⟨#[.slice a0_A a0_n a0_c, .int .i64 a1, undef, undef, .slice none 0 0, .slice s1_A s1_n s1_c, (g 6), (g 7), (g 8), .int .i64 a1, .bool false, .bool false, .int .i64 a1, .bool false, .bool false, .slice a0_A a0_n a0_c, .int .i64 (a0.length : Int), .int .i64 a1, .int .i64 (imul .i64 (a0.length : Int) a1), .int .i64 (iadd .i64 (imul .i64 (a0.length : Int) a1) 7), .int .i64 (iquo .i64 (iadd .i64 (imul .i64 (a0.length : Int) a1) 7) 8), .slice s1_A s1_n s1_c, (g 22), (g 23), (g 24), (g 25), (g 26), (g 27), (g 28), (g 29), (g 30), (g 31), (g 32), (g 33), (g 34), (g 35), (g 36), (g 37), (g 38), (g 39), (g 40), (g 41), (g 42), (g 43), (g 44), (g 45), (g 46), (g 47), (g 48), (g 49), (g 50), (g 51), (g 52), (g 53), (g 54), (g 55), (g 56), (g 57), (g 58), undef], []⟩) (fun N0 nn0 => ?_) ?_
      · clear hk0
        refine xblock ?_
        refine wp_loop_k (fun n a w => ∃ z2 z3, ref01_Pack.l0 K n a0 a1 z2 z3 = some y4 ∧ St w0 [] [.ownL (CI .u8) s1_A s1_n s1_c z3 5] [.rowL (CI .u32) a0_A a0_n a0_c a0] w ∧ ∃ g : Nat → Value, a = ⟨#[.slice a0_A a0_n a0_c, .int .i64 a1, undef, undef, .slice none 0 0, .slice s1_A s1_n s1_c, .int .i64 z2, (g 7), (g 8), .int .i64 a1, .bool false, .bool false, .int .i64 a1, .bool false, .bool false, .slice a0_A a0_n a0_c, .int .i64 (a0.length : Int), .int .i64 a1, .int .i64 (imul .i64 (a0.length : Int) a1), .int .i64 (iadd .i64 (imul .i64 (a0.length : Int) a1) 7), .int .i64 (iquo .i64 (iadd .i64 (imul .i64 (a0.length : Int) a1) 7) 8), .slice s1_A s1_n s1_c, (g 22), (g 23), (g 24), (g 25), (g 26), (g 27), (g 28), (g 29), (g 30), (g 31), (g 32), (g 33), (g 34), (g 35), (g 36), (g 37), (g 38), (g 39), (g 40), (g 41), (g 42), (g 43), (g 44), (g 45), (g 46), (g 47), (g 48), (g 49), (g 50), (g 51), (g 52), (g 53), (g 54), (g 55), (g 56), (g 57), (g 58), undef], []⟩) K ⟨0, (List.replicate ((iquo .i64 (iadd .i64 (imul .i64 (a0.length : Int) a1) 7) 8) : Int).toNat (Cod.zero (CI .u8))), hy, hs.conv rfl, exg (by kernel_rfl)⟩ ?_
        clear hs h hy
        rintro n a w ⟨z2, z3, h, hs, g, rfl⟩ KL0 kl0
        cases n with
        | zero => exact nomatch (show none = some _ from h)
        | succ n =>
          refine xseq_k fun KS262 ks262 => ?_
          refine xseq_k fun KS263 ks263 => ?_
          refine wp_regS (l := [0, 1, 2, 3]) (by kernel_rfl) (by kernel_rfl) fun KR264 kr264 => ?_
          refine wpS.take 0 false (some 22) (.int .i64 z2) (by kernel_rfl) (yld fun _ => by kernel_rfl) ?_
          refine wpS.take 1 false (some 23) (.slice a0_A a0_n a0_c) (by kernel_rfl) (yld fun _ => by kernel_rfl) ?_
          refine wpS.take 2 false (some 24) (.int .i64 (a0.length : Int)) (by kernel_rfl) (yld_lenL (hs.rowR 0 rfl) (fun _ => by kernel_rfl)) ?_
          rcases of_if h with ⟨hc, h⟩ | ⟨hc, h⟩
          · refine wpS.take 3 false (some 25) (.bool true) (by kernel_rfl) (yld_b (dt hc) (fun _ => by kernel_rfl)) ?_
            refine wpS.fin rfl (kr264 _ _ ?_)
            refine then_n (ks263 _ _ ?_)
            refine wp_cond_t (by kernel_rfl) ?_
            refine xskip ?_
            refine then_n (ks262 _ _ ?_)
            refine xseq_k fun KS301 ks301 => ?_
            refine xblock ?_
            refine xseq_k fun KS302 ks302 => ?_
            refine wp_regS (l := [0]) (by kernel_rfl) (by kernel_rfl) fun KR303 kr303 => ?_
            refine wpS.take 0 false (some 7) (.int .i64 0) (by kernel_rfl) (yld fun _ => by kernel_rfl) ?_
            refine wpS.fin rfl (kr303 _ _ ?_)
            refine then_n (ks302 _ _ ?_)
            obtain ⟨y7, hy, hk1⟩ := of_bind h
            refine wp_exq (N := fun a w => St w0 [] [.ownL (CI .u8) s1_A s1_n s1_c y7 5] [.rowL (CI .u32) a0_A a0_n a0_c a0] w ∧ ∃ g : Nat → Value, a = ⟨#[.slice a0_A a0_n a0_c, .int .i64 a1, undef, undef, .slice none 0 0, .slice s1_A s1_n s1_c, .int .i64 z2, (g 7), (g 8), .int .i64 a1, .bool false, .bool false, .int .i64 a1, .bool false, .bool false, .slice a0_A a0_n a0_c, .int .i64 (a0.length : Int), .int .i64 a1, .int .i64 (imul .i64 (a0.length : Int) a1), .int .i64 (iadd .i64 (imul .i64 (a0.length : Int) a1) 7), .int .i64 (iquo .i64 (iadd .i64 (imul .i64 (a0.length : Int) a1) 7) 8), .slice s1_A s1_n s1_c, .int .i64 z2, .slice a0_A a0_n a0_c, .int .i64 (a0.length : Int), .bool true, (g 26), (g 27), (g 28), (g 29), (g 30), (g 31), (g 32), (g 33), (g 34), (g 35), (g 36), (g 37), (g 38), (g 39), (g 40), (g 41), (g 42), (g 43), (g 44), (g 45), (g 46), (g 47), (g 48), (g 49), (g 50), (g 51), (g 52), (g 53), (g 54), (g 55), (g 56), (g 57), (g 58), undef], []⟩) (fun N1 nn1 => ?_) ?_
            · clear hk1
              refine xblock ?_
              refine wp_loop_k (fun n a w => ∃ z5 z6, ref01_Pack.l1 K n a0 a1 z2 z5 z6 = some y7 ∧ St w0 [] [.ownL (CI .u8) s1_A s1_n s1_c z6 5] [.rowL (CI .u32) a0_A a0_n a0_c a0] w ∧ ∃ g : Nat → Value, a = ⟨#[.slice a0_A a0_n a0_c, .int .i64 a1, undef, undef, .slice none 0 0, .slice s1_A s1_n s1_c, .int .i64 z2, .int .i64 z5, (g 8), .int .i64 a1, .bool false, .bool false, .int .i64 a1, .bool false, .bool false, .slice a0_A a0_n a0_c, .int .i64 (a0.length : Int), .int .i64 a1, .int .i64 (imul .i64 (a0.length : Int) a1), .int .i64 (iadd .i64 (imul .i64 (a0.length : Int) a1) 7), .int .i64 (iquo .i64 (iadd .i64 (imul .i64 (a0.length : Int) a1) 7) 8), .slice s1_A s1_n s1_c, .int .i64 z2, .slice a0_A a0_n a0_c, .int .i64 (a0.length : Int), .bool true, (g 26), (g 27), (g 28), (g 29), (g 30), (g 31), (g 32), (g 33), (g 34), (g 35), (g 36), (g 37), (g 38), (g 39), (g 40), (g 41), (g 42), (g 43), (g 44), (g 45), (g 46), (g 47), (g 48), (g 49), (g 50), (g 51), (g 52), (g 53), (g 54), (g 55), (g 56), (g 57), (g 58), undef], []⟩) K ⟨0, z3, hy, hs.conv rfl, exg (by kernel_rfl)⟩ ?_
              clear hs h hy
              rintro n a w ⟨z5, z6, h, hs, g, rfl⟩ KL1 kl1
              cases n with
              | zero => exact nomatch (show none = some _ from h)
              | succ n =>
                refine xseq_k fun KS323 ks323 => ?_
                refine xseq_k fun KS324 ks324 => ?_
                refine wp_regS (l := [0, 1, 2]) (by kernel_rfl) (by kernel_rfl) fun KR325 kr325 => ?_
                refine wpS.take 0 false (some 28) (.int .i64 z5) (by kernel_rfl) (yld fun _ => by kernel_rfl) ?_
                refine wpS.take 1 false (some 29) (.int .i64 a1) (by kernel_rfl) (yld fun _ => by kernel_rfl) ?_
                rcases of_if h with ⟨hc, h⟩ | ⟨hc, h⟩
                · refine wpS.take 2 false (some 30) (.bool true) (by kernel_rfl) (yld_b (dt hc) (fun _ => by kernel_rfl)) ?_
                  refine wpS.fin rfl (kr325 _ _ ?_)
                  refine then_n (ks324 _ _ ?_)
                  refine wp_cond_t (by kernel_rfl) ?_
                  refine xskip ?_
                  refine then_n (ks323 _ _ ?_)
                  refine xseq_k fun KS326 ks326 => ?_
                  refine xblock ?_
                  refine xseq_k fun KS327 ks327 => ?_
                  refine wp_regS (l := [0, 1, 2, 3, 4, 5]) (by kernel_rfl) (by kernel_rfl) fun KR328 kr328 => ?_
                  refine wpS.take 0 false (some 33) (.int .i64 z2) (by kernel_rfl) (yld fun _ => by kernel_rfl) ?_
                  refine wpS.take 1 false (some 34) (.int .i64 a1) (by kernel_rfl) (yld fun _ => by kernel_rfl) ?_
                  refine wpS.take 2 false (some 35) (.int .i64 (imul .i64 z2 a1)) (by kernel_rfl) (yld fun _ => by kernel_rfl) ?_
                  refine wpS.take 3 false (some 36) (.int .i64 z5) (by kernel_rfl) (yld fun _ => by kernel_rfl) ?_
                  refine wpS.take 4 false (some 37) (.int .i64 (iadd .i64 (imul .i64 z2 a1) z5)) (by kernel_rfl) (yld fun _ => by kernel_rfl) ?_
                  obtain ⟨x8, hx, h⟩ := of_bind h
                  refine wpS.take 5 false (some 8) (.int .i64 x8) (by kernel_rfl) (yld_int hx (fun _ => by kernel_rfl)) ?_
                  refine wpS.fin rfl (kr328 _ _ ?_)
                  refine then_n (ks327 _ _ ?_)
                  refine wp_regG [21] (fun k => True) 22 (by kernel_rfl) (by kernel_rfl) (by kernel_rfl) fun KR329 kr329 => ?_
                  have hs := hs.drawn1
                  refine wpG.takeD 0 false (some 38) (.slice s1_A s1_n s1_c) (by kernel_rfl) (by kernel_rfl) (yld fun _ => by kernel_rfl) ?_
                  refine wpG.takeD 1 false (some 39) (.int .i64 x8) (by kernel_rfl) (by kernel_rfl) (yld fun _ => by kernel_rfl) ?_
                  refine wpG.takeD 2 false (some 40) (.int .i64 (iquo .i64 x8 8)) (by kernel_rfl) (by kernel_rfl) (yld fun _ => by kernel_rfl) ?_
                  refine wpG.takeD 3 false (some 41) (.slice s1_A s1_n s1_c) (by kernel_rfl) (by kernel_rfl) (yld fun _ => by kernel_rfl) ?_
                  refine wpG.takeD 4 false (some 42) (.int .i64 x8) (by kernel_rfl) (by kernel_rfl) (yld fun _ => by kernel_rfl) ?_
                  refine wpG.takeD 5 false (some 43) (.int .i64 (iquo .i64 x8 8)) (by kernel_rfl) (by kernel_rfl) (yld fun _ => by kernel_rfl) ?_
                  obtain ⟨x9, hx, h⟩ := of_bind h
                  have hx := of_some hx
                  subst hx
                  obtain ⟨h0, h⟩ := of_chk h
                  obtain ⟨h1, h⟩ := of_chk h
                  have i0_334 := h0
                  have i1_334 := h1
                  refine wpG.takeD 6 false (some 44) (.pointer (adr s1_A (((iquo .i64 x8 8) : Int).toNat * Cod.size (CI .u8)))) (by kernel_rfl) (by kernel_rfl) (yld_idxL (C := (CI .u8)) (t := 24) (e := 5) (k := .i64) (x := (iquo .i64 x8 8)) (hs.rowL 0 rfl) (by kernel_rfl) (by kernel_rfl) (by kernel_rfl) h0 h1) ?_
                  refine wpG.takeD 7 true (some 45) (.int .u8 (rdL (CI .u8) z6 (iquo .i64 x8 8))) (by kernel_rfl) (by kernel_rfl) (yld_loadL (C := (CI .u8)) (e := 5) (x := (iquo .i64 x8 8)) (hs.rowL 0 rfl) (by kernel_rfl) rfl (by kernel_rfl) i0_334 i1_334) ?_
                  refine wpG.takeD 8 false (some 46) (.slice a0_A a0_n a0_c) (by kernel_rfl) (by kernel_rfl) (yld fun _ => by kernel_rfl) ?_
                  refine wpG.takeD 9 false (some 47) (.int .i64 z2) (by kernel_rfl) (by kernel_rfl) (yld fun _ => by kernel_rfl) ?_
                  obtain ⟨h0, h⟩ := of_chk h
                  obtain ⟨h1, h⟩ := of_chk h
                  have i0_335 := h0
                  have i1_335 := h1
                  refine wpG.takeD 10 false (some 48) (.pointer (adr a0_A ((z2 : Int).toNat * Cod.size (CI .u32)))) (by kernel_rfl) (by kernel_rfl) (yld_idxL (C := (CI .u32)) (t := 82) (e := 84) (k := .i64) (x := z2) (hs.rowR 0 rfl) (by kernel_rfl) (by kernel_rfl) (by kernel_rfl) h0 h1) ?_
                  refine wpG.takeD 11 true (some 49) (.int .u32 (rdL (CI .u32) a0 z2)) (by kernel_rfl) (by kernel_rfl) (yld_loadL (C := (CI .u32)) (e := 84) (x := z2) (hs.rowR 0 rfl) (by kernel_rfl) rfl (by kernel_rfl) i0_335 i1_335) ?_
                  refine wpG.takeD 12 false (some 50) (.int .i64 z5) (by kernel_rfl) (by kernel_rfl) (yld fun _ => by kernel_rfl) ?_
                  obtain ⟨h0, h⟩ := of_chk h
                  refine wpG.takeD 13 false (some 51) (.int .u32 (ishr .u32 (rdL (CI .u32) a0 z2) z5)) (by kernel_rfl) (by kernel_rfl) (yld_shr (t := 84) (k' := .i64) (by kernel_rfl) h0) ?_
                  refine wpG.takeD 14 false (some 52) (.int .u32 (iand .u32 (ishr .u32 (rdL (CI .u32) a0 z2) z5) 1)) (by kernel_rfl) (by kernel_rfl) (yld fun _ => by kernel_rfl) ?_
                  refine wpG.takeD 15 false (some 53) (.int .u8 (iconv .u8 (iand .u32 (ishr .u32 (rdL (CI .u32) a0 z2) z5) 1))) (by kernel_rfl) (by kernel_rfl) (yld fun _ => by kernel_rfl) ?_
                  refine wpG.takeD 16 false (some 54) (.int .i64 x8) (by kernel_rfl) (by kernel_rfl) (yld fun _ => by kernel_rfl) ?_
                  refine wpG.takeD 17 false (some 55) (.int .i64 (irem .i64 x8 8)) (by kernel_rfl) (by kernel_rfl) (yld fun _ => by kernel_rfl) ?_
                  obtain ⟨h0, h⟩ := of_chk h
                  refine wpG.takeD 18 false (some 56) (.int .u8 (ishl .u8 (iconv .u8 (iand .u32 (ishr .u32 (rdL (CI .u32) a0 z2) z5) 1)) (irem .i64 x8 8))) (by kernel_rfl) (by kernel_rfl) (yld_shl (t := 5) (k' := .i64) (by kernel_rfl) h0) ?_
                  refine wpG.takeD 19 false (some 57) (.int .u8 (ior .u8 (rdL (CI .u8) z6 (iquo .i64 x8 8)) (ishl .u8 (iconv .u8 (iand .u32 (ishr .u32 (rdL (CI .u32) a0 z2) z5) 1)) (irem .i64 x8 8)))) (by kernel_rfl) (by kernel_rfl) (yld fun _ => by kernel_rfl) ?_
                  obtain ⟨x10, hx, h⟩ := of_bind h
                  have hx := of_some hx
                  subst hx
                  obtain ⟨h0, h⟩ := of_chk h
                  obtain ⟨h1, h⟩ := of_chk h
                  have i0_336 := h0
                  have i1_336 := h1
                  refine wpG.takeD 20 false (some 58) (.pointer (adr s1_A (((iquo .i64 x8 8) : Int).toNat * Cod.size (CI .u8)))) (by kernel_rfl) (by kernel_rfl) (yld_idxL (C := (CI .u8)) (t := 24) (e := 5) (k := .i64) (x := (iquo .i64 x8 8)) (hs.rowL 0 rfl) (by kernel_rfl) (by kernel_rfl) (by kernel_rfl) h0 h1) ?_
                  obtain ⟨x11, hx, h⟩ := of_bind h
                  refine wpG.only 21 (by kernel_rfl) (op_storeL (C := (CI .u8)) (t := 5) (x := (iquo .i64 x8 8)) (v := x11) (d := none) (by kernel_rfl) hs 0 rfl (by cases hx; kernel_rfl) (by kernel_rfl) i0_336 i1_336 ?_)
                  intro w hs
                  refine ⟨⟨fun hf => absurd hf (by decide), .all _ _⟩, ?_⟩
                  refine wpG.fin (by kernel_rfl) rfl (kr329 _ _ ?_)
                  refine inBlock_n ?_
                  refine then_n (ks326 _ _ ?_)
                  refine wp_regS (l := [0, 1, 2]) (by kernel_rfl) (by kernel_rfl) fun KR337 kr337 => ?_
                  refine wpS.take 0 false (some 31) (.int .i64 z5) (by kernel_rfl) (yld fun _ => by kernel_rfl) ?_
                  refine wpS.take 1 false (some 32) (.int .i64 (iadd .i64 z5 1)) (by kernel_rfl) (yld fun _ => by kernel_rfl) ?_
                  obtain ⟨x12, hx, h⟩ := of_bind h
                  refine wpS.take 2 false (some 7) (.int .i64 x12) (by kernel_rfl) (yld_int hx (fun _ => by kernel_rfl)) ?_
                  refine wpS.fin rfl (kr337 _ _ ?_)
                  exact then_n (kl1 _ _ ⟨n, Nat.lt_succ_self n, x12, (wrL z6 (iquo .i64 x8 8) x11), h, (hs.conv rfl), exg (by kernel_rfl)⟩)
                · refine wpS.take 2 false (some 30) (.bool false) (by kernel_rfl) (yld_b (df hc) (fun _ => by kernel_rfl)) ?_
                  refine wpS.fin rfl (kr325 _ _ ?_)
                  refine then_n (ks324 _ _ ?_)
                  refine wp_cond_f (by kernel_rfl) ?_
                  refine xexit ?_
                  refine then_x ?_
                  refine then_x ?_
                  refine inBlock_hit ?_
                  have q0 := of_some h
                  subst q0
                  exact exq_n (nn1 _ _ ⟨(hs.conv rfl), exg (by kernel_rfl)⟩)
            · clear hs h hy
              rintro a w ⟨hs, g, rfl⟩
              have h := hk1
              refine inBlock_n ?_
              refine then_n (ks301 _ _ ?_)
              refine wp_regS (l := [0, 1, 2]) (by kernel_rfl) (by kernel_rfl) fun KR338 kr338 => ?_
              refine wpS.take 0 false (some 26) (.int .i64 z2) (by kernel_rfl) (yld fun _ => by kernel_rfl) ?_
              refine wpS.take 1 false (some 27) (.int .i64 (iadd .i64 z2 1)) (by kernel_rfl) (yld fun _ => by kernel_rfl) ?_
              obtain ⟨x13, hx, h⟩ := of_bind h
              refine wpS.take 2 false (some 6) (.int .i64 x13) (by kernel_rfl) (yld_int hx (fun _ => by kernel_rfl)) ?_
              refine wpS.fin rfl (kr338 _ _ ?_)
              exact then_n (kl0 _ _ ⟨n, Nat.lt_succ_self n, x13, y7, h, (hs.conv rfl), exg (by kernel_rfl)⟩)
          · refine wpS.take 3 false (some 25) (.bool false) (by kernel_rfl) (yld_b (df hc) (fun _ => by kernel_rfl)) ?_
            refine wpS.fin rfl (kr264 _ _ ?_)
            refine then_n (ks263 _ _ ?_)
            refine wp_cond_f (by kernel_rfl) ?_
            refine xexit ?_
            refine then_x ?_
            refine then_x ?_
            refine inBlock_hit ?_
            have q0 := of_some h
            subst q0
            exact exq_n (nn0 _ _ ⟨(hs.conv rfl), exg (by kernel_rfl)⟩)
      · clear hs h hy
        rintro a w ⟨hs, g, rfl⟩
        have h := hk0
        refine then_n (ks178 _ _ ?_)
        refine xseq_k fun KS339 ks339 => ?_
        refine wp_regS (l := [0, 1]) (by kernel_rfl) (by kernel_rfl) fun KR340 kr340 => ?_
        refine wpS.take 0 false (some 59) (.slice s1_A s1_n s1_c) (by kernel_rfl) (yld fun _ => by kernel_rfl) ?_
        refine wpS.take 1 false (some 4) (.slice s1_A s1_n s1_c) (by kernel_rfl) (yld fun _ => by kernel_rfl) ?_
        refine wpS.fin rfl (kr340 _ _ ?_)
        refine then_n (ks339 _ _ ?_)
        refine xret ?_
        have q0 := of_some h
        subst q0
        exact qq _ _ (post_ret (by kernel_rfl) (run_results [.tmp 4] [.slice s1_A s1_n s1_c] (by kernel_rfl) (.cons (res_tmp (by kernel_rfl)) .nil)) ⟨⟨s1_A, s1_n, s1_c⟩, congrArg Ending.returned (by kernel_rfl), ((hs.conv (L' := [.ownL (CI .u8) s1_A s1_n s1_c y4 5]) rfl).pickR pick_nil)⟩)
end Go.Proofs.Ytblploekkjeolaa
