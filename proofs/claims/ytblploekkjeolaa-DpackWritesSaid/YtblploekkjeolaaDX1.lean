/- Printed by this work's own program: the code of each function below comes to the answer that its plain form tells. -/
import Derived.Test.YtblploekkjeolaaMj
import Derived.Test.YtblploekkjeolaaProg
import Derived.Test.YtblploekkjeolaaDF0
import Derived.Test.YtblploekkjeolaaDX0
set_option linter.unusedVariables false
set_option linter.unusedSimpArgs false
set_option maxRecDepth 100000
set_option maxHeartbeats 4000000
namespace Go.Proofs.Ytblploekkjeolaa
open Go.Mx
attribute [local irreducible] wpOp

theorem dpack_Hints.ok {K : Nat} {a0 : List (Arr 256)} {a1 : Int} {r0 : List Int} {a0_A : Option Addr} {a0_n : Nat} {a0_c : Nat} (h : dpack_Hints.f K a0 a1 = some r0) (w0 : World) (hp0 : RowL (CA .i32 256 (by decide)) w0 a0_A a0_n a0_c a0) : Calls Try.prog 27 #[.slice a0_A a0_n a0_c, .int .i64 a1] w0 fun e w' => ∃ h : (Option Addr × Nat × Nat), e = .returned (.slice h.1 h.2.1 h.2.2) ∧ St w0 [] [.ownL (CI .u8) h.1 h.2.1 h.2.2 r0 5] [] w' := by
  refine calls_k Try.func27 rfl fun Q qq => ?_
  have hs := St.startR (all_cons (RowP.ent hp0) all_nil)
  refine wp_conv (a' := ⟨#[.slice a0_A a0_n a0_c, .int .i64 a1, undef, undef, undef, undef, undef, undef, undef, undef, undef, undef, undef, undef, undef, undef, undef, undef, undef, undef, undef, undef, undef, undef, undef, undef, undef, undef, undef, undef, undef, undef, undef, undef, undef, undef, undef, undef, undef, undef, undef, undef, undef, undef, undef, undef, undef, undef, undef, undef, undef, undef, undef, undef, undef, undef, undef, undef, undef, undef, undef, undef, undef, undef, undef, undef, undef, undef, undef, undef, undef, undef], []⟩) (by kernel_rfl) ?_
  refine xseq_k fun KS1 ks1 => ?_
  refine wp_regS (l := [0]) (by kernel_rfl) (by kernel_rfl) fun KR2 kr2 => ?_
  refine wpS.take 0 false (some 4) (.slice none 0 0) (by kernel_rfl) (yld fun _ => by kernel_rfl) ?_
  refine wpS.fin rfl (kr2 _ _ ?_)
  refine then_n (ks1 _ _ ?_)
  refine xseq_k fun KS13 ks13 => ?_
  refine xseq_k fun KS14 ks14 => ?_
  refine wp_regS (l := [0, 1, 2, 3, 4, 5, 6, 7, 8, 9, 10, 11, 12, 13, 14, 15]) (by kernel_rfl) (by kernel_rfl) fun KR15 kr15 => ?_
  refine wpS.take 0 false (some 11) (.slice a0_A a0_n a0_c) (by kernel_rfl) (yld fun _ => by kernel_rfl) ?_
  refine wpS.take 1 false (some 12) (.int .i64 (a0.length : Int)) (by kernel_rfl) (yld_lenL (hs.rowR 0 rfl) (fun _ => by kernel_rfl)) ?_
  rcases of_if h with ⟨hc, h⟩ | ⟨hc, h⟩
  · refine wpS.take 2 false (some 13) (.bool true) (by kernel_rfl) (yld_b (dt hc) (fun _ => by kernel_rfl)) ?_
    refine wpS.take 3 false (some 14) (.bool true) (by kernel_rfl) (yld fun _ => by kernel_rfl) ?_
    refine wpS.take 4 false (some 15) (undef) (by kernel_rfl) (yld fun _ => by kernel_rfl) ?_
    refine wpS.take 5 false (some 16) (undef) (by kernel_rfl) (yld fun _ => by kernel_rfl) ?_
    refine wpS.take 6 false (some 17) (undef) (by kernel_rfl) (yld fun _ => by kernel_rfl) ?_
    refine wpS.take 7 false (some 18) (.bool true) (by kernel_rfl) (yld fun _ => by kernel_rfl) ?_
    refine wpS.take 8 false (some 19) (.bool true) (by kernel_rfl) (yld fun _ => by kernel_rfl) ?_
    refine wpS.take 9 false (some 20) (undef) (by kernel_rfl) (yld fun _ => by kernel_rfl) ?_
    refine wpS.take 10 false (some 21) (undef) (by kernel_rfl) (yld fun _ => by kernel_rfl) ?_
    refine wpS.take 11 false (some 22) (.bool true) (by kernel_rfl) (yld fun _ => by kernel_rfl) ?_
    refine wpS.take 12 false (some 23) (.bool true) (by kernel_rfl) (yld fun _ => by kernel_rfl) ?_
    refine wpS.take 13 false (some 24) (undef) (by kernel_rfl) (yld fun _ => by kernel_rfl) ?_
    refine wpS.take 14 false (some 25) (undef) (by kernel_rfl) (yld fun _ => by kernel_rfl) ?_
    refine wpS.take 15 false (some 26) (.bool true) (by kernel_rfl) (yld fun _ => by kernel_rfl) ?_
    refine wpS.fin rfl (kr15 _ _ ?_)
    refine then_n (ks14 _ _ ?_)
    refine wp_cond_t (by kernel_rfl) ?_
    refine xseq_k fun KS16 ks16 => ?_
    refine wp_regS (l := [0]) (by kernel_rfl) (by kernel_rfl) fun KR17 kr17 => ?_
    refine wpS.take 0 false (some 4) (.slice none 0 0) (by kernel_rfl) (yld fun _ => by kernel_rfl) ?_
    refine wpS.fin rfl (kr17 _ _ ?_)
    refine then_n (ks16 _ _ ?_)
    refine xret ?_
    refine then_r ?_
    have q0 := of_some h
    subst q0
    have hs := hs.addNilL (CI .u8) 5
    exact qq _ _ (post_ret (by kernel_rfl) (run_results [.tmp 4] [.slice none 0 0] (by kernel_rfl) (.cons (res_tmp (by kernel_rfl)) .nil)) ⟨⟨none, 0, 0⟩, congrArg Ending.returned (by kernel_rfl), ((hs.conv (L' := [.ownL (CI .u8) none 0 0 ([] : List Int) 5]) rfl).pickR pick_nil)⟩)
  · refine wpS.take 2 false (some 13) (.bool false) (by kernel_rfl) (yld_b (df hc) (fun _ => by kernel_rfl)) ?_
    refine wpS.take 3 false (some 14) (.bool false) (by kernel_rfl) (yld fun _ => by kernel_rfl) ?_
    refine wpS.take 4 false (some 15) (.slice a0_A a0_n a0_c) (by kernel_rfl) (yld fun _ => by kernel_rfl) ?_
    refine wpS.take 5 false (some 16) (.int .i64 (a0.length : Int)) (by kernel_rfl) (yld_lenL (hs.rowR 0 rfl) (fun _ => by kernel_rfl)) ?_
    rcases of_if h with ⟨hc, h⟩ | ⟨hc, h⟩
    · refine wpS.take 6 false (some 17) (.bool true) (by kernel_rfl) (yld_b (dt hc) (fun _ => by kernel_rfl)) ?_
      refine wpS.take 7 false (some 18) (.bool true) (by kernel_rfl) (yld fun _ => by kernel_rfl) ?_
      refine wpS.take 8 false (some 19) (.bool true) (by kernel_rfl) (yld fun _ => by kernel_rfl) ?_
      refine wpS.take 9 false (some 20) (undef) (by kernel_rfl) (yld fun _ => by kernel_rfl) ?_
      refine wpS.take 10 false (some 21) (undef) (by kernel_rfl) (yld fun _ => by kernel_rfl) ?_
      refine wpS.take 11 false (some 22) (.bool true) (by kernel_rfl) (yld fun _ => by kernel_rfl) ?_
      refine wpS.take 12 false (some 23) (.bool true) (by kernel_rfl) (yld fun _ => by kernel_rfl) ?_
      refine wpS.take 13 false (some 24) (undef) (by kernel_rfl) (yld fun _ => by kernel_rfl) ?_
      refine wpS.take 14 false (some 25) (undef) (by kernel_rfl) (yld fun _ => by kernel_rfl) ?_
      refine wpS.take 15 false (some 26) (.bool true) (by kernel_rfl) (yld fun _ => by kernel_rfl) ?_
      refine wpS.fin rfl (kr15 _ _ ?_)
      refine then_n (ks14 _ _ ?_)
      refine wp_cond_t (by kernel_rfl) ?_
      refine xseq_k fun KS18 ks18 => ?_
      refine wp_regS (l := [0]) (by kernel_rfl) (by kernel_rfl) fun KR19 kr19 => ?_
      refine wpS.take 0 false (some 4) (.slice none 0 0) (by kernel_rfl) (yld fun _ => by kernel_rfl) ?_
      refine wpS.fin rfl (kr19 _ _ ?_)
      refine then_n (ks18 _ _ ?_)
      refine xret ?_
      refine then_r ?_
      have q0 := of_some h
      subst q0
      have hs := hs.addNilL (CI .u8) 5
      exact qq _ _ (post_ret (by kernel_rfl) (run_results [.tmp 4] [.slice none 0 0] (by kernel_rfl) (.cons (res_tmp (by kernel_rfl)) .nil)) ⟨⟨none, 0, 0⟩, congrArg Ending.returned (by kernel_rfl), ((hs.conv (L' := [.ownL (CI .u8) none 0 0 ([] : List Int) 5]) rfl).pickR pick_nil)⟩)
    · refine wpS.take 6 false (some 17) (.bool false) (by kernel_rfl) (yld_b (df hc) (fun _ => by kernel_rfl)) ?_
      refine wpS.take 7 false (some 18) (.bool false) (by kernel_rfl) (yld fun _ => by kernel_rfl) ?_
      refine wpS.take 8 false (some 19) (.bool false) (by kernel_rfl) (yld fun _ => by kernel_rfl) ?_
      refine wpS.take 9 false (some 20) (.int .i64 a1) (by kernel_rfl) (yld fun _ => by kernel_rfl) ?_
      rcases of_if h with ⟨hc, h⟩ | ⟨hc, h⟩
      · refine wpS.take 10 false (some 21) (.bool true) (by kernel_rfl) (yld_b (dt hc) (fun _ => by kernel_rfl)) ?_
        refine wpS.take 11 false (some 22) (.bool true) (by kernel_rfl) (yld fun _ => by kernel_rfl) ?_
        refine wpS.take 12 false (some 23) (.bool true) (by kernel_rfl) (yld fun _ => by kernel_rfl) ?_
        refine wpS.take 13 false (some 24) (undef) (by kernel_rfl) (yld fun _ => by kernel_rfl) ?_
        refine wpS.take 14 false (some 25) (undef) (by kernel_rfl) (yld fun _ => by kernel_rfl) ?_
        refine wpS.take 15 false (some 26) (.bool true) (by kernel_rfl) (yld fun _ => by kernel_rfl) ?_
        refine wpS.fin rfl (kr15 _ _ ?_)
        refine then_n (ks14 _ _ ?_)
        refine wp_cond_t (by kernel_rfl) ?_
        refine xseq_k fun KS20 ks20 => ?_
        refine wp_regS (l := [0]) (by kernel_rfl) (by kernel_rfl) fun KR21 kr21 => ?_
        refine wpS.take 0 false (some 4) (.slice none 0 0) (by kernel_rfl) (yld fun _ => by kernel_rfl) ?_
        refine wpS.fin rfl (kr21 _ _ ?_)
        refine then_n (ks20 _ _ ?_)
        refine xret ?_
        refine then_r ?_
        have q0 := of_some h
        subst q0
        have hs := hs.addNilL (CI .u8) 5
        exact qq _ _ (post_ret (by kernel_rfl) (run_results [.tmp 4] [.slice none 0 0] (by kernel_rfl) (.cons (res_tmp (by kernel_rfl)) .nil)) ⟨⟨none, 0, 0⟩, congrArg Ending.returned (by kernel_rfl), ((hs.conv (L' := [.ownL (CI .u8) none 0 0 ([] : List Int) 5]) rfl).pickR pick_nil)⟩)
      · refine wpS.take 10 false (some 21) (.bool false) (by kernel_rfl) (yld_b (df hc) (fun _ => by kernel_rfl)) ?_
        refine wpS.take 11 false (some 22) (.bool false) (by kernel_rfl) (yld fun _ => by kernel_rfl) ?_
        refine wpS.take 12 false (some 23) (.bool false) (by kernel_rfl) (yld fun _ => by kernel_rfl) ?_
        refine wpS.take 13 false (some 24) (.int .i64 a1) (by kernel_rfl) (yld fun _ => by kernel_rfl) ?_
        rcases of_if h with ⟨hc, h⟩ | ⟨hc, h⟩
        · refine wpS.take 14 false (some 25) (.bool true) (by kernel_rfl) (yld_b (dt hc) (fun _ => by kernel_rfl)) ?_
          refine wpS.take 15 false (some 26) (.bool true) (by kernel_rfl) (yld fun _ => by kernel_rfl) ?_
          refine wpS.fin rfl (kr15 _ _ ?_)
          refine then_n (ks14 _ _ ?_)
          refine wp_cond_t (by kernel_rfl) ?_
          refine xseq_k fun KS22 ks22 => ?_
          refine wp_regS (l := [0]) (by kernel_rfl) (by kernel_rfl) fun KR23 kr23 => ?_
          refine wpS.take 0 false (some 4) (.slice none 0 0) (by kernel_rfl) (yld fun _ => by kernel_rfl) ?_
          refine wpS.fin rfl (kr23 _ _ ?_)
          refine then_n (ks22 _ _ ?_)
          refine xret ?_
          refine then_r ?_
          have q0 := of_some h
          subst q0
          have hs := hs.addNilL (CI .u8) 5
          exact qq _ _ (post_ret (by kernel_rfl) (run_results [.tmp 4] [.slice none 0 0] (by kernel_rfl) (.cons (res_tmp (by kernel_rfl)) .nil)) ⟨⟨none, 0, 0⟩, congrArg Ending.returned (by kernel_rfl), ((hs.conv (L' := [.ownL (CI .u8) none 0 0 ([] : List Int) 5]) rfl).pickR pick_nil)⟩)
        · refine wpS.take 14 false (some 25) (.bool false) (by kernel_rfl) (yld_b (df hc) (fun _ => by kernel_rfl)) ?_
          refine wpS.take 15 false (some 26) (.bool false) (by kernel_rfl) (yld fun _ => by kernel_rfl) ?_
          refine wpS.fin rfl (kr15 _ _ ?_)
          refine then_n (ks14 _ _ ?_)
          refine wp_cond_f (by kernel_rfl) ?_
          refine xskip ?_
          refine then_n (ks13 _ _ ?_)
          refine xseq_k fun KS24 ks24 => ?_
          refine wp_regS (l := [0, 1, 2, 3, 4, 5]) (by kernel_rfl) (by kernel_rfl) fun KR25 kr25 => ?_
          refine wpS.take 0 false (some 27) (.int .i64 a1) (by kernel_rfl) (yld fun _ => by kernel_rfl) ?_
          refine wpS.take 1 false (some 28) (.slice a0_A a0_n a0_c) (by kernel_rfl) (yld fun _ => by kernel_rfl) ?_
          refine wpS.take 2 false (some 29) (.int .i64 (a0.length : Int)) (by kernel_rfl) (yld_lenL (hs.rowR 0 rfl) (fun _ => by kernel_rfl)) ?_
          refine wpS.take 3 false (some 30) (.int .i64 (iadd .i64 a1 (a0.length : Int))) (by kernel_rfl) (yld fun _ => by kernel_rfl) ?_
          obtain ⟨h0, h⟩ := of_chk h
          obtain ⟨h1, h⟩ := of_chk h
          refine wpS.only 4 (op_makeT (C := (CI .u8)) (t := 24) (e := 5) (bytes := 1) (B := 140737488355328) (kl := .i64) (kc := .i64) (x := (iadd .i64 a1 (a0.length : Int))) (d := (some 31)) (by kernel_rfl) hs (by kernel_rfl) (by kernel_rfl) (by kernel_rfl) (by kernel_rfl) (by kernel_rfl) h0 h1 (by decide) (by decide) ?_)
          intro s1_A s1_n s1_c w gw hs
          refine ⟨fun _ => trivial, ?_⟩
          refine wpS.take 5 false (some 5) (.slice s1_A s1_n s1_c) (by kernel_rfl) (yld fun _ => by kernel_rfl) ?_
          refine wpS.fin rfl (kr25 _ _ ?_)
          refine then_n (ks24 _ _ ?_)
          refine xseq_k fun KS26 ks26 => ?_
          refine wp_regS (l := [0]) (by kernel_rfl) (by kernel_rfl) fun KR27 kr27 => ?_
          refine wpS.take 0 false (some 6) (.int .i64 0) (by kernel_rfl) (yld fun _ => by kernel_rfl) ?_
          refine wpS.fin rfl (kr27 _ _ ?_)
          refine then_n (ks26 _ _ ?_)
          refine xseq_k fun KS642 ks642 => ?_
          refine xseq_k fun KS643 ks643 => ?_
          refine wp_regS (l := [0, 1, 2]) (by kernel_rfl) (by kernel_rfl) fun KR644 kr644 => ?_
          refine wpS.take 0 false (some 32) (.slice a0_A a0_n a0_c) (by kernel_rfl) (yld fun _ => by kernel_rfl) ?_
          refine wpS.take 1 false (some 33) (.int .i64 (a0.length : Int)) (by kernel_rfl) (yld_lenL (hs.rowR 0 rfl) (fun _ => by kernel_rfl)) ?_
          refine wpS.take 2 false (some 34) (.int .i64 0) (by kernel_rfl) (yld fun _ => by kernel_rfl) ?_
          refine wpS.fin rfl (kr644 _ _ ?_)
          refine then_n (ks643 _ _ ?_)
          obtain ⟨t0, hy, hk0⟩ := of_bind h
          refine wp_exq (N := fun a w => ∃ y5, t0 = .inl y5 ∧ St w0 [] [.ownL (CI .u8) s1_A s1_n s1_c y5 5] [.rowL (CA .i32 256 (by decide)) a0_A a0_n a0_c a0] w ∧ ∃ g : Nat → Value, a = ⟨#[.slice a0_A a0_n a0_c, .int .i64 a1, undef, undef, (g 4), .slice s1_A s1_n s1_c, (g 6), (g 7), (g 8), (g 9), (g 10), .slice a0_A a0_n a0_c, .int .i64 (a0.length : Int), .bool false, .bool false, .slice a0_A a0_n a0_c, .int .i64 (a0.length : Int), .bool false, .bool false, .bool false, .int .i64 a1, .bool false, .bool false, .bool false, .int .i64 a1, .bool false, .bool false, .int .i64 a1, .slice a0_A a0_n a0_c, .int .i64 (a0.length : Int), .int .i64 (iadd .i64 a1 (a0.length : Int)), .slice s1_A s1_n s1_c, .slice a0_A a0_n a0_c, .int .i64 (a0.length : Int), (g 34), (g 35), (g 36), (g 37), (g 38), (g 39), (g 40), (g 41), (g 42), (g 43), (g 44), (g 45), (g 46), (g 47), (g 48), (g 49), (g 50), (g 51), (g 52), (g 53), (g 54), (g 55), (g 56), (g 57), (g 58), (g 59), (g 60), (g 61), (g 62), (g 63), (g 64), (g 65), (g 66), (g 67), (g 68), (g 69), (g 70), undef], []⟩) (fun N0 nn0 => ?_) ?_
          · refine xblock ?_
            refine wp_loop_k (fun n a w => ∃ z2 z3 z4, dpack_Hints.l0 K n a0 a1 z2 z3 z4 = some t0 ∧ St w0 [] [.ownL (CI .u8) s1_A s1_n s1_c z4 5] [.rowL (CA .i32 256 (by decide)) a0_A a0_n a0_c a0] w ∧ ∃ g : Nat → Value, a = ⟨#[.slice a0_A a0_n a0_c, .int .i64 a1, undef, undef, (g 4), .slice s1_A s1_n s1_c, .int .i64 z2, (g 7), (g 8), (g 9), (g 10), .slice a0_A a0_n a0_c, .int .i64 (a0.length : Int), .bool false, .bool false, .slice a0_A a0_n a0_c, .int .i64 (a0.length : Int), .bool false, .bool false, .bool false, .int .i64 a1, .bool false, .bool false, .bool false, .int .i64 a1, .bool false, .bool false, .int .i64 a1, .slice a0_A a0_n a0_c, .int .i64 (a0.length : Int), .int .i64 (iadd .i64 a1 (a0.length : Int)), .slice s1_A s1_n s1_c, .slice a0_A a0_n a0_c, .int .i64 (a0.length : Int), .int .i64 z3, (g 35), (g 36), (g 37), (g 38), (g 39), (g 40), (g 41), (g 42), (g 43), (g 44), (g 45), (g 46), (g 47), (g 48), (g 49), (g 50), (g 51), (g 52), (g 53), (g 54), (g 55), (g 56), (g 57), (g 58), (g 59), (g 60), (g 61), (g 62), (g 63), (g 64), (g 65), (g 66), (g 67), (g 68), (g 69), (g 70), undef], []⟩) K ⟨0, 0, (List.replicate ((iadd .i64 a1 (a0.length : Int)) : Int).toNat (Cod.zero (CI .u8))), hy, hs.conv rfl, exg (by kernel_rfl)⟩ ?_
            clear hs h hy
            rintro n a w ⟨z2, z3, z4, h, hs, g, rfl⟩ KL0 kl0
            cases n with
            | zero => exact nomatch (show none = some _ from h)
            | succ n =>
              refine xseq_k fun KS951 ks951 => ?_
              refine wp_regS (l := [0]) (by kernel_rfl) (by kernel_rfl) fun KR952 kr952 => ?_
              rcases of_if h with ⟨hc, h⟩ | ⟨hc, h⟩
              · refine wpS.take 0 false (some 35) (.bool true) (by kernel_rfl) (yld_b (dt hc) (fun _ => by kernel_rfl)) ?_
                refine wpS.fin rfl (kr952 _ _ ?_)
                refine then_n (ks951 _ _ ?_)
                refine xseq_k fun KS953 ks953 => ?_
                refine wp_cond_t (by kernel_rfl) ?_
                refine xskip ?_
                refine then_n (ks953 _ _ ?_)
                refine xseq_k fun KS1104 ks1104 => ?_
                refine xblock ?_
                refine xseq_k fun KS1105 ks1105 => ?_
                refine wp_regS (l := [0, 1, 2, 3, 4, 5]) (by kernel_rfl) (by kernel_rfl) fun KR1106 kr1106 => ?_
                refine wpS.take 0 false (some 36) (.int .i64 z3) (by kernel_rfl) (yld fun _ => by kernel_rfl) ?_
                obtain ⟨h0, h⟩ := of_chk h
                obtain ⟨h1, h⟩ := of_chk h
                have i0_1107 := h0
                have i1_1107 := h1
                refine wpS.take 1 false (some 37) (.pointer (adr a0_A ((z3 : Int).toNat * Cod.size (CA .i32 256 (by decide))))) (by kernel_rfl) (yld_idxL (C := (CA .i32 256 (by decide))) (t := 25) (e := 40) (k := .i64) (x := z3) (hs.rowR 0 rfl) (by kernel_rfl) (by kernel_rfl) (by kernel_rfl) h0 h1) ?_
                refine wpS.take 2 true (some 38) (.agg (enc .i32 (rdL (CA .i32 256 (by decide)) a0 z3)).toArray) (by kernel_rfl) (yld_loadLA (C := (CA .i32 256 (by decide))) (e := 40) (x := z3) (hs.rowR 0 rfl) (by kernel_rfl) rfl (by kernel_rfl) (by kernel_rfl) i0_1107 i1_1107) ?_
                refine wpS.only 3 (op_alloc (t := 40) (d := (some 8)) (by kernel_rfl) hs (enc .i32 (zeroA 256)) (.agg (enc .i32 (zeroA 256)).toArray) (by kernel_rfl) (by kernel_rfl) (by kernel_rfl) ?_)
                intro b6 w gw hs
                refine ⟨fun _ => trivial, ?_⟩
                refine wpS.take 4 false (some 7) (.int .i64 z3) (by kernel_rfl) (yld fun _ => by kernel_rfl) ?_
                refine wpS.only 5 (op_storeW (t := 40) (v := .agg (enc .i32 (rdL (CA .i32 256 (by decide)) a0 z3)).toArray) (d := none) (by kernel_rfl) hs 0 rfl (vs := enc .i32 (rdL (CA .i32 256 (by decide)) a0 z3)) (n := 256) (by kernel_rfl) (by kernel_rfl) (by kernel_rfl) (by simp [enc_len]) (by simp [enc_len]) (by intro u hu; exact enc_one _ _ u hu) ?_)
                intro w kp hs
                refine ⟨fun _ => trivial, ?_⟩
                refine wpS.fin rfl (kr1106 _ _ ?_)
                refine then_n (ks1105 _ _ ?_)
                refine xseq_k fun KS1180 ks1180 => ?_
                refine xseq_k fun KS1181 ks1181 => ?_
                refine wp_regS (l := [0, 1]) (by kernel_rfl) (by kernel_rfl) fun KR1182 kr1182 => ?_
                refine wpS.take 0 true (some 39) (.agg (enc .i32 (rdL (CA .i32 256 (by decide)) a0 z3)).toArray) (by kernel_rfl) (yld_loadW (e := 40) (n := 256) hs 0 rfl (by kernel_rfl) (by kernel_rfl) (by kernel_rfl) (by exact enc_len _ _) .grow) ?_
                refine wpS.take 1 false (some 40) (.int .i64 0) (by kernel_rfl) (yld fun _ => by kernel_rfl) ?_
                refine wpS.fin rfl (kr1182 _ _ ?_)
                refine then_n (ks1181 _ _ ?_)
                obtain ⟨t1, hy, hk1⟩ := of_bind h
                refine wp_exq (N := fun a w => ∃ y10 y11, t1 = .inl (y10, y11) ∧ St w0 [] [.blk b6 (enc .i32 (rdL (CA .i32 256 (by decide)) a0 z3)) 40, .ownL (CI .u8) s1_A s1_n s1_c y11 5] [.rowL (CA .i32 256 (by decide)) a0_A a0_n a0_c a0] w ∧ ∃ g : Nat → Value, a = ⟨#[.slice a0_A a0_n a0_c, .int .i64 a1, undef, undef, (g 4), .slice s1_A s1_n s1_c, .int .i64 y10, .int .i64 z3, .pointer (some ⟨b6, 0, none⟩), (g 9), (g 10), .slice a0_A a0_n a0_c, .int .i64 (a0.length : Int), .bool false, .bool false, .slice a0_A a0_n a0_c, .int .i64 (a0.length : Int), .bool false, .bool false, .bool false, .int .i64 a1, .bool false, .bool false, .bool false, .int .i64 a1, .bool false, .bool false, .int .i64 a1, .slice a0_A a0_n a0_c, .int .i64 (a0.length : Int), .int .i64 (iadd .i64 a1 (a0.length : Int)), .slice s1_A s1_n s1_c, .slice a0_A a0_n a0_c, .int .i64 (a0.length : Int), .int .i64 z3, .bool true, .int .i64 z3, .pointer (adr a0_A ((z3 : Int).toNat * Cod.size (CA .i32 256 (by decide)))), .agg (enc .i32 (rdL (CA .i32 256 (by decide)) a0 z3)).toArray, .agg (enc .i32 (rdL (CA .i32 256 (by decide)) a0 z3)).toArray, (g 40), (g 41), (g 42), (g 43), (g 44), (g 45), (g 46), (g 47), (g 48), (g 49), (g 50), (g 51), (g 52), (g 53), (g 54), (g 55), (g 56), (g 57), (g 58), (g 59), (g 60), (g 61), (g 62), (g 63), (g 64), (g 65), (g 66), (g 67), (g 68), (g 69), (g 70), undef], []⟩) (fun N1 nn1 => ?_) ?_
                · refine xblock ?_
                  refine wp_loop_k (fun n a w => ∃ z7 z8 z9, dpack_Hints.l1 K n a0 a1 z3 z7 z8 z9 = some t1 ∧ St w0 [] [.blk b6 (enc .i32 (rdL (CA .i32 256 (by decide)) a0 z3)) 40, .ownL (CI .u8) s1_A s1_n s1_c z9 5] [.rowL (CA .i32 256 (by decide)) a0_A a0_n a0_c a0] w ∧ ∃ g : Nat → Value, a = ⟨#[.slice a0_A a0_n a0_c, .int .i64 a1, undef, undef, (g 4), .slice s1_A s1_n s1_c, .int .i64 z7, .int .i64 z3, .pointer (some ⟨b6, 0, none⟩), (g 9), (g 10), .slice a0_A a0_n a0_c, .int .i64 (a0.length : Int), .bool false, .bool false, .slice a0_A a0_n a0_c, .int .i64 (a0.length : Int), .bool false, .bool false, .bool false, .int .i64 a1, .bool false, .bool false, .bool false, .int .i64 a1, .bool false, .bool false, .int .i64 a1, .slice a0_A a0_n a0_c, .int .i64 (a0.length : Int), .int .i64 (iadd .i64 a1 (a0.length : Int)), .slice s1_A s1_n s1_c, .slice a0_A a0_n a0_c, .int .i64 (a0.length : Int), .int .i64 z3, .bool true, .int .i64 z3, .pointer (adr a0_A ((z3 : Int).toNat * Cod.size (CA .i32 256 (by decide)))), .agg (enc .i32 (rdL (CA .i32 256 (by decide)) a0 z3)).toArray, .agg (enc .i32 (rdL (CA .i32 256 (by decide)) a0 z3)).toArray, .int .i64 z8, (g 41), (g 42), (g 43), (g 44), (g 45), (g 46), (g 47), (g 48), (g 49), (g 50), (g 51), (g 52), (g 53), (g 54), (g 55), (g 56), (g 57), (g 58), (g 59), (g 60), (g 61), (g 62), (g 63), (g 64), (g 65), (g 66), (g 67), (g 68), (g 69), (g 70), undef], []⟩) K ⟨z2, 0, z4, hy, hs.conv rfl, exg (by kernel_rfl)⟩ ?_
                  clear hs h hy
                  rintro n a w ⟨z7, z8, z9, h, hs, g, rfl⟩ KL1 kl1
                  cases n with
                  | zero => exact nomatch (show none = some _ from h)
                  | succ n =>
                    refine xseq_k fun KS1218 ks1218 => ?_
                    refine wp_regS (l := [0]) (by kernel_rfl) (by kernel_rfl) fun KR1219 kr1219 => ?_
                    rcases of_if h with ⟨hc, h⟩ | ⟨hc, h⟩
                    · refine wpS.take 0 false (some 41) (.bool true) (by kernel_rfl) (yld_b (dt hc) (fun _ => by kernel_rfl)) ?_
                      refine wpS.fin rfl (kr1219 _ _ ?_)
                      refine then_n (ks1218 _ _ ?_)
                      refine xseq_k fun KS1220 ks1220 => ?_
                      refine wp_cond_t (by kernel_rfl) ?_
                      refine xskip ?_
                      refine then_n (ks1220 _ _ ?_)
                      refine xseq_k fun KS1235 ks1235 => ?_
                      refine xblock ?_
                      refine xseq_k fun KS1236 ks1236 => ?_
                      refine wp_regS (l := [0, 1, 2, 3]) (by kernel_rfl) (by kernel_rfl) fun KR1237 kr1237 => ?_
                      refine wpS.take 0 false (some 42) (.int .i64 z8) (by kernel_rfl) (yld fun _ => by kernel_rfl) ?_
                      obtain ⟨h0, h⟩ := of_chk h
                      obtain ⟨h1, h⟩ := of_chk h
                      refine wpS.take 1 false (some 43) (.int .i32 (rd (rdL (CA .i32 256 (by decide)) a0 z3) z8)) (by kernel_rfl) (yld_at (t := 40) (e := 21) (k' := .i64) (by kernel_rfl) (by kernel_rfl) (by kernel_rfl) (by kernel_rfl) h0 h1) ?_
                      refine wpS.take 2 false (some 9) (.int .i64 z8) (by kernel_rfl) (yld fun _ => by kernel_rfl) ?_
                      obtain ⟨x12, hx, h⟩ := of_bind h
                      refine wpS.take 3 false (some 10) (.int .i32 x12) (by kernel_rfl) (yld_int hx (fun _ => by kernel_rfl)) ?_
                      refine wpS.fin rfl (kr1237 _ _ ?_)
                      refine then_n (ks1236 _ _ ?_)
                      refine xblock ?_
                      refine xseq_k fun KS1238 ks1238 => ?_
                      refine wp_regS (l := [0, 1, 2]) (by kernel_rfl) (by kernel_rfl) fun KR1239 kr1239 => ?_
                      refine wpS.take 0 false (some 52) (.int .i32 x12) (by kernel_rfl) (yld fun _ => by kernel_rfl) ?_
                      rcases of_if h with ⟨hc, h⟩ | ⟨hc, h⟩
                      · refine wpS.take 1 false (some 53) (.bool true) (by kernel_rfl) (yld_b (et hc) (fun _ => by kernel_rfl)) ?_
                        refine wpS.take 2 false (some 51) (.bool true) (by kernel_rfl) (yld fun _ => by kernel_rfl) ?_
                        refine wpS.fin rfl (kr1239 _ _ ?_)
                        refine then_n (ks1238 _ _ ?_)
                        refine wp_cond_t (by kernel_rfl) ?_
                        refine xskip ?_
                        refine inBlock_n ?_
                        refine inBlock_n ?_
                        refine then_n (ks1235 _ _ ?_)
                        refine wp_regS (l := [0, 1]) (by kernel_rfl) (by kernel_rfl) fun KR1240 kr1240 => ?_
                        refine wpS.take 0 false (some 62) (.int .i64 (iadd .i64 z8 1)) (by kernel_rfl) (yld fun _ => by kernel_rfl) ?_
                        refine wpS.take 1 false (some 40) (.int .i64 (iadd .i64 z8 1)) (by kernel_rfl) (yld fun _ => by kernel_rfl) ?_
                        refine wpS.fin rfl (kr1240 _ _ ?_)
                        exact then_n (kl1 _ _ ⟨n, Nat.lt_succ_self n, z7, (iadd .i64 z8 1), z9, h, (hs.conv rfl), exg (by kernel_rfl)⟩)
                      · refine wpS.take 1 false (some 53) (.bool false) (by kernel_rfl) (yld_b (ef hc) (fun _ => by kernel_rfl)) ?_
                        refine wpS.take 2 false (some 51) (.bool false) (by kernel_rfl) (yld fun _ => by kernel_rfl) ?_
                        refine wpS.fin rfl (kr1239 _ _ ?_)
                        refine then_n (ks1238 _ _ ?_)
                        refine wp_cond_f (by kernel_rfl) ?_
                        refine xseq_k fun KS1241 ks1241 => ?_
                        refine wp_regS (l := [0, 1, 2, 3, 4, 5, 6, 7]) (by kernel_rfl) (by kernel_rfl) fun KR1242 kr1242 => ?_
                        refine wpS.take 0 false (some 55) (.int .i32 x12) (by kernel_rfl) (yld fun _ => by kernel_rfl) ?_
                        rcases of_if h with ⟨hc, h⟩ | ⟨hc, h⟩
                        · refine wpS.take 1 false (some 56) (.bool false) (by kernel_rfl) (yld_b (nf hc) (fun _ => by kernel_rfl)) ?_
                          refine wpS.take 2 false (some 57) (.bool false) (by kernel_rfl) (yld fun _ => by kernel_rfl) ?_
                          refine wpS.take 3 false (some 58) (.int .i64 z7) (by kernel_rfl) (yld fun _ => by kernel_rfl) ?_
                          refine wpS.take 4 false (some 59) (.int .i64 a1) (by kernel_rfl) (yld fun _ => by kernel_rfl) ?_
                          rcases of_if h with ⟨hc, h⟩ | ⟨hc, h⟩
                          · refine wpS.take 5 false (some 60) (.bool true) (by kernel_rfl) (yld_b (et hc) (fun _ => by kernel_rfl)) ?_
                            refine wpS.take 6 false (some 61) (.bool true) (by kernel_rfl) (yld fun _ => by kernel_rfl) ?_
                            refine wpS.take 7 false (some 54) (.bool true) (by kernel_rfl) (yld fun _ => by kernel_rfl) ?_
                            refine wpS.fin rfl (kr1242 _ _ ?_)
                            refine then_n (ks1241 _ _ ?_)
                            refine wp_cond_t (by kernel_rfl) ?_
                            refine xseq_k fun KS1243 ks1243 => ?_
                            refine wp_regS (l := [0]) (by kernel_rfl) (by kernel_rfl) fun KR1244 kr1244 => ?_
                            refine wpS.take 0 false (some 4) (.slice none 0 0) (by kernel_rfl) (yld fun _ => by kernel_rfl) ?_
                            refine wpS.fin rfl (kr1244 _ _ ?_)
                            refine then_n (ks1243 _ _ ?_)
                            refine xret ?_
                            refine inBlock_r ?_
                            refine inBlock_r ?_
                            refine then_r ?_
                            refine then_r ?_
                            refine inBlock_r ?_
                            refine exq_r ?_
                            refine then_r ?_
                            refine inBlock_r ?_
                            refine then_r ?_
                            refine then_r ?_
                            refine inBlock_r ?_
                            refine exq_r ?_
                            refine then_r ?_
                            have q0 := of_some h
                            subst q0
                            have q0 := of_some hk1
                            subst q0
                            have q0 := of_some hk0
                            subst q0
                            have hs := hs.addNilL (CI .u8) 5
                            exact qq _ _ (post_ret (by kernel_rfl) (run_results [.tmp 4] [.slice none 0 0] (by kernel_rfl) (.cons (res_tmp (by kernel_rfl)) .nil)) ⟨⟨none, 0, 0⟩, congrArg Ending.returned (by kernel_rfl), (((hs.conv (L' := [.ownL (CI .u8) none 0 0 ([] : List Int) 5, .blk b6 (enc .i32 (rdL (CA .i32 256 (by decide)) a0 z3)) 40, .ownL (CI .u8) s1_A s1_n s1_c z9 5]) rfl).drop (.cons_cons _ (.cons _ (.cons _ .slnil)))).pickR pick_nil)⟩)
                          · refine wpS.take 5 false (some 60) (.bool false) (by kernel_rfl) (yld_b (ef hc) (fun _ => by kernel_rfl)) ?_
                            refine wpS.take 6 false (some 61) (.bool false) (by kernel_rfl) (yld fun _ => by kernel_rfl) ?_
                            refine wpS.take 7 false (some 54) (.bool false) (by kernel_rfl) (yld fun _ => by kernel_rfl) ?_
                            refine wpS.fin rfl (kr1242 _ _ ?_)
                            refine then_n (ks1241 _ _ ?_)
                            refine wp_cond_f (by kernel_rfl) ?_
                            refine xseq_k fun KS1245 ks1245 => ?_
                            refine wp_regS (l := [0, 1, 2, 3, 4, 5]) (by kernel_rfl) (by kernel_rfl) fun KR1246 kr1246 => ?_
                            refine wpS.take 0 false (some 44) (.slice s1_A s1_n s1_c) (by kernel_rfl) (yld fun _ => by kernel_rfl) ?_
                            refine wpS.take 1 false (some 45) (.int .i64 z7) (by kernel_rfl) (yld fun _ => by kernel_rfl) ?_
                            refine wpS.take 2 false (some 46) (.int .i64 z8) (by kernel_rfl) (yld fun _ => by kernel_rfl) ?_
                            refine wpS.take 3 false (some 47) (.int .u8 (iconv .u8 z8)) (by kernel_rfl) (yld fun _ => by kernel_rfl) ?_
                            obtain ⟨h0, h⟩ := of_chk h
                            obtain ⟨h1, h⟩ := of_chk h
                            have i0_1247 := h0
                            have i1_1247 := h1
                            refine wpS.take 4 false (some 48) (.pointer (adr s1_A ((z7 : Int).toNat * Cod.size (CI .u8)))) (by kernel_rfl) (yld_idxL (C := (CI .u8)) (t := 24) (e := 5) (k := .i64) (x := z7) (hs.rowL 1 rfl) (by kernel_rfl) (by kernel_rfl) (by kernel_rfl) h0 h1) ?_
                            obtain ⟨x13, hx, h⟩ := of_bind h
                            refine wpS.only 5 (op_storeL (C := (CI .u8)) (t := 5) (x := z7) (v := x13) (d := none) (by kernel_rfl) hs 1 rfl (by cases hx; kernel_rfl) (by kernel_rfl) i0_1247 i1_1247 ?_)
                            intro w hs
                            refine ⟨fun _ => trivial, ?_⟩
                            refine wpS.fin rfl (kr1246 _ _ ?_)
                            refine then_n (ks1245 _ _ ?_)
                            refine wp_regS (l := [0, 1, 2]) (by kernel_rfl) (by kernel_rfl) fun KR1248 kr1248 => ?_
                            refine wpS.take 0 false (some 49) (.int .i64 z7) (by kernel_rfl) (yld fun _ => by kernel_rfl) ?_
                            refine wpS.take 1 false (some 50) (.int .i64 (iadd .i64 z7 1)) (by kernel_rfl) (yld fun _ => by kernel_rfl) ?_
                            obtain ⟨x14, hx, h⟩ := of_bind h
                            refine wpS.take 2 false (some 6) (.int .i64 x14) (by kernel_rfl) (yld_int hx (fun _ => by kernel_rfl)) ?_
                            refine wpS.fin rfl (kr1248 _ _ ?_)
                            refine inBlock_n ?_
                            refine inBlock_n ?_
                            refine then_n (ks1235 _ _ ?_)
                            refine wp_regS (l := [0, 1]) (by kernel_rfl) (by kernel_rfl) fun KR1249 kr1249 => ?_
                            refine wpS.take 0 false (some 62) (.int .i64 (iadd .i64 z8 1)) (by kernel_rfl) (yld fun _ => by kernel_rfl) ?_
                            refine wpS.take 1 false (some 40) (.int .i64 (iadd .i64 z8 1)) (by kernel_rfl) (yld fun _ => by kernel_rfl) ?_
                            refine wpS.fin rfl (kr1249 _ _ ?_)
                            exact then_n (kl1 _ _ ⟨n, Nat.lt_succ_self n, x14, (iadd .i64 z8 1), (wrL z9 z7 x13), h, (hs.conv rfl), exg (by kernel_rfl)⟩)
                        · refine wpS.take 1 false (some 56) (.bool true) (by kernel_rfl) (yld_b (nt hc) (fun _ => by kernel_rfl)) ?_
                          refine wpS.take 2 false (some 57) (.bool true) (by kernel_rfl) (yld fun _ => by kernel_rfl) ?_
                          refine wpS.take 3 false (some 58) (undef) (by kernel_rfl) (yld fun _ => by kernel_rfl) ?_
                          refine wpS.take 4 false (some 59) (undef) (by kernel_rfl) (yld fun _ => by kernel_rfl) ?_
                          refine wpS.take 5 false (some 60) (undef) (by kernel_rfl) (yld fun _ => by kernel_rfl) ?_
                          refine wpS.take 6 false (some 61) (.bool true) (by kernel_rfl) (yld fun _ => by kernel_rfl) ?_
                          refine wpS.take 7 false (some 54) (.bool true) (by kernel_rfl) (yld fun _ => by kernel_rfl) ?_
                          refine wpS.fin rfl (kr1242 _ _ ?_)
                          refine then_n (ks1241 _ _ ?_)
                          refine wp_cond_t (by kernel_rfl) ?_
                          refine xseq_k fun KS1250 ks1250 => ?_
                          refine wp_regS (l := [0]) (by kernel_rfl) (by kernel_rfl) fun KR1251 kr1251 => ?_
                          refine wpS.take 0 false (some 4) (.slice none 0 0) (by kernel_rfl) (yld fun _ => by kernel_rfl) ?_
                          refine wpS.fin rfl (kr1251 _ _ ?_)
                          refine then_n (ks1250 _ _ ?_)
                          refine xret ?_
                          refine inBlock_r ?_
                          refine inBlock_r ?_
                          refine then_r ?_
                          refine then_r ?_
                          refine inBlock_r ?_
                          refine exq_r ?_
                          refine then_r ?_
                          refine inBlock_r ?_
                          refine then_r ?_
                          refine then_r ?_
                          refine inBlock_r ?_
                          refine exq_r ?_
                          refine then_r ?_
                          have q0 := of_some h
                          subst q0
                          have q0 := of_some hk1
                          subst q0
                          have q0 := of_some hk0
                          subst q0
                          have hs := hs.addNilL (CI .u8) 5
                          exact qq _ _ (post_ret (by kernel_rfl) (run_results [.tmp 4] [.slice none 0 0] (by kernel_rfl) (.cons (res_tmp (by kernel_rfl)) .nil)) ⟨⟨none, 0, 0⟩, congrArg Ending.returned (by kernel_rfl), (((hs.conv (L' := [.ownL (CI .u8) none 0 0 ([] : List Int) 5, .blk b6 (enc .i32 (rdL (CA .i32 256 (by decide)) a0 z3)) 40, .ownL (CI .u8) s1_A s1_n s1_c z9 5]) rfl).drop (.cons_cons _ (.cons _ (.cons _ .slnil)))).pickR pick_nil)⟩)
                    · refine wpS.take 0 false (some 41) (.bool false) (by kernel_rfl) (yld_b (df hc) (fun _ => by kernel_rfl)) ?_
                      refine wpS.fin rfl (kr1219 _ _ ?_)
                      refine then_n (ks1218 _ _ ?_)
                      refine xseq_k fun KS1252 ks1252 => ?_
                      refine wp_cond_f (by kernel_rfl) ?_
                      refine xexit ?_
                      refine then_x ?_
                      refine then_x ?_
                      refine inBlock_hit ?_
                      have q0 := of_some h
                      subst q0
                      exact exq_n (nn1 _ _ ⟨z7, z9, rfl, (hs.conv rfl), exg (by kernel_rfl)⟩)
                · clear hs h hy
                  rintro a w ⟨y10, y11, rfl, hs, g, rfl⟩
                  have h := hk1
                  refine then_n (ks1180 _ _ ?_)
                  refine wp_regS (l := [0, 1, 2, 3, 4, 5, 6, 7]) (by kernel_rfl) (by kernel_rfl) fun KR1253 kr1253 => ?_
                  refine wpS.take 0 false (some 63) (.slice s1_A s1_n s1_c) (by kernel_rfl) (yld fun _ => by kernel_rfl) ?_
                  refine wpS.take 1 false (some 64) (.int .i64 a1) (by kernel_rfl) (yld fun _ => by kernel_rfl) ?_
                  refine wpS.take 2 false (some 65) (.int .i64 z3) (by kernel_rfl) (yld fun _ => by kernel_rfl) ?_
                  refine wpS.take 3 false (some 66) (.int .i64 (iadd .i64 a1 z3)) (by kernel_rfl) (yld fun _ => by kernel_rfl) ?_
                  refine wpS.take 4 false (some 67) (.int .i64 y10) (by kernel_rfl) (yld fun _ => by kernel_rfl) ?_
                  refine wpS.take 5 false (some 68) (.int .u8 (iconv .u8 y10)) (by kernel_rfl) (yld fun _ => by kernel_rfl) ?_
                  obtain ⟨x15, hx, h⟩ := of_bind h
                  have hx := of_some hx
                  subst hx
                  obtain ⟨h0, h⟩ := of_chk h
                  obtain ⟨h1, h⟩ := of_chk h
                  have i0_1254 := h0
                  have i1_1254 := h1
                  refine wpS.take 6 false (some 69) (.pointer (adr s1_A (((iadd .i64 a1 z3) : Int).toNat * Cod.size (CI .u8)))) (by kernel_rfl) (yld_idxL (C := (CI .u8)) (t := 24) (e := 5) (k := .i64) (x := (iadd .i64 a1 z3)) (hs.rowL 1 rfl) (by kernel_rfl) (by kernel_rfl) (by kernel_rfl) h0 h1) ?_
                  obtain ⟨x16, hx, h⟩ := of_bind h
                  refine wpS.only 7 (op_storeL (C := (CI .u8)) (t := 5) (x := (iadd .i64 a1 z3)) (v := x16) (d := none) (by kernel_rfl) hs 1 rfl (by cases hx; kernel_rfl) (by kernel_rfl) i0_1254 i1_1254 ?_)
                  intro w hs
                  refine ⟨fun _ => trivial, ?_⟩
                  refine wpS.fin rfl (kr1253 _ _ ?_)
                  refine inBlock_n ?_
                  refine then_n (ks1104 _ _ ?_)
                  refine wp_regS (l := [0, 1]) (by kernel_rfl) (by kernel_rfl) fun KR1255 kr1255 => ?_
                  refine wpS.take 0 false (some 70) (.int .i64 (iadd .i64 z3 1)) (by kernel_rfl) (yld fun _ => by kernel_rfl) ?_
                  refine wpS.take 1 false (some 34) (.int .i64 (iadd .i64 z3 1)) (by kernel_rfl) (yld fun _ => by kernel_rfl) ?_
                  refine wpS.fin rfl (kr1255 _ _ ?_)
                  exact then_n (kl0 _ _ ⟨n, Nat.lt_succ_self n, y10, (iadd .i64 z3 1), (wrL y11 (iadd .i64 a1 z3) x16), h, ((hs.conv (L' := [.blk b6 (enc .i32 (rdL (CA .i32 256 (by decide)) a0 z3)) 40, .ownL (CI .u8) s1_A s1_n s1_c (wrL y11 (iadd .i64 a1 z3) x16) 5]) rfl).drop (.cons _ (.cons_cons _ .slnil))), exg (by kernel_rfl)⟩)
              · refine wpS.take 0 false (some 35) (.bool false) (by kernel_rfl) (yld_b (df hc) (fun _ => by kernel_rfl)) ?_
                refine wpS.fin rfl (kr952 _ _ ?_)
                refine then_n (ks951 _ _ ?_)
                refine xseq_k fun KS1256 ks1256 => ?_
                refine wp_cond_f (by kernel_rfl) ?_
                refine xexit ?_
                refine then_x ?_
                refine then_x ?_
                refine inBlock_hit ?_
                have q0 := of_some h
                subst q0
                exact exq_n (nn0 _ _ ⟨z4, rfl, (hs.conv rfl), exg (by kernel_rfl)⟩)
          · clear hs h hy
            rintro a w ⟨y5, rfl, hs, g, rfl⟩
            have h := hk0
            refine then_n (ks642 _ _ ?_)
            refine xseq_k fun KS1257 ks1257 => ?_
            refine wp_regS (l := [0, 1]) (by kernel_rfl) (by kernel_rfl) fun KR1258 kr1258 => ?_
            refine wpS.take 0 false (some 71) (.slice s1_A s1_n s1_c) (by kernel_rfl) (yld fun _ => by kernel_rfl) ?_
            refine wpS.take 1 false (some 4) (.slice s1_A s1_n s1_c) (by kernel_rfl) (yld fun _ => by kernel_rfl) ?_
            refine wpS.fin rfl (kr1258 _ _ ?_)
            refine then_n (ks1257 _ _ ?_)
            refine xret ?_
            have q0 := of_some h
            subst q0
            exact qq _ _ (post_ret (by kernel_rfl) (run_results [.tmp 4] [.slice s1_A s1_n s1_c] (by kernel_rfl) (.cons (res_tmp (by kernel_rfl)) .nil)) ⟨⟨s1_A, s1_n, s1_c⟩, congrArg Ending.returned (by kernel_rfl), ((hs.conv (L' := [.ownL (CI .u8) s1_A s1_n s1_c y5 5]) rfl).pickR pick_nil)⟩)

theorem law22_awake.ok {K : Nat} {r0 : Bool} (h : law22_awake.f K = some r0) (w0 : World) : Ret Try.prog 8 #[] w0 (.bool r0) := by
  refine calls_k Try.func8 rfl fun Q qq => ?_
  have hs := St.start w0
  refine wp_conv (a' := ⟨#[undef, undef, undef, undef, undef, undef, undef, undef, undef, undef, undef, undef, undef, undef, undef, undef, undef, undef, undef, undef, undef, undef, undef, undef, undef, undef, undef, undef, undef, undef, undef, undef, undef, undef, undef, undef, undef, undef, undef, undef, undef, undef, undef, undef, undef, undef], []⟩) (by kernel_rfl) ?_
  refine xseq_k fun KS1 ks1 => ?_
  refine wp_regS (l := [0]) (by kernel_rfl) (by kernel_rfl) fun KR2 kr2 => ?_
  refine wpS.take 0 false (some 0) (.bool false) (by kernel_rfl) (yld fun _ => by kernel_rfl) ?_
  refine wpS.fin rfl (kr2 _ _ ?_)
  refine then_n (ks1 _ _ ?_)
  refine xseq_k fun KS3 ks3 => ?_
  refine wp_regS (l := [0, 1, 2, 3, 4, 5, 6]) (by kernel_rfl) (by kernel_rfl) fun KR4 kr4 => ?_
  obtain ⟨⟨r1_0, r1_1, r1_2, r1_3, r1_4, r1_5, r1_6, r1_7, r2⟩, hg, h⟩ := of_bind h
  refine wpS.only 0 (op_call (d := (some 9)) (by kernel_rfl) hs (fun _ => by kernel_rfl) (dpack_Set.ok hg _) ?_)
  intro w gw hs
  refine ⟨fun _ => trivial, ?_⟩
  refine wpS.take 1 false (some 8) (.tuple #[.agg #[.int .i64 r1_0, .int .i64 r1_1, .int .i32 r1_2, .int .i64 r1_3, .int .i32 r1_4, .int .i32 r1_5, .int .i64 r1_6, .int .i64 r1_7], .bool r2]) (by kernel_rfl) (yld fun _ => by kernel_rfl) ?_
  refine wpS.take 2 false (some 10) (.agg #[.int .i64 r1_0, .int .i64 r1_1, .int .i32 r1_2, .int .i64 r1_3, .int .i32 r1_4, .int .i32 r1_5, .int .i64 r1_6, .int .i64 r1_7]) (by kernel_rfl) (yld fun _ => by kernel_rfl) ?_
  cases r2 with
  | true =>
    have h := of_if_t h
    refine wpS.take 3 false (some 11) (.bool true) (by kernel_rfl) (yld fun _ => by kernel_rfl) ?_
    refine wpS.only 4 (op_alloc (t := 23) (d := (some 1)) (by kernel_rfl) hs ([.int .i64 0, .int .i64 0, .int .i32 0, .int .i64 0, .int .i32 0, .int .i32 0, .int .i64 0, .int .i64 0]) (.agg #[.int .i64 0, .int .i64 0, .int .i32 0, .int .i64 0, .int .i32 0, .int .i32 0, .int .i64 0, .int .i64 0]) (by kernel_rfl) (by kernel_rfl) (by kernel_rfl) ?_)
    intro b3 w gw hs
    refine ⟨fun _ => trivial, ?_⟩
    refine wpS.only 5 (op_storeW (t := 23) (v := .agg #[.int .i64 r1_0, .int .i64 r1_1, .int .i32 r1_2, .int .i64 r1_3, .int .i32 r1_4, .int .i32 r1_5, .int .i64 r1_6, .int .i64 r1_7]) (d := none) (by kernel_rfl) hs 0 rfl (vs := [.int .i64 r1_0, .int .i64 r1_1, .int .i32 r1_2, .int .i64 r1_3, .int .i32 r1_4, .int .i32 r1_5, .int .i64 r1_6, .int .i64 r1_7]) (n := 8) (by kernel_rfl) (by kernel_rfl) (by kernel_rfl) (by simp [enc_len]) (by simp [enc_len]) (by simp [Value.oneCell']) ?_)
    intro w kp hs
    refine ⟨fun _ => trivial, ?_⟩
    refine wpS.take 6 false (some 2) (.bool true) (by kernel_rfl) (yld fun _ => by kernel_rfl) ?_
    refine wpS.fin rfl (kr4 _ _ ?_)
    refine then_n (ks3 _ _ ?_)
    refine xseq_k fun KS5 ks5 => ?_
    refine wp_regS (l := [0, 1, 2, 3, 4, 5, 6, 7, 8]) (by kernel_rfl) (by kernel_rfl) fun KR6 kr6 => ?_
    refine wpS.take 0 true (some 13) (.agg #[.int .i64 r1_0, .int .i64 r1_1, .int .i32 r1_2, .int .i64 r1_3, .int .i32 r1_4, .int .i32 r1_5, .int .i64 r1_6, .int .i64 r1_7]) (by kernel_rfl) (yld_loadW (e := 23) (n := 8) hs 0 rfl (by kernel_rfl) (by kernel_rfl) (by kernel_rfl) (by simp [enc_len]) .grow) ?_
    obtain ⟨⟨r4, r5, r6⟩, hg, h⟩ := of_bind h
    refine wpS.only 1 (op_call (d := (some 14)) (by kernel_rfl) hs (fun _ => by kernel_rfl) (dpack_Sizes.ok hg _) ?_)
    intro w gw hs
    refine ⟨fun _ => trivial, ?_⟩
    refine wpS.take 2 false (some 12) (.tuple #[.int .i64 r4, .int .i64 r5, .int .i64 r6]) (by kernel_rfl) (yld fun _ => by kernel_rfl) ?_
    refine wpS.take 3 false (some 15) (.int .i64 r4) (by kernel_rfl) (yld fun _ => by kernel_rfl) ?_
    refine wpS.take 4 false (some 16) (.int .i64 r5) (by kernel_rfl) (yld fun _ => by kernel_rfl) ?_
    refine wpS.take 5 false (some 17) (.int .i64 r6) (by kernel_rfl) (yld fun _ => by kernel_rfl) ?_
    refine wpS.take 6 false (some 3) (.int .i64 r4) (by kernel_rfl) (yld fun _ => by kernel_rfl) ?_
    refine wpS.take 7 false (some 4) (.int .i64 r5) (by kernel_rfl) (yld fun _ => by kernel_rfl) ?_
    refine wpS.take 8 false (some 5) (.int .i64 r6) (by kernel_rfl) (yld fun _ => by kernel_rfl) ?_
    refine wpS.fin rfl (kr6 _ _ ?_)
    refine then_n (ks5 _ _ ?_)
    refine xseq_k fun KS7 ks7 => ?_
    refine wp_regS (l := [0, 1, 2, 3, 4, 5, 6]) (by kernel_rfl) (by kernel_rfl) fun KR8 kr8 => ?_
    obtain ⟨⟨r7_0, r7_1, r7_2, r7_3, r7_4, r7_5, r7_6, r7_7, r8⟩, hg, h⟩ := of_bind h
    refine wpS.only 0 (op_call (d := (some 19)) (by kernel_rfl) hs (fun _ => by kernel_rfl) (dpack_Set.ok hg _) ?_)
    intro w gw hs
    refine ⟨fun _ => trivial, ?_⟩
    refine wpS.take 1 false (some 18) (.tuple #[.agg #[.int .i64 r7_0, .int .i64 r7_1, .int .i32 r7_2, .int .i64 r7_3, .int .i32 r7_4, .int .i32 r7_5, .int .i64 r7_6, .int .i64 r7_7], .bool r8]) (by kernel_rfl) (yld fun _ => by kernel_rfl) ?_
    refine wpS.take 2 false (some 20) (.agg #[.int .i64 r7_0, .int .i64 r7_1, .int .i32 r7_2, .int .i64 r7_3, .int .i32 r7_4, .int .i32 r7_5, .int .i64 r7_6, .int .i64 r7_7]) (by kernel_rfl) (yld fun _ => by kernel_rfl) ?_
    cases r8 with
    | true =>
      have h := of_if_t h
      refine wpS.take 3 false (some 21) (.bool true) (by kernel_rfl) (yld fun _ => by kernel_rfl) ?_
      refine wpS.only 4 (op_alloc (t := 23) (d := (some 6)) (by kernel_rfl) hs ([.int .i64 0, .int .i64 0, .int .i32 0, .int .i64 0, .int .i32 0, .int .i32 0, .int .i64 0, .int .i64 0]) (.agg #[.int .i64 0, .int .i64 0, .int .i32 0, .int .i64 0, .int .i32 0, .int .i32 0, .int .i64 0, .int .i64 0]) (by kernel_rfl) (by kernel_rfl) (by kernel_rfl) ?_)
      intro b9 w gw hs
      refine ⟨fun _ => trivial, ?_⟩
      refine wpS.only 5 (op_storeW (t := 23) (v := .agg #[.int .i64 r7_0, .int .i64 r7_1, .int .i32 r7_2, .int .i64 r7_3, .int .i32 r7_4, .int .i32 r7_5, .int .i64 r7_6, .int .i64 r7_7]) (d := none) (by kernel_rfl) hs 0 rfl (vs := [.int .i64 r7_0, .int .i64 r7_1, .int .i32 r7_2, .int .i64 r7_3, .int .i32 r7_4, .int .i32 r7_5, .int .i64 r7_6, .int .i64 r7_7]) (n := 8) (by kernel_rfl) (by kernel_rfl) (by kernel_rfl) (by simp [enc_len]) (by simp [enc_len]) (by simp [Value.oneCell']) ?_)
      intro w kp hs
      refine ⟨fun _ => trivial, ?_⟩
      refine wpS.take 6 false (some 7) (.bool true) (by kernel_rfl) (yld fun _ => by kernel_rfl) ?_
      refine wpS.fin rfl (kr8 _ _ ?_)
      refine then_n (ks7 _ _ ?_)
      refine xseq_k fun KS9 ks9 => ?_
      refine wp_regS (l := [0, 1, 2, 3, 4, 5, 6, 7, 8, 9, 10, 11, 12, 13, 14, 15, 16, 17, 18, 19, 20, 21, 22, 23, 24]) (by kernel_rfl) (by kernel_rfl) fun KR10 kr10 => ?_
      refine wpS.take 0 false (some 22) (.bool true) (by kernel_rfl) (yld fun _ => by kernel_rfl) ?_
      refine wpS.take 1 false (some 23) (.bool true) (by kernel_rfl) (yld fun _ => by kernel_rfl) ?_
      refine wpS.take 2 false (some 24) (.int .i64 r4) (by kernel_rfl) (yld fun _ => by kernel_rfl) ?_
      rcases of_if h with ⟨hc, h⟩ | ⟨hc, h⟩
      · refine wpS.take 3 false (some 25) (.bool true) (by kernel_rfl) (yld_b (et hc) (fun _ => by kernel_rfl)) ?_
        refine wpS.take 4 false (some 26) (.bool true) (by kernel_rfl) (yld fun _ => by kernel_rfl) ?_
        refine wpS.take 5 false (some 27) (.bool true) (by kernel_rfl) (yld fun _ => by kernel_rfl) ?_
        refine wpS.take 6 false (some 28) (.int .i64 r5) (by kernel_rfl) (yld fun _ => by kernel_rfl) ?_
        rcases of_if h with ⟨hc, h⟩ | ⟨hc, h⟩
        · refine wpS.take 7 false (some 29) (.bool true) (by kernel_rfl) (yld_b (et hc) (fun _ => by kernel_rfl)) ?_
          refine wpS.take 8 false (some 30) (.bool true) (by kernel_rfl) (yld fun _ => by kernel_rfl) ?_
          refine wpS.take 9 false (some 31) (.bool true) (by kernel_rfl) (yld fun _ => by kernel_rfl) ?_
          refine wpS.take 10 false (some 32) (.int .i64 r6) (by kernel_rfl) (yld fun _ => by kernel_rfl) ?_
          rcases of_if h with ⟨hc, h⟩ | ⟨hc, h⟩
          · refine wpS.take 11 false (some 33) (.bool true) (by kernel_rfl) (yld_b (et hc) (fun _ => by kernel_rfl)) ?_
            refine wpS.take 12 false (some 34) (.bool true) (by kernel_rfl) (yld fun _ => by kernel_rfl) ?_
            refine wpS.take 13 false (some 35) (.bool true) (by kernel_rfl) (yld fun _ => by kernel_rfl) ?_
            refine wpS.take 14 false (some 36) (.bool true) (by kernel_rfl) (yld fun _ => by kernel_rfl) ?_
            refine wpS.take 15 false (some 37) (.bool false) (by kernel_rfl) (yld fun _ => by kernel_rfl) ?_
            refine wpS.take 16 false (some 38) (.bool false) (by kernel_rfl) (yld fun _ => by kernel_rfl) ?_
            refine wpS.take 17 false (some 39) (.bool false) (by kernel_rfl) (yld fun _ => by kernel_rfl) ?_
            refine wpS.take 18 false (some 40) (undef) (by kernel_rfl) (yld fun _ => by kernel_rfl) ?_
            refine wpS.take 19 false (some 41) (undef) (by kernel_rfl) (yld fun _ => by kernel_rfl) ?_
            refine wpS.take 20 false (some 42) (undef) (by kernel_rfl) (yld fun _ => by kernel_rfl) ?_
            refine wpS.take 21 false (some 43) (undef) (by kernel_rfl) (yld fun _ => by kernel_rfl) ?_
            refine wpS.take 22 false (some 44) (undef) (by kernel_rfl) (yld fun _ => by kernel_rfl) ?_
            refine wpS.take 23 false (some 45) (.bool false) (by kernel_rfl) (yld fun _ => by kernel_rfl) ?_
            refine wpS.take 24 false (some 0) (.bool false) (by kernel_rfl) (yld fun _ => by kernel_rfl) ?_
            refine wpS.fin rfl (kr10 _ _ ?_)
            refine then_n (ks9 _ _ ?_)
            refine xret ?_
            have q0 := of_some h
            subst q0
            exact qq _ _ (post_ret (by kernel_rfl) (run_results [.tmp 0] [.bool false] (by kernel_rfl) (.cons (res_tmp (by kernel_rfl)) .nil)) ⟨congrArg Ending.returned (by kernel_rfl), hs.none⟩)
          · refine wpS.take 11 false (some 33) (.bool false) (by kernel_rfl) (yld_b (ef hc) (fun _ => by kernel_rfl)) ?_
            refine wpS.take 12 false (some 34) (.bool false) (by kernel_rfl) (yld fun _ => by kernel_rfl) ?_
            refine wpS.take 13 false (some 35) (.bool false) (by kernel_rfl) (yld fun _ => by kernel_rfl) ?_
            refine wpS.take 14 false (some 36) (undef) (by kernel_rfl) (yld fun _ => by kernel_rfl) ?_
            refine wpS.take 15 false (some 37) (undef) (by kernel_rfl) (yld fun _ => by kernel_rfl) ?_
            refine wpS.take 16 false (some 38) (.bool false) (by kernel_rfl) (yld fun _ => by kernel_rfl) ?_
            refine wpS.take 17 false (some 39) (.bool false) (by kernel_rfl) (yld fun _ => by kernel_rfl) ?_
            refine wpS.take 18 false (some 40) (undef) (by kernel_rfl) (yld fun _ => by kernel_rfl) ?_
            refine wpS.take 19 false (some 41) (undef) (by kernel_rfl) (yld fun _ => by kernel_rfl) ?_
            refine wpS.take 20 false (some 42) (undef) (by kernel_rfl) (yld fun _ => by kernel_rfl) ?_
            refine wpS.take 21 false (some 43) (undef) (by kernel_rfl) (yld fun _ => by kernel_rfl) ?_
            refine wpS.take 22 false (some 44) (undef) (by kernel_rfl) (yld fun _ => by kernel_rfl) ?_
            refine wpS.take 23 false (some 45) (.bool false) (by kernel_rfl) (yld fun _ => by kernel_rfl) ?_
            refine wpS.take 24 false (some 0) (.bool false) (by kernel_rfl) (yld fun _ => by kernel_rfl) ?_
            refine wpS.fin rfl (kr10 _ _ ?_)
            refine then_n (ks9 _ _ ?_)
            refine xret ?_
            have q0 := of_some h
            subst q0
            exact qq _ _ (post_ret (by kernel_rfl) (run_results [.tmp 0] [.bool false] (by kernel_rfl) (.cons (res_tmp (by kernel_rfl)) .nil)) ⟨congrArg Ending.returned (by kernel_rfl), hs.none⟩)
        · refine wpS.take 7 false (some 29) (.bool false) (by kernel_rfl) (yld_b (ef hc) (fun _ => by kernel_rfl)) ?_
          refine wpS.take 8 false (some 30) (.bool false) (by kernel_rfl) (yld fun _ => by kernel_rfl) ?_
          refine wpS.take 9 false (some 31) (.bool false) (by kernel_rfl) (yld fun _ => by kernel_rfl) ?_
          refine wpS.take 10 false (some 32) (undef) (by kernel_rfl) (yld fun _ => by kernel_rfl) ?_
          refine wpS.take 11 false (some 33) (undef) (by kernel_rfl) (yld fun _ => by kernel_rfl) ?_
          refine wpS.take 12 false (some 34) (.bool false) (by kernel_rfl) (yld fun _ => by kernel_rfl) ?_
          refine wpS.take 13 false (some 35) (.bool false) (by kernel_rfl) (yld fun _ => by kernel_rfl) ?_
          refine wpS.take 14 false (some 36) (undef) (by kernel_rfl) (yld fun _ => by kernel_rfl) ?_
          refine wpS.take 15 false (some 37) (undef) (by kernel_rfl) (yld fun _ => by kernel_rfl) ?_
          refine wpS.take 16 false (some 38) (.bool false) (by kernel_rfl) (yld fun _ => by kernel_rfl) ?_
          refine wpS.take 17 false (some 39) (.bool false) (by kernel_rfl) (yld fun _ => by kernel_rfl) ?_
          refine wpS.take 18 false (some 40) (undef) (by kernel_rfl) (yld fun _ => by kernel_rfl) ?_
          refine wpS.take 19 false (some 41) (undef) (by kernel_rfl) (yld fun _ => by kernel_rfl) ?_
          refine wpS.take 20 false (some 42) (undef) (by kernel_rfl) (yld fun _ => by kernel_rfl) ?_
          refine wpS.take 21 false (some 43) (undef) (by kernel_rfl) (yld fun _ => by kernel_rfl) ?_
          refine wpS.take 22 false (some 44) (undef) (by kernel_rfl) (yld fun _ => by kernel_rfl) ?_
          refine wpS.take 23 false (some 45) (.bool false) (by kernel_rfl) (yld fun _ => by kernel_rfl) ?_
          refine wpS.take 24 false (some 0) (.bool false) (by kernel_rfl) (yld fun _ => by kernel_rfl) ?_
          refine wpS.fin rfl (kr10 _ _ ?_)
          refine then_n (ks9 _ _ ?_)
          refine xret ?_
          have q0 := of_some h
          subst q0
          exact qq _ _ (post_ret (by kernel_rfl) (run_results [.tmp 0] [.bool false] (by kernel_rfl) (.cons (res_tmp (by kernel_rfl)) .nil)) ⟨congrArg Ending.returned (by kernel_rfl), hs.none⟩)
      · refine wpS.take 3 false (some 25) (.bool false) (by kernel_rfl) (yld_b (ef hc) (fun _ => by kernel_rfl)) ?_
        refine wpS.take 4 false (some 26) (.bool false) (by kernel_rfl) (yld fun _ => by kernel_rfl) ?_
        refine wpS.take 5 false (some 27) (.bool false) (by kernel_rfl) (yld fun _ => by kernel_rfl) ?_
        refine wpS.take 6 false (some 28) (undef) (by kernel_rfl) (yld fun _ => by kernel_rfl) ?_
        refine wpS.take 7 false (some 29) (undef) (by kernel_rfl) (yld fun _ => by kernel_rfl) ?_
        refine wpS.take 8 false (some 30) (.bool false) (by kernel_rfl) (yld fun _ => by kernel_rfl) ?_
        refine wpS.take 9 false (some 31) (.bool false) (by kernel_rfl) (yld fun _ => by kernel_rfl) ?_
        refine wpS.take 10 false (some 32) (undef) (by kernel_rfl) (yld fun _ => by kernel_rfl) ?_
        refine wpS.take 11 false (some 33) (undef) (by kernel_rfl) (yld fun _ => by kernel_rfl) ?_
        refine wpS.take 12 false (some 34) (.bool false) (by kernel_rfl) (yld fun _ => by kernel_rfl) ?_
        refine wpS.take 13 false (some 35) (.bool false) (by kernel_rfl) (yld fun _ => by kernel_rfl) ?_
        refine wpS.take 14 false (some 36) (undef) (by kernel_rfl) (yld fun _ => by kernel_rfl) ?_
        refine wpS.take 15 false (some 37) (undef) (by kernel_rfl) (yld fun _ => by kernel_rfl) ?_
        refine wpS.take 16 false (some 38) (.bool false) (by kernel_rfl) (yld fun _ => by kernel_rfl) ?_
        refine wpS.take 17 false (some 39) (.bool false) (by kernel_rfl) (yld fun _ => by kernel_rfl) ?_
        refine wpS.take 18 false (some 40) (undef) (by kernel_rfl) (yld fun _ => by kernel_rfl) ?_
        refine wpS.take 19 false (some 41) (undef) (by kernel_rfl) (yld fun _ => by kernel_rfl) ?_
        refine wpS.take 20 false (some 42) (undef) (by kernel_rfl) (yld fun _ => by kernel_rfl) ?_
        refine wpS.take 21 false (some 43) (undef) (by kernel_rfl) (yld fun _ => by kernel_rfl) ?_
        refine wpS.take 22 false (some 44) (undef) (by kernel_rfl) (yld fun _ => by kernel_rfl) ?_
        refine wpS.take 23 false (some 45) (.bool false) (by kernel_rfl) (yld fun _ => by kernel_rfl) ?_
        refine wpS.take 24 false (some 0) (.bool false) (by kernel_rfl) (yld fun _ => by kernel_rfl) ?_
        refine wpS.fin rfl (kr10 _ _ ?_)
        refine then_n (ks9 _ _ ?_)
        refine xret ?_
        have q0 := of_some h
        subst q0
        exact qq _ _ (post_ret (by kernel_rfl) (run_results [.tmp 0] [.bool false] (by kernel_rfl) (.cons (res_tmp (by kernel_rfl)) .nil)) ⟨congrArg Ending.returned (by kernel_rfl), hs.none⟩)
    | false =>
      have h := of_if_f h
      refine wpS.take 3 false (some 21) (.bool false) (by kernel_rfl) (yld fun _ => by kernel_rfl) ?_
      refine wpS.only 4 (op_alloc (t := 23) (d := (some 6)) (by kernel_rfl) hs ([.int .i64 0, .int .i64 0, .int .i32 0, .int .i64 0, .int .i32 0, .int .i32 0, .int .i64 0, .int .i64 0]) (.agg #[.int .i64 0, .int .i64 0, .int .i32 0, .int .i64 0, .int .i32 0, .int .i32 0, .int .i64 0, .int .i64 0]) (by kernel_rfl) (by kernel_rfl) (by kernel_rfl) ?_)
      intro b10 w gw hs
      refine ⟨fun _ => trivial, ?_⟩
      refine wpS.only 5 (op_storeW (t := 23) (v := .agg #[.int .i64 r7_0, .int .i64 r7_1, .int .i32 r7_2, .int .i64 r7_3, .int .i32 r7_4, .int .i32 r7_5, .int .i64 r7_6, .int .i64 r7_7]) (d := none) (by kernel_rfl) hs 0 rfl (vs := [.int .i64 r7_0, .int .i64 r7_1, .int .i32 r7_2, .int .i64 r7_3, .int .i32 r7_4, .int .i32 r7_5, .int .i64 r7_6, .int .i64 r7_7]) (n := 8) (by kernel_rfl) (by kernel_rfl) (by kernel_rfl) (by simp [enc_len]) (by simp [enc_len]) (by simp [Value.oneCell']) ?_)
      intro w kp hs
      refine ⟨fun _ => trivial, ?_⟩
      refine wpS.take 6 false (some 7) (.bool false) (by kernel_rfl) (yld fun _ => by kernel_rfl) ?_
      refine wpS.fin rfl (kr8 _ _ ?_)
      refine then_n (ks7 _ _ ?_)
      refine xseq_k fun KS11 ks11 => ?_
      refine wp_regS (l := [0, 1, 2, 3, 4, 5, 6, 7, 8, 9, 10, 11, 12, 13, 14, 15, 16, 17, 18, 19, 20, 21, 22, 23, 24]) (by kernel_rfl) (by kernel_rfl) fun KR12 kr12 => ?_
      refine wpS.take 0 false (some 22) (.bool true) (by kernel_rfl) (yld fun _ => by kernel_rfl) ?_
      refine wpS.take 1 false (some 23) (.bool true) (by kernel_rfl) (yld fun _ => by kernel_rfl) ?_
      refine wpS.take 2 false (some 24) (.int .i64 r4) (by kernel_rfl) (yld fun _ => by kernel_rfl) ?_
      rcases of_if h with ⟨hc, h⟩ | ⟨hc, h⟩
      · refine wpS.take 3 false (some 25) (.bool true) (by kernel_rfl) (yld_b (et hc) (fun _ => by kernel_rfl)) ?_
        refine wpS.take 4 false (some 26) (.bool true) (by kernel_rfl) (yld fun _ => by kernel_rfl) ?_
        refine wpS.take 5 false (some 27) (.bool true) (by kernel_rfl) (yld fun _ => by kernel_rfl) ?_
        refine wpS.take 6 false (some 28) (.int .i64 r5) (by kernel_rfl) (yld fun _ => by kernel_rfl) ?_
        rcases of_if h with ⟨hc, h⟩ | ⟨hc, h⟩
        · refine wpS.take 7 false (some 29) (.bool true) (by kernel_rfl) (yld_b (et hc) (fun _ => by kernel_rfl)) ?_
          refine wpS.take 8 false (some 30) (.bool true) (by kernel_rfl) (yld fun _ => by kernel_rfl) ?_
          refine wpS.take 9 false (some 31) (.bool true) (by kernel_rfl) (yld fun _ => by kernel_rfl) ?_
          refine wpS.take 10 false (some 32) (.int .i64 r6) (by kernel_rfl) (yld fun _ => by kernel_rfl) ?_
          rcases of_if h with ⟨hc, h⟩ | ⟨hc, h⟩
          · refine wpS.take 11 false (some 33) (.bool true) (by kernel_rfl) (yld_b (et hc) (fun _ => by kernel_rfl)) ?_
            refine wpS.take 12 false (some 34) (.bool true) (by kernel_rfl) (yld fun _ => by kernel_rfl) ?_
            refine wpS.take 13 false (some 35) (.bool true) (by kernel_rfl) (yld fun _ => by kernel_rfl) ?_
            refine wpS.take 14 false (some 36) (.bool false) (by kernel_rfl) (yld fun _ => by kernel_rfl) ?_
            refine wpS.take 15 false (some 37) (.bool true) (by kernel_rfl) (yld fun _ => by kernel_rfl) ?_
            refine wpS.take 16 false (some 38) (.bool true) (by kernel_rfl) (yld fun _ => by kernel_rfl) ?_
            refine wpS.take 17 false (some 39) (.bool true) (by kernel_rfl) (yld fun _ => by kernel_rfl) ?_
            refine wpS.take 18 false (some 40) (.agg (enc .i32 (zeroA 256)).toArray) (by kernel_rfl) (yld fun _ => by kernel_rfl) ?_
            refine wpS.only 19 (op_lit (C := (CA .i32 256 (by decide))) (t := 25) (e := 40) (len := 1) (parts := #[(0, .agg (enc .i32 (zeroA 256)).toArray)]) (l := [(zeroA 256)]) (d := (some 41)) (by kernel_rfl) hs (by kernel_rfl) (by kernel_rfl) (by kernel_rfl) (z := .agg (enc .i32 (zeroA 256)).toArray) (by kernel_rfl) rfl (by decide) (by decide) (by kernel_rfl) ?_)
            intro s11_A s11_n s11_c w gw hs
            refine ⟨fun _ => trivial, ?_⟩
            obtain ⟨r12, hg, h⟩ := of_bind h
            refine wpS.only 20 (op_callH (d := (some 42)) (by kernel_rfl) hs (fun _ => by kernel_rfl) (dpack_Hints.ok hg _ (hs.rowL 0 rfl)) ?_)
            rintro ⟨r12_A, r12_n, r12_c⟩ w gw hs
            have hs := hs.conv (L' := [.ownL (CI .u8) r12_A r12_n r12_c r12 5, .ownL (CA .i32 256 (by decide)) s11_A s11_n s11_c ([(zeroA 256)] : List (Arr 256)) 40, .blk b10 ([.int .i64 r7_0, .int .i64 r7_1, .int .i32 r7_2, .int .i64 r7_3, .int .i32 r7_4, .int .i32 r7_5, .int .i64 r7_6, .int .i64 r7_7]) 23, .blk b3 ([.int .i64 r1_0, .int .i64 r1_1, .int .i32 r1_2, .int .i64 r1_3, .int .i32 r1_4, .int .i32 r1_5, .int .i64 r1_6, .int .i64 r1_7]) 23]) rfl
            refine ⟨fun _ => trivial, ?_⟩
            refine wpS.only 21 (op_lit (C := (CI .u8)) (t := 24) (e := 5) (len := 3) (parts := #[(0, .int .u8 0), (1, .int .u8 0), (2, .int .u8 0)]) (l := [0, 0, 0]) (d := (some 43)) (by kernel_rfl) hs (by kernel_rfl) (by kernel_rfl) (by kernel_rfl) (z := .int .u8 0) (by kernel_rfl) rfl (by decide) (by decide) (by kernel_rfl) ?_)
            intro s13_A s13_n s13_c w gw hs
            refine ⟨fun _ => trivial, ?_⟩
            obtain ⟨r14, hg, h⟩ := of_bind h
            refine wpS.only 22 (op_call (d := (some 44)) (by kernel_rfl) hs (fun _ => by kernel_rfl) (ref01_Same.ok hg _ (hs.rowL 1 rfl) (hs.rowL 0 rfl)) ?_)
            intro w gw hs
            refine ⟨fun _ => trivial, ?_⟩
            refine wpS.take 23 false (some 45) (.bool r14) (by kernel_rfl) (yld fun _ => by kernel_rfl) ?_
            refine wpS.take 24 false (some 0) (.bool r14) (by kernel_rfl) (yld fun _ => by kernel_rfl) ?_
            refine wpS.fin rfl (kr12 _ _ ?_)
            refine then_n (ks11 _ _ ?_)
            refine xret ?_
            have q0 := of_some h
            subst q0
            exact qq _ _ (post_ret (by kernel_rfl) (run_results [.tmp 0] [.bool r14] (by kernel_rfl) (.cons (res_tmp (by kernel_rfl)) .nil)) ⟨congrArg Ending.returned (by kernel_rfl), hs.none⟩)
          · refine wpS.take 11 false (some 33) (.bool false) (by kernel_rfl) (yld_b (ef hc) (fun _ => by kernel_rfl)) ?_
            refine wpS.take 12 false (some 34) (.bool false) (by kernel_rfl) (yld fun _ => by kernel_rfl) ?_
            refine wpS.take 13 false (some 35) (.bool false) (by kernel_rfl) (yld fun _ => by kernel_rfl) ?_
            refine wpS.take 14 false (some 36) (undef) (by kernel_rfl) (yld fun _ => by kernel_rfl) ?_
            refine wpS.take 15 false (some 37) (undef) (by kernel_rfl) (yld fun _ => by kernel_rfl) ?_
            refine wpS.take 16 false (some 38) (.bool false) (by kernel_rfl) (yld fun _ => by kernel_rfl) ?_
            refine wpS.take 17 false (some 39) (.bool false) (by kernel_rfl) (yld fun _ => by kernel_rfl) ?_
            refine wpS.take 18 false (some 40) (undef) (by kernel_rfl) (yld fun _ => by kernel_rfl) ?_
            refine wpS.take 19 false (some 41) (undef) (by kernel_rfl) (yld fun _ => by kernel_rfl) ?_
            refine wpS.take 20 false (some 42) (undef) (by kernel_rfl) (yld fun _ => by kernel_rfl) ?_
            refine wpS.take 21 false (some 43) (undef) (by kernel_rfl) (yld fun _ => by kernel_rfl) ?_
            refine wpS.take 22 false (some 44) (undef) (by kernel_rfl) (yld fun _ => by kernel_rfl) ?_
            refine wpS.take 23 false (some 45) (.bool false) (by kernel_rfl) (yld fun _ => by kernel_rfl) ?_
            refine wpS.take 24 false (some 0) (.bool false) (by kernel_rfl) (yld fun _ => by kernel_rfl) ?_
            refine wpS.fin rfl (kr12 _ _ ?_)
            refine then_n (ks11 _ _ ?_)
            refine xret ?_
            have q0 := of_some h
            subst q0
            exact qq _ _ (post_ret (by kernel_rfl) (run_results [.tmp 0] [.bool false] (by kernel_rfl) (.cons (res_tmp (by kernel_rfl)) .nil)) ⟨congrArg Ending.returned (by kernel_rfl), hs.none⟩)
        · refine wpS.take 7 false (some 29) (.bool false) (by kernel_rfl) (yld_b (ef hc) (fun _ => by kernel_rfl)) ?_
          refine wpS.take 8 false (some 30) (.bool false) (by kernel_rfl) (yld fun _ => by kernel_rfl) ?_
          refine wpS.take 9 false (some 31) (.bool false) (by kernel_rfl) (yld fun _ => by kernel_rfl) ?_
          refine wpS.take 10 false (some 32) (undef) (by kernel_rfl) (yld fun _ => by kernel_rfl) ?_
          refine wpS.take 11 false (some 33) (undef) (by kernel_rfl) (yld fun _ => by kernel_rfl) ?_
          refine wpS.take 12 false (some 34) (.bool false) (by kernel_rfl) (yld fun _ => by kernel_rfl) ?_
          refine wpS.take 13 false (some 35) (.bool false) (by kernel_rfl) (yld fun _ => by kernel_rfl) ?_
          refine wpS.take 14 false (some 36) (undef) (by kernel_rfl) (yld fun _ => by kernel_rfl) ?_
          refine wpS.take 15 false (some 37) (undef) (by kernel_rfl) (yld fun _ => by kernel_rfl) ?_
          refine wpS.take 16 false (some 38) (.bool false) (by kernel_rfl) (yld fun _ => by kernel_rfl) ?_
          refine wpS.take 17 false (some 39) (.bool false) (by kernel_rfl) (yld fun _ => by kernel_rfl) ?_
          refine wpS.take 18 false (some 40) (undef) (by kernel_rfl) (yld fun _ => by kernel_rfl) ?_
          refine wpS.take 19 false (some 41) (undef) (by kernel_rfl) (yld fun _ => by kernel_rfl) ?_
          refine wpS.take 20 false (some 42) (undef) (by kernel_rfl) (yld fun _ => by kernel_rfl) ?_
          refine wpS.take 21 false (some 43) (undef) (by kernel_rfl) (yld fun _ => by kernel_rfl) ?_
          refine wpS.take 22 false (some 44) (undef) (by kernel_rfl) (yld fun _ => by kernel_rfl) ?_
          refine wpS.take 23 false (some 45) (.bool false) (by kernel_rfl) (yld fun _ => by kernel_rfl) ?_
          refine wpS.take 24 false (some 0) (.bool false) (by kernel_rfl) (yld fun _ => by kernel_rfl) ?_
          refine wpS.fin rfl (kr12 _ _ ?_)
          refine then_n (ks11 _ _ ?_)
          refine xret ?_
          have q0 := of_some h
          subst q0
          exact qq _ _ (post_ret (by kernel_rfl) (run_results [.tmp 0] [.bool false] (by kernel_rfl) (.cons (res_tmp (by kernel_rfl)) .nil)) ⟨congrArg Ending.returned (by kernel_rfl), hs.none⟩)
      · refine wpS.take 3 false (some 25) (.bool false) (by kernel_rfl) (yld_b (ef hc) (fun _ => by kernel_rfl)) ?_
        refine wpS.take 4 false (some 26) (.bool false) (by kernel_rfl) (yld fun _ => by kernel_rfl) ?_
        refine wpS.take 5 false (some 27) (.bool false) (by kernel_rfl) (yld fun _ => by kernel_rfl) ?_
        refine wpS.take 6 false (some 28) (undef) (by kernel_rfl) (yld fun _ => by kernel_rfl) ?_
        refine wpS.take 7 false (some 29) (undef) (by kernel_rfl) (yld fun _ => by kernel_rfl) ?_
        refine wpS.take 8 false (some 30) (.bool false) (by kernel_rfl) (yld fun _ => by kernel_rfl) ?_
        refine wpS.take 9 false (some 31) (.bool false) (by kernel_rfl) (yld fun _ => by kernel_rfl) ?_
        refine wpS.take 10 false (some 32) (undef) (by kernel_rfl) (yld fun _ => by kernel_rfl) ?_
        refine wpS.take 11 false (some 33) (undef) (by kernel_rfl) (yld fun _ => by kernel_rfl) ?_
        refine wpS.take 12 false (some 34) (.bool false) (by kernel_rfl) (yld fun _ => by kernel_rfl) ?_
        refine wpS.take 13 false (some 35) (.bool false) (by kernel_rfl) (yld fun _ => by kernel_rfl) ?_
        refine wpS.take 14 false (some 36) (undef) (by kernel_rfl) (yld fun _ => by kernel_rfl) ?_
        refine wpS.take 15 false (some 37) (undef) (by kernel_rfl) (yld fun _ => by kernel_rfl) ?_
        refine wpS.take 16 false (some 38) (.bool false) (by kernel_rfl) (yld fun _ => by kernel_rfl) ?_
        refine wpS.take 17 false (some 39) (.bool false) (by kernel_rfl) (yld fun _ => by kernel_rfl) ?_
        refine wpS.take 18 false (some 40) (undef) (by kernel_rfl) (yld fun _ => by kernel_rfl) ?_
        refine wpS.take 19 false (some 41) (undef) (by kernel_rfl) (yld fun _ => by kernel_rfl) ?_
        refine wpS.take 20 false (some 42) (undef) (by kernel_rfl) (yld fun _ => by kernel_rfl) ?_
        refine wpS.take 21 false (some 43) (undef) (by kernel_rfl) (yld fun _ => by kernel_rfl) ?_
        refine wpS.take 22 false (some 44) (undef) (by kernel_rfl) (yld fun _ => by kernel_rfl) ?_
        refine wpS.take 23 false (some 45) (.bool false) (by kernel_rfl) (yld fun _ => by kernel_rfl) ?_
        refine wpS.take 24 false (some 0) (.bool false) (by kernel_rfl) (yld fun _ => by kernel_rfl) ?_
        refine wpS.fin rfl (kr12 _ _ ?_)
        refine then_n (ks11 _ _ ?_)
        refine xret ?_
        have q0 := of_some h
        subst q0
        exact qq _ _ (post_ret (by kernel_rfl) (run_results [.tmp 0] [.bool false] (by kernel_rfl) (.cons (res_tmp (by kernel_rfl)) .nil)) ⟨congrArg Ending.returned (by kernel_rfl), hs.none⟩)
  | false =>
    have h := of_if_f h
    refine wpS.take 3 false (some 11) (.bool false) (by kernel_rfl) (yld fun _ => by kernel_rfl) ?_
    refine wpS.only 4 (op_alloc (t := 23) (d := (some 1)) (by kernel_rfl) hs ([.int .i64 0, .int .i64 0, .int .i32 0, .int .i64 0, .int .i32 0, .int .i32 0, .int .i64 0, .int .i64 0]) (.agg #[.int .i64 0, .int .i64 0, .int .i32 0, .int .i64 0, .int .i32 0, .int .i32 0, .int .i64 0, .int .i64 0]) (by kernel_rfl) (by kernel_rfl) (by kernel_rfl) ?_)
    intro b15 w gw hs
    refine ⟨fun _ => trivial, ?_⟩
    refine wpS.only 5 (op_storeW (t := 23) (v := .agg #[.int .i64 r1_0, .int .i64 r1_1, .int .i32 r1_2, .int .i64 r1_3, .int .i32 r1_4, .int .i32 r1_5, .int .i64 r1_6, .int .i64 r1_7]) (d := none) (by kernel_rfl) hs 0 rfl (vs := [.int .i64 r1_0, .int .i64 r1_1, .int .i32 r1_2, .int .i64 r1_3, .int .i32 r1_4, .int .i32 r1_5, .int .i64 r1_6, .int .i64 r1_7]) (n := 8) (by kernel_rfl) (by kernel_rfl) (by kernel_rfl) (by simp [enc_len]) (by simp [enc_len]) (by simp [Value.oneCell']) ?_)
    intro w kp hs
    refine ⟨fun _ => trivial, ?_⟩
    refine wpS.take 6 false (some 2) (.bool false) (by kernel_rfl) (yld fun _ => by kernel_rfl) ?_
    refine wpS.fin rfl (kr4 _ _ ?_)
    refine then_n (ks3 _ _ ?_)
    refine xseq_k fun KS13 ks13 => ?_
    refine wp_regS (l := [0, 1, 2, 3, 4, 5, 6, 7, 8]) (by kernel_rfl) (by kernel_rfl) fun KR14 kr14 => ?_
    refine wpS.take 0 true (some 13) (.agg #[.int .i64 r1_0, .int .i64 r1_1, .int .i32 r1_2, .int .i64 r1_3, .int .i32 r1_4, .int .i32 r1_5, .int .i64 r1_6, .int .i64 r1_7]) (by kernel_rfl) (yld_loadW (e := 23) (n := 8) hs 0 rfl (by kernel_rfl) (by kernel_rfl) (by kernel_rfl) (by simp [enc_len]) .grow) ?_
    obtain ⟨⟨r16, r17, r18⟩, hg, h⟩ := of_bind h
    refine wpS.only 1 (op_call (d := (some 14)) (by kernel_rfl) hs (fun _ => by kernel_rfl) (dpack_Sizes.ok hg _) ?_)
    intro w gw hs
    refine ⟨fun _ => trivial, ?_⟩
    refine wpS.take 2 false (some 12) (.tuple #[.int .i64 r16, .int .i64 r17, .int .i64 r18]) (by kernel_rfl) (yld fun _ => by kernel_rfl) ?_
    refine wpS.take 3 false (some 15) (.int .i64 r16) (by kernel_rfl) (yld fun _ => by kernel_rfl) ?_
    refine wpS.take 4 false (some 16) (.int .i64 r17) (by kernel_rfl) (yld fun _ => by kernel_rfl) ?_
    refine wpS.take 5 false (some 17) (.int .i64 r18) (by kernel_rfl) (yld fun _ => by kernel_rfl) ?_
    refine wpS.take 6 false (some 3) (.int .i64 r16) (by kernel_rfl) (yld fun _ => by kernel_rfl) ?_
    refine wpS.take 7 false (some 4) (.int .i64 r17) (by kernel_rfl) (yld fun _ => by kernel_rfl) ?_
    refine wpS.take 8 false (some 5) (.int .i64 r18) (by kernel_rfl) (yld fun _ => by kernel_rfl) ?_
    refine wpS.fin rfl (kr14 _ _ ?_)
    refine then_n (ks13 _ _ ?_)
    refine xseq_k fun KS15 ks15 => ?_
    refine wp_regS (l := [0, 1, 2, 3, 4, 5, 6]) (by kernel_rfl) (by kernel_rfl) fun KR16 kr16 => ?_
    obtain ⟨⟨r19_0, r19_1, r19_2, r19_3, r19_4, r19_5, r19_6, r19_7, r20⟩, hg, h⟩ := of_bind h
    refine wpS.only 0 (op_call (d := (some 19)) (by kernel_rfl) hs (fun _ => by kernel_rfl) (dpack_Set.ok hg _) ?_)
    intro w gw hs
    refine ⟨fun _ => trivial, ?_⟩
    refine wpS.take 1 false (some 18) (.tuple #[.agg #[.int .i64 r19_0, .int .i64 r19_1, .int .i32 r19_2, .int .i64 r19_3, .int .i32 r19_4, .int .i32 r19_5, .int .i64 r19_6, .int .i64 r19_7], .bool r20]) (by kernel_rfl) (yld fun _ => by kernel_rfl) ?_
    refine wpS.take 2 false (some 20) (.agg #[.int .i64 r19_0, .int .i64 r19_1, .int .i32 r19_2, .int .i64 r19_3, .int .i32 r19_4, .int .i32 r19_5, .int .i64 r19_6, .int .i64 r19_7]) (by kernel_rfl) (yld fun _ => by kernel_rfl) ?_
    cases r20 with
    | true =>
      have h := of_if_t h
      refine wpS.take 3 false (some 21) (.bool true) (by kernel_rfl) (yld fun _ => by kernel_rfl) ?_
      refine wpS.only 4 (op_alloc (t := 23) (d := (some 6)) (by kernel_rfl) hs ([.int .i64 0, .int .i64 0, .int .i32 0, .int .i64 0, .int .i32 0, .int .i32 0, .int .i64 0, .int .i64 0]) (.agg #[.int .i64 0, .int .i64 0, .int .i32 0, .int .i64 0, .int .i32 0, .int .i32 0, .int .i64 0, .int .i64 0]) (by kernel_rfl) (by kernel_rfl) (by kernel_rfl) ?_)
      intro b21 w gw hs
      refine ⟨fun _ => trivial, ?_⟩
      refine wpS.only 5 (op_storeW (t := 23) (v := .agg #[.int .i64 r19_0, .int .i64 r19_1, .int .i32 r19_2, .int .i64 r19_3, .int .i32 r19_4, .int .i32 r19_5, .int .i64 r19_6, .int .i64 r19_7]) (d := none) (by kernel_rfl) hs 0 rfl (vs := [.int .i64 r19_0, .int .i64 r19_1, .int .i32 r19_2, .int .i64 r19_3, .int .i32 r19_4, .int .i32 r19_5, .int .i64 r19_6, .int .i64 r19_7]) (n := 8) (by kernel_rfl) (by kernel_rfl) (by kernel_rfl) (by simp [enc_len]) (by simp [enc_len]) (by simp [Value.oneCell']) ?_)
      intro w kp hs
      refine ⟨fun _ => trivial, ?_⟩
      refine wpS.take 6 false (some 7) (.bool true) (by kernel_rfl) (yld fun _ => by kernel_rfl) ?_
      refine wpS.fin rfl (kr16 _ _ ?_)
      refine then_n (ks15 _ _ ?_)
      refine xseq_k fun KS17 ks17 => ?_
      refine wp_regS (l := [0, 1, 2, 3, 4, 5, 6, 7, 8, 9, 10, 11, 12, 13, 14, 15, 16, 17, 18, 19, 20, 21, 22, 23, 24]) (by kernel_rfl) (by kernel_rfl) fun KR18 kr18 => ?_
      refine wpS.take 0 false (some 22) (.bool false) (by kernel_rfl) (yld fun _ => by kernel_rfl) ?_
      refine wpS.take 1 false (some 23) (.bool false) (by kernel_rfl) (yld fun _ => by kernel_rfl) ?_
      refine wpS.take 2 false (some 24) (undef) (by kernel_rfl) (yld fun _ => by kernel_rfl) ?_
      refine wpS.take 3 false (some 25) (undef) (by kernel_rfl) (yld fun _ => by kernel_rfl) ?_
      refine wpS.take 4 false (some 26) (.bool false) (by kernel_rfl) (yld fun _ => by kernel_rfl) ?_
      refine wpS.take 5 false (some 27) (.bool false) (by kernel_rfl) (yld fun _ => by kernel_rfl) ?_
      refine wpS.take 6 false (some 28) (undef) (by kernel_rfl) (yld fun _ => by kernel_rfl) ?_
      refine wpS.take 7 false (some 29) (undef) (by kernel_rfl) (yld fun _ => by kernel_rfl) ?_
      refine wpS.take 8 false (some 30) (.bool false) (by kernel_rfl) (yld fun _ => by kernel_rfl) ?_
      refine wpS.take 9 false (some 31) (.bool false) (by kernel_rfl) (yld fun _ => by kernel_rfl) ?_
      refine wpS.take 10 false (some 32) (undef) (by kernel_rfl) (yld fun _ => by kernel_rfl) ?_
      refine wpS.take 11 false (some 33) (undef) (by kernel_rfl) (yld fun _ => by kernel_rfl) ?_
      refine wpS.take 12 false (some 34) (.bool false) (by kernel_rfl) (yld fun _ => by kernel_rfl) ?_
      refine wpS.take 13 false (some 35) (.bool false) (by kernel_rfl) (yld fun _ => by kernel_rfl) ?_
      refine wpS.take 14 false (some 36) (undef) (by kernel_rfl) (yld fun _ => by kernel_rfl) ?_
      refine wpS.take 15 false (some 37) (undef) (by kernel_rfl) (yld fun _ => by kernel_rfl) ?_
      refine wpS.take 16 false (some 38) (.bool false) (by kernel_rfl) (yld fun _ => by kernel_rfl) ?_
      refine wpS.take 17 false (some 39) (.bool false) (by kernel_rfl) (yld fun _ => by kernel_rfl) ?_
      refine wpS.take 18 false (some 40) (undef) (by kernel_rfl) (yld fun _ => by kernel_rfl) ?_
      refine wpS.take 19 false (some 41) (undef) (by kernel_rfl) (yld fun _ => by kernel_rfl) ?_
      refine wpS.take 20 false (some 42) (undef) (by kernel_rfl) (yld fun _ => by kernel_rfl) ?_
      refine wpS.take 21 false (some 43) (undef) (by kernel_rfl) (yld fun _ => by kernel_rfl) ?_
      refine wpS.take 22 false (some 44) (undef) (by kernel_rfl) (yld fun _ => by kernel_rfl) ?_
      refine wpS.take 23 false (some 45) (.bool false) (by kernel_rfl) (yld fun _ => by kernel_rfl) ?_
      refine wpS.take 24 false (some 0) (.bool false) (by kernel_rfl) (yld fun _ => by kernel_rfl) ?_
      refine wpS.fin rfl (kr18 _ _ ?_)
      refine then_n (ks17 _ _ ?_)
      refine xret ?_
      have q0 := of_some h
      subst q0
      exact qq _ _ (post_ret (by kernel_rfl) (run_results [.tmp 0] [.bool false] (by kernel_rfl) (.cons (res_tmp (by kernel_rfl)) .nil)) ⟨congrArg Ending.returned (by kernel_rfl), hs.none⟩)
    | false =>
      have h := of_if_f h
      refine wpS.take 3 false (some 21) (.bool false) (by kernel_rfl) (yld fun _ => by kernel_rfl) ?_
      refine wpS.only 4 (op_alloc (t := 23) (d := (some 6)) (by kernel_rfl) hs ([.int .i64 0, .int .i64 0, .int .i32 0, .int .i64 0, .int .i32 0, .int .i32 0, .int .i64 0, .int .i64 0]) (.agg #[.int .i64 0, .int .i64 0, .int .i32 0, .int .i64 0, .int .i32 0, .int .i32 0, .int .i64 0, .int .i64 0]) (by kernel_rfl) (by kernel_rfl) (by kernel_rfl) ?_)
      intro b22 w gw hs
      refine ⟨fun _ => trivial, ?_⟩
      refine wpS.only 5 (op_storeW (t := 23) (v := .agg #[.int .i64 r19_0, .int .i64 r19_1, .int .i32 r19_2, .int .i64 r19_3, .int .i32 r19_4, .int .i32 r19_5, .int .i64 r19_6, .int .i64 r19_7]) (d := none) (by kernel_rfl) hs 0 rfl (vs := [.int .i64 r19_0, .int .i64 r19_1, .int .i32 r19_2, .int .i64 r19_3, .int .i32 r19_4, .int .i32 r19_5, .int .i64 r19_6, .int .i64 r19_7]) (n := 8) (by kernel_rfl) (by kernel_rfl) (by kernel_rfl) (by simp [enc_len]) (by simp [enc_len]) (by simp [Value.oneCell']) ?_)
      intro w kp hs
      refine ⟨fun _ => trivial, ?_⟩
      refine wpS.take 6 false (some 7) (.bool false) (by kernel_rfl) (yld fun _ => by kernel_rfl) ?_
      refine wpS.fin rfl (kr16 _ _ ?_)
      refine then_n (ks15 _ _ ?_)
      refine xseq_k fun KS19 ks19 => ?_
      refine wp_regS (l := [0, 1, 2, 3, 4, 5, 6, 7, 8, 9, 10, 11, 12, 13, 14, 15, 16, 17, 18, 19, 20, 21, 22, 23, 24]) (by kernel_rfl) (by kernel_rfl) fun KR20 kr20 => ?_
      refine wpS.take 0 false (some 22) (.bool false) (by kernel_rfl) (yld fun _ => by kernel_rfl) ?_
      refine wpS.take 1 false (some 23) (.bool false) (by kernel_rfl) (yld fun _ => by kernel_rfl) ?_
      refine wpS.take 2 false (some 24) (undef) (by kernel_rfl) (yld fun _ => by kernel_rfl) ?_
      refine wpS.take 3 false (some 25) (undef) (by kernel_rfl) (yld fun _ => by kernel_rfl) ?_
      refine wpS.take 4 false (some 26) (.bool false) (by kernel_rfl) (yld fun _ => by kernel_rfl) ?_
      refine wpS.take 5 false (some 27) (.bool false) (by kernel_rfl) (yld fun _ => by kernel_rfl) ?_
      refine wpS.take 6 false (some 28) (undef) (by kernel_rfl) (yld fun _ => by kernel_rfl) ?_
      refine wpS.take 7 false (some 29) (undef) (by kernel_rfl) (yld fun _ => by kernel_rfl) ?_
      refine wpS.take 8 false (some 30) (.bool false) (by kernel_rfl) (yld fun _ => by kernel_rfl) ?_
      refine wpS.take 9 false (some 31) (.bool false) (by kernel_rfl) (yld fun _ => by kernel_rfl) ?_
      refine wpS.take 10 false (some 32) (undef) (by kernel_rfl) (yld fun _ => by kernel_rfl) ?_
      refine wpS.take 11 false (some 33) (undef) (by kernel_rfl) (yld fun _ => by kernel_rfl) ?_
      refine wpS.take 12 false (some 34) (.bool false) (by kernel_rfl) (yld fun _ => by kernel_rfl) ?_
      refine wpS.take 13 false (some 35) (.bool false) (by kernel_rfl) (yld fun _ => by kernel_rfl) ?_
      refine wpS.take 14 false (some 36) (undef) (by kernel_rfl) (yld fun _ => by kernel_rfl) ?_
      refine wpS.take 15 false (some 37) (undef) (by kernel_rfl) (yld fun _ => by kernel_rfl) ?_
      refine wpS.take 16 false (some 38) (.bool false) (by kernel_rfl) (yld fun _ => by kernel_rfl) ?_
      refine wpS.take 17 false (some 39) (.bool false) (by kernel_rfl) (yld fun _ => by kernel_rfl) ?_
      refine wpS.take 18 false (some 40) (undef) (by kernel_rfl) (yld fun _ => by kernel_rfl) ?_
      refine wpS.take 19 false (some 41) (undef) (by kernel_rfl) (yld fun _ => by kernel_rfl) ?_
      refine wpS.take 20 false (some 42) (undef) (by kernel_rfl) (yld fun _ => by kernel_rfl) ?_
      refine wpS.take 21 false (some 43) (undef) (by kernel_rfl) (yld fun _ => by kernel_rfl) ?_
      refine wpS.take 22 false (some 44) (undef) (by kernel_rfl) (yld fun _ => by kernel_rfl) ?_
      refine wpS.take 23 false (some 45) (.bool false) (by kernel_rfl) (yld fun _ => by kernel_rfl) ?_
      refine wpS.take 24 false (some 0) (.bool false) (by kernel_rfl) (yld fun _ => by kernel_rfl) ?_
      refine wpS.fin rfl (kr20 _ _ ?_)
      refine then_n (ks19 _ _ ?_)
      refine xret ?_
      have q0 := of_some h
      subst q0
      exact qq _ _ (post_ret (by kernel_rfl) (run_results [.tmp 0] [.bool false] (by kernel_rfl) (.cons (res_tmp (by kernel_rfl)) .nil)) ⟨congrArg Ending.returned (by kernel_rfl), hs.none⟩)

theorem ref22_Set.ok {K : Nat} {a0 : Int} {r0_0 : Int} {r0_1 : Int} {r0_2 : Int} {r0_3 : Int} {r0_4 : Int} {r0_5 : Int} {r0_6 : Int} {r0_7 : Int} {r1 : Bool} (h : ref22_Set.f K a0 = some (r0_0, r0_1, r0_2, r0_3, r0_4, r0_5, r0_6, r0_7, r1)) (w0 : World) : Ret Try.prog 17 #[.int .i64 a0] w0 (.tuple #[.agg #[.int .i64 r0_0, .int .i64 r0_1, .int .i32 r0_2, .int .i64 r0_3, .int .i32 r0_4, .int .i32 r0_5, .int .i64 r0_6, .int .i64 r0_7], .bool r1]) := by
  refine calls_k Try.func17 rfl fun Q qq => ?_
  have hs := St.start w0
  refine wp_conv (a' := ⟨#[.int .i64 a0, undef, undef, undef, undef, undef, undef, undef, undef, undef, undef, undef, undef, undef, undef], []⟩) (by kernel_rfl) ?_
  refine xseq_k fun KS1 ks1 => ?_
  refine wp_regS (l := [0, 1]) (by kernel_rfl) (by kernel_rfl) fun KR2 kr2 => ?_
  refine wpS.only 0 (op_alloc (t := 23) (d := (some 2)) (by kernel_rfl) hs ([.int .i64 0, .int .i64 0, .int .i32 0, .int .i64 0, .int .i32 0, .int .i32 0, .int .i64 0, .int .i64 0]) (.agg #[.int .i64 0, .int .i64 0, .int .i32 0, .int .i64 0, .int .i32 0, .int .i32 0, .int .i64 0, .int .i64 0]) (by kernel_rfl) (by kernel_rfl) (by kernel_rfl) ?_)
  intro b1 w gw hs
  refine ⟨fun _ => trivial, ?_⟩
  refine wpS.take 1 false (some 3) (.bool false) (by kernel_rfl) (yld fun _ => by kernel_rfl) ?_
  refine wpS.fin rfl (kr2 _ _ ?_)
  refine then_n (ks1 _ _ ?_)
  refine xseq_k fun KS17 ks17 => ?_
  refine xseq_k fun KS18 ks18 => ?_
  refine wp_regS (l := [0]) (by kernel_rfl) (by kernel_rfl) fun KR19 kr19 => ?_
  refine wpS.take 0 false (some 4) (.int .i64 a0) (by kernel_rfl) (yld fun _ => by kernel_rfl) ?_
  refine wpS.fin rfl (kr19 _ _ ?_)
  refine then_n (ks18 _ _ ?_)
  refine xblock ?_
  refine xseq_k fun KS20 ks20 => ?_
  refine wp_regS (l := [0, 1]) (by kernel_rfl) (by kernel_rfl) fun KR21 kr21 => ?_
  rcases of_if h with ⟨hc, h⟩ | ⟨hc, h⟩
  · refine wpS.take 0 false (some 6) (.bool true) (by kernel_rfl) (yld_b (et hc) (fun _ => by kernel_rfl)) ?_
    refine wpS.take 1 false (some 5) (.bool true) (by kernel_rfl) (yld fun _ => by kernel_rfl) ?_
    refine wpS.fin rfl (kr21 _ _ ?_)
    refine then_n (ks20 _ _ ?_)
    refine wp_cond_t (by kernel_rfl) ?_
    refine xseq_k fun KS22 ks22 => ?_
    refine wp_regS (l := [0, 1, 2]) (by kernel_rfl) (by kernel_rfl) fun KR23 kr23 => ?_
    refine wpS.take 0 false (some 7) (.agg #[.int .i64 4, .int .i64 4, .int .i32 2, .int .i64 39, .int .i32 131072, .int .i32 95232, .int .i64 80, .int .i64 32]) (by kernel_rfl) (yld fun _ => by kernel_rfl) ?_
    refine wpS.only 1 (op_storeW (t := 23) (v := .agg #[.int .i64 4, .int .i64 4, .int .i32 2, .int .i64 39, .int .i32 131072, .int .i32 95232, .int .i64 80, .int .i64 32]) (d := none) (by kernel_rfl) hs 0 rfl (vs := [.int .i64 4, .int .i64 4, .int .i32 2, .int .i64 39, .int .i32 131072, .int .i32 95232, .int .i64 80, .int .i64 32]) (n := 8) (by kernel_rfl) (by kernel_rfl) (by kernel_rfl) (by simp [enc_len]) (by simp [enc_len]) (by simp [Value.oneCell']) ?_)
    intro w kp hs
    refine ⟨fun _ => trivial, ?_⟩
    refine wpS.take 2 false (some 3) (.bool true) (by kernel_rfl) (yld fun _ => by kernel_rfl) ?_
    refine wpS.fin rfl (kr23 _ _ ?_)
    refine then_n (ks22 _ _ ?_)
    refine xret ?_
    refine inBlock_r ?_
    refine then_r ?_
    obtain ⟨q0, qr0⟩ := Prod.mk.inj (of_some h)
    obtain ⟨q1, qr1⟩ := Prod.mk.inj (qr0)
    obtain ⟨q2, qr2⟩ := Prod.mk.inj (qr1)
    obtain ⟨q3, qr3⟩ := Prod.mk.inj (qr2)
    obtain ⟨q4, qr4⟩ := Prod.mk.inj (qr3)
    obtain ⟨q5, qr5⟩ := Prod.mk.inj (qr4)
    obtain ⟨q6, qr6⟩ := Prod.mk.inj (qr5)
    obtain ⟨q7, qr7⟩ := Prod.mk.inj (qr6)
    have q8 := qr7
    subst q0
    subst q1
    subst q2
    subst q3
    subst q4
    subst q5
    subst q6
    subst q7
    subst q8
    exact qq _ _ (post_ret (by kernel_rfl) (run_results [.cell 2 23, .tmp 3] [.agg #[.int .i64 4, .int .i64 4, .int .i32 2, .int .i64 39, .int .i32 131072, .int .i32 95232, .int .i64 80, .int .i64 32], .bool true] (by kernel_rfl) (.cons (res_cellN (n := 8) hs 0 rfl (by kernel_rfl) (by kernel_rfl) (by kernel_rfl) (by simp [enc_len])) (.cons (res_tmp (by kernel_rfl)) .nil))) ⟨congrArg Ending.returned (by kernel_rfl), hs.none⟩)
  · refine wpS.take 0 false (some 6) (.bool false) (by kernel_rfl) (yld_b (ef hc) (fun _ => by kernel_rfl)) ?_
    refine wpS.take 1 false (some 5) (.bool false) (by kernel_rfl) (yld fun _ => by kernel_rfl) ?_
    refine wpS.fin rfl (kr21 _ _ ?_)
    refine then_n (ks20 _ _ ?_)
    refine wp_cond_f (by kernel_rfl) ?_
    refine xseq_k fun KS24 ks24 => ?_
    refine wp_regS (l := [0, 1]) (by kernel_rfl) (by kernel_rfl) fun KR25 kr25 => ?_
    rcases of_if h with ⟨hc, h⟩ | ⟨hc, h⟩
    · refine wpS.take 0 false (some 9) (.bool true) (by kernel_rfl) (yld_b (et hc) (fun _ => by kernel_rfl)) ?_
      refine wpS.take 1 false (some 8) (.bool true) (by kernel_rfl) (yld fun _ => by kernel_rfl) ?_
      refine wpS.fin rfl (kr25 _ _ ?_)
      refine then_n (ks24 _ _ ?_)
      refine wp_cond_t (by kernel_rfl) ?_
      refine xseq_k fun KS26 ks26 => ?_
      refine wp_regS (l := [0, 1, 2]) (by kernel_rfl) (by kernel_rfl) fun KR27 kr27 => ?_
      refine wpS.take 0 false (some 10) (.agg #[.int .i64 6, .int .i64 5, .int .i32 4, .int .i64 49, .int .i32 524288, .int .i32 261888, .int .i64 55, .int .i64 48]) (by kernel_rfl) (yld fun _ => by kernel_rfl) ?_
      refine wpS.only 1 (op_storeW (t := 23) (v := .agg #[.int .i64 6, .int .i64 5, .int .i32 4, .int .i64 49, .int .i32 524288, .int .i32 261888, .int .i64 55, .int .i64 48]) (d := none) (by kernel_rfl) hs 0 rfl (vs := [.int .i64 6, .int .i64 5, .int .i32 4, .int .i64 49, .int .i32 524288, .int .i32 261888, .int .i64 55, .int .i64 48]) (n := 8) (by kernel_rfl) (by kernel_rfl) (by kernel_rfl) (by simp [enc_len]) (by simp [enc_len]) (by simp [Value.oneCell']) ?_)
      intro w kp hs
      refine ⟨fun _ => trivial, ?_⟩
      refine wpS.take 2 false (some 3) (.bool true) (by kernel_rfl) (yld fun _ => by kernel_rfl) ?_
      refine wpS.fin rfl (kr27 _ _ ?_)
      refine then_n (ks26 _ _ ?_)
      refine xret ?_
      refine inBlock_r ?_
      refine then_r ?_
      obtain ⟨q0, qr0⟩ := Prod.mk.inj (of_some h)
      obtain ⟨q1, qr1⟩ := Prod.mk.inj (qr0)
      obtain ⟨q2, qr2⟩ := Prod.mk.inj (qr1)
      obtain ⟨q3, qr3⟩ := Prod.mk.inj (qr2)
      obtain ⟨q4, qr4⟩ := Prod.mk.inj (qr3)
      obtain ⟨q5, qr5⟩ := Prod.mk.inj (qr4)
      obtain ⟨q6, qr6⟩ := Prod.mk.inj (qr5)
      obtain ⟨q7, qr7⟩ := Prod.mk.inj (qr6)
      have q8 := qr7
      subst q0
      subst q1
      subst q2
      subst q3
      subst q4
      subst q5
      subst q6
      subst q7
      subst q8
      exact qq _ _ (post_ret (by kernel_rfl) (run_results [.cell 2 23, .tmp 3] [.agg #[.int .i64 6, .int .i64 5, .int .i32 4, .int .i64 49, .int .i32 524288, .int .i32 261888, .int .i64 55, .int .i64 48], .bool true] (by kernel_rfl) (.cons (res_cellN (n := 8) hs 0 rfl (by kernel_rfl) (by kernel_rfl) (by kernel_rfl) (by simp [enc_len])) (.cons (res_tmp (by kernel_rfl)) .nil))) ⟨congrArg Ending.returned (by kernel_rfl), hs.none⟩)
    · refine wpS.take 0 false (some 9) (.bool false) (by kernel_rfl) (yld_b (ef hc) (fun _ => by kernel_rfl)) ?_
      refine wpS.take 1 false (some 8) (.bool false) (by kernel_rfl) (yld fun _ => by kernel_rfl) ?_
      refine wpS.fin rfl (kr25 _ _ ?_)
      refine then_n (ks24 _ _ ?_)
      refine wp_cond_f (by kernel_rfl) ?_
      refine xseq_k fun KS28 ks28 => ?_
      refine wp_regS (l := [0, 1]) (by kernel_rfl) (by kernel_rfl) fun KR29 kr29 => ?_
      rcases of_if h with ⟨hc, h⟩ | ⟨hc, h⟩
      · refine wpS.take 0 false (some 12) (.bool true) (by kernel_rfl) (yld_b (et hc) (fun _ => by kernel_rfl)) ?_
        refine wpS.take 1 false (some 11) (.bool true) (by kernel_rfl) (yld fun _ => by kernel_rfl) ?_
        refine wpS.fin rfl (kr29 _ _ ?_)
        refine then_n (ks28 _ _ ?_)
        refine wp_cond_t (by kernel_rfl) ?_
        refine xseq_k fun KS30 ks30 => ?_
        refine wp_regS (l := [0, 1, 2]) (by kernel_rfl) (by kernel_rfl) fun KR31 kr31 => ?_
        refine wpS.take 0 false (some 13) (.agg #[.int .i64 8, .int .i64 7, .int .i32 2, .int .i64 60, .int .i32 524288, .int .i32 261888, .int .i64 75, .int .i64 64]) (by kernel_rfl) (yld fun _ => by kernel_rfl) ?_
        refine wpS.only 1 (op_storeW (t := 23) (v := .agg #[.int .i64 8, .int .i64 7, .int .i32 2, .int .i64 60, .int .i32 524288, .int .i32 261888, .int .i64 75, .int .i64 64]) (d := none) (by kernel_rfl) hs 0 rfl (vs := [.int .i64 8, .int .i64 7, .int .i32 2, .int .i64 60, .int .i32 524288, .int .i32 261888, .int .i64 75, .int .i64 64]) (n := 8) (by kernel_rfl) (by kernel_rfl) (by kernel_rfl) (by simp [enc_len]) (by simp [enc_len]) (by simp [Value.oneCell']) ?_)
        intro w kp hs
        refine ⟨fun _ => trivial, ?_⟩
        refine wpS.take 2 false (some 3) (.bool true) (by kernel_rfl) (yld fun _ => by kernel_rfl) ?_
        refine wpS.fin rfl (kr31 _ _ ?_)
        refine then_n (ks30 _ _ ?_)
        refine xret ?_
        refine inBlock_r ?_
        refine then_r ?_
        obtain ⟨q0, qr0⟩ := Prod.mk.inj (of_some h)
        obtain ⟨q1, qr1⟩ := Prod.mk.inj (qr0)
        obtain ⟨q2, qr2⟩ := Prod.mk.inj (qr1)
        obtain ⟨q3, qr3⟩ := Prod.mk.inj (qr2)
        obtain ⟨q4, qr4⟩ := Prod.mk.inj (qr3)
        obtain ⟨q5, qr5⟩ := Prod.mk.inj (qr4)
        obtain ⟨q6, qr6⟩ := Prod.mk.inj (qr5)
        obtain ⟨q7, qr7⟩ := Prod.mk.inj (qr6)
        have q8 := qr7
        subst q0
        subst q1
        subst q2
        subst q3
        subst q4
        subst q5
        subst q6
        subst q7
        subst q8
        exact qq _ _ (post_ret (by kernel_rfl) (run_results [.cell 2 23, .tmp 3] [.agg #[.int .i64 8, .int .i64 7, .int .i32 2, .int .i64 60, .int .i32 524288, .int .i32 261888, .int .i64 75, .int .i64 64], .bool true] (by kernel_rfl) (.cons (res_cellN (n := 8) hs 0 rfl (by kernel_rfl) (by kernel_rfl) (by kernel_rfl) (by simp [enc_len])) (.cons (res_tmp (by kernel_rfl)) .nil))) ⟨congrArg Ending.returned (by kernel_rfl), hs.none⟩)
      · refine wpS.take 0 false (some 12) (.bool false) (by kernel_rfl) (yld_b (ef hc) (fun _ => by kernel_rfl)) ?_
        refine wpS.take 1 false (some 11) (.bool false) (by kernel_rfl) (yld fun _ => by kernel_rfl) ?_
        refine wpS.fin rfl (kr29 _ _ ?_)
        refine then_n (ks28 _ _ ?_)
        refine wp_cond_f (by kernel_rfl) ?_
        refine xskip ?_
        refine inBlock_n ?_
        refine then_n (ks17 _ _ ?_)
        refine xseq_k fun KS32 ks32 => ?_
        refine wp_regS (l := [0, 1, 2]) (by kernel_rfl) (by kernel_rfl) fun KR33 kr33 => ?_
        refine wpS.take 0 false (some 14) (.agg #[.int .i64 0, .int .i64 0, .int .i32 0, .int .i64 0, .int .i32 0, .int .i32 0, .int .i64 0, .int .i64 0]) (by kernel_rfl) (yld fun _ => by kernel_rfl) ?_
        refine wpS.only 1 (op_storeW (t := 23) (v := .agg #[.int .i64 0, .int .i64 0, .int .i32 0, .int .i64 0, .int .i32 0, .int .i32 0, .int .i64 0, .int .i64 0]) (d := none) (by kernel_rfl) hs 0 rfl (vs := [.int .i64 0, .int .i64 0, .int .i32 0, .int .i64 0, .int .i32 0, .int .i32 0, .int .i64 0, .int .i64 0]) (n := 8) (by kernel_rfl) (by kernel_rfl) (by kernel_rfl) (by simp [enc_len]) (by simp [enc_len]) (by simp [Value.oneCell']) ?_)
        intro w kp hs
        refine ⟨fun _ => trivial, ?_⟩
        refine wpS.take 2 false (some 3) (.bool false) (by kernel_rfl) (yld fun _ => by kernel_rfl) ?_
        refine wpS.fin rfl (kr33 _ _ ?_)
        refine then_n (ks32 _ _ ?_)
        refine xret ?_
        obtain ⟨q0, qr0⟩ := Prod.mk.inj (of_some h)
        obtain ⟨q1, qr1⟩ := Prod.mk.inj (qr0)
        obtain ⟨q2, qr2⟩ := Prod.mk.inj (qr1)
        obtain ⟨q3, qr3⟩ := Prod.mk.inj (qr2)
        obtain ⟨q4, qr4⟩ := Prod.mk.inj (qr3)
        obtain ⟨q5, qr5⟩ := Prod.mk.inj (qr4)
        obtain ⟨q6, qr6⟩ := Prod.mk.inj (qr5)
        obtain ⟨q7, qr7⟩ := Prod.mk.inj (qr6)
        have q8 := qr7
        subst q0
        subst q1
        subst q2
        subst q3
        subst q4
        subst q5
        subst q6
        subst q7
        subst q8
        exact qq _ _ (post_ret (by kernel_rfl) (run_results [.cell 2 23, .tmp 3] [.agg #[.int .i64 0, .int .i64 0, .int .i32 0, .int .i64 0, .int .i32 0, .int .i32 0, .int .i64 0, .int .i64 0], .bool false] (by kernel_rfl) (.cons (res_cellN (n := 8) hs 0 rfl (by kernel_rfl) (by kernel_rfl) (by kernel_rfl) (by simp [enc_len])) (.cons (res_tmp (by kernel_rfl)) .nil))) ⟨congrArg Ending.returned (by kernel_rfl), hs.none⟩)
end Go.Proofs.Ytblploekkjeolaa
