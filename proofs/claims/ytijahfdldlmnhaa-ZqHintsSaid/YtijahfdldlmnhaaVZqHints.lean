/- Printed by this work's own program: the code of each function below comes to the answer that its plain form tells. -/
import Derived.Test.YtijahfdldlmnhaaMr
import Derived.Test.YtijahfdldlmnhaaProg
import Derived.Test.YtijahfdldlmnhaaLZqHints
import Derived.Test.YtijahfdldlmnhaaX0
import Derived.Test.YtijahfdldlmnhaaX1
set_option linter.unusedVariables false
set_option maxRecDepth 100000
set_option maxHeartbeats 4000000
namespace Go.Proofs.Ytijahfdldlmnhaa
open Go.Mx
attribute [local irreducible] wpOp

theorem law21_ZqHints.ok {K : Nat} {a0 : Int} {a1 : Int} {a2 : Bool} {r0 : Bool} (h : law21_ZqHints.f K a0 a1 a2 = some r0) (w0 : World) : Ret Try.prog 5 #[.int .i32 a0, .int .i32 a1, .bool a2] w0 (.bool r0) := by
  refine calls_k Try.func5 rfl fun Q qq => ?_
  have hs := St.start w0
  refine wp_conv (a' := ⟨#[.int .i32 a0, .int .i32 a1, .bool a2, undef, undef, undef, undef, undef, undef, undef, undef, undef, undef, undef, undef, undef, undef, undef, undef, undef, undef, undef, undef, undef, undef, undef, undef, undef, undef, undef, undef, undef, undef, undef, undef, undef, undef, undef, undef, undef, undef, undef, undef, undef, undef, undef, undef, undef, undef, undef, undef, undef, undef, undef, undef, undef, undef, undef, undef, undef, undef, undef, undef, undef, undef, undef, undef, undef, undef, undef, undef, undef, undef, undef, undef, undef, undef, undef, undef, undef, undef, undef, undef, undef, undef, undef, undef, undef, undef, undef, undef, undef, undef, undef, undef, undef, undef, undef, undef, undef, undef, undef, undef, undef, undef, undef, undef, undef, undef, undef, undef, undef, undef, undef, undef, undef, undef, undef, undef, undef, undef, undef, undef, undef], []⟩) (by kernel_rfl) ?_
  refine wp_seq_k fun KS1 ks1 => ?_
  refine wp_regS (l := [0]) (by kernel_rfl) fun KR kr => ?_
  refine wpS.take 0 false (some 6) (.bool false) (by kernel_rfl) (yld fun _ => by kernel_rfl) ?_
  refine wpS.fin rfl (kr _ _ ?_)
  refine then_n (ks1 _ _ ?_)
  refine wp_seq_k fun KS2 ks2 => ?_
  refine wp_regS (l := [0]) (by kernel_rfl) fun KR kr => ?_
  refine wpS.take 0 false (some 7) (.int .i32 95232) (by kernel_rfl) (yld fun _ => by kernel_rfl) ?_
  refine wpS.fin rfl (kr _ _ ?_)
  refine then_n (ks2 _ _ ?_)
  obtain ⟨y1, hj, h⟩ := of_bind h
  refine wp_seq_k fun KS41 ks41 => wp_join (N := fun a w => St w0 [] [] [] w ∧ ∃ g : Nat → Value, a = ⟨#[.int .i32 a0, .int .i32 a1, .bool a2, undef, undef, undef, .bool false, .int .i32 y1, undef, undef, undef, undef, undef, undef, undef, (g 15), undef, undef, undef, undef, undef, undef, undef, undef, undef, undef, undef, undef, undef, undef, undef, undef, undef, undef, undef, undef, undef, undef, undef, undef, undef, undef, undef, undef, undef, undef, undef, undef, undef, undef, undef, undef, undef, undef, undef, undef, undef, undef, undef, undef, undef, undef, undef, undef, undef, undef, undef, undef, undef, undef, undef, undef, undef, undef, undef, undef, undef, undef, undef, undef, undef, undef, undef, undef, undef, undef, undef, undef, undef, undef, undef, undef, undef, undef, undef, undef, undef, undef, undef, undef, undef, undef, undef, undef, undef, undef, undef, undef, undef, undef, undef, undef, undef, undef, undef, undef, undef, undef, undef, undef, undef, undef, undef, undef], []⟩) (fun N nj => ?_) ?_
  · clear h
    have h := hj
    refine wp_seq_k fun KS5 ks5 => ?_
    refine wp_regS (l := [0]) (by kernel_rfl) fun KR kr => ?_
    cases a2 with
    | true =>
      have h := of_if_t h
      refine wpS.take 0 false (some 15) (.bool true) (by kernel_rfl) (yld fun _ => by kernel_rfl) ?_
      refine wpS.fin rfl (kr _ _ ?_)
      refine then_n (ks5 _ _ ?_)
      refine wp_cond_t (by kernel_rfl) ?_
      refine wp_regS (l := [0]) (by kernel_rfl) fun KR kr => ?_
      refine wpS.take 0 false (some 7) (.int .i32 261888) (by kernel_rfl) (yld fun _ => by kernel_rfl) ?_
      refine wpS.fin rfl (kr _ _ ?_)
      have q0 := of_some h
      subst q0
      exact nj _ _ ⟨(hs.conv rfl), exg (by kernel_rfl)⟩
    | false =>
      have h := of_if_f h
      refine wpS.take 0 false (some 15) (.bool false) (by kernel_rfl) (yld fun _ => by kernel_rfl) ?_
      refine wpS.fin rfl (kr _ _ ?_)
      refine then_n (ks5 _ _ ?_)
      refine wp_cond_f (by kernel_rfl) ?_
      refine wp_skip ?_
      have q0 := of_some h
      subst q0
      exact nj _ _ ⟨(hs.conv rfl), exg (by kernel_rfl)⟩
  · clear hj hs
    rintro a w ⟨hs, g, rfl⟩
    refine then_n (ks41 _ _ ?_)
    refine wp_seq_k fun KS11 ks11 => ?_
    refine wp_seq_k fun KS12 ks12 => ?_
    refine wp_regS (l := [0, 1, 2, 3, 4, 5, 6, 7, 8, 9, 10, 11, 12, 13, 14, 15, 16]) (by kernel_rfl) fun KR kr => ?_
    refine wpS.take 0 false (some 16) (.int .i32 a0) (by kernel_rfl) (yld fun _ => by kernel_rfl) ?_
    rcases of_if h with ⟨hc, h⟩ | ⟨hc, h⟩
    · refine wpS.take 1 false (some 17) (.bool true) (by kernel_rfl) (yld_b (dt hc) (fun _ => by kernel_rfl)) ?_
      refine wpS.take 2 false (some 18) (.bool true) (by kernel_rfl) (yld fun _ => by kernel_rfl) ?_
      refine wpS.take 3 false (some 19) (undef) (by kernel_rfl) (yld fun _ => by kernel_rfl) ?_
      refine wpS.take 4 false (some 20) (undef) (by kernel_rfl) (yld fun _ => by kernel_rfl) ?_
      refine wpS.take 5 false (some 21) (.bool true) (by kernel_rfl) (yld fun _ => by kernel_rfl) ?_
      refine wpS.take 6 false (some 22) (.bool true) (by kernel_rfl) (yld fun _ => by kernel_rfl) ?_
      refine wpS.take 7 false (some 23) (undef) (by kernel_rfl) (yld fun _ => by kernel_rfl) ?_
      refine wpS.take 8 false (some 24) (undef) (by kernel_rfl) (yld fun _ => by kernel_rfl) ?_
      refine wpS.take 9 false (some 25) (undef) (by kernel_rfl) (yld fun _ => by kernel_rfl) ?_
      refine wpS.take 10 false (some 26) (undef) (by kernel_rfl) (yld fun _ => by kernel_rfl) ?_
      refine wpS.take 11 false (some 27) (.bool true) (by kernel_rfl) (yld fun _ => by kernel_rfl) ?_
      refine wpS.take 12 false (some 28) (.bool true) (by kernel_rfl) (yld fun _ => by kernel_rfl) ?_
      refine wpS.take 13 false (some 29) (undef) (by kernel_rfl) (yld fun _ => by kernel_rfl) ?_
      refine wpS.take 14 false (some 30) (undef) (by kernel_rfl) (yld fun _ => by kernel_rfl) ?_
      refine wpS.take 15 false (some 31) (undef) (by kernel_rfl) (yld fun _ => by kernel_rfl) ?_
      refine wpS.take 16 false (some 32) (.bool true) (by kernel_rfl) (yld fun _ => by kernel_rfl) ?_
      refine wpS.fin rfl (kr _ _ ?_)
      refine then_n (ks12 _ _ ?_)
      refine wp_cond_t (by kernel_rfl) ?_
      refine wp_seq_k fun KS13 ks13 => ?_
      refine wp_regS (l := [0, 1]) (by kernel_rfl) fun KR kr => ?_
      obtain ⟨r2, hg, h⟩ := of_bind h
      refine wpS.only 0 (op_call (d := (some 33)) (by kernel_rfl) hs (fun _ => by kernel_rfl) (law21_awake.ok hg _) ?_)
      intro w gw hs
      refine ⟨fun _ => trivial, ?_⟩
      refine wpS.take 1 false (some 6) (.bool r2) (by kernel_rfl) (yld fun _ => by kernel_rfl) ?_
      refine wpS.fin rfl (kr _ _ ?_)
      refine then_n (ks13 _ _ ?_)
      refine wp_ret ?_
      refine then_r ?_
      have q0 := of_some h
      subst q0
      exact qq _ _ (post_ret (by kernel_rfl) (run_results [.tmp 6] [.bool r2] (by kernel_rfl) (.cons (res_tmp (by kernel_rfl)) .nil)) ⟨congrArg Ending.returned (by kernel_rfl), hs.none⟩)
    · refine wpS.take 1 false (some 17) (.bool false) (by kernel_rfl) (yld_b (df hc) (fun _ => by kernel_rfl)) ?_
      refine wpS.take 2 false (some 18) (.bool false) (by kernel_rfl) (yld fun _ => by kernel_rfl) ?_
      refine wpS.take 3 false (some 19) (.int .i32 a0) (by kernel_rfl) (yld fun _ => by kernel_rfl) ?_
      rcases of_if h with ⟨hc, h⟩ | ⟨hc, h⟩
      · refine wpS.take 4 false (some 20) (.bool true) (by kernel_rfl) (yld_b (dt hc) (fun _ => by kernel_rfl)) ?_
        refine wpS.take 5 false (some 21) (.bool true) (by kernel_rfl) (yld fun _ => by kernel_rfl) ?_
        refine wpS.take 6 false (some 22) (.bool true) (by kernel_rfl) (yld fun _ => by kernel_rfl) ?_
        refine wpS.take 7 false (some 23) (undef) (by kernel_rfl) (yld fun _ => by kernel_rfl) ?_
        refine wpS.take 8 false (some 24) (undef) (by kernel_rfl) (yld fun _ => by kernel_rfl) ?_
        refine wpS.take 9 false (some 25) (undef) (by kernel_rfl) (yld fun _ => by kernel_rfl) ?_
        refine wpS.take 10 false (some 26) (undef) (by kernel_rfl) (yld fun _ => by kernel_rfl) ?_
        refine wpS.take 11 false (some 27) (.bool true) (by kernel_rfl) (yld fun _ => by kernel_rfl) ?_
        refine wpS.take 12 false (some 28) (.bool true) (by kernel_rfl) (yld fun _ => by kernel_rfl) ?_
        refine wpS.take 13 false (some 29) (undef) (by kernel_rfl) (yld fun _ => by kernel_rfl) ?_
        refine wpS.take 14 false (some 30) (undef) (by kernel_rfl) (yld fun _ => by kernel_rfl) ?_
        refine wpS.take 15 false (some 31) (undef) (by kernel_rfl) (yld fun _ => by kernel_rfl) ?_
        refine wpS.take 16 false (some 32) (.bool true) (by kernel_rfl) (yld fun _ => by kernel_rfl) ?_
        refine wpS.fin rfl (kr _ _ ?_)
        refine then_n (ks12 _ _ ?_)
        refine wp_cond_t (by kernel_rfl) ?_
        refine wp_seq_k fun KS14 ks14 => ?_
        refine wp_regS (l := [0, 1]) (by kernel_rfl) fun KR kr => ?_
        obtain ⟨r3, hg, h⟩ := of_bind h
        refine wpS.only 0 (op_call (d := (some 33)) (by kernel_rfl) hs (fun _ => by kernel_rfl) (law21_awake.ok hg _) ?_)
        intro w gw hs
        refine ⟨fun _ => trivial, ?_⟩
        refine wpS.take 1 false (some 6) (.bool r3) (by kernel_rfl) (yld fun _ => by kernel_rfl) ?_
        refine wpS.fin rfl (kr _ _ ?_)
        refine then_n (ks14 _ _ ?_)
        refine wp_ret ?_
        refine then_r ?_
        have q0 := of_some h
        subst q0
        exact qq _ _ (post_ret (by kernel_rfl) (run_results [.tmp 6] [.bool r3] (by kernel_rfl) (.cons (res_tmp (by kernel_rfl)) .nil)) ⟨congrArg Ending.returned (by kernel_rfl), hs.none⟩)
      · refine wpS.take 4 false (some 20) (.bool false) (by kernel_rfl) (yld_b (df hc) (fun _ => by kernel_rfl)) ?_
        refine wpS.take 5 false (some 21) (.bool false) (by kernel_rfl) (yld fun _ => by kernel_rfl) ?_
        refine wpS.take 6 false (some 22) (.bool false) (by kernel_rfl) (yld fun _ => by kernel_rfl) ?_
        refine wpS.take 7 false (some 23) (.int .i32 a1) (by kernel_rfl) (yld fun _ => by kernel_rfl) ?_
        refine wpS.take 8 false (some 24) (.int .i32 y1) (by kernel_rfl) (yld fun _ => by kernel_rfl) ?_
        refine wpS.take 9 false (some 25) (.int .i32 (isub .i32 0 y1)) (by kernel_rfl) (yld fun _ => by kernel_rfl) ?_
        rcases of_if h with ⟨hc, h⟩ | ⟨hc, h⟩
        · refine wpS.take 10 false (some 26) (.bool true) (by kernel_rfl) (yld_b (dt hc) (fun _ => by kernel_rfl)) ?_
          refine wpS.take 11 false (some 27) (.bool true) (by kernel_rfl) (yld fun _ => by kernel_rfl) ?_
          refine wpS.take 12 false (some 28) (.bool true) (by kernel_rfl) (yld fun _ => by kernel_rfl) ?_
          refine wpS.take 13 false (some 29) (undef) (by kernel_rfl) (yld fun _ => by kernel_rfl) ?_
          refine wpS.take 14 false (some 30) (undef) (by kernel_rfl) (yld fun _ => by kernel_rfl) ?_
          refine wpS.take 15 false (some 31) (undef) (by kernel_rfl) (yld fun _ => by kernel_rfl) ?_
          refine wpS.take 16 false (some 32) (.bool true) (by kernel_rfl) (yld fun _ => by kernel_rfl) ?_
          refine wpS.fin rfl (kr _ _ ?_)
          refine then_n (ks12 _ _ ?_)
          refine wp_cond_t (by kernel_rfl) ?_
          refine wp_seq_k fun KS15 ks15 => ?_
          refine wp_regS (l := [0, 1]) (by kernel_rfl) fun KR kr => ?_
          obtain ⟨r4, hg, h⟩ := of_bind h
          refine wpS.only 0 (op_call (d := (some 33)) (by kernel_rfl) hs (fun _ => by kernel_rfl) (law21_awake.ok hg _) ?_)
          intro w gw hs
          refine ⟨fun _ => trivial, ?_⟩
          refine wpS.take 1 false (some 6) (.bool r4) (by kernel_rfl) (yld fun _ => by kernel_rfl) ?_
          refine wpS.fin rfl (kr _ _ ?_)
          refine then_n (ks15 _ _ ?_)
          refine wp_ret ?_
          refine then_r ?_
          have q0 := of_some h
          subst q0
          exact qq _ _ (post_ret (by kernel_rfl) (run_results [.tmp 6] [.bool r4] (by kernel_rfl) (.cons (res_tmp (by kernel_rfl)) .nil)) ⟨congrArg Ending.returned (by kernel_rfl), hs.none⟩)
        · refine wpS.take 10 false (some 26) (.bool false) (by kernel_rfl) (yld_b (df hc) (fun _ => by kernel_rfl)) ?_
          refine wpS.take 11 false (some 27) (.bool false) (by kernel_rfl) (yld fun _ => by kernel_rfl) ?_
          refine wpS.take 12 false (some 28) (.bool false) (by kernel_rfl) (yld fun _ => by kernel_rfl) ?_
          refine wpS.take 13 false (some 29) (.int .i32 a1) (by kernel_rfl) (yld fun _ => by kernel_rfl) ?_
          refine wpS.take 14 false (some 30) (.int .i32 y1) (by kernel_rfl) (yld fun _ => by kernel_rfl) ?_
          rcases of_if h with ⟨hc, h⟩ | ⟨hc, h⟩
          · refine wpS.take 15 false (some 31) (.bool true) (by kernel_rfl) (yld_b (dt hc) (fun _ => by kernel_rfl)) ?_
            refine wpS.take 16 false (some 32) (.bool true) (by kernel_rfl) (yld fun _ => by kernel_rfl) ?_
            refine wpS.fin rfl (kr _ _ ?_)
            refine then_n (ks12 _ _ ?_)
            refine wp_cond_t (by kernel_rfl) ?_
            refine wp_seq_k fun KS16 ks16 => ?_
            refine wp_regS (l := [0, 1]) (by kernel_rfl) fun KR kr => ?_
            obtain ⟨r5, hg, h⟩ := of_bind h
            refine wpS.only 0 (op_call (d := (some 33)) (by kernel_rfl) hs (fun _ => by kernel_rfl) (law21_awake.ok hg _) ?_)
            intro w gw hs
            refine ⟨fun _ => trivial, ?_⟩
            refine wpS.take 1 false (some 6) (.bool r5) (by kernel_rfl) (yld fun _ => by kernel_rfl) ?_
            refine wpS.fin rfl (kr _ _ ?_)
            refine then_n (ks16 _ _ ?_)
            refine wp_ret ?_
            refine then_r ?_
            have q0 := of_some h
            subst q0
            exact qq _ _ (post_ret (by kernel_rfl) (run_results [.tmp 6] [.bool r5] (by kernel_rfl) (.cons (res_tmp (by kernel_rfl)) .nil)) ⟨congrArg Ending.returned (by kernel_rfl), hs.none⟩)
          · refine wpS.take 15 false (some 31) (.bool false) (by kernel_rfl) (yld_b (df hc) (fun _ => by kernel_rfl)) ?_
            refine wpS.take 16 false (some 32) (.bool false) (by kernel_rfl) (yld fun _ => by kernel_rfl) ?_
            refine wpS.fin rfl (kr _ _ ?_)
            refine then_n (ks12 _ _ ?_)
            refine wp_cond_f (by kernel_rfl) ?_
            refine wp_skip ?_
            refine then_n (ks11 _ _ ?_)
            refine wp_seq_k fun KS17 ks17 => ?_
            refine wp_regS (l := [0, 1, 2, 3, 4, 5, 6]) (by kernel_rfl) fun KR kr => ?_
            refine wpS.take 0 false (some 35) (.int .i32 a0) (by kernel_rfl) (yld fun _ => by kernel_rfl) ?_
            obtain ⟨⟨r6, r7⟩, hg, h⟩ := of_bind h
            refine wpS.only 1 (op_call (d := (some 36)) (by kernel_rfl) hs (fun _ => by kernel_rfl) (zq_Split.ok hg _) ?_)
            intro w gw hs
            refine ⟨fun _ => trivial, ?_⟩
            refine wpS.take 2 false (some 34) (.tuple #[.int .i32 r6, .int .i32 r7]) (by kernel_rfl) (yld fun _ => by kernel_rfl) ?_
            refine wpS.take 3 false (some 37) (.int .i32 r6) (by kernel_rfl) (yld fun _ => by kernel_rfl) ?_
            refine wpS.take 4 false (some 38) (.int .i32 r7) (by kernel_rfl) (yld fun _ => by kernel_rfl) ?_
            refine wpS.take 5 false (some 8) (.int .i32 r6) (by kernel_rfl) (yld fun _ => by kernel_rfl) ?_
            refine wpS.take 6 false (some 9) (.int .i32 r7) (by kernel_rfl) (yld fun _ => by kernel_rfl) ?_
            refine wpS.fin rfl (kr _ _ ?_)
            refine then_n (ks17 _ _ ?_)
            refine wp_seq_k fun KS18 ks18 => ?_
            refine wp_regS (l := [0, 1, 2, 3, 4, 5, 6, 7]) (by kernel_rfl) fun KR kr => ?_
            refine wpS.take 0 false (some 40) (.int .i32 a0) (by kernel_rfl) (yld fun _ => by kernel_rfl) ?_
            refine wpS.take 1 false (some 41) (.int .i32 y1) (by kernel_rfl) (yld fun _ => by kernel_rfl) ?_
            obtain ⟨⟨r8, r9⟩, hg, h⟩ := of_bind h
            refine wpS.only 2 (op_call (d := (some 42)) (by kernel_rfl) hs (fun _ => by kernel_rfl) (zq_Parts.ok hg _) ?_)
            intro w gw hs
            refine ⟨fun _ => trivial, ?_⟩
            refine wpS.take 3 false (some 39) (.tuple #[.int .i32 r8, .int .i32 r9]) (by kernel_rfl) (yld fun _ => by kernel_rfl) ?_
            refine wpS.take 4 false (some 43) (.int .i32 r8) (by kernel_rfl) (yld fun _ => by kernel_rfl) ?_
            refine wpS.take 5 false (some 44) (.int .i32 r9) (by kernel_rfl) (yld fun _ => by kernel_rfl) ?_
            refine wpS.take 6 false (some 10) (.int .i32 r8) (by kernel_rfl) (yld fun _ => by kernel_rfl) ?_
            refine wpS.take 7 false (some 11) (.int .i32 r9) (by kernel_rfl) (yld fun _ => by kernel_rfl) ?_
            refine wpS.fin rfl (kr _ _ ?_)
            refine then_n (ks18 _ _ ?_)
            refine wp_seq_k fun KS28 ks28 => ?_
            refine wp_seq_k fun KS29 ks29 => ?_
            refine wp_regS (l := [0, 1, 2, 3, 4, 5, 6, 7, 8, 9, 10, 11, 12, 13, 14, 15, 16, 17, 18, 19, 20, 21, 22, 23, 24, 25, 26, 27, 28, 29, 30, 31, 32, 33, 34, 35, 36, 37, 38, 39, 40, 41, 42, 43, 44, 45, 46, 47]) (by kernel_rfl) fun KR kr => ?_
            refine wpS.take 0 false (some 45) (.int .i32 r6) (by kernel_rfl) (yld fun _ => by kernel_rfl) ?_
            refine wpS.take 1 false (some 46) (.int .i32 (imul .i32 r6 8192)) (by kernel_rfl) (yld fun _ => by kernel_rfl) ?_
            refine wpS.take 2 false (some 47) (.int .i32 r7) (by kernel_rfl) (yld fun _ => by kernel_rfl) ?_
            refine wpS.take 3 false (some 48) (.int .i32 (iadd .i32 (imul .i32 r6 8192) r7)) (by kernel_rfl) (yld fun _ => by kernel_rfl) ?_
            refine wpS.take 4 false (some 49) (.int .i32 a0) (by kernel_rfl) (yld fun _ => by kernel_rfl) ?_
            rcases of_if h with ⟨hc, h⟩ | ⟨hc, h⟩
            · refine wpS.take 5 false (some 50) (.bool false) (by kernel_rfl) (yld_b (nf hc) (fun _ => by kernel_rfl)) ?_
              refine wpS.take 6 false (some 51) (.bool false) (by kernel_rfl) (yld fun _ => by kernel_rfl) ?_
              refine wpS.take 7 false (some 52) (.int .i32 r7) (by kernel_rfl) (yld fun _ => by kernel_rfl) ?_
              rcases of_if h with ⟨hc, h⟩ | ⟨hc, h⟩
              · refine wpS.take 8 false (some 53) (.bool true) (by kernel_rfl) (yld_b (dt hc) (fun _ => by kernel_rfl)) ?_
                refine wpS.take 9 false (some 54) (.bool true) (by kernel_rfl) (yld fun _ => by kernel_rfl) ?_
                refine wpS.take 10 false (some 55) (.bool true) (by kernel_rfl) (yld fun _ => by kernel_rfl) ?_
                refine wpS.take 11 false (some 56) (undef) (by kernel_rfl) (yld fun _ => by kernel_rfl) ?_
                refine wpS.take 12 false (some 57) (undef) (by kernel_rfl) (yld fun _ => by kernel_rfl) ?_
                refine wpS.take 13 false (some 58) (.bool true) (by kernel_rfl) (yld fun _ => by kernel_rfl) ?_
                refine wpS.take 14 false (some 59) (.bool true) (by kernel_rfl) (yld fun _ => by kernel_rfl) ?_
                refine wpS.take 15 false (some 60) (undef) (by kernel_rfl) (yld fun _ => by kernel_rfl) ?_
                refine wpS.take 16 false (some 61) (undef) (by kernel_rfl) (yld fun _ => by kernel_rfl) ?_
                refine wpS.take 17 false (some 62) (undef) (by kernel_rfl) (yld fun _ => by kernel_rfl) ?_
                refine wpS.take 18 false (some 63) (undef) (by kernel_rfl) (yld fun _ => by kernel_rfl) ?_
                refine wpS.take 19 false (some 64) (undef) (by kernel_rfl) (yld fun _ => by kernel_rfl) ?_
                refine wpS.take 20 false (some 65) (undef) (by kernel_rfl) (yld fun _ => by kernel_rfl) ?_
                refine wpS.take 21 false (some 66) (undef) (by kernel_rfl) (yld fun _ => by kernel_rfl) ?_
                refine wpS.take 22 false (some 67) (undef) (by kernel_rfl) (yld fun _ => by kernel_rfl) ?_
                refine wpS.take 23 false (some 68) (undef) (by kernel_rfl) (yld fun _ => by kernel_rfl) ?_
                refine wpS.take 24 false (some 69) (undef) (by kernel_rfl) (yld fun _ => by kernel_rfl) ?_
                refine wpS.take 25 false (some 70) (.bool true) (by kernel_rfl) (yld fun _ => by kernel_rfl) ?_
                refine wpS.take 26 false (some 71) (.bool true) (by kernel_rfl) (yld fun _ => by kernel_rfl) ?_
                refine wpS.take 27 false (some 72) (undef) (by kernel_rfl) (yld fun _ => by kernel_rfl) ?_
                refine wpS.take 28 false (some 73) (undef) (by kernel_rfl) (yld fun _ => by kernel_rfl) ?_
                refine wpS.take 29 false (some 74) (undef) (by kernel_rfl) (yld fun _ => by kernel_rfl) ?_
                refine wpS.take 30 false (some 75) (undef) (by kernel_rfl) (yld fun _ => by kernel_rfl) ?_
                refine wpS.take 31 false (some 76) (.bool true) (by kernel_rfl) (yld fun _ => by kernel_rfl) ?_
                refine wpS.take 32 false (some 77) (.bool true) (by kernel_rfl) (yld fun _ => by kernel_rfl) ?_
                refine wpS.take 33 false (some 78) (undef) (by kernel_rfl) (yld fun _ => by kernel_rfl) ?_
                refine wpS.take 34 false (some 79) (undef) (by kernel_rfl) (yld fun _ => by kernel_rfl) ?_
                refine wpS.take 35 false (some 80) (undef) (by kernel_rfl) (yld fun _ => by kernel_rfl) ?_
                refine wpS.take 36 false (some 81) (.bool true) (by kernel_rfl) (yld fun _ => by kernel_rfl) ?_
                refine wpS.take 37 false (some 82) (.bool true) (by kernel_rfl) (yld fun _ => by kernel_rfl) ?_
                refine wpS.take 38 false (some 83) (undef) (by kernel_rfl) (yld fun _ => by kernel_rfl) ?_
                refine wpS.take 39 false (some 84) (undef) (by kernel_rfl) (yld fun _ => by kernel_rfl) ?_
                refine wpS.take 40 false (some 85) (.bool true) (by kernel_rfl) (yld fun _ => by kernel_rfl) ?_
                refine wpS.take 41 false (some 86) (.bool true) (by kernel_rfl) (yld fun _ => by kernel_rfl) ?_
                refine wpS.take 42 false (some 87) (undef) (by kernel_rfl) (yld fun _ => by kernel_rfl) ?_
                refine wpS.take 43 false (some 88) (undef) (by kernel_rfl) (yld fun _ => by kernel_rfl) ?_
                refine wpS.take 44 false (some 89) (undef) (by kernel_rfl) (yld fun _ => by kernel_rfl) ?_
                refine wpS.take 45 false (some 90) (undef) (by kernel_rfl) (yld fun _ => by kernel_rfl) ?_
                refine wpS.take 46 false (some 91) (undef) (by kernel_rfl) (yld fun _ => by kernel_rfl) ?_
                refine wpS.take 47 false (some 92) (.bool true) (by kernel_rfl) (yld fun _ => by kernel_rfl) ?_
                refine wpS.fin rfl (kr _ _ ?_)
                refine then_n (ks29 _ _ ?_)
                refine wp_cond_t (by kernel_rfl) ?_
                refine wp_seq_k fun KS30 ks30 => ?_
                refine wp_regS (l := [0]) (by kernel_rfl) fun KR kr => ?_
                refine wpS.take 0 false (some 6) (.bool false) (by kernel_rfl) (yld fun _ => by kernel_rfl) ?_
                refine wpS.fin rfl (kr _ _ ?_)
                refine then_n (ks30 _ _ ?_)
                refine wp_ret ?_
                refine then_r ?_
                have q0 := of_some h
                subst q0
                exact qq _ _ (post_ret (by kernel_rfl) (run_results [.tmp 6] [.bool false] (by kernel_rfl) (.cons (res_tmp (by kernel_rfl)) .nil)) ⟨congrArg Ending.returned (by kernel_rfl), hs.none⟩)
              · refine wpS.take 8 false (some 53) (.bool false) (by kernel_rfl) (yld_b (df hc) (fun _ => by kernel_rfl)) ?_
                refine wpS.take 9 false (some 54) (.bool false) (by kernel_rfl) (yld fun _ => by kernel_rfl) ?_
                refine wpS.take 10 false (some 55) (.bool false) (by kernel_rfl) (yld fun _ => by kernel_rfl) ?_
                refine wpS.take 11 false (some 56) (.int .i32 r7) (by kernel_rfl) (yld fun _ => by kernel_rfl) ?_
                rcases of_if h with ⟨hc, h⟩ | ⟨hc, h⟩
                · refine wpS.take 12 false (some 57) (.bool true) (by kernel_rfl) (yld_b (dt hc) (fun _ => by kernel_rfl)) ?_
                  refine wpS.take 13 false (some 58) (.bool true) (by kernel_rfl) (yld fun _ => by kernel_rfl) ?_
                  refine wpS.take 14 false (some 59) (.bool true) (by kernel_rfl) (yld fun _ => by kernel_rfl) ?_
                  refine wpS.take 15 false (some 60) (undef) (by kernel_rfl) (yld fun _ => by kernel_rfl) ?_
                  refine wpS.take 16 false (some 61) (undef) (by kernel_rfl) (yld fun _ => by kernel_rfl) ?_
                  refine wpS.take 17 false (some 62) (undef) (by kernel_rfl) (yld fun _ => by kernel_rfl) ?_
                  refine wpS.take 18 false (some 63) (undef) (by kernel_rfl) (yld fun _ => by kernel_rfl) ?_
                  refine wpS.take 19 false (some 64) (undef) (by kernel_rfl) (yld fun _ => by kernel_rfl) ?_
                  refine wpS.take 20 false (some 65) (undef) (by kernel_rfl) (yld fun _ => by kernel_rfl) ?_
                  refine wpS.take 21 false (some 66) (undef) (by kernel_rfl) (yld fun _ => by kernel_rfl) ?_
                  refine wpS.take 22 false (some 67) (undef) (by kernel_rfl) (yld fun _ => by kernel_rfl) ?_
                  refine wpS.take 23 false (some 68) (undef) (by kernel_rfl) (yld fun _ => by kernel_rfl) ?_
                  refine wpS.take 24 false (some 69) (undef) (by kernel_rfl) (yld fun _ => by kernel_rfl) ?_
                  refine wpS.take 25 false (some 70) (.bool true) (by kernel_rfl) (yld fun _ => by kernel_rfl) ?_
                  refine wpS.take 26 false (some 71) (.bool true) (by kernel_rfl) (yld fun _ => by kernel_rfl) ?_
                  refine wpS.take 27 false (some 72) (undef) (by kernel_rfl) (yld fun _ => by kernel_rfl) ?_
                  refine wpS.take 28 false (some 73) (undef) (by kernel_rfl) (yld fun _ => by kernel_rfl) ?_
                  refine wpS.take 29 false (some 74) (undef) (by kernel_rfl) (yld fun _ => by kernel_rfl) ?_
                  refine wpS.take 30 false (some 75) (undef) (by kernel_rfl) (yld fun _ => by kernel_rfl) ?_
                  refine wpS.take 31 false (some 76) (.bool true) (by kernel_rfl) (yld fun _ => by kernel_rfl) ?_
                  refine wpS.take 32 false (some 77) (.bool true) (by kernel_rfl) (yld fun _ => by kernel_rfl) ?_
                  refine wpS.take 33 false (some 78) (undef) (by kernel_rfl) (yld fun _ => by kernel_rfl) ?_
                  refine wpS.take 34 false (some 79) (undef) (by kernel_rfl) (yld fun _ => by kernel_rfl) ?_
                  refine wpS.take 35 false (some 80) (undef) (by kernel_rfl) (yld fun _ => by kernel_rfl) ?_
                  refine wpS.take 36 false (some 81) (.bool true) (by kernel_rfl) (yld fun _ => by kernel_rfl) ?_
                  refine wpS.take 37 false (some 82) (.bool true) (by kernel_rfl) (yld fun _ => by kernel_rfl) ?_
                  refine wpS.take 38 false (some 83) (undef) (by kernel_rfl) (yld fun _ => by kernel_rfl) ?_
                  refine wpS.take 39 false (some 84) (undef) (by kernel_rfl) (yld fun _ => by kernel_rfl) ?_
                  refine wpS.take 40 false (some 85) (.bool true) (by kernel_rfl) (yld fun _ => by kernel_rfl) ?_
                  refine wpS.take 41 false (some 86) (.bool true) (by kernel_rfl) (yld fun _ => by kernel_rfl) ?_
                  refine wpS.take 42 false (some 87) (undef) (by kernel_rfl) (yld fun _ => by kernel_rfl) ?_
                  refine wpS.take 43 false (some 88) (undef) (by kernel_rfl) (yld fun _ => by kernel_rfl) ?_
                  refine wpS.take 44 false (some 89) (undef) (by kernel_rfl) (yld fun _ => by kernel_rfl) ?_
                  refine wpS.take 45 false (some 90) (undef) (by kernel_rfl) (yld fun _ => by kernel_rfl) ?_
                  refine wpS.take 46 false (some 91) (undef) (by kernel_rfl) (yld fun _ => by kernel_rfl) ?_
                  refine wpS.take 47 false (some 92) (.bool true) (by kernel_rfl) (yld fun _ => by kernel_rfl) ?_
                  refine wpS.fin rfl (kr _ _ ?_)
                  refine then_n (ks29 _ _ ?_)
                  refine wp_cond_t (by kernel_rfl) ?_
                  refine wp_seq_k fun KS31 ks31 => ?_
                  refine wp_regS (l := [0]) (by kernel_rfl) fun KR kr => ?_
                  refine wpS.take 0 false (some 6) (.bool false) (by kernel_rfl) (yld fun _ => by kernel_rfl) ?_
                  refine wpS.fin rfl (kr _ _ ?_)
                  refine then_n (ks31 _ _ ?_)
                  refine wp_ret ?_
                  refine then_r ?_
                  have q0 := of_some h
                  subst q0
                  exact qq _ _ (post_ret (by kernel_rfl) (run_results [.tmp 6] [.bool false] (by kernel_rfl) (.cons (res_tmp (by kernel_rfl)) .nil)) ⟨congrArg Ending.returned (by kernel_rfl), hs.none⟩)
                · refine wpS.take 12 false (some 57) (.bool false) (by kernel_rfl) (yld_b (df hc) (fun _ => by kernel_rfl)) ?_
                  refine wpS.take 13 false (some 58) (.bool false) (by kernel_rfl) (yld fun _ => by kernel_rfl) ?_
                  refine wpS.take 14 false (some 59) (.bool false) (by kernel_rfl) (yld fun _ => by kernel_rfl) ?_
                  refine wpS.take 15 false (some 60) (.int .i32 r8) (by kernel_rfl) (yld fun _ => by kernel_rfl) ?_
                  refine wpS.take 16 false (some 61) (.int .i32 (imul .i32 r8 2)) (by kernel_rfl) (yld fun _ => by kernel_rfl) ?_
                  refine wpS.take 17 false (some 62) (.int .i32 y1) (by kernel_rfl) (yld fun _ => by kernel_rfl) ?_
                  refine wpS.take 18 false (some 63) (.int .i32 (imul .i32 (imul .i32 r8 2) y1)) (by kernel_rfl) (yld fun _ => by kernel_rfl) ?_
                  refine wpS.take 19 false (some 64) (.int .i32 r9) (by kernel_rfl) (yld fun _ => by kernel_rfl) ?_
                  refine wpS.take 20 false (some 65) (.int .i32 (iadd .i32 (imul .i32 (imul .i32 r8 2) y1) r9)) (by kernel_rfl) (yld fun _ => by kernel_rfl) ?_
                  refine wpS.take 21 false (some 66) (.int .i32 (iadd .i32 (iadd .i32 (imul .i32 (imul .i32 r8 2) y1) r9) 8380417)) (by kernel_rfl) (yld fun _ => by kernel_rfl) ?_
                  refine wpS.take 22 false (some 67) (.int .i32 (irem .i32 (iadd .i32 (iadd .i32 (imul .i32 (imul .i32 r8 2) y1) r9) 8380417) 8380417)) (by kernel_rfl) (yld fun _ => by kernel_rfl) ?_
                  refine wpS.take 23 false (some 68) (.int .i32 a0) (by kernel_rfl) (yld fun _ => by kernel_rfl) ?_
                  rcases of_if h with ⟨hc, h⟩ | ⟨hc, h⟩
                  · refine wpS.take 24 false (some 69) (.bool false) (by kernel_rfl) (yld_b (nf hc) (fun _ => by kernel_rfl)) ?_
                    refine wpS.take 25 false (some 70) (.bool false) (by kernel_rfl) (yld fun _ => by kernel_rfl) ?_
                    refine wpS.take 26 false (some 71) (.bool false) (by kernel_rfl) (yld fun _ => by kernel_rfl) ?_
                    refine wpS.take 27 false (some 72) (.int .i32 r9) (by kernel_rfl) (yld fun _ => by kernel_rfl) ?_
                    refine wpS.take 28 false (some 73) (.int .i32 y1) (by kernel_rfl) (yld fun _ => by kernel_rfl) ?_
                    refine wpS.take 29 false (some 74) (.int .i32 (isub .i32 0 y1)) (by kernel_rfl) (yld fun _ => by kernel_rfl) ?_
                    rcases of_if h with ⟨hc, h⟩ | ⟨hc, h⟩
                    · refine wpS.take 30 false (some 75) (.bool true) (by kernel_rfl) (yld_b (dt hc) (fun _ => by kernel_rfl)) ?_
                      refine wpS.take 31 false (some 76) (.bool true) (by kernel_rfl) (yld fun _ => by kernel_rfl) ?_
                      refine wpS.take 32 false (some 77) (.bool true) (by kernel_rfl) (yld fun _ => by kernel_rfl) ?_
                      refine wpS.take 33 false (some 78) (undef) (by kernel_rfl) (yld fun _ => by kernel_rfl) ?_
                      refine wpS.take 34 false (some 79) (undef) (by kernel_rfl) (yld fun _ => by kernel_rfl) ?_
                      refine wpS.take 35 false (some 80) (undef) (by kernel_rfl) (yld fun _ => by kernel_rfl) ?_
                      refine wpS.take 36 false (some 81) (.bool true) (by kernel_rfl) (yld fun _ => by kernel_rfl) ?_
                      refine wpS.take 37 false (some 82) (.bool true) (by kernel_rfl) (yld fun _ => by kernel_rfl) ?_
                      refine wpS.take 38 false (some 83) (undef) (by kernel_rfl) (yld fun _ => by kernel_rfl) ?_
                      refine wpS.take 39 false (some 84) (undef) (by kernel_rfl) (yld fun _ => by kernel_rfl) ?_
                      refine wpS.take 40 false (some 85) (.bool true) (by kernel_rfl) (yld fun _ => by kernel_rfl) ?_
                      refine wpS.take 41 false (some 86) (.bool true) (by kernel_rfl) (yld fun _ => by kernel_rfl) ?_
                      refine wpS.take 42 false (some 87) (undef) (by kernel_rfl) (yld fun _ => by kernel_rfl) ?_
                      refine wpS.take 43 false (some 88) (undef) (by kernel_rfl) (yld fun _ => by kernel_rfl) ?_
                      refine wpS.take 44 false (some 89) (undef) (by kernel_rfl) (yld fun _ => by kernel_rfl) ?_
                      refine wpS.take 45 false (some 90) (undef) (by kernel_rfl) (yld fun _ => by kernel_rfl) ?_
                      refine wpS.take 46 false (some 91) (undef) (by kernel_rfl) (yld fun _ => by kernel_rfl) ?_
                      refine wpS.take 47 false (some 92) (.bool true) (by kernel_rfl) (yld fun _ => by kernel_rfl) ?_
                      refine wpS.fin rfl (kr _ _ ?_)
                      refine then_n (ks29 _ _ ?_)
                      refine wp_cond_t (by kernel_rfl) ?_
                      refine wp_seq_k fun KS32 ks32 => ?_
                      refine wp_regS (l := [0]) (by kernel_rfl) fun KR kr => ?_
                      refine wpS.take 0 false (some 6) (.bool false) (by kernel_rfl) (yld fun _ => by kernel_rfl) ?_
                      refine wpS.fin rfl (kr _ _ ?_)
                      refine then_n (ks32 _ _ ?_)
                      refine wp_ret ?_
                      refine then_r ?_
                      have q0 := of_some h
                      subst q0
                      exact qq _ _ (post_ret (by kernel_rfl) (run_results [.tmp 6] [.bool false] (by kernel_rfl) (.cons (res_tmp (by kernel_rfl)) .nil)) ⟨congrArg Ending.returned (by kernel_rfl), hs.none⟩)
                    · refine wpS.take 30 false (some 75) (.bool false) (by kernel_rfl) (yld_b (df hc) (fun _ => by kernel_rfl)) ?_
                      refine wpS.take 31 false (some 76) (.bool false) (by kernel_rfl) (yld fun _ => by kernel_rfl) ?_
                      refine wpS.take 32 false (some 77) (.bool false) (by kernel_rfl) (yld fun _ => by kernel_rfl) ?_
                      refine wpS.take 33 false (some 78) (.int .i32 r9) (by kernel_rfl) (yld fun _ => by kernel_rfl) ?_
                      refine wpS.take 34 false (some 79) (.int .i32 y1) (by kernel_rfl) (yld fun _ => by kernel_rfl) ?_
                      rcases of_if h with ⟨hc, h⟩ | ⟨hc, h⟩
                      · refine wpS.take 35 false (some 80) (.bool true) (by kernel_rfl) (yld_b (dt hc) (fun _ => by kernel_rfl)) ?_
                        refine wpS.take 36 false (some 81) (.bool true) (by kernel_rfl) (yld fun _ => by kernel_rfl) ?_
                        refine wpS.take 37 false (some 82) (.bool true) (by kernel_rfl) (yld fun _ => by kernel_rfl) ?_
                        refine wpS.take 38 false (some 83) (undef) (by kernel_rfl) (yld fun _ => by kernel_rfl) ?_
                        refine wpS.take 39 false (some 84) (undef) (by kernel_rfl) (yld fun _ => by kernel_rfl) ?_
                        refine wpS.take 40 false (some 85) (.bool true) (by kernel_rfl) (yld fun _ => by kernel_rfl) ?_
                        refine wpS.take 41 false (some 86) (.bool true) (by kernel_rfl) (yld fun _ => by kernel_rfl) ?_
                        refine wpS.take 42 false (some 87) (undef) (by kernel_rfl) (yld fun _ => by kernel_rfl) ?_
                        refine wpS.take 43 false (some 88) (undef) (by kernel_rfl) (yld fun _ => by kernel_rfl) ?_
                        refine wpS.take 44 false (some 89) (undef) (by kernel_rfl) (yld fun _ => by kernel_rfl) ?_
                        refine wpS.take 45 false (some 90) (undef) (by kernel_rfl) (yld fun _ => by kernel_rfl) ?_
                        refine wpS.take 46 false (some 91) (undef) (by kernel_rfl) (yld fun _ => by kernel_rfl) ?_
                        refine wpS.take 47 false (some 92) (.bool true) (by kernel_rfl) (yld fun _ => by kernel_rfl) ?_
                        refine wpS.fin rfl (kr _ _ ?_)
                        refine then_n (ks29 _ _ ?_)
                        refine wp_cond_t (by kernel_rfl) ?_
                        refine wp_seq_k fun KS33 ks33 => ?_
                        refine wp_regS (l := [0]) (by kernel_rfl) fun KR kr => ?_
                        refine wpS.take 0 false (some 6) (.bool false) (by kernel_rfl) (yld fun _ => by kernel_rfl) ?_
                        refine wpS.fin rfl (kr _ _ ?_)
                        refine then_n (ks33 _ _ ?_)
                        refine wp_ret ?_
                        refine then_r ?_
                        have q0 := of_some h
                        subst q0
                        exact qq _ _ (post_ret (by kernel_rfl) (run_results [.tmp 6] [.bool false] (by kernel_rfl) (.cons (res_tmp (by kernel_rfl)) .nil)) ⟨congrArg Ending.returned (by kernel_rfl), hs.none⟩)
                      · refine wpS.take 35 false (some 80) (.bool false) (by kernel_rfl) (yld_b (df hc) (fun _ => by kernel_rfl)) ?_
                        refine wpS.take 36 false (some 81) (.bool false) (by kernel_rfl) (yld fun _ => by kernel_rfl) ?_
                        refine wpS.take 37 false (some 82) (.bool false) (by kernel_rfl) (yld fun _ => by kernel_rfl) ?_
                        refine wpS.take 38 false (some 83) (.int .i32 r8) (by kernel_rfl) (yld fun _ => by kernel_rfl) ?_
                        rcases of_if h with ⟨hc, h⟩ | ⟨hc, h⟩
                        · refine wpS.take 39 false (some 84) (.bool true) (by kernel_rfl) (yld_b (dt hc) (fun _ => by kernel_rfl)) ?_
                          refine wpS.take 40 false (some 85) (.bool true) (by kernel_rfl) (yld fun _ => by kernel_rfl) ?_
                          refine wpS.take 41 false (some 86) (.bool true) (by kernel_rfl) (yld fun _ => by kernel_rfl) ?_
                          refine wpS.take 42 false (some 87) (undef) (by kernel_rfl) (yld fun _ => by kernel_rfl) ?_
                          refine wpS.take 43 false (some 88) (undef) (by kernel_rfl) (yld fun _ => by kernel_rfl) ?_
                          refine wpS.take 44 false (some 89) (undef) (by kernel_rfl) (yld fun _ => by kernel_rfl) ?_
                          refine wpS.take 45 false (some 90) (undef) (by kernel_rfl) (yld fun _ => by kernel_rfl) ?_
                          refine wpS.take 46 false (some 91) (undef) (by kernel_rfl) (yld fun _ => by kernel_rfl) ?_
                          refine wpS.take 47 false (some 92) (.bool true) (by kernel_rfl) (yld fun _ => by kernel_rfl) ?_
                          refine wpS.fin rfl (kr _ _ ?_)
                          refine then_n (ks29 _ _ ?_)
                          refine wp_cond_t (by kernel_rfl) ?_
                          refine wp_seq_k fun KS34 ks34 => ?_
                          refine wp_regS (l := [0]) (by kernel_rfl) fun KR kr => ?_
                          refine wpS.take 0 false (some 6) (.bool false) (by kernel_rfl) (yld fun _ => by kernel_rfl) ?_
                          refine wpS.fin rfl (kr _ _ ?_)
                          refine then_n (ks34 _ _ ?_)
                          refine wp_ret ?_
                          refine then_r ?_
                          have q0 := of_some h
                          subst q0
                          exact qq _ _ (post_ret (by kernel_rfl) (run_results [.tmp 6] [.bool false] (by kernel_rfl) (.cons (res_tmp (by kernel_rfl)) .nil)) ⟨congrArg Ending.returned (by kernel_rfl), hs.none⟩)
                        · refine wpS.take 39 false (some 84) (.bool false) (by kernel_rfl) (yld_b (df hc) (fun _ => by kernel_rfl)) ?_
                          refine wpS.take 40 false (some 85) (.bool false) (by kernel_rfl) (yld fun _ => by kernel_rfl) ?_
                          refine wpS.take 41 false (some 86) (.bool false) (by kernel_rfl) (yld fun _ => by kernel_rfl) ?_
                          refine wpS.take 42 false (some 87) (.int .i32 r8) (by kernel_rfl) (yld fun _ => by kernel_rfl) ?_
                          refine wpS.take 43 false (some 88) (.int .i32 y1) (by kernel_rfl) (yld fun _ => by kernel_rfl) ?_
                          refine wpS.take 44 false (some 89) (.int .i32 (imul .i32 2 y1)) (by kernel_rfl) (yld fun _ => by kernel_rfl) ?_
                          obtain ⟨h0, h⟩ := of_chk h
                          refine wpS.take 45 false (some 90) (.int .i32 (iquo .i32 8380416 (imul .i32 2 y1))) (by kernel_rfl) (yld_quo (t := 21) (by kernel_rfl) h0) ?_
                          rcases of_if h with ⟨hc, h⟩ | ⟨hc, h⟩
                          · refine wpS.take 46 false (some 91) (.bool true) (by kernel_rfl) (yld_b (dt hc) (fun _ => by kernel_rfl)) ?_
                            refine wpS.take 47 false (some 92) (.bool true) (by kernel_rfl) (yld fun _ => by kernel_rfl) ?_
                            refine wpS.fin rfl (kr _ _ ?_)
                            refine then_n (ks29 _ _ ?_)
                            refine wp_cond_t (by kernel_rfl) ?_
                            refine wp_seq_k fun KS35 ks35 => ?_
                            refine wp_regS (l := [0]) (by kernel_rfl) fun KR kr => ?_
                            refine wpS.take 0 false (some 6) (.bool false) (by kernel_rfl) (yld fun _ => by kernel_rfl) ?_
                            refine wpS.fin rfl (kr _ _ ?_)
                            refine then_n (ks35 _ _ ?_)
                            refine wp_ret ?_
                            refine then_r ?_
                            have q0 := of_some h
                            subst q0
                            exact qq _ _ (post_ret (by kernel_rfl) (run_results [.tmp 6] [.bool false] (by kernel_rfl) (.cons (res_tmp (by kernel_rfl)) .nil)) ⟨congrArg Ending.returned (by kernel_rfl), hs.none⟩)
                          · refine wpS.take 46 false (some 91) (.bool false) (by kernel_rfl) (yld_b (df hc) (fun _ => by kernel_rfl)) ?_
                            refine wpS.take 47 false (some 92) (.bool false) (by kernel_rfl) (yld fun _ => by kernel_rfl) ?_
                            refine wpS.fin rfl (kr _ _ ?_)
                            refine then_n (ks29 _ _ ?_)
                            refine wp_cond_f (by kernel_rfl) ?_
                            refine wp_skip ?_
                            refine then_n (ks28 _ _ ?_)
                            refine wp_seq_k fun KS36 ks36 => ?_
                            refine wp_regS (l := [0, 1, 2, 3]) (by kernel_rfl) fun KR kr => ?_
                            refine wpS.take 0 false (some 93) (.int .i32 a1) (by kernel_rfl) (yld fun _ => by kernel_rfl) ?_
                            refine wpS.take 1 false (some 94) (.int .i32 (iadd .i32 a1 8380417)) (by kernel_rfl) (yld fun _ => by kernel_rfl) ?_
                            refine wpS.take 2 false (some 95) (.int .i32 (irem .i32 (iadd .i32 a1 8380417) 8380417)) (by kernel_rfl) (yld fun _ => by kernel_rfl) ?_
                            obtain ⟨x10, hx, h⟩ := of_bind h
                            refine wpS.take 3 false (some 12) (.int .i32 x10) (by kernel_rfl) (yld_int hx (fun _ => by kernel_rfl)) ?_
                            refine wpS.fin rfl (kr _ _ ?_)
                            refine then_n (ks36 _ _ ?_)
                            refine wp_seq_k fun KS37 ks37 => ?_
                            refine wp_regS (l := [0, 1, 2, 3, 4, 5, 6, 7, 8, 9, 10]) (by kernel_rfl) fun KR kr => ?_
                            refine wpS.take 0 false (some 97) (.int .i32 a0) (by kernel_rfl) (yld fun _ => by kernel_rfl) ?_
                            refine wpS.take 1 false (some 98) (.int .i32 x10) (by kernel_rfl) (yld fun _ => by kernel_rfl) ?_
                            refine wpS.take 2 false (some 99) (.int .i32 (iadd .i32 a0 x10)) (by kernel_rfl) (yld fun _ => by kernel_rfl) ?_
                            refine wpS.take 3 false (some 100) (.int .i32 (irem .i32 (iadd .i32 a0 x10) 8380417)) (by kernel_rfl) (yld fun _ => by kernel_rfl) ?_
                            refine wpS.take 4 false (some 101) (.int .i32 y1) (by kernel_rfl) (yld fun _ => by kernel_rfl) ?_
                            obtain ⟨⟨r11, r12⟩, hg, h⟩ := of_bind h
                            refine wpS.only 5 (op_call (d := (some 102)) (by kernel_rfl) hs (fun _ => by kernel_rfl) (zq_Parts.ok hg _) ?_)
                            intro w gw hs
                            refine ⟨fun _ => trivial, ?_⟩
                            refine wpS.take 6 false (some 96) (.tuple #[.int .i32 r11, .int .i32 r12]) (by kernel_rfl) (yld fun _ => by kernel_rfl) ?_
                            refine wpS.take 7 false (some 103) (.int .i32 r11) (by kernel_rfl) (yld fun _ => by kernel_rfl) ?_
                            refine wpS.take 8 false (some 104) (.int .i32 r12) (by kernel_rfl) (yld fun _ => by kernel_rfl) ?_
                            refine wpS.take 9 false (some 13) (.int .i32 r11) (by kernel_rfl) (yld fun _ => by kernel_rfl) ?_
                            refine wpS.take 10 false (some 14) (.int .i32 r12) (by kernel_rfl) (yld fun _ => by kernel_rfl) ?_
                            refine wpS.fin rfl (kr _ _ ?_)
                            refine then_n (ks37 _ _ ?_)
                            refine wp_seq_k fun KS38 ks38 => ?_
                            refine wp_regS (l := [0, 1, 2, 3, 4, 5, 6, 7, 8, 9, 10, 11, 12, 13, 14, 15, 16, 17, 18, 19]) (by kernel_rfl) fun KR kr => ?_
                            refine wpS.take 0 false (some 105) (.int .i32 x10) (by kernel_rfl) (yld fun _ => by kernel_rfl) ?_
                            refine wpS.take 1 false (some 106) (.int .i32 a0) (by kernel_rfl) (yld fun _ => by kernel_rfl) ?_
                            refine wpS.take 2 false (some 107) (.int .i32 y1) (by kernel_rfl) (yld fun _ => by kernel_rfl) ?_
                            obtain ⟨r13, hg, h⟩ := of_bind h
                            refine wpS.only 3 (op_call (d := (some 108)) (by kernel_rfl) hs (fun _ => by kernel_rfl) (zq_Hint.ok hg _) ?_)
                            intro w gw hs
                            refine ⟨fun _ => trivial, ?_⟩
                            refine wpS.take 4 false (some 109) (.int .i32 a0) (by kernel_rfl) (yld fun _ => by kernel_rfl) ?_
                            refine wpS.take 5 false (some 110) (.int .i32 y1) (by kernel_rfl) (yld fun _ => by kernel_rfl) ?_
                            obtain ⟨r14, hg, h⟩ := of_bind h
                            refine wpS.only 6 (op_call (d := (some 111)) (by kernel_rfl) hs (fun _ => by kernel_rfl) (zq_Use.ok hg _) ?_)
                            intro w gw hs
                            refine ⟨fun _ => trivial, ?_⟩
                            refine wpS.take 7 false (some 112) (.int .i32 r11) (by kernel_rfl) (yld fun _ => by kernel_rfl) ?_
                            rcases of_if h with ⟨hc, h⟩ | ⟨hc, h⟩
                            · refine wpS.take 8 false (some 113) (.bool true) (by kernel_rfl) (yld_b (et hc) (fun _ => by kernel_rfl)) ?_
                              refine wpS.take 9 false (some 114) (.bool true) (by kernel_rfl) (yld fun _ => by kernel_rfl) ?_
                              refine wpS.take 10 false (some 115) (.int .i32 a0) (by kernel_rfl) (yld fun _ => by kernel_rfl) ?_
                              refine wpS.take 11 false (some 116) (.int .i32 y1) (by kernel_rfl) (yld fun _ => by kernel_rfl) ?_
                              obtain ⟨r15, hg, h⟩ := of_bind h
                              refine wpS.only 12 (op_call (d := (some 117)) (by kernel_rfl) hs (fun _ => by kernel_rfl) (zq_Use.ok hg _) ?_)
                              intro w gw hs
                              refine ⟨fun _ => trivial, ?_⟩
                              refine wpS.take 13 false (some 118) (.int .i32 r8) (by kernel_rfl) (yld fun _ => by kernel_rfl) ?_
                              rcases of_if h with ⟨hc, h⟩ | ⟨hc, h⟩
                              · refine wpS.take 14 false (some 119) (.bool true) (by kernel_rfl) (yld_b (et hc) (fun _ => by kernel_rfl)) ?_
                                refine wpS.take 15 false (some 120) (.bool true) (by kernel_rfl) (yld fun _ => by kernel_rfl) ?_
                                refine wpS.take 16 false (some 121) (.bool true) (by kernel_rfl) (yld fun _ => by kernel_rfl) ?_
                                obtain ⟨r16, hg, h⟩ := of_bind h
                                refine wpS.only 17 (op_call (d := (some 122)) (by kernel_rfl) hs (fun _ => by kernel_rfl) (law21_awake.ok hg _) ?_)
                                intro w gw hs
                                refine ⟨fun _ => trivial, ?_⟩
                                refine wpS.take 18 false (some 123) (.bool r16) (by kernel_rfl) (yld fun _ => by kernel_rfl) ?_
                                refine wpS.take 19 false (some 6) (.bool r16) (by kernel_rfl) (yld fun _ => by kernel_rfl) ?_
                                refine wpS.fin rfl (kr _ _ ?_)
                                refine then_n (ks38 _ _ ?_)
                                refine wp_ret ?_
                                have q0 := of_some h
                                subst q0
                                exact qq _ _ (post_ret (by kernel_rfl) (run_results [.tmp 6] [.bool r16] (by kernel_rfl) (.cons (res_tmp (by kernel_rfl)) .nil)) ⟨congrArg Ending.returned (by kernel_rfl), hs.none⟩)
                              · refine wpS.take 14 false (some 119) (.bool false) (by kernel_rfl) (yld_b (ef hc) (fun _ => by kernel_rfl)) ?_
                                refine wpS.take 15 false (some 120) (.bool false) (by kernel_rfl) (yld fun _ => by kernel_rfl) ?_
                                refine wpS.take 16 false (some 121) (.bool false) (by kernel_rfl) (yld fun _ => by kernel_rfl) ?_
                                refine wpS.take 17 false (some 122) (undef) (by kernel_rfl) (yld fun _ => by kernel_rfl) ?_
                                refine wpS.take 18 false (some 123) (.bool false) (by kernel_rfl) (yld fun _ => by kernel_rfl) ?_
                                refine wpS.take 19 false (some 6) (.bool false) (by kernel_rfl) (yld fun _ => by kernel_rfl) ?_
                                refine wpS.fin rfl (kr _ _ ?_)
                                refine then_n (ks38 _ _ ?_)
                                refine wp_ret ?_
                                have q0 := of_some h
                                subst q0
                                exact qq _ _ (post_ret (by kernel_rfl) (run_results [.tmp 6] [.bool false] (by kernel_rfl) (.cons (res_tmp (by kernel_rfl)) .nil)) ⟨congrArg Ending.returned (by kernel_rfl), hs.none⟩)
                            · refine wpS.take 8 false (some 113) (.bool false) (by kernel_rfl) (yld_b (ef hc) (fun _ => by kernel_rfl)) ?_
                              refine wpS.take 9 false (some 114) (.bool false) (by kernel_rfl) (yld fun _ => by kernel_rfl) ?_
                              refine wpS.take 10 false (some 115) (undef) (by kernel_rfl) (yld fun _ => by kernel_rfl) ?_
                              refine wpS.take 11 false (some 116) (undef) (by kernel_rfl) (yld fun _ => by kernel_rfl) ?_
                              refine wpS.take 12 false (some 117) (undef) (by kernel_rfl) (yld fun _ => by kernel_rfl) ?_
                              refine wpS.take 13 false (some 118) (undef) (by kernel_rfl) (yld fun _ => by kernel_rfl) ?_
                              refine wpS.take 14 false (some 119) (undef) (by kernel_rfl) (yld fun _ => by kernel_rfl) ?_
                              refine wpS.take 15 false (some 120) (.bool false) (by kernel_rfl) (yld fun _ => by kernel_rfl) ?_
                              refine wpS.take 16 false (some 121) (.bool false) (by kernel_rfl) (yld fun _ => by kernel_rfl) ?_
                              refine wpS.take 17 false (some 122) (undef) (by kernel_rfl) (yld fun _ => by kernel_rfl) ?_
                              refine wpS.take 18 false (some 123) (.bool false) (by kernel_rfl) (yld fun _ => by kernel_rfl) ?_
                              refine wpS.take 19 false (some 6) (.bool false) (by kernel_rfl) (yld fun _ => by kernel_rfl) ?_
                              refine wpS.fin rfl (kr _ _ ?_)
                              refine then_n (ks38 _ _ ?_)
                              refine wp_ret ?_
                              have q0 := of_some h
                              subst q0
                              exact qq _ _ (post_ret (by kernel_rfl) (run_results [.tmp 6] [.bool false] (by kernel_rfl) (.cons (res_tmp (by kernel_rfl)) .nil)) ⟨congrArg Ending.returned (by kernel_rfl), hs.none⟩)
                  · refine wpS.take 24 false (some 69) (.bool true) (by kernel_rfl) (yld_b (nt hc) (fun _ => by kernel_rfl)) ?_
                    refine wpS.take 25 false (some 70) (.bool true) (by kernel_rfl) (yld fun _ => by kernel_rfl) ?_
                    refine wpS.take 26 false (some 71) (.bool true) (by kernel_rfl) (yld fun _ => by kernel_rfl) ?_
                    refine wpS.take 27 false (some 72) (undef) (by kernel_rfl) (yld fun _ => by kernel_rfl) ?_
                    refine wpS.take 28 false (some 73) (undef) (by kernel_rfl) (yld fun _ => by kernel_rfl) ?_
                    refine wpS.take 29 false (some 74) (undef) (by kernel_rfl) (yld fun _ => by kernel_rfl) ?_
                    refine wpS.take 30 false (some 75) (undef) (by kernel_rfl) (yld fun _ => by kernel_rfl) ?_
                    refine wpS.take 31 false (some 76) (.bool true) (by kernel_rfl) (yld fun _ => by kernel_rfl) ?_
                    refine wpS.take 32 false (some 77) (.bool true) (by kernel_rfl) (yld fun _ => by kernel_rfl) ?_
                    refine wpS.take 33 false (some 78) (undef) (by kernel_rfl) (yld fun _ => by kernel_rfl) ?_
                    refine wpS.take 34 false (some 79) (undef) (by kernel_rfl) (yld fun _ => by kernel_rfl) ?_
                    refine wpS.take 35 false (some 80) (undef) (by kernel_rfl) (yld fun _ => by kernel_rfl) ?_
                    refine wpS.take 36 false (some 81) (.bool true) (by kernel_rfl) (yld fun _ => by kernel_rfl) ?_
                    refine wpS.take 37 false (some 82) (.bool true) (by kernel_rfl) (yld fun _ => by kernel_rfl) ?_
                    refine wpS.take 38 false (some 83) (undef) (by kernel_rfl) (yld fun _ => by kernel_rfl) ?_
                    refine wpS.take 39 false (some 84) (undef) (by kernel_rfl) (yld fun _ => by kernel_rfl) ?_
                    refine wpS.take 40 false (some 85) (.bool true) (by kernel_rfl) (yld fun _ => by kernel_rfl) ?_
                    refine wpS.take 41 false (some 86) (.bool true) (by kernel_rfl) (yld fun _ => by kernel_rfl) ?_
                    refine wpS.take 42 false (some 87) (undef) (by kernel_rfl) (yld fun _ => by kernel_rfl) ?_
                    refine wpS.take 43 false (some 88) (undef) (by kernel_rfl) (yld fun _ => by kernel_rfl) ?_
                    refine wpS.take 44 false (some 89) (undef) (by kernel_rfl) (yld fun _ => by kernel_rfl) ?_
                    refine wpS.take 45 false (some 90) (undef) (by kernel_rfl) (yld fun _ => by kernel_rfl) ?_
                    refine wpS.take 46 false (some 91) (undef) (by kernel_rfl) (yld fun _ => by kernel_rfl) ?_
                    refine wpS.take 47 false (some 92) (.bool true) (by kernel_rfl) (yld fun _ => by kernel_rfl) ?_
                    refine wpS.fin rfl (kr _ _ ?_)
                    refine then_n (ks29 _ _ ?_)
                    refine wp_cond_t (by kernel_rfl) ?_
                    refine wp_seq_k fun KS39 ks39 => ?_
                    refine wp_regS (l := [0]) (by kernel_rfl) fun KR kr => ?_
                    refine wpS.take 0 false (some 6) (.bool false) (by kernel_rfl) (yld fun _ => by kernel_rfl) ?_
                    refine wpS.fin rfl (kr _ _ ?_)
                    refine then_n (ks39 _ _ ?_)
                    refine wp_ret ?_
                    refine then_r ?_
                    have q0 := of_some h
                    subst q0
                    exact qq _ _ (post_ret (by kernel_rfl) (run_results [.tmp 6] [.bool false] (by kernel_rfl) (.cons (res_tmp (by kernel_rfl)) .nil)) ⟨congrArg Ending.returned (by kernel_rfl), hs.none⟩)
            · refine wpS.take 5 false (some 50) (.bool true) (by kernel_rfl) (yld_b (nt hc) (fun _ => by kernel_rfl)) ?_
              refine wpS.take 6 false (some 51) (.bool true) (by kernel_rfl) (yld fun _ => by kernel_rfl) ?_
              refine wpS.take 7 false (some 52) (undef) (by kernel_rfl) (yld fun _ => by kernel_rfl) ?_
              refine wpS.take 8 false (some 53) (undef) (by kernel_rfl) (yld fun _ => by kernel_rfl) ?_
              refine wpS.take 9 false (some 54) (.bool true) (by kernel_rfl) (yld fun _ => by kernel_rfl) ?_
              refine wpS.take 10 false (some 55) (.bool true) (by kernel_rfl) (yld fun _ => by kernel_rfl) ?_
              refine wpS.take 11 false (some 56) (undef) (by kernel_rfl) (yld fun _ => by kernel_rfl) ?_
              refine wpS.take 12 false (some 57) (undef) (by kernel_rfl) (yld fun _ => by kernel_rfl) ?_
              refine wpS.take 13 false (some 58) (.bool true) (by kernel_rfl) (yld fun _ => by kernel_rfl) ?_
              refine wpS.take 14 false (some 59) (.bool true) (by kernel_rfl) (yld fun _ => by kernel_rfl) ?_
              refine wpS.take 15 false (some 60) (undef) (by kernel_rfl) (yld fun _ => by kernel_rfl) ?_
              refine wpS.take 16 false (some 61) (undef) (by kernel_rfl) (yld fun _ => by kernel_rfl) ?_
              refine wpS.take 17 false (some 62) (undef) (by kernel_rfl) (yld fun _ => by kernel_rfl) ?_
              refine wpS.take 18 false (some 63) (undef) (by kernel_rfl) (yld fun _ => by kernel_rfl) ?_
              refine wpS.take 19 false (some 64) (undef) (by kernel_rfl) (yld fun _ => by kernel_rfl) ?_
              refine wpS.take 20 false (some 65) (undef) (by kernel_rfl) (yld fun _ => by kernel_rfl) ?_
              refine wpS.take 21 false (some 66) (undef) (by kernel_rfl) (yld fun _ => by kernel_rfl) ?_
              refine wpS.take 22 false (some 67) (undef) (by kernel_rfl) (yld fun _ => by kernel_rfl) ?_
              refine wpS.take 23 false (some 68) (undef) (by kernel_rfl) (yld fun _ => by kernel_rfl) ?_
              refine wpS.take 24 false (some 69) (undef) (by kernel_rfl) (yld fun _ => by kernel_rfl) ?_
              refine wpS.take 25 false (some 70) (.bool true) (by kernel_rfl) (yld fun _ => by kernel_rfl) ?_
              refine wpS.take 26 false (some 71) (.bool true) (by kernel_rfl) (yld fun _ => by kernel_rfl) ?_
              refine wpS.take 27 false (some 72) (undef) (by kernel_rfl) (yld fun _ => by kernel_rfl) ?_
              refine wpS.take 28 false (some 73) (undef) (by kernel_rfl) (yld fun _ => by kernel_rfl) ?_
              refine wpS.take 29 false (some 74) (undef) (by kernel_rfl) (yld fun _ => by kernel_rfl) ?_
              refine wpS.take 30 false (some 75) (undef) (by kernel_rfl) (yld fun _ => by kernel_rfl) ?_
              refine wpS.take 31 false (some 76) (.bool true) (by kernel_rfl) (yld fun _ => by kernel_rfl) ?_
              refine wpS.take 32 false (some 77) (.bool true) (by kernel_rfl) (yld fun _ => by kernel_rfl) ?_
              refine wpS.take 33 false (some 78) (undef) (by kernel_rfl) (yld fun _ => by kernel_rfl) ?_
              refine wpS.take 34 false (some 79) (undef) (by kernel_rfl) (yld fun _ => by kernel_rfl) ?_
              refine wpS.take 35 false (some 80) (undef) (by kernel_rfl) (yld fun _ => by kernel_rfl) ?_
              refine wpS.take 36 false (some 81) (.bool true) (by kernel_rfl) (yld fun _ => by kernel_rfl) ?_
              refine wpS.take 37 false (some 82) (.bool true) (by kernel_rfl) (yld fun _ => by kernel_rfl) ?_
              refine wpS.take 38 false (some 83) (undef) (by kernel_rfl) (yld fun _ => by kernel_rfl) ?_
              refine wpS.take 39 false (some 84) (undef) (by kernel_rfl) (yld fun _ => by kernel_rfl) ?_
              refine wpS.take 40 false (some 85) (.bool true) (by kernel_rfl) (yld fun _ => by kernel_rfl) ?_
              refine wpS.take 41 false (some 86) (.bool true) (by kernel_rfl) (yld fun _ => by kernel_rfl) ?_
              refine wpS.take 42 false (some 87) (undef) (by kernel_rfl) (yld fun _ => by kernel_rfl) ?_
              refine wpS.take 43 false (some 88) (undef) (by kernel_rfl) (yld fun _ => by kernel_rfl) ?_
              refine wpS.take 44 false (some 89) (undef) (by kernel_rfl) (yld fun _ => by kernel_rfl) ?_
              refine wpS.take 45 false (some 90) (undef) (by kernel_rfl) (yld fun _ => by kernel_rfl) ?_
              refine wpS.take 46 false (some 91) (undef) (by kernel_rfl) (yld fun _ => by kernel_rfl) ?_
              refine wpS.take 47 false (some 92) (.bool true) (by kernel_rfl) (yld fun _ => by kernel_rfl) ?_
              refine wpS.fin rfl (kr _ _ ?_)
              refine then_n (ks29 _ _ ?_)
              refine wp_cond_t (by kernel_rfl) ?_
              refine wp_seq_k fun KS40 ks40 => ?_
              refine wp_regS (l := [0]) (by kernel_rfl) fun KR kr => ?_
              refine wpS.take 0 false (some 6) (.bool false) (by kernel_rfl) (yld fun _ => by kernel_rfl) ?_
              refine wpS.fin rfl (kr _ _ ?_)
              refine then_n (ks40 _ _ ?_)
              refine wp_ret ?_
              refine then_r ?_
              have q0 := of_some h
              subst q0
              exact qq _ _ (post_ret (by kernel_rfl) (run_results [.tmp 6] [.bool false] (by kernel_rfl) (.cons (res_tmp (by kernel_rfl)) .nil)) ⟨congrArg Ending.returned (by kernel_rfl), hs.none⟩)
end Go.Proofs.Ytijahfdldlmnhaa
