/- Printed by this work's own program: the code of each function below comes to the answer that its plain form tells. -/
import Derived.Test.YtijahfdldlmnhaaMr
import Derived.Test.YtijahfdldlmnhaaProg
import Derived.Test.YtijahfdldlmnhaaLZqParts
import Derived.Test.YtijahfdldlmnhaaX0
import Derived.Test.YtijahfdldlmnhaaX1
set_option linter.unusedVariables false
set_option maxRecDepth 100000
set_option maxHeartbeats 4000000
namespace Go.Proofs.Ytijahfdldlmnhaa
open Go.Mx
attribute [local irreducible] wpOp

theorem law21_ZqParts.ok {K : Nat} {a0 : Int} {a1 : Int} {a2 : Bool} {a3 : Bool} {r0 : Bool} (h : law21_ZqParts.f K a0 a1 a2 a3 = some r0) (w0 : World) : Ret Try.prog 4 #[.int .i32 a0, .int .i32 a1, .bool a2, .bool a3] w0 (.bool r0) := by
  refine calls_k Try.func4 rfl fun Q qq => ?_
  have hs := St.start w0
  refine wp_conv (a' := ⟨#[.int .i32 a0, .int .i32 a1, .bool a2, .bool a3, undef, undef, undef, undef, undef, undef, undef, undef, undef, undef, undef, undef, undef, undef, undef, undef, undef, undef, undef, undef, undef, undef, undef, undef, undef, undef, undef, undef, undef, undef, undef, undef, undef, undef, undef, undef, undef, undef, undef, undef, undef, undef, undef, undef, undef, undef, undef, undef, undef, undef, undef, undef, undef, undef, undef, undef, undef, undef, undef, undef, undef, undef, undef, undef, undef, undef, undef, undef, undef, undef, undef, undef, undef, undef, undef, undef, undef, undef, undef, undef, undef, undef, undef, undef, undef, undef, undef, undef, undef, undef, undef, undef, undef, undef, undef], []⟩) (by kernel_rfl) ?_
  refine wp_seq_k fun KS1 ks1 => ?_
  refine wp_regS (l := [0]) (by kernel_rfl) fun KR kr => ?_
  refine wpS.take 0 false (some 8) (.bool false) (by kernel_rfl) (yld fun _ => by kernel_rfl) ?_
  refine wpS.fin rfl (kr _ _ ?_)
  refine then_n (ks1 _ _ ?_)
  refine wp_seq_k fun KS7 ks7 => ?_
  refine wp_seq_k fun KS8 ks8 => ?_
  refine wp_regS (l := [0, 1, 2, 3, 4, 5, 6, 7, 8, 9, 10, 11, 12, 13]) (by kernel_rfl) fun KR kr => ?_
  refine wpS.take 0 false (some 18) (.int .i32 a0) (by kernel_rfl) (yld fun _ => by kernel_rfl) ?_
  rcases of_if h with ⟨hc, h⟩ | ⟨hc, h⟩
  · refine wpS.take 1 false (some 19) (.bool true) (by kernel_rfl) (yld_b (dt hc) (fun _ => by kernel_rfl)) ?_
    refine wpS.take 2 false (some 20) (.bool true) (by kernel_rfl) (yld fun _ => by kernel_rfl) ?_
    refine wpS.take 3 false (some 21) (undef) (by kernel_rfl) (yld fun _ => by kernel_rfl) ?_
    refine wpS.take 4 false (some 22) (undef) (by kernel_rfl) (yld fun _ => by kernel_rfl) ?_
    refine wpS.take 5 false (some 23) (.bool true) (by kernel_rfl) (yld fun _ => by kernel_rfl) ?_
    refine wpS.take 6 false (some 24) (.bool true) (by kernel_rfl) (yld fun _ => by kernel_rfl) ?_
    refine wpS.take 7 false (some 25) (undef) (by kernel_rfl) (yld fun _ => by kernel_rfl) ?_
    refine wpS.take 8 false (some 26) (undef) (by kernel_rfl) (yld fun _ => by kernel_rfl) ?_
    refine wpS.take 9 false (some 27) (.bool true) (by kernel_rfl) (yld fun _ => by kernel_rfl) ?_
    refine wpS.take 10 false (some 28) (.bool true) (by kernel_rfl) (yld fun _ => by kernel_rfl) ?_
    refine wpS.take 11 false (some 29) (undef) (by kernel_rfl) (yld fun _ => by kernel_rfl) ?_
    refine wpS.take 12 false (some 30) (undef) (by kernel_rfl) (yld fun _ => by kernel_rfl) ?_
    refine wpS.take 13 false (some 31) (.bool true) (by kernel_rfl) (yld fun _ => by kernel_rfl) ?_
    refine wpS.fin rfl (kr _ _ ?_)
    refine then_n (ks8 _ _ ?_)
    refine wp_cond_t (by kernel_rfl) ?_
    refine wp_seq_k fun KS9 ks9 => ?_
    refine wp_regS (l := [0, 1]) (by kernel_rfl) fun KR kr => ?_
    obtain ⟨r1, hg, h⟩ := of_bind h
    refine wpS.only 0 (op_call (d := (some 32)) (by kernel_rfl) hs (fun _ => by kernel_rfl) (law21_awake.ok hg _) ?_)
    intro w gw hs
    refine ⟨fun _ => trivial, ?_⟩
    refine wpS.take 1 false (some 8) (.bool r1) (by kernel_rfl) (yld fun _ => by kernel_rfl) ?_
    refine wpS.fin rfl (kr _ _ ?_)
    refine then_n (ks9 _ _ ?_)
    refine wp_ret ?_
    refine then_r ?_
    have q0 := of_some h
    subst q0
    exact qq _ _ (post_ret (by kernel_rfl) (run_results [.tmp 8] [.bool r1] (by kernel_rfl) (.cons (res_tmp (by kernel_rfl)) .nil)) ⟨congrArg Ending.returned (by kernel_rfl), hs.none⟩)
  · refine wpS.take 1 false (some 19) (.bool false) (by kernel_rfl) (yld_b (df hc) (fun _ => by kernel_rfl)) ?_
    refine wpS.take 2 false (some 20) (.bool false) (by kernel_rfl) (yld fun _ => by kernel_rfl) ?_
    refine wpS.take 3 false (some 21) (.int .i32 a0) (by kernel_rfl) (yld fun _ => by kernel_rfl) ?_
    rcases of_if h with ⟨hc, h⟩ | ⟨hc, h⟩
    · refine wpS.take 4 false (some 22) (.bool true) (by kernel_rfl) (yld_b (dt hc) (fun _ => by kernel_rfl)) ?_
      refine wpS.take 5 false (some 23) (.bool true) (by kernel_rfl) (yld fun _ => by kernel_rfl) ?_
      refine wpS.take 6 false (some 24) (.bool true) (by kernel_rfl) (yld fun _ => by kernel_rfl) ?_
      refine wpS.take 7 false (some 25) (undef) (by kernel_rfl) (yld fun _ => by kernel_rfl) ?_
      refine wpS.take 8 false (some 26) (undef) (by kernel_rfl) (yld fun _ => by kernel_rfl) ?_
      refine wpS.take 9 false (some 27) (.bool true) (by kernel_rfl) (yld fun _ => by kernel_rfl) ?_
      refine wpS.take 10 false (some 28) (.bool true) (by kernel_rfl) (yld fun _ => by kernel_rfl) ?_
      refine wpS.take 11 false (some 29) (undef) (by kernel_rfl) (yld fun _ => by kernel_rfl) ?_
      refine wpS.take 12 false (some 30) (undef) (by kernel_rfl) (yld fun _ => by kernel_rfl) ?_
      refine wpS.take 13 false (some 31) (.bool true) (by kernel_rfl) (yld fun _ => by kernel_rfl) ?_
      refine wpS.fin rfl (kr _ _ ?_)
      refine then_n (ks8 _ _ ?_)
      refine wp_cond_t (by kernel_rfl) ?_
      refine wp_seq_k fun KS10 ks10 => ?_
      refine wp_regS (l := [0, 1]) (by kernel_rfl) fun KR kr => ?_
      obtain ⟨r2, hg, h⟩ := of_bind h
      refine wpS.only 0 (op_call (d := (some 32)) (by kernel_rfl) hs (fun _ => by kernel_rfl) (law21_awake.ok hg _) ?_)
      intro w gw hs
      refine ⟨fun _ => trivial, ?_⟩
      refine wpS.take 1 false (some 8) (.bool r2) (by kernel_rfl) (yld fun _ => by kernel_rfl) ?_
      refine wpS.fin rfl (kr _ _ ?_)
      refine then_n (ks10 _ _ ?_)
      refine wp_ret ?_
      refine then_r ?_
      have q0 := of_some h
      subst q0
      exact qq _ _ (post_ret (by kernel_rfl) (run_results [.tmp 8] [.bool r2] (by kernel_rfl) (.cons (res_tmp (by kernel_rfl)) .nil)) ⟨congrArg Ending.returned (by kernel_rfl), hs.none⟩)
    · refine wpS.take 4 false (some 22) (.bool false) (by kernel_rfl) (yld_b (df hc) (fun _ => by kernel_rfl)) ?_
      refine wpS.take 5 false (some 23) (.bool false) (by kernel_rfl) (yld fun _ => by kernel_rfl) ?_
      refine wpS.take 6 false (some 24) (.bool false) (by kernel_rfl) (yld fun _ => by kernel_rfl) ?_
      refine wpS.take 7 false (some 25) (.int .i32 a1) (by kernel_rfl) (yld fun _ => by kernel_rfl) ?_
      rcases of_if h with ⟨hc, h⟩ | ⟨hc, h⟩
      · refine wpS.take 8 false (some 26) (.bool true) (by kernel_rfl) (yld_b (dt hc) (fun _ => by kernel_rfl)) ?_
        refine wpS.take 9 false (some 27) (.bool true) (by kernel_rfl) (yld fun _ => by kernel_rfl) ?_
        refine wpS.take 10 false (some 28) (.bool true) (by kernel_rfl) (yld fun _ => by kernel_rfl) ?_
        refine wpS.take 11 false (some 29) (undef) (by kernel_rfl) (yld fun _ => by kernel_rfl) ?_
        refine wpS.take 12 false (some 30) (undef) (by kernel_rfl) (yld fun _ => by kernel_rfl) ?_
        refine wpS.take 13 false (some 31) (.bool true) (by kernel_rfl) (yld fun _ => by kernel_rfl) ?_
        refine wpS.fin rfl (kr _ _ ?_)
        refine then_n (ks8 _ _ ?_)
        refine wp_cond_t (by kernel_rfl) ?_
        refine wp_seq_k fun KS11 ks11 => ?_
        refine wp_regS (l := [0, 1]) (by kernel_rfl) fun KR kr => ?_
        obtain ⟨r3, hg, h⟩ := of_bind h
        refine wpS.only 0 (op_call (d := (some 32)) (by kernel_rfl) hs (fun _ => by kernel_rfl) (law21_awake.ok hg _) ?_)
        intro w gw hs
        refine ⟨fun _ => trivial, ?_⟩
        refine wpS.take 1 false (some 8) (.bool r3) (by kernel_rfl) (yld fun _ => by kernel_rfl) ?_
        refine wpS.fin rfl (kr _ _ ?_)
        refine then_n (ks11 _ _ ?_)
        refine wp_ret ?_
        refine then_r ?_
        have q0 := of_some h
        subst q0
        exact qq _ _ (post_ret (by kernel_rfl) (run_results [.tmp 8] [.bool r3] (by kernel_rfl) (.cons (res_tmp (by kernel_rfl)) .nil)) ⟨congrArg Ending.returned (by kernel_rfl), hs.none⟩)
      · refine wpS.take 8 false (some 26) (.bool false) (by kernel_rfl) (yld_b (df hc) (fun _ => by kernel_rfl)) ?_
        refine wpS.take 9 false (some 27) (.bool false) (by kernel_rfl) (yld fun _ => by kernel_rfl) ?_
        refine wpS.take 10 false (some 28) (.bool false) (by kernel_rfl) (yld fun _ => by kernel_rfl) ?_
        refine wpS.take 11 false (some 29) (.int .i32 a1) (by kernel_rfl) (yld fun _ => by kernel_rfl) ?_
        rcases of_if h with ⟨hc, h⟩ | ⟨hc, h⟩
        · refine wpS.take 12 false (some 30) (.bool true) (by kernel_rfl) (yld_b (dt hc) (fun _ => by kernel_rfl)) ?_
          refine wpS.take 13 false (some 31) (.bool true) (by kernel_rfl) (yld fun _ => by kernel_rfl) ?_
          refine wpS.fin rfl (kr _ _ ?_)
          refine then_n (ks8 _ _ ?_)
          refine wp_cond_t (by kernel_rfl) ?_
          refine wp_seq_k fun KS12 ks12 => ?_
          refine wp_regS (l := [0, 1]) (by kernel_rfl) fun KR kr => ?_
          obtain ⟨r4, hg, h⟩ := of_bind h
          refine wpS.only 0 (op_call (d := (some 32)) (by kernel_rfl) hs (fun _ => by kernel_rfl) (law21_awake.ok hg _) ?_)
          intro w gw hs
          refine ⟨fun _ => trivial, ?_⟩
          refine wpS.take 1 false (some 8) (.bool r4) (by kernel_rfl) (yld fun _ => by kernel_rfl) ?_
          refine wpS.fin rfl (kr _ _ ?_)
          refine then_n (ks12 _ _ ?_)
          refine wp_ret ?_
          refine then_r ?_
          have q0 := of_some h
          subst q0
          exact qq _ _ (post_ret (by kernel_rfl) (run_results [.tmp 8] [.bool r4] (by kernel_rfl) (.cons (res_tmp (by kernel_rfl)) .nil)) ⟨congrArg Ending.returned (by kernel_rfl), hs.none⟩)
        · refine wpS.take 12 false (some 30) (.bool false) (by kernel_rfl) (yld_b (df hc) (fun _ => by kernel_rfl)) ?_
          refine wpS.take 13 false (some 31) (.bool false) (by kernel_rfl) (yld fun _ => by kernel_rfl) ?_
          refine wpS.fin rfl (kr _ _ ?_)
          refine then_n (ks8 _ _ ?_)
          refine wp_cond_f (by kernel_rfl) ?_
          refine wp_skip ?_
          refine then_n (ks7 _ _ ?_)
          refine wp_seq_k fun KS13 ks13 => ?_
          refine wp_regS (l := [0]) (by kernel_rfl) fun KR kr => ?_
          refine wpS.take 0 false (some 9) (.int .i32 95232) (by kernel_rfl) (yld fun _ => by kernel_rfl) ?_
          refine wpS.fin rfl (kr _ _ ?_)
          refine then_n (ks13 _ _ ?_)
          obtain ⟨y5, hj, h⟩ := of_bind h
          refine wp_seq_k fun KS22 ks22 => wp_join (N := fun a w => St w0 [] [] [] w ∧ ∃ g : Nat → Value, a = ⟨#[.int .i32 a0, .int .i32 a1, .bool a2, .bool a3, undef, undef, undef, undef, .bool false, .int .i32 y5, undef, undef, undef, undef, undef, undef, undef, undef, .int .i32 a0, .bool false, .bool false, .int .i32 a0, .bool false, .bool false, .bool false, .int .i32 a1, .bool false, .bool false, .bool false, .int .i32 a1, .bool false, .bool false, undef, (g 33), undef, undef, undef, undef, undef, undef, undef, undef, undef, undef, undef, undef, undef, undef, undef, undef, undef, undef, undef, undef, undef, undef, undef, undef, undef, undef, undef, undef, undef, undef, undef, undef, undef, undef, undef, undef, undef, undef, undef, undef, undef, undef, undef, undef, undef, undef, undef, undef, undef, undef, undef, undef, undef, undef, undef, undef, undef, undef, undef, undef, undef, undef, undef, undef, undef], []⟩) (fun N nj => ?_) ?_
          · clear h
            have h := hj
            refine wp_seq_k fun KS16 ks16 => ?_
            refine wp_regS (l := [0]) (by kernel_rfl) fun KR kr => ?_
            cases a3 with
            | true =>
              have h := of_if_t h
              refine wpS.take 0 false (some 33) (.bool true) (by kernel_rfl) (yld fun _ => by kernel_rfl) ?_
              refine wpS.fin rfl (kr _ _ ?_)
              refine then_n (ks16 _ _ ?_)
              refine wp_cond_t (by kernel_rfl) ?_
              refine wp_regS (l := [0]) (by kernel_rfl) fun KR kr => ?_
              refine wpS.take 0 false (some 9) (.int .i32 261888) (by kernel_rfl) (yld fun _ => by kernel_rfl) ?_
              refine wpS.fin rfl (kr _ _ ?_)
              have q0 := of_some h
              subst q0
              exact nj _ _ ⟨(hs.conv rfl), exg (by kernel_rfl)⟩
            | false =>
              have h := of_if_f h
              refine wpS.take 0 false (some 33) (.bool false) (by kernel_rfl) (yld fun _ => by kernel_rfl) ?_
              refine wpS.fin rfl (kr _ _ ?_)
              refine then_n (ks16 _ _ ?_)
              refine wp_cond_f (by kernel_rfl) ?_
              refine wp_skip ?_
              have q0 := of_some h
              subst q0
              exact nj _ _ ⟨(hs.conv rfl), exg (by kernel_rfl)⟩
          · clear hj hs
            rintro a w ⟨hs, g, rfl⟩
            refine then_n (ks22 _ _ ?_)
            refine wp_seq_k fun KS17 ks17 => ?_
            refine wp_regS (l := [0, 1, 2, 3, 4, 5, 6]) (by kernel_rfl) fun KR kr => ?_
            refine wpS.take 0 false (some 35) (.int .i32 a0) (by kernel_rfl) (yld fun _ => by kernel_rfl) ?_
            obtain ⟨⟨r6, r7⟩, hg, h⟩ := of_bind h
            refine wpS.only 1 (op_call (d := (some 36)) (by kernel_rfl) hs (fun _ => by kernel_rfl) (zq_Split.ok hg _) ?_)
            intro w gw hs
            refine ⟨fun _ => trivial, ?_⟩
            refine wpS.take 2 false (some 34) (.tuple #[.int .i32 r6, .int .i32 r7]) (by kernel_rfl) (yld fun _ => by kernel_rfl) ?_
            refine wpS.take 3 false (some 37) (.int .i32 r6) (by kernel_rfl) (yld fun _ => by kernel_rfl) ?_
            refine wpS.take 4 false (some 38) (.int .i32 r7) (by kernel_rfl) (yld fun _ => by kernel_rfl) ?_
            refine wpS.take 5 false (some 10) (.int .i32 r6) (by kernel_rfl) (yld fun _ => by kernel_rfl) ?_
            refine wpS.take 6 false (some 11) (.int .i32 r7) (by kernel_rfl) (yld fun _ => by kernel_rfl) ?_
            refine wpS.fin rfl (kr _ _ ?_)
            refine then_n (ks17 _ _ ?_)
            refine wp_seq_k fun KS18 ks18 => ?_
            refine wp_regS (l := [0, 1, 2, 3, 4, 5, 6]) (by kernel_rfl) fun KR kr => ?_
            refine wpS.take 0 false (some 40) (.int .i32 a0) (by kernel_rfl) (yld fun _ => by kernel_rfl) ?_
            obtain ⟨⟨r8, r9⟩, hg, h⟩ := of_bind h
            refine wpS.only 1 (op_call (d := (some 41)) (by kernel_rfl) hs (fun _ => by kernel_rfl) (ref21_Split.ok hg _) ?_)
            intro w gw hs
            refine ⟨fun _ => trivial, ?_⟩
            refine wpS.take 2 false (some 39) (.tuple #[.int .i32 r8, .int .i32 r9]) (by kernel_rfl) (yld fun _ => by kernel_rfl) ?_
            refine wpS.take 3 false (some 42) (.int .i32 r8) (by kernel_rfl) (yld fun _ => by kernel_rfl) ?_
            refine wpS.take 4 false (some 43) (.int .i32 r9) (by kernel_rfl) (yld fun _ => by kernel_rfl) ?_
            refine wpS.take 5 false (some 12) (.int .i32 r8) (by kernel_rfl) (yld fun _ => by kernel_rfl) ?_
            refine wpS.take 6 false (some 13) (.int .i32 r9) (by kernel_rfl) (yld fun _ => by kernel_rfl) ?_
            refine wpS.fin rfl (kr _ _ ?_)
            refine then_n (ks18 _ _ ?_)
            refine wp_seq_k fun KS19 ks19 => ?_
            refine wp_regS (l := [0, 1, 2, 3, 4, 5, 6, 7]) (by kernel_rfl) fun KR kr => ?_
            refine wpS.take 0 false (some 45) (.int .i32 a0) (by kernel_rfl) (yld fun _ => by kernel_rfl) ?_
            refine wpS.take 1 false (some 46) (.int .i32 y5) (by kernel_rfl) (yld fun _ => by kernel_rfl) ?_
            obtain ⟨⟨r10, r11⟩, hg, h⟩ := of_bind h
            refine wpS.only 2 (op_call (d := (some 47)) (by kernel_rfl) hs (fun _ => by kernel_rfl) (zq_Parts.ok hg _) ?_)
            intro w gw hs
            refine ⟨fun _ => trivial, ?_⟩
            refine wpS.take 3 false (some 44) (.tuple #[.int .i32 r10, .int .i32 r11]) (by kernel_rfl) (yld fun _ => by kernel_rfl) ?_
            refine wpS.take 4 false (some 48) (.int .i32 r10) (by kernel_rfl) (yld fun _ => by kernel_rfl) ?_
            refine wpS.take 5 false (some 49) (.int .i32 r11) (by kernel_rfl) (yld fun _ => by kernel_rfl) ?_
            refine wpS.take 6 false (some 14) (.int .i32 r10) (by kernel_rfl) (yld fun _ => by kernel_rfl) ?_
            refine wpS.take 7 false (some 15) (.int .i32 r11) (by kernel_rfl) (yld fun _ => by kernel_rfl) ?_
            refine wpS.fin rfl (kr _ _ ?_)
            refine then_n (ks19 _ _ ?_)
            refine wp_seq_k fun KS20 ks20 => ?_
            refine wp_regS (l := [0, 1, 2, 3, 4, 5, 6, 7]) (by kernel_rfl) fun KR kr => ?_
            refine wpS.take 0 false (some 51) (.int .i32 a0) (by kernel_rfl) (yld fun _ => by kernel_rfl) ?_
            refine wpS.take 1 false (some 52) (.int .i32 y5) (by kernel_rfl) (yld fun _ => by kernel_rfl) ?_
            obtain ⟨⟨r12, r13⟩, hg, h⟩ := of_bind h
            refine wpS.only 2 (op_call (d := (some 53)) (by kernel_rfl) hs (fun _ => by kernel_rfl) (ref21_Parts.ok hg _) ?_)
            intro w gw hs
            refine ⟨fun _ => trivial, ?_⟩
            refine wpS.take 3 false (some 50) (.tuple #[.int .i32 r12, .int .i32 r13]) (by kernel_rfl) (yld fun _ => by kernel_rfl) ?_
            refine wpS.take 4 false (some 54) (.int .i32 r12) (by kernel_rfl) (yld fun _ => by kernel_rfl) ?_
            refine wpS.take 5 false (some 55) (.int .i32 r13) (by kernel_rfl) (yld fun _ => by kernel_rfl) ?_
            refine wpS.take 6 false (some 16) (.int .i32 r12) (by kernel_rfl) (yld fun _ => by kernel_rfl) ?_
            refine wpS.take 7 false (some 17) (.int .i32 r13) (by kernel_rfl) (yld fun _ => by kernel_rfl) ?_
            refine wpS.fin rfl (kr _ _ ?_)
            refine then_n (ks20 _ _ ?_)
            refine wp_seq_k fun KS21 ks21 => ?_
            refine wp_regS (l := [0, 1, 2, 3, 4, 5, 6, 7, 8, 9, 10, 11, 12, 13, 14, 15, 16, 17, 18, 19, 20, 21, 22, 23, 24, 25, 26, 27, 28, 29, 30, 31, 32, 33, 34, 35, 36, 37, 38, 39, 40, 41, 42, 43]) (by kernel_rfl) fun KR kr => ?_
            refine wpS.take 0 false (some 56) (.int .i32 r6) (by kernel_rfl) (yld fun _ => by kernel_rfl) ?_
            refine wpS.take 1 false (some 57) (.int .i32 r8) (by kernel_rfl) (yld fun _ => by kernel_rfl) ?_
            rcases of_if h with ⟨hc, h⟩ | ⟨hc, h⟩
            · refine wpS.take 2 false (some 58) (.bool true) (by kernel_rfl) (yld_b (et hc) (fun _ => by kernel_rfl)) ?_
              refine wpS.take 3 false (some 59) (.bool true) (by kernel_rfl) (yld fun _ => by kernel_rfl) ?_
              refine wpS.take 4 false (some 60) (.int .i32 r7) (by kernel_rfl) (yld fun _ => by kernel_rfl) ?_
              refine wpS.take 5 false (some 61) (.int .i32 r9) (by kernel_rfl) (yld fun _ => by kernel_rfl) ?_
              rcases of_if h with ⟨hc, h⟩ | ⟨hc, h⟩
              · refine wpS.take 6 false (some 62) (.bool true) (by kernel_rfl) (yld_b (et hc) (fun _ => by kernel_rfl)) ?_
                refine wpS.take 7 false (some 63) (.bool true) (by kernel_rfl) (yld fun _ => by kernel_rfl) ?_
                refine wpS.take 8 false (some 64) (.bool true) (by kernel_rfl) (yld fun _ => by kernel_rfl) ?_
                refine wpS.take 9 false (some 65) (.int .i32 r10) (by kernel_rfl) (yld fun _ => by kernel_rfl) ?_
                refine wpS.take 10 false (some 66) (.int .i32 r12) (by kernel_rfl) (yld fun _ => by kernel_rfl) ?_
                rcases of_if h with ⟨hc, h⟩ | ⟨hc, h⟩
                · refine wpS.take 11 false (some 67) (.bool true) (by kernel_rfl) (yld_b (et hc) (fun _ => by kernel_rfl)) ?_
                  refine wpS.take 12 false (some 68) (.bool true) (by kernel_rfl) (yld fun _ => by kernel_rfl) ?_
                  refine wpS.take 13 false (some 69) (.bool true) (by kernel_rfl) (yld fun _ => by kernel_rfl) ?_
                  refine wpS.take 14 false (some 70) (.int .i32 r11) (by kernel_rfl) (yld fun _ => by kernel_rfl) ?_
                  refine wpS.take 15 false (some 71) (.int .i32 r13) (by kernel_rfl) (yld fun _ => by kernel_rfl) ?_
                  rcases of_if h with ⟨hc, h⟩ | ⟨hc, h⟩
                  · refine wpS.take 16 false (some 72) (.bool true) (by kernel_rfl) (yld_b (et hc) (fun _ => by kernel_rfl)) ?_
                    refine wpS.take 17 false (some 73) (.bool true) (by kernel_rfl) (yld fun _ => by kernel_rfl) ?_
                    refine wpS.take 18 false (some 74) (.bool true) (by kernel_rfl) (yld fun _ => by kernel_rfl) ?_
                    refine wpS.take 19 false (some 75) (.int .i32 a1) (by kernel_rfl) (yld fun _ => by kernel_rfl) ?_
                    refine wpS.take 20 false (some 76) (.int .i32 a0) (by kernel_rfl) (yld fun _ => by kernel_rfl) ?_
                    refine wpS.take 21 false (some 77) (.int .i32 y5) (by kernel_rfl) (yld fun _ => by kernel_rfl) ?_
                    obtain ⟨r14, hg, h⟩ := of_bind h
                    refine wpS.only 22 (op_call (d := (some 78)) (by kernel_rfl) hs (fun _ => by kernel_rfl) (zq_Hint.ok hg _) ?_)
                    intro w gw hs
                    refine ⟨fun _ => trivial, ?_⟩
                    refine wpS.take 23 false (some 79) (.int .i32 a1) (by kernel_rfl) (yld fun _ => by kernel_rfl) ?_
                    refine wpS.take 24 false (some 80) (.int .i32 a0) (by kernel_rfl) (yld fun _ => by kernel_rfl) ?_
                    refine wpS.take 25 false (some 81) (.int .i32 y5) (by kernel_rfl) (yld fun _ => by kernel_rfl) ?_
                    obtain ⟨r15, hg, h⟩ := of_bind h
                    refine wpS.only 26 (op_call (d := (some 82)) (by kernel_rfl) hs (fun _ => by kernel_rfl) (ref21_Hint.ok hg _) ?_)
                    intro w gw hs
                    refine ⟨fun _ => trivial, ?_⟩
                    rcases of_ifb h with ⟨hc, h⟩ | ⟨hc, h⟩
                    · refine wpS.take 27 false (some 83) (.bool true) (by kernel_rfl) (yld_b hc (fun _ => by kernel_rfl)) ?_
                      refine wpS.take 28 false (some 84) (.bool true) (by kernel_rfl) (yld fun _ => by kernel_rfl) ?_
                      refine wpS.take 29 false (some 85) (.bool true) (by kernel_rfl) (yld fun _ => by kernel_rfl) ?_
                      refine wpS.take 30 false (some 86) (.bool a2) (by kernel_rfl) (yld fun _ => by kernel_rfl) ?_
                      refine wpS.take 31 false (some 87) (.int .i32 a0) (by kernel_rfl) (yld fun _ => by kernel_rfl) ?_
                      refine wpS.take 32 false (some 88) (.int .i32 y5) (by kernel_rfl) (yld fun _ => by kernel_rfl) ?_
                      obtain ⟨r16, hg, h⟩ := of_bind h
                      refine wpS.only 33 (op_call (d := (some 89)) (by kernel_rfl) hs (fun _ => by kernel_rfl) (zq_Use.ok hg _) ?_)
                      intro w gw hs
                      refine ⟨fun _ => trivial, ?_⟩
                      refine wpS.take 34 false (some 90) (.bool a2) (by kernel_rfl) (yld fun _ => by kernel_rfl) ?_
                      refine wpS.take 35 false (some 91) (.int .i32 a0) (by kernel_rfl) (yld fun _ => by kernel_rfl) ?_
                      refine wpS.take 36 false (some 92) (.int .i32 y5) (by kernel_rfl) (yld fun _ => by kernel_rfl) ?_
                      obtain ⟨r17, hg, h⟩ := of_bind h
                      refine wpS.only 37 (op_call (d := (some 93)) (by kernel_rfl) hs (fun _ => by kernel_rfl) (ref21_Use.ok hg _) ?_)
                      intro w gw hs
                      refine ⟨fun _ => trivial, ?_⟩
                      rcases of_if h with ⟨hc, h⟩ | ⟨hc, h⟩
                      · refine wpS.take 38 false (some 94) (.bool true) (by kernel_rfl) (yld_b (et hc) (fun _ => by kernel_rfl)) ?_
                        refine wpS.take 39 false (some 95) (.bool true) (by kernel_rfl) (yld fun _ => by kernel_rfl) ?_
                        refine wpS.take 40 false (some 96) (.bool true) (by kernel_rfl) (yld fun _ => by kernel_rfl) ?_
                        obtain ⟨r18, hg, h⟩ := of_bind h
                        refine wpS.only 41 (op_call (d := (some 97)) (by kernel_rfl) hs (fun _ => by kernel_rfl) (law21_awake.ok hg _) ?_)
                        intro w gw hs
                        refine ⟨fun _ => trivial, ?_⟩
                        refine wpS.take 42 false (some 98) (.bool r18) (by kernel_rfl) (yld fun _ => by kernel_rfl) ?_
                        refine wpS.take 43 false (some 8) (.bool r18) (by kernel_rfl) (yld fun _ => by kernel_rfl) ?_
                        refine wpS.fin rfl (kr _ _ ?_)
                        refine then_n (ks21 _ _ ?_)
                        refine wp_ret ?_
                        have q0 := of_some h
                        subst q0
                        exact qq _ _ (post_ret (by kernel_rfl) (run_results [.tmp 8] [.bool r18] (by kernel_rfl) (.cons (res_tmp (by kernel_rfl)) .nil)) ⟨congrArg Ending.returned (by kernel_rfl), hs.none⟩)
                      · refine wpS.take 38 false (some 94) (.bool false) (by kernel_rfl) (yld_b (ef hc) (fun _ => by kernel_rfl)) ?_
                        refine wpS.take 39 false (some 95) (.bool false) (by kernel_rfl) (yld fun _ => by kernel_rfl) ?_
                        refine wpS.take 40 false (some 96) (.bool false) (by kernel_rfl) (yld fun _ => by kernel_rfl) ?_
                        refine wpS.take 41 false (some 97) (undef) (by kernel_rfl) (yld fun _ => by kernel_rfl) ?_
                        refine wpS.take 42 false (some 98) (.bool false) (by kernel_rfl) (yld fun _ => by kernel_rfl) ?_
                        refine wpS.take 43 false (some 8) (.bool false) (by kernel_rfl) (yld fun _ => by kernel_rfl) ?_
                        refine wpS.fin rfl (kr _ _ ?_)
                        refine then_n (ks21 _ _ ?_)
                        refine wp_ret ?_
                        have q0 := of_some h
                        subst q0
                        exact qq _ _ (post_ret (by kernel_rfl) (run_results [.tmp 8] [.bool false] (by kernel_rfl) (.cons (res_tmp (by kernel_rfl)) .nil)) ⟨congrArg Ending.returned (by kernel_rfl), hs.none⟩)
                    · refine wpS.take 27 false (some 83) (.bool false) (by kernel_rfl) (yld_b hc (fun _ => by kernel_rfl)) ?_
                      refine wpS.take 28 false (some 84) (.bool false) (by kernel_rfl) (yld fun _ => by kernel_rfl) ?_
                      refine wpS.take 29 false (some 85) (.bool false) (by kernel_rfl) (yld fun _ => by kernel_rfl) ?_
                      refine wpS.take 30 false (some 86) (undef) (by kernel_rfl) (yld fun _ => by kernel_rfl) ?_
                      refine wpS.take 31 false (some 87) (undef) (by kernel_rfl) (yld fun _ => by kernel_rfl) ?_
                      refine wpS.take 32 false (some 88) (undef) (by kernel_rfl) (yld fun _ => by kernel_rfl) ?_
                      refine wpS.take 33 false (some 89) (undef) (by kernel_rfl) (yld fun _ => by kernel_rfl) ?_
                      refine wpS.take 34 false (some 90) (undef) (by kernel_rfl) (yld fun _ => by kernel_rfl) ?_
                      refine wpS.take 35 false (some 91) (undef) (by kernel_rfl) (yld fun _ => by kernel_rfl) ?_
                      refine wpS.take 36 false (some 92) (undef) (by kernel_rfl) (yld fun _ => by kernel_rfl) ?_
                      refine wpS.take 37 false (some 93) (undef) (by kernel_rfl) (yld fun _ => by kernel_rfl) ?_
                      refine wpS.take 38 false (some 94) (undef) (by kernel_rfl) (yld fun _ => by kernel_rfl) ?_
                      refine wpS.take 39 false (some 95) (.bool false) (by kernel_rfl) (yld fun _ => by kernel_rfl) ?_
                      refine wpS.take 40 false (some 96) (.bool false) (by kernel_rfl) (yld fun _ => by kernel_rfl) ?_
                      refine wpS.take 41 false (some 97) (undef) (by kernel_rfl) (yld fun _ => by kernel_rfl) ?_
                      refine wpS.take 42 false (some 98) (.bool false) (by kernel_rfl) (yld fun _ => by kernel_rfl) ?_
                      refine wpS.take 43 false (some 8) (.bool false) (by kernel_rfl) (yld fun _ => by kernel_rfl) ?_
                      refine wpS.fin rfl (kr _ _ ?_)
                      refine then_n (ks21 _ _ ?_)
                      refine wp_ret ?_
                      have q0 := of_some h
                      subst q0
                      exact qq _ _ (post_ret (by kernel_rfl) (run_results [.tmp 8] [.bool false] (by kernel_rfl) (.cons (res_tmp (by kernel_rfl)) .nil)) ⟨congrArg Ending.returned (by kernel_rfl), hs.none⟩)
                  · refine wpS.take 16 false (some 72) (.bool false) (by kernel_rfl) (yld_b (ef hc) (fun _ => by kernel_rfl)) ?_
                    refine wpS.take 17 false (some 73) (.bool false) (by kernel_rfl) (yld fun _ => by kernel_rfl) ?_
                    refine wpS.take 18 false (some 74) (.bool false) (by kernel_rfl) (yld fun _ => by kernel_rfl) ?_
                    refine wpS.take 19 false (some 75) (undef) (by kernel_rfl) (yld fun _ => by kernel_rfl) ?_
                    refine wpS.take 20 false (some 76) (undef) (by kernel_rfl) (yld fun _ => by kernel_rfl) ?_
                    refine wpS.take 21 false (some 77) (undef) (by kernel_rfl) (yld fun _ => by kernel_rfl) ?_
                    refine wpS.take 22 false (some 78) (undef) (by kernel_rfl) (yld fun _ => by kernel_rfl) ?_
                    refine wpS.take 23 false (some 79) (undef) (by kernel_rfl) (yld fun _ => by kernel_rfl) ?_
                    refine wpS.take 24 false (some 80) (undef) (by kernel_rfl) (yld fun _ => by kernel_rfl) ?_
                    refine wpS.take 25 false (some 81) (undef) (by kernel_rfl) (yld fun _ => by kernel_rfl) ?_
                    refine wpS.take 26 false (some 82) (undef) (by kernel_rfl) (yld fun _ => by kernel_rfl) ?_
                    refine wpS.take 27 false (some 83) (undef) (by kernel_rfl) (yld fun _ => by kernel_rfl) ?_
                    refine wpS.take 28 false (some 84) (.bool false) (by kernel_rfl) (yld fun _ => by kernel_rfl) ?_
                    refine wpS.take 29 false (some 85) (.bool false) (by kernel_rfl) (yld fun _ => by kernel_rfl) ?_
                    refine wpS.take 30 false (some 86) (undef) (by kernel_rfl) (yld fun _ => by kernel_rfl) ?_
                    refine wpS.take 31 false (some 87) (undef) (by kernel_rfl) (yld fun _ => by kernel_rfl) ?_
                    refine wpS.take 32 false (some 88) (undef) (by kernel_rfl) (yld fun _ => by kernel_rfl) ?_
                    refine wpS.take 33 false (some 89) (undef) (by kernel_rfl) (yld fun _ => by kernel_rfl) ?_
                    refine wpS.take 34 false (some 90) (undef) (by kernel_rfl) (yld fun _ => by kernel_rfl) ?_
                    refine wpS.take 35 false (some 91) (undef) (by kernel_rfl) (yld fun _ => by kernel_rfl) ?_
                    refine wpS.take 36 false (some 92) (undef) (by kernel_rfl) (yld fun _ => by kernel_rfl) ?_
                    refine wpS.take 37 false (some 93) (undef) (by kernel_rfl) (yld fun _ => by kernel_rfl) ?_
                    refine wpS.take 38 false (some 94) (undef) (by kernel_rfl) (yld fun _ => by kernel_rfl) ?_
                    refine wpS.take 39 false (some 95) (.bool false) (by kernel_rfl) (yld fun _ => by kernel_rfl) ?_
                    refine wpS.take 40 false (some 96) (.bool false) (by kernel_rfl) (yld fun _ => by kernel_rfl) ?_
                    refine wpS.take 41 false (some 97) (undef) (by kernel_rfl) (yld fun _ => by kernel_rfl) ?_
                    refine wpS.take 42 false (some 98) (.bool false) (by kernel_rfl) (yld fun _ => by kernel_rfl) ?_
                    refine wpS.take 43 false (some 8) (.bool false) (by kernel_rfl) (yld fun _ => by kernel_rfl) ?_
                    refine wpS.fin rfl (kr _ _ ?_)
                    refine then_n (ks21 _ _ ?_)
                    refine wp_ret ?_
                    have q0 := of_some h
                    subst q0
                    exact qq _ _ (post_ret (by kernel_rfl) (run_results [.tmp 8] [.bool false] (by kernel_rfl) (.cons (res_tmp (by kernel_rfl)) .nil)) ⟨congrArg Ending.returned (by kernel_rfl), hs.none⟩)
                · refine wpS.take 11 false (some 67) (.bool false) (by kernel_rfl) (yld_b (ef hc) (fun _ => by kernel_rfl)) ?_
                  refine wpS.take 12 false (some 68) (.bool false) (by kernel_rfl) (yld fun _ => by kernel_rfl) ?_
                  refine wpS.take 13 false (some 69) (.bool false) (by kernel_rfl) (yld fun _ => by kernel_rfl) ?_
                  refine wpS.take 14 false (some 70) (undef) (by kernel_rfl) (yld fun _ => by kernel_rfl) ?_
                  refine wpS.take 15 false (some 71) (undef) (by kernel_rfl) (yld fun _ => by kernel_rfl) ?_
                  refine wpS.take 16 false (some 72) (undef) (by kernel_rfl) (yld fun _ => by kernel_rfl) ?_
                  refine wpS.take 17 false (some 73) (.bool false) (by kernel_rfl) (yld fun _ => by kernel_rfl) ?_
                  refine wpS.take 18 false (some 74) (.bool false) (by kernel_rfl) (yld fun _ => by kernel_rfl) ?_
                  refine wpS.take 19 false (some 75) (undef) (by kernel_rfl) (yld fun _ => by kernel_rfl) ?_
                  refine wpS.take 20 false (some 76) (undef) (by kernel_rfl) (yld fun _ => by kernel_rfl) ?_
                  refine wpS.take 21 false (some 77) (undef) (by kernel_rfl) (yld fun _ => by kernel_rfl) ?_
                  refine wpS.take 22 false (some 78) (undef) (by kernel_rfl) (yld fun _ => by kernel_rfl) ?_
                  refine wpS.take 23 false (some 79) (undef) (by kernel_rfl) (yld fun _ => by kernel_rfl) ?_
                  refine wpS.take 24 false (some 80) (undef) (by kernel_rfl) (yld fun _ => by kernel_rfl) ?_
                  refine wpS.take 25 false (some 81) (undef) (by kernel_rfl) (yld fun _ => by kernel_rfl) ?_
                  refine wpS.take 26 false (some 82) (undef) (by kernel_rfl) (yld fun _ => by kernel_rfl) ?_
                  refine wpS.take 27 false (some 83) (undef) (by kernel_rfl) (yld fun _ => by kernel_rfl) ?_
                  refine wpS.take 28 false (some 84) (.bool false) (by kernel_rfl) (yld fun _ => by kernel_rfl) ?_
                  refine wpS.take 29 false (some 85) (.bool false) (by kernel_rfl) (yld fun _ => by kernel_rfl) ?_
                  refine wpS.take 30 false (some 86) (undef) (by kernel_rfl) (yld fun _ => by kernel_rfl) ?_
                  refine wpS.take 31 false (some 87) (undef) (by kernel_rfl) (yld fun _ => by kernel_rfl) ?_
                  refine wpS.take 32 false (some 88) (undef) (by kernel_rfl) (yld fun _ => by kernel_rfl) ?_
                  refine wpS.take 33 false (some 89) (undef) (by kernel_rfl) (yld fun _ => by kernel_rfl) ?_
                  refine wpS.take 34 false (some 90) (undef) (by kernel_rfl) (yld fun _ => by kernel_rfl) ?_
                  refine wpS.take 35 false (some 91) (undef) (by kernel_rfl) (yld fun _ => by kernel_rfl) ?_
                  refine wpS.take 36 false (some 92) (undef) (by kernel_rfl) (yld fun _ => by kernel_rfl) ?_
                  refine wpS.take 37 false (some 93) (undef) (by kernel_rfl) (yld fun _ => by kernel_rfl) ?_
                  refine wpS.take 38 false (some 94) (undef) (by kernel_rfl) (yld fun _ => by kernel_rfl) ?_
                  refine wpS.take 39 false (some 95) (.bool false) (by kernel_rfl) (yld fun _ => by kernel_rfl) ?_
                  refine wpS.take 40 false (some 96) (.bool false) (by kernel_rfl) (yld fun _ => by kernel_rfl) ?_
                  refine wpS.take 41 false (some 97) (undef) (by kernel_rfl) (yld fun _ => by kernel_rfl) ?_
                  refine wpS.take 42 false (some 98) (.bool false) (by kernel_rfl) (yld fun _ => by kernel_rfl) ?_
                  refine wpS.take 43 false (some 8) (.bool false) (by kernel_rfl) (yld fun _ => by kernel_rfl) ?_
                  refine wpS.fin rfl (kr _ _ ?_)
                  refine then_n (ks21 _ _ ?_)
                  refine wp_ret ?_
                  have q0 := of_some h
                  subst q0
                  exact qq _ _ (post_ret (by kernel_rfl) (run_results [.tmp 8] [.bool false] (by kernel_rfl) (.cons (res_tmp (by kernel_rfl)) .nil)) ⟨congrArg Ending.returned (by kernel_rfl), hs.none⟩)
              · refine wpS.take 6 false (some 62) (.bool false) (by kernel_rfl) (yld_b (ef hc) (fun _ => by kernel_rfl)) ?_
                refine wpS.take 7 false (some 63) (.bool false) (by kernel_rfl) (yld fun _ => by kernel_rfl) ?_
                refine wpS.take 8 false (some 64) (.bool false) (by kernel_rfl) (yld fun _ => by kernel_rfl) ?_
                refine wpS.take 9 false (some 65) (undef) (by kernel_rfl) (yld fun _ => by kernel_rfl) ?_
                refine wpS.take 10 false (some 66) (undef) (by kernel_rfl) (yld fun _ => by kernel_rfl) ?_
                refine wpS.take 11 false (some 67) (undef) (by kernel_rfl) (yld fun _ => by kernel_rfl) ?_
                refine wpS.take 12 false (some 68) (.bool false) (by kernel_rfl) (yld fun _ => by kernel_rfl) ?_
                refine wpS.take 13 false (some 69) (.bool false) (by kernel_rfl) (yld fun _ => by kernel_rfl) ?_
                refine wpS.take 14 false (some 70) (undef) (by kernel_rfl) (yld fun _ => by kernel_rfl) ?_
                refine wpS.take 15 false (some 71) (undef) (by kernel_rfl) (yld fun _ => by kernel_rfl) ?_
                refine wpS.take 16 false (some 72) (undef) (by kernel_rfl) (yld fun _ => by kernel_rfl) ?_
                refine wpS.take 17 false (some 73) (.bool false) (by kernel_rfl) (yld fun _ => by kernel_rfl) ?_
                refine wpS.take 18 false (some 74) (.bool false) (by kernel_rfl) (yld fun _ => by kernel_rfl) ?_
                refine wpS.take 19 false (some 75) (undef) (by kernel_rfl) (yld fun _ => by kernel_rfl) ?_
                refine wpS.take 20 false (some 76) (undef) (by kernel_rfl) (yld fun _ => by kernel_rfl) ?_
                refine wpS.take 21 false (some 77) (undef) (by kernel_rfl) (yld fun _ => by kernel_rfl) ?_
                refine wpS.take 22 false (some 78) (undef) (by kernel_rfl) (yld fun _ => by kernel_rfl) ?_
                refine wpS.take 23 false (some 79) (undef) (by kernel_rfl) (yld fun _ => by kernel_rfl) ?_
                refine wpS.take 24 false (some 80) (undef) (by kernel_rfl) (yld fun _ => by kernel_rfl) ?_
                refine wpS.take 25 false (some 81) (undef) (by kernel_rfl) (yld fun _ => by kernel_rfl) ?_
                refine wpS.take 26 false (some 82) (undef) (by kernel_rfl) (yld fun _ => by kernel_rfl) ?_
                refine wpS.take 27 false (some 83) (undef) (by kernel_rfl) (yld fun _ => by kernel_rfl) ?_
                refine wpS.take 28 false (some 84) (.bool false) (by kernel_rfl) (yld fun _ => by kernel_rfl) ?_
                refine wpS.take 29 false (some 85) (.bool false) (by kernel_rfl) (yld fun _ => by kernel_rfl) ?_
                refine wpS.take 30 false (some 86) (undef) (by kernel_rfl) (yld fun _ => by kernel_rfl) ?_
                refine wpS.take 31 false (some 87) (undef) (by kernel_rfl) (yld fun _ => by kernel_rfl) ?_
                refine wpS.take 32 false (some 88) (undef) (by kernel_rfl) (yld fun _ => by kernel_rfl) ?_
                refine wpS.take 33 false (some 89) (undef) (by kernel_rfl) (yld fun _ => by kernel_rfl) ?_
                refine wpS.take 34 false (some 90) (undef) (by kernel_rfl) (yld fun _ => by kernel_rfl) ?_
                refine wpS.take 35 false (some 91) (undef) (by kernel_rfl) (yld fun _ => by kernel_rfl) ?_
                refine wpS.take 36 false (some 92) (undef) (by kernel_rfl) (yld fun _ => by kernel_rfl) ?_
                refine wpS.take 37 false (some 93) (undef) (by kernel_rfl) (yld fun _ => by kernel_rfl) ?_
                refine wpS.take 38 false (some 94) (undef) (by kernel_rfl) (yld fun _ => by kernel_rfl) ?_
                refine wpS.take 39 false (some 95) (.bool false) (by kernel_rfl) (yld fun _ => by kernel_rfl) ?_
                refine wpS.take 40 false (some 96) (.bool false) (by kernel_rfl) (yld fun _ => by kernel_rfl) ?_
                refine wpS.take 41 false (some 97) (undef) (by kernel_rfl) (yld fun _ => by kernel_rfl) ?_
                refine wpS.take 42 false (some 98) (.bool false) (by kernel_rfl) (yld fun _ => by kernel_rfl) ?_
                refine wpS.take 43 false (some 8) (.bool false) (by kernel_rfl) (yld fun _ => by kernel_rfl) ?_
                refine wpS.fin rfl (kr _ _ ?_)
                refine then_n (ks21 _ _ ?_)
                refine wp_ret ?_
                have q0 := of_some h
                subst q0
                exact qq _ _ (post_ret (by kernel_rfl) (run_results [.tmp 8] [.bool false] (by kernel_rfl) (.cons (res_tmp (by kernel_rfl)) .nil)) ⟨congrArg Ending.returned (by kernel_rfl), hs.none⟩)
            · refine wpS.take 2 false (some 58) (.bool false) (by kernel_rfl) (yld_b (ef hc) (fun _ => by kernel_rfl)) ?_
              refine wpS.take 3 false (some 59) (.bool false) (by kernel_rfl) (yld fun _ => by kernel_rfl) ?_
              refine wpS.take 4 false (some 60) (undef) (by kernel_rfl) (yld fun _ => by kernel_rfl) ?_
              refine wpS.take 5 false (some 61) (undef) (by kernel_rfl) (yld fun _ => by kernel_rfl) ?_
              refine wpS.take 6 false (some 62) (undef) (by kernel_rfl) (yld fun _ => by kernel_rfl) ?_
              refine wpS.take 7 false (some 63) (.bool false) (by kernel_rfl) (yld fun _ => by kernel_rfl) ?_
              refine wpS.take 8 false (some 64) (.bool false) (by kernel_rfl) (yld fun _ => by kernel_rfl) ?_
              refine wpS.take 9 false (some 65) (undef) (by kernel_rfl) (yld fun _ => by kernel_rfl) ?_
              refine wpS.take 10 false (some 66) (undef) (by kernel_rfl) (yld fun _ => by kernel_rfl) ?_
              refine wpS.take 11 false (some 67) (undef) (by kernel_rfl) (yld fun _ => by kernel_rfl) ?_
              refine wpS.take 12 false (some 68) (.bool false) (by kernel_rfl) (yld fun _ => by kernel_rfl) ?_
              refine wpS.take 13 false (some 69) (.bool false) (by kernel_rfl) (yld fun _ => by kernel_rfl) ?_
              refine wpS.take 14 false (some 70) (undef) (by kernel_rfl) (yld fun _ => by kernel_rfl) ?_
              refine wpS.take 15 false (some 71) (undef) (by kernel_rfl) (yld fun _ => by kernel_rfl) ?_
              refine wpS.take 16 false (some 72) (undef) (by kernel_rfl) (yld fun _ => by kernel_rfl) ?_
              refine wpS.take 17 false (some 73) (.bool false) (by kernel_rfl) (yld fun _ => by kernel_rfl) ?_
              refine wpS.take 18 false (some 74) (.bool false) (by kernel_rfl) (yld fun _ => by kernel_rfl) ?_
              refine wpS.take 19 false (some 75) (undef) (by kernel_rfl) (yld fun _ => by kernel_rfl) ?_
              refine wpS.take 20 false (some 76) (undef) (by kernel_rfl) (yld fun _ => by kernel_rfl) ?_
              refine wpS.take 21 false (some 77) (undef) (by kernel_rfl) (yld fun _ => by kernel_rfl) ?_
              refine wpS.take 22 false (some 78) (undef) (by kernel_rfl) (yld fun _ => by kernel_rfl) ?_
              refine wpS.take 23 false (some 79) (undef) (by kernel_rfl) (yld fun _ => by kernel_rfl) ?_
              refine wpS.take 24 false (some 80) (undef) (by kernel_rfl) (yld fun _ => by kernel_rfl) ?_
              refine wpS.take 25 false (some 81) (undef) (by kernel_rfl) (yld fun _ => by kernel_rfl) ?_
              refine wpS.take 26 false (some 82) (undef) (by kernel_rfl) (yld fun _ => by kernel_rfl) ?_
              refine wpS.take 27 false (some 83) (undef) (by kernel_rfl) (yld fun _ => by kernel_rfl) ?_
              refine wpS.take 28 false (some 84) (.bool false) (by kernel_rfl) (yld fun _ => by kernel_rfl) ?_
              refine wpS.take 29 false (some 85) (.bool false) (by kernel_rfl) (yld fun _ => by kernel_rfl) ?_
              refine wpS.take 30 false (some 86) (undef) (by kernel_rfl) (yld fun _ => by kernel_rfl) ?_
              refine wpS.take 31 false (some 87) (undef) (by kernel_rfl) (yld fun _ => by kernel_rfl) ?_
              refine wpS.take 32 false (some 88) (undef) (by kernel_rfl) (yld fun _ => by kernel_rfl) ?_
              refine wpS.take 33 false (some 89) (undef) (by kernel_rfl) (yld fun _ => by kernel_rfl) ?_
              refine wpS.take 34 false (some 90) (undef) (by kernel_rfl) (yld fun _ => by kernel_rfl) ?_
              refine wpS.take 35 false (some 91) (undef) (by kernel_rfl) (yld fun _ => by kernel_rfl) ?_
              refine wpS.take 36 false (some 92) (undef) (by kernel_rfl) (yld fun _ => by kernel_rfl) ?_
              refine wpS.take 37 false (some 93) (undef) (by kernel_rfl) (yld fun _ => by kernel_rfl) ?_
              refine wpS.take 38 false (some 94) (undef) (by kernel_rfl) (yld fun _ => by kernel_rfl) ?_
              refine wpS.take 39 false (some 95) (.bool false) (by kernel_rfl) (yld fun _ => by kernel_rfl) ?_
              refine wpS.take 40 false (some 96) (.bool false) (by kernel_rfl) (yld fun _ => by kernel_rfl) ?_
              refine wpS.take 41 false (some 97) (undef) (by kernel_rfl) (yld fun _ => by kernel_rfl) ?_
              refine wpS.take 42 false (some 98) (.bool false) (by kernel_rfl) (yld fun _ => by kernel_rfl) ?_
              refine wpS.take 43 false (some 8) (.bool false) (by kernel_rfl) (yld fun _ => by kernel_rfl) ?_
              refine wpS.fin rfl (kr _ _ ?_)
              refine then_n (ks21 _ _ ?_)
              refine wp_ret ?_
              have q0 := of_some h
              subst q0
              exact qq _ _ (post_ret (by kernel_rfl) (run_results [.tmp 8] [.bool false] (by kernel_rfl) (.cons (res_tmp (by kernel_rfl)) .nil)) ⟨congrArg Ending.returned (by kernel_rfl), hs.none⟩)
end Go.Proofs.Ytijahfdldlmnhaa
