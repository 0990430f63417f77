/- Printed by this work's own program: the code of each function below comes to the answer that its plain form tells. -/
import Derived.Test.YtijahfdldlmnhaaMr
import Derived.Test.YtijahfdldlmnhaaProg
import Derived.Test.YtijahfdldlmnhaaF0
set_option linter.unusedVariables false
set_option maxRecDepth 100000
set_option maxHeartbeats 4000000
namespace Go.Proofs.Ytijahfdldlmnhaa
open Go.Mx
attribute [local irreducible] wpOp

theorem zq_Split.ok {K : Nat} {a0 : Int} {r0 : Int} {r1 : Int} (h : zq_Split.f K a0 = some (r0, r1)) (w0 : World) : Ret Try.prog 17 #[.int .i32 a0] w0 (.tuple #[.int .i32 r0, .int .i32 r1]) := by
  refine calls_k Try.func17 rfl fun Q qq => ?_
  have hs := St.start w0
  refine wp_conv (a' := ⟨#[.int .i32 a0, undef, undef, undef, undef, undef, undef, undef, undef, undef, undef, undef, undef], []⟩) (by kernel_rfl) ?_
  refine wp_seq_k fun KS1 ks1 => ?_
  refine wp_regS (l := [0, 1]) (by kernel_rfl) fun KR kr => ?_
  refine wpS.take 0 false (some 2) (.int .i32 0) (by kernel_rfl) (yld fun _ => by kernel_rfl) ?_
  refine wpS.take 1 false (some 3) (.int .i32 0) (by kernel_rfl) (yld fun _ => by kernel_rfl) ?_
  refine wpS.fin rfl (kr _ _ ?_)
  refine then_n (ks1 _ _ ?_)
  refine wp_seq_k fun KS2 ks2 => ?_
  refine wp_regS (l := [0, 1, 2, 3, 4]) (by kernel_rfl) fun KR kr => ?_
  refine wpS.take 0 false (some 4) (.int .i32 a0) (by kernel_rfl) (yld fun _ => by kernel_rfl) ?_
  refine wpS.take 1 false (some 5) (.int .i32 (iadd .i32 a0 4096)) (by kernel_rfl) (yld fun _ => by kernel_rfl) ?_
  refine wpS.take 2 false (some 6) (.int .i32 (isub .i32 (iadd .i32 a0 4096) 1)) (by kernel_rfl) (yld fun _ => by kernel_rfl) ?_
  refine wpS.take 3 false (some 7) (.int .i32 (ishr .i32 (isub .i32 (iadd .i32 a0 4096) 1) 13)) (by kernel_rfl) (yld fun _ => by kernel_rfl) ?_
  obtain ⟨x1, hx, h⟩ := of_bind h
  refine wpS.take 4 false (some 2) (.int .i32 x1) (by kernel_rfl) (yld_int hx (fun _ => by kernel_rfl)) ?_
  refine wpS.fin rfl (kr _ _ ?_)
  refine then_n (ks2 _ _ ?_)
  refine wp_seq_k fun KS3 ks3 => ?_
  refine wp_regS (l := [0, 1, 2, 3, 4, 5, 6]) (by kernel_rfl) fun KR kr => ?_
  refine wpS.take 0 false (some 8) (.int .i32 x1) (by kernel_rfl) (yld fun _ => by kernel_rfl) ?_
  refine wpS.take 1 false (some 9) (.int .i32 a0) (by kernel_rfl) (yld fun _ => by kernel_rfl) ?_
  refine wpS.take 2 false (some 10) (.int .i32 x1) (by kernel_rfl) (yld fun _ => by kernel_rfl) ?_
  refine wpS.take 3 false (some 11) (.int .i32 (ishl .i32 x1 13)) (by kernel_rfl) (yld fun _ => by kernel_rfl) ?_
  refine wpS.take 4 false (some 12) (.int .i32 (isub .i32 a0 (ishl .i32 x1 13))) (by kernel_rfl) (yld fun _ => by kernel_rfl) ?_
  refine wpS.take 5 false (some 2) (.int .i32 x1) (by kernel_rfl) (yld fun _ => by kernel_rfl) ?_
  obtain ⟨x2, hx, h⟩ := of_bind h
  refine wpS.take 6 false (some 3) (.int .i32 x2) (by kernel_rfl) (yld_int hx (fun _ => by kernel_rfl)) ?_
  refine wpS.fin rfl (kr _ _ ?_)
  refine then_n (ks3 _ _ ?_)
  refine wp_ret ?_
  obtain ⟨q0, qr0⟩ := Prod.mk.inj (of_some h)
  have q1 := qr0
  subst q0
  subst q1
  exact qq _ _ (post_ret (by kernel_rfl) (run_results [.tmp 2, .tmp 3] [.int .i32 x1, .int .i32 x2] (by kernel_rfl) (.cons (res_tmp (by kernel_rfl)) (.cons (res_tmp (by kernel_rfl)) .nil))) ⟨congrArg Ending.returned (by kernel_rfl), hs.none⟩)

theorem zq_Parts.ok {K : Nat} {a0 : Int} {a1 : Int} {r0 : Int} {r1 : Int} (h : zq_Parts.f K a0 a1 = some (r0, r1)) (w0 : World) : Ret Try.prog 19 #[.int .i32 a0, .int .i32 a1] w0 (.tuple #[.int .i32 r0, .int .i32 r1]) := by
  refine calls_k Try.func19 rfl fun Q qq => ?_
  have hs := St.start w0
  refine wp_conv (a' := ⟨#[.int .i32 a0, .int .i32 a1, undef, undef, undef, undef, undef, undef, undef, undef, undef, undef, undef, undef, undef, undef, undef, undef, undef, undef, undef, undef, undef, undef, undef, undef, undef, undef, undef, undef], []⟩) (by kernel_rfl) ?_
  refine wp_seq_k fun KS1 ks1 => ?_
  refine wp_regS (l := [0, 1]) (by kernel_rfl) fun KR kr => ?_
  refine wpS.take 0 false (some 4) (.int .i32 0) (by kernel_rfl) (yld fun _ => by kernel_rfl) ?_
  refine wpS.take 1 false (some 5) (.int .i32 0) (by kernel_rfl) (yld fun _ => by kernel_rfl) ?_
  refine wpS.fin rfl (kr _ _ ?_)
  refine then_n (ks1 _ _ ?_)
  refine wp_seq_k fun KS4 ks4 => ?_
  refine wp_seq_k fun KS5 ks5 => ?_
  refine wp_regS (l := [0, 1]) (by kernel_rfl) fun KR kr => ?_
  refine wpS.take 0 false (some 6) (.int .i32 a1) (by kernel_rfl) (yld fun _ => by kernel_rfl) ?_
  rcases of_if h with ⟨hc, h⟩ | ⟨hc, h⟩
  · refine wpS.take 1 false (some 7) (.bool true) (by kernel_rfl) (yld_b (dt hc) (fun _ => by kernel_rfl)) ?_
    refine wpS.fin rfl (kr _ _ ?_)
    refine then_n (ks5 _ _ ?_)
    refine wp_cond_t (by kernel_rfl) ?_
    refine wp_seq_k fun KS6 ks6 => ?_
    refine wp_regS (l := [0, 1]) (by kernel_rfl) fun KR kr => ?_
    refine wpS.take 0 false (some 4) (.int .i32 0) (by kernel_rfl) (yld fun _ => by kernel_rfl) ?_
    refine wpS.take 1 false (some 5) (.int .i32 0) (by kernel_rfl) (yld fun _ => by kernel_rfl) ?_
    refine wpS.fin rfl (kr _ _ ?_)
    refine then_n (ks6 _ _ ?_)
    refine wp_ret ?_
    refine then_r ?_
    obtain ⟨q0, qr0⟩ := Prod.mk.inj (of_some h)
    have q1 := qr0
    subst q0
    subst q1
    exact qq _ _ (post_ret (by kernel_rfl) (run_results [.tmp 4, .tmp 5] [.int .i32 0, .int .i32 0] (by kernel_rfl) (.cons (res_tmp (by kernel_rfl)) (.cons (res_tmp (by kernel_rfl)) .nil))) ⟨congrArg Ending.returned (by kernel_rfl), hs.none⟩)
  · refine wpS.take 1 false (some 7) (.bool false) (by kernel_rfl) (yld_b (df hc) (fun _ => by kernel_rfl)) ?_
    refine wpS.fin rfl (kr _ _ ?_)
    refine then_n (ks5 _ _ ?_)
    refine wp_cond_f (by kernel_rfl) ?_
    refine wp_skip ?_
    refine then_n (ks4 _ _ ?_)
    refine wp_seq_k fun KS7 ks7 => ?_
    refine wp_regS (l := [0, 1, 2, 3, 4, 5, 6, 7]) (by kernel_rfl) fun KR kr => ?_
    refine wpS.take 0 false (some 8) (.int .i32 a0) (by kernel_rfl) (yld fun _ => by kernel_rfl) ?_
    refine wpS.take 1 false (some 9) (.int .i32 a1) (by kernel_rfl) (yld fun _ => by kernel_rfl) ?_
    refine wpS.take 2 false (some 10) (.int .i32 (iadd .i32 a0 a1)) (by kernel_rfl) (yld fun _ => by kernel_rfl) ?_
    refine wpS.take 3 false (some 11) (.int .i32 (isub .i32 (iadd .i32 a0 a1) 1)) (by kernel_rfl) (yld fun _ => by kernel_rfl) ?_
    refine wpS.take 4 false (some 12) (.int .i32 a1) (by kernel_rfl) (yld fun _ => by kernel_rfl) ?_
    refine wpS.take 5 false (some 13) (.int .i32 (imul .i32 2 a1)) (by kernel_rfl) (yld fun _ => by kernel_rfl) ?_
    obtain ⟨h0, h⟩ := of_chk h
    refine wpS.take 6 false (some 14) (.int .i32 (iquo .i32 (isub .i32 (iadd .i32 a0 a1) 1) (imul .i32 2 a1))) (by kernel_rfl) (yld_quo (t := 21) (by kernel_rfl) h0) ?_
    obtain ⟨x1, hx, h⟩ := of_bind h
    refine wpS.take 7 false (some 4) (.int .i32 x1) (by kernel_rfl) (yld_int hx (fun _ => by kernel_rfl)) ?_
    refine wpS.fin rfl (kr _ _ ?_)
    refine then_n (ks7 _ _ ?_)
    refine wp_seq_k fun KS11 ks11 => ?_
    refine wp_seq_k fun KS12 ks12 => ?_
    refine wp_regS (l := [0, 1, 2, 3, 4, 5, 6]) (by kernel_rfl) fun KR kr => ?_
    refine wpS.take 0 false (some 15) (.int .i32 a0) (by kernel_rfl) (yld fun _ => by kernel_rfl) ?_
    refine wpS.take 1 false (some 16) (.int .i32 x1) (by kernel_rfl) (yld fun _ => by kernel_rfl) ?_
    refine wpS.take 2 false (some 17) (.int .i32 (imul .i32 x1 2)) (by kernel_rfl) (yld fun _ => by kernel_rfl) ?_
    refine wpS.take 3 false (some 18) (.int .i32 a1) (by kernel_rfl) (yld fun _ => by kernel_rfl) ?_
    refine wpS.take 4 false (some 19) (.int .i32 (imul .i32 (imul .i32 x1 2) a1)) (by kernel_rfl) (yld fun _ => by kernel_rfl) ?_
    refine wpS.take 5 false (some 20) (.int .i32 (isub .i32 a0 (imul .i32 (imul .i32 x1 2) a1))) (by kernel_rfl) (yld fun _ => by kernel_rfl) ?_
    obtain ⟨x2, hx, h⟩ := of_bind h
    refine wpS.take 6 false (some 5) (.int .i32 x2) (by kernel_rfl) (yld_int hx (fun _ => by kernel_rfl)) ?_
    refine wpS.fin rfl (kr _ _ ?_)
    refine then_n (ks12 _ _ ?_)
    refine wp_seq_k fun KS13 ks13 => ?_
    refine wp_regS (l := [0, 1, 2, 3, 4]) (by kernel_rfl) fun KR kr => ?_
    refine wpS.take 0 false (some 21) (.int .i32 x1) (by kernel_rfl) (yld fun _ => by kernel_rfl) ?_
    refine wpS.take 1 false (some 22) (.int .i32 a1) (by kernel_rfl) (yld fun _ => by kernel_rfl) ?_
    refine wpS.take 2 false (some 23) (.int .i32 (imul .i32 2 a1)) (by kernel_rfl) (yld fun _ => by kernel_rfl) ?_
    obtain ⟨h0, h⟩ := of_chk h
    refine wpS.take 3 false (some 24) (.int .i32 (iquo .i32 8380416 (imul .i32 2 a1))) (by kernel_rfl) (yld_quo (t := 21) (by kernel_rfl) h0) ?_
    rcases of_if h with ⟨hc, h⟩ | ⟨hc, h⟩
    · refine wpS.take 4 false (some 25) (.bool true) (by kernel_rfl) (yld_b (et hc) (fun _ => by kernel_rfl)) ?_
      refine wpS.fin rfl (kr _ _ ?_)
      refine then_n (ks13 _ _ ?_)
      refine wp_cond_t (by kernel_rfl) ?_
      refine wp_seq_k fun KS14 ks14 => ?_
      refine wp_regS (l := [0, 1, 2, 3]) (by kernel_rfl) fun KR kr => ?_
      refine wpS.take 0 false (some 26) (.int .i32 x2) (by kernel_rfl) (yld fun _ => by kernel_rfl) ?_
      refine wpS.take 1 false (some 27) (.int .i32 (isub .i32 x2 1)) (by kernel_rfl) (yld fun _ => by kernel_rfl) ?_
      refine wpS.take 2 false (some 4) (.int .i32 0) (by kernel_rfl) (yld fun _ => by kernel_rfl) ?_
      obtain ⟨x3, hx, h⟩ := of_bind h
      refine wpS.take 3 false (some 5) (.int .i32 x3) (by kernel_rfl) (yld_int hx (fun _ => by kernel_rfl)) ?_
      refine wpS.fin rfl (kr _ _ ?_)
      refine then_n (ks14 _ _ ?_)
      refine wp_ret ?_
      refine then_r ?_
      obtain ⟨q0, qr0⟩ := Prod.mk.inj (of_some h)
      have q1 := qr0
      subst q0
      subst q1
      exact qq _ _ (post_ret (by kernel_rfl) (run_results [.tmp 4, .tmp 5] [.int .i32 0, .int .i32 x3] (by kernel_rfl) (.cons (res_tmp (by kernel_rfl)) (.cons (res_tmp (by kernel_rfl)) .nil))) ⟨congrArg Ending.returned (by kernel_rfl), hs.none⟩)
    · refine wpS.take 4 false (some 25) (.bool false) (by kernel_rfl) (yld_b (ef hc) (fun _ => by kernel_rfl)) ?_
      refine wpS.fin rfl (kr _ _ ?_)
      refine then_n (ks13 _ _ ?_)
      refine wp_cond_f (by kernel_rfl) ?_
      refine wp_skip ?_
      refine then_n (ks11 _ _ ?_)
      refine wp_seq_k fun KS15 ks15 => ?_
      refine wp_regS (l := [0, 1, 2, 3]) (by kernel_rfl) fun KR kr => ?_
      refine wpS.take 0 false (some 28) (.int .i32 x1) (by kernel_rfl) (yld fun _ => by kernel_rfl) ?_
      refine wpS.take 1 false (some 29) (.int .i32 x2) (by kernel_rfl) (yld fun _ => by kernel_rfl) ?_
      refine wpS.take 2 false (some 4) (.int .i32 x1) (by kernel_rfl) (yld fun _ => by kernel_rfl) ?_
      refine wpS.take 3 false (some 5) (.int .i32 x2) (by kernel_rfl) (yld fun _ => by kernel_rfl) ?_
      refine wpS.fin rfl (kr _ _ ?_)
      refine then_n (ks15 _ _ ?_)
      refine wp_ret ?_
      obtain ⟨q0, qr0⟩ := Prod.mk.inj (of_some h)
      have q1 := qr0
      subst q0
      subst q1
      exact qq _ _ (post_ret (by kernel_rfl) (run_results [.tmp 4, .tmp 5] [.int .i32 x1, .int .i32 x2] (by kernel_rfl) (.cons (res_tmp (by kernel_rfl)) (.cons (res_tmp (by kernel_rfl)) .nil))) ⟨congrArg Ending.returned (by kernel_rfl), hs.none⟩)

theorem zq_plus.ok {K : Nat} {a0 : Int} {a1 : Int} {r0 : Int} (h : zq_plus.f K a0 a1 = some r0) (w0 : World) : Ret Try.prog 62 #[.int .i32 a0, .int .i32 a1] w0 (.int .i32 r0) := by
  refine calls_k Try.func62 rfl fun Q qq => ?_
  have hs := St.start w0
  refine wp_conv (a' := ⟨#[.int .i32 a0, .int .i32 a1, undef, undef, undef, undef, undef, undef, undef, undef, undef, undef, undef], []⟩) (by kernel_rfl) ?_
  refine wp_seq_k fun KS1 ks1 => ?_
  refine wp_regS (l := [0]) (by kernel_rfl) fun KR kr => ?_
  refine wpS.take 0 false (some 4) (.int .i32 0) (by kernel_rfl) (yld fun _ => by kernel_rfl) ?_
  refine wpS.fin rfl (kr _ _ ?_)
  refine then_n (ks1 _ _ ?_)
  obtain ⟨y1, hj, h⟩ := of_bind h
  refine wp_seq_k fun KS9 ks9 => wp_join (N := fun a w => St w0 [] [] [] w ∧ ∃ g : Nat → Value, a = ⟨#[.int .i32 y1, .int .i32 a1, undef, undef, .int .i32 0, (g 5), (g 6), (g 7), (g 8), (g 9), (g 10), (g 11), undef], []⟩) (fun N nj => ?_) ?_
  · clear h
    have h := hj
    refine wp_seq_k fun KS6 ks6 => ?_
    refine wp_regS (l := [0, 1, 2, 3]) (by kernel_rfl) fun KR kr => ?_
    refine wpS.take 0 false (some 5) (.int .i32 a0) (by kernel_rfl) (yld fun _ => by kernel_rfl) ?_
    refine wpS.take 1 false (some 6) (.int .i32 a1) (by kernel_rfl) (yld fun _ => by kernel_rfl) ?_
    refine wpS.take 2 false (some 7) (.int .i32 (iadd .i32 a0 a1)) (by kernel_rfl) (yld fun _ => by kernel_rfl) ?_
    obtain ⟨x2, hx, h⟩ := of_bind h
    refine wpS.take 3 false (some 0) (.int .i32 x2) (by kernel_rfl) (yld_int hx (fun _ => by kernel_rfl)) ?_
    refine wpS.fin rfl (kr _ _ ?_)
    refine then_n (ks6 _ _ ?_)
    refine wp_seq_k fun KS7 ks7 => ?_
    refine wp_regS (l := [0, 1]) (by kernel_rfl) fun KR kr => ?_
    refine wpS.take 0 false (some 8) (.int .i32 x2) (by kernel_rfl) (yld fun _ => by kernel_rfl) ?_
    rcases of_if h with ⟨hc, h⟩ | ⟨hc, h⟩
    · refine wpS.take 1 false (some 9) (.bool true) (by kernel_rfl) (yld_b (dt hc) (fun _ => by kernel_rfl)) ?_
      refine wpS.fin rfl (kr _ _ ?_)
      refine then_n (ks7 _ _ ?_)
      refine wp_cond_t (by kernel_rfl) ?_
      refine wp_regS (l := [0, 1, 2]) (by kernel_rfl) fun KR kr => ?_
      refine wpS.take 0 false (some 10) (.int .i32 x2) (by kernel_rfl) (yld fun _ => by kernel_rfl) ?_
      refine wpS.take 1 false (some 11) (.int .i32 (isub .i32 x2 8380417)) (by kernel_rfl) (yld fun _ => by kernel_rfl) ?_
      obtain ⟨x3, hx, h⟩ := of_bind h
      refine wpS.take 2 false (some 0) (.int .i32 x3) (by kernel_rfl) (yld_int hx (fun _ => by kernel_rfl)) ?_
      refine wpS.fin rfl (kr _ _ ?_)
      have q0 := of_some h
      subst q0
      exact nj _ _ ⟨(hs.conv rfl), exg (by kernel_rfl)⟩
    · refine wpS.take 1 false (some 9) (.bool false) (by kernel_rfl) (yld_b (df hc) (fun _ => by kernel_rfl)) ?_
      refine wpS.fin rfl (kr _ _ ?_)
      refine then_n (ks7 _ _ ?_)
      refine wp_cond_f (by kernel_rfl) ?_
      refine wp_skip ?_
      have q0 := of_some h
      subst q0
      exact nj _ _ ⟨(hs.conv rfl), exg (by kernel_rfl)⟩
  · clear hj hs
    rintro a w ⟨hs, g, rfl⟩
    refine then_n (ks9 _ _ ?_)
    refine wp_seq_k fun KS8 ks8 => ?_
    refine wp_regS (l := [0, 1]) (by kernel_rfl) fun KR kr => ?_
    refine wpS.take 0 false (some 12) (.int .i32 y1) (by kernel_rfl) (yld fun _ => by kernel_rfl) ?_
    refine wpS.take 1 false (some 4) (.int .i32 y1) (by kernel_rfl) (yld fun _ => by kernel_rfl) ?_
    refine wpS.fin rfl (kr _ _ ?_)
    refine then_n (ks8 _ _ ?_)
    refine wp_ret ?_
    have q0 := of_some h
    subst q0
    exact qq _ _ (post_ret (by kernel_rfl) (run_results [.tmp 4] [.int .i32 y1] (by kernel_rfl) (.cons (res_tmp (by kernel_rfl)) .nil)) ⟨congrArg Ending.returned (by kernel_rfl), hs.none⟩)

theorem zq_times.ok {K : Nat} {a0 : Int} {a1 : Int} {r0 : Int} (h : zq_times.f K a0 a1 = some r0) (w0 : World) : Ret Try.prog 65 #[.int .i32 a0, .int .i32 a1] w0 (.int .i32 r0) := by
  refine calls_k Try.func65 rfl fun Q qq => ?_
  have hs := St.start w0
  refine wp_conv (a' := ⟨#[.int .i32 a0, .int .i32 a1, undef, undef, undef, undef, undef, undef, undef, undef, undef, undef], []⟩) (by kernel_rfl) ?_
  refine wp_seq_k fun KS1 ks1 => ?_
  refine wp_regS (l := [0]) (by kernel_rfl) fun KR kr => ?_
  refine wpS.take 0 false (some 4) (.int .i32 0) (by kernel_rfl) (yld fun _ => by kernel_rfl) ?_
  refine wpS.fin rfl (kr _ _ ?_)
  refine then_n (ks1 _ _ ?_)
  refine wp_seq_k fun KS2 ks2 => ?_
  refine wp_regS (l := [0, 1, 2, 3, 4, 5, 6, 7]) (by kernel_rfl) fun KR kr => ?_
  refine wpS.take 0 false (some 5) (.int .i32 a0) (by kernel_rfl) (yld fun _ => by kernel_rfl) ?_
  refine wpS.take 1 false (some 6) (.int .i64 (iconv .i64 a0)) (by kernel_rfl) (yld fun _ => by kernel_rfl) ?_
  refine wpS.take 2 false (some 7) (.int .i32 a1) (by kernel_rfl) (yld fun _ => by kernel_rfl) ?_
  refine wpS.take 3 false (some 8) (.int .i64 (iconv .i64 a1)) (by kernel_rfl) (yld fun _ => by kernel_rfl) ?_
  refine wpS.take 4 false (some 9) (.int .i64 (imul .i64 (iconv .i64 a0) (iconv .i64 a1))) (by kernel_rfl) (yld fun _ => by kernel_rfl) ?_
  refine wpS.take 5 false (some 10) (.int .i64 (irem .i64 (imul .i64 (iconv .i64 a0) (iconv .i64 a1)) 8380417)) (by kernel_rfl) (yld fun _ => by kernel_rfl) ?_
  refine wpS.take 6 false (some 11) (.int .i32 (iconv .i32 (irem .i64 (imul .i64 (iconv .i64 a0) (iconv .i64 a1)) 8380417))) (by kernel_rfl) (yld fun _ => by kernel_rfl) ?_
  obtain ⟨x1, hx, h⟩ := of_bind h
  refine wpS.take 7 false (some 4) (.int .i32 x1) (by kernel_rfl) (yld_int hx (fun _ => by kernel_rfl)) ?_
  refine wpS.fin rfl (kr _ _ ?_)
  refine then_n (ks2 _ _ ?_)
  refine wp_ret ?_
  have q0 := of_some h
  subst q0
  exact qq _ _ (post_ret (by kernel_rfl) (run_results [.tmp 4] [.int .i32 x1] (by kernel_rfl) (.cons (res_tmp (by kernel_rfl)) .nil)) ⟨congrArg Ending.returned (by kernel_rfl), hs.none⟩)

theorem math_bits_Reverse8.ok {K : Nat} {a0 : Int} {r0 : Int} (h : math_bits_Reverse8.f K a0 = some r0) (w0 : World) : Ret Try.prog 80 #[.int .u8 a0] w0 (.int .u8 r0) := by
  refine calls_k Try.func80 rfl fun Q qq => ?_
  have hs := St.start w0
  refine wp_conv (a' := ⟨#[.int .u8 a0, undef, undef, undef, undef], []⟩) (by kernel_rfl) ?_
  refine wp_seq_k fun KS1 ks1 => ?_
  refine wp_regS (l := [0]) (by kernel_rfl) fun KR kr => ?_
  refine wpS.take 0 false (some 2) (.int .u8 0) (by kernel_rfl) (yld fun _ => by kernel_rfl) ?_
  refine wpS.fin rfl (kr _ _ ?_)
  refine then_n (ks1 _ _ ?_)
  refine wp_seq_k fun KS2 ks2 => ?_
  refine wp_regS (l := [0, 1, 2]) (by kernel_rfl) fun KR kr => ?_
  refine wpS.take 0 false (some 3) (.int .u8 a0) (by kernel_rfl) (yld fun _ => by kernel_rfl) ?_
  obtain ⟨h0, h⟩ := of_chk h
  obtain ⟨h1, h⟩ := of_chk h
  refine wpS.take 1 false (some 4) (.int .u8 (strAt [0, 128, 64, 192, 32, 160, 96, 224, 16, 144, 80, 208, 48, 176, 112, 240, 8, 136, 72, 200, 40, 168, 104, 232, 24, 152, 88, 216, 56, 184, 120, 248, 4, 132, 68, 196, 36, 164, 100, 228, 20, 148, 84, 212, 52, 180, 116, 244, 12, 140, 76, 204, 44, 172, 108, 236, 28, 156, 92, 220, 60, 188, 124, 252, 2, 130, 66, 194, 34, 162, 98, 226, 18, 146, 82, 210, 50, 178, 114, 242, 10, 138, 74, 202, 42, 170, 106, 234, 26, 154, 90, 218, 58, 186, 122, 250, 6, 134, 70, 198, 38, 166, 102, 230, 22, 150, 86, 214, 54, 182, 118, 246, 14, 142, 78, 206, 46, 174, 110, 238, 30, 158, 94, 222, 62, 190, 126, 254, 1, 129, 65, 193, 33, 161, 97, 225, 17, 145, 81, 209, 49, 177, 113, 241, 9, 137, 73, 201, 41, 169, 105, 233, 25, 153, 89, 217, 57, 185, 121, 249, 5, 133, 69, 197, 37, 165, 101, 229, 21, 149, 85, 213, 53, 181, 117, 245, 13, 141, 77, 205, 45, 173, 109, 237, 29, 157, 93, 221, 61, 189, 125, 253, 3, 131, 67, 195, 35, 163, 99, 227, 19, 147, 83, 211, 51, 179, 115, 243, 11, 139, 75, 203, 43, 171, 107, 235, 27, 155, 91, 219, 59, 187, 123, 251, 7, 135, 71, 199, 39, 167, 103, 231, 23, 151, 87, 215, 55, 183, 119, 247, 15, 143, 79, 207, 47, 175, 111, 239, 31, 159, 95, 223, 63, 191, 127, 255] a0)) (by kernel_rfl) (yld_str (t := 9) (k' := .u8) (by kernel_rfl) (by kernel_rfl) h0 h1) ?_
  obtain ⟨x1, hx, h⟩ := of_bind h
  refine wpS.take 2 false (some 2) (.int .u8 x1) (by kernel_rfl) (yld_int hx (fun _ => by kernel_rfl)) ?_
  refine wpS.fin rfl (kr _ _ ?_)
  refine then_n (ks2 _ _ ?_)
  refine wp_ret ?_
  have q0 := of_some h
  subst q0
  exact qq _ _ (post_ret (by kernel_rfl) (run_results [.tmp 2] [.int .u8 x1] (by kernel_rfl) (.cons (res_tmp (by kernel_rfl)) .nil)) ⟨congrArg Ending.returned (by kernel_rfl), hs.none⟩)

theorem zq_roots.ok {K : Nat} {r0 : Arr 256} (h : zq_roots.f K = some r0) (w0 : World) : Calls Try.prog 64 #[] w0 fun e w' => ∃ b, e = .returned (.pointer (some ⟨b, 0, none⟩)) ∧ St w0 [] [.blk b (enc .i32 r0) 22] [] w' := by
  refine calls_k Try.func64 rfl fun Q qq => ?_
  have hs := St.start w0
  refine wp_conv (a' := ⟨#[undef, undef, undef, undef, undef, undef, undef, undef, undef, undef, undef, undef, undef, undef, undef, undef, undef, undef, undef, undef, undef, undef, undef, undef, undef, undef, undef, undef], []⟩) (by kernel_rfl) ?_
  refine wp_seq_k fun KS1 ks1 => ?_
  refine wp_regS (l := [0]) (by kernel_rfl) fun KR kr => ?_
  refine wpS.take 0 false (some 0) (.pointer none) (by kernel_rfl) (yld fun _ => by kernel_rfl) ?_
  refine wpS.fin rfl (kr _ _ ?_)
  refine then_n (ks1 _ _ ?_)
  refine wp_seq_k fun KS2 ks2 => ?_
  refine wp_regS (l := [0]) (by kernel_rfl) fun KR kr => ?_
  refine wpS.only 0 (op_alloc (t := 22) (d := (some 1)) (by kernel_rfl) hs (enc .i32 (zeroA 256)) (.agg (enc .i32 (zeroA 256)).toArray) (by kernel_rfl) (by kernel_rfl) (by kernel_rfl) ?_)
  intro b1 w gw hs
  refine ⟨fun _ => trivial, ?_⟩
  refine wpS.fin rfl (kr _ _ ?_)
  refine then_n (ks2 _ _ ?_)
  refine wp_seq_k fun KS3 ks3 => ?_
  refine wp_regS (l := [0]) (by kernel_rfl) fun KR kr => ?_
  refine wpS.only 0 (op_alloc (t := 22) (d := (some 2)) (by kernel_rfl) hs (enc .i32 (zeroA 256)) (.agg (enc .i32 (zeroA 256)).toArray) (by kernel_rfl) (by kernel_rfl) (by kernel_rfl) ?_)
  intro b2 w gw hs
  refine ⟨fun _ => trivial, ?_⟩
  refine wpS.fin rfl (kr _ _ ?_)
  refine then_n (ks3 _ _ ?_)
  refine wp_seq_k fun KS4 ks4 => ?_
  refine wp_regS (l := [0, 1]) (by kernel_rfl) fun KR kr => ?_
  refine wpS.take 0 false (some 5) (.pointer (some ⟨b2, 0 + (0 : Int).toNat * 1, none⟩)) (by kernel_rfl) (yld_idx (t := 22) (e := 21) (n := 256) (sz := 1) (k := .i64) (x := 0) (by kernel_rfl) (by kernel_rfl) (by kernel_rfl) (by decide) (by decide)) ?_
  refine wpS.only 1 (op_storeA (t := 21) (x := 0) (v := 1) (d := none) (by kernel_rfl) hs 0 rfl (by kernel_rfl /-v-/) (by kernel_rfl) (by decide) (by decide) ?_)
  intro w hs
  refine ⟨fun _ => trivial, ?_⟩
  refine wpS.fin rfl (kr _ _ ?_)
  refine then_n (ks4 _ _ ?_)
  refine wp_seq_k fun KS14 ks14 => ?_
  refine wp_seq_k fun KS15 ks15 => ?_
  refine wp_regS (l := [0]) (by kernel_rfl) fun KR kr => ?_
  refine wpS.take 0 false (some 3) (.int .i64 1) (by kernel_rfl) (yld fun _ => by kernel_rfl) ?_
  refine wpS.fin rfl (kr _ _ ?_)
  refine then_n (ks15 _ _ ?_)
  obtain ⟨y5, hy, hk0⟩ := of_bind h
  refine wp_exq (N := fun a w => St w0 [] [.blk b2 (enc .i32 y5) 22, .blk b1 (enc .i32 (zeroA 256)) 22] [] w ∧ ∃ g : Nat → Value, a = ⟨#[.pointer none, .pointer (some ⟨b1, 0, none⟩), .pointer (some ⟨b2, 0, none⟩), (g 3), undef, .pointer (some ⟨b2, 0 + (0 : Int).toNat * 1, none⟩), (g 6), (g 7), (g 8), (g 9), (g 10), (g 11), (g 12), (g 13), (g 14), (g 15), (g 16), undef, undef, undef, undef, undef, undef, undef, undef, undef, undef, undef], []⟩) (fun N0 nn0 => ?_) ?_
  · clear hk0
    refine wp_block ?_
    refine wp_loop_k (fun n a w => ∃ z3 z4, zq_roots.l0 K n z3 z4 = some y5 ∧ St w0 [] [.blk b2 (enc .i32 z4) 22, .blk b1 (enc .i32 (zeroA 256)) 22] [] w ∧ ∃ g : Nat → Value, a = ⟨#[.pointer none, .pointer (some ⟨b1, 0, none⟩), .pointer (some ⟨b2, 0, none⟩), .int .i64 z3, undef, .pointer (some ⟨b2, 0 + (0 : Int).toNat * 1, none⟩), (g 6), (g 7), (g 8), (g 9), (g 10), (g 11), (g 12), (g 13), (g 14), (g 15), (g 16), undef, undef, undef, undef, undef, undef, undef, undef, undef, undef, undef], []⟩) K ⟨1, (wr (zeroA 256) 0 1), hy, hs.conv rfl, exg (by kernel_rfl)⟩ ?_
    clear hs h hy
    rintro n a w ⟨z3, z4, h, hs, g, rfl⟩ KL0 kl0
    cases n with
    | zero => exact nomatch (show none = some _ from h)
    | succ n =>
      refine wp_seq_k fun KS21 ks21 => ?_
      refine wp_seq_k fun KS22 ks22 => ?_
      refine wp_regS (l := [0, 1]) (by kernel_rfl) fun KR kr => ?_
      refine wpS.take 0 false (some 6) (.int .i64 z3) (by kernel_rfl) (yld fun _ => by kernel_rfl) ?_
      rcases of_if h with ⟨hc, h⟩ | ⟨hc, h⟩
      · refine wpS.take 1 false (some 7) (.bool true) (by kernel_rfl) (yld_b (dt hc) (fun _ => by kernel_rfl)) ?_
        refine wpS.fin rfl (kr _ _ ?_)
        refine then_n (ks22 _ _ ?_)
        refine wp_cond_t (by kernel_rfl) ?_
        refine wp_skip ?_
        refine then_n (ks21 _ _ ?_)
        refine wp_seq_k fun KS23 ks23 => ?_
        refine wp_block ?_
        refine wp_regS (l := [0, 1, 2, 3, 4, 5, 6, 7]) (by kernel_rfl) fun KR kr => ?_
        refine wpS.take 0 false (some 10) (.int .i64 z3) (by kernel_rfl) (yld fun _ => by kernel_rfl) ?_
        refine wpS.take 1 false (some 11) (.int .i64 z3) (by kernel_rfl) (yld fun _ => by kernel_rfl) ?_
        refine wpS.take 2 false (some 12) (.int .i64 (isub .i64 z3 1)) (by kernel_rfl) (yld fun _ => by kernel_rfl) ?_
        obtain ⟨x6, hx, h⟩ := of_bind h
        have hx := of_some hx
        subst hx
        obtain ⟨h0, h⟩ := of_chk h
        obtain ⟨h1, h⟩ := of_chk h
        refine wpS.take 3 false (some 13) (.pointer (some ⟨b2, 0 + ((isub .i64 z3 1) : Int).toNat * 1, none⟩)) (by kernel_rfl) (yld_idx (t := 22) (e := 21) (n := 256) (sz := 1) (k := .i64) (x := (isub .i64 z3 1)) (by kernel_rfl) (by kernel_rfl) (by kernel_rfl) h0 h1) ?_
        refine wpS.take 4 true (some 14) (.int .i32 (rd z4 (isub .i64 z3 1))) (by kernel_rfl) (yld_loadA (e := 21) (x := (isub .i64 z3 1)) hs 0 rfl (by kernel_rfl) (by kernel_rfl) h0 h1) ?_
        obtain ⟨r7, hg, h⟩ := of_bind h
        refine wpS.only 5 (op_call (d := (some 15)) (by kernel_rfl) hs (fun _ => by kernel_rfl) (zq_times.ok hg _) ?_)
        intro w gw hs
        refine ⟨fun _ => trivial, ?_⟩
        obtain ⟨h0, h⟩ := of_chk h
        obtain ⟨h1, h⟩ := of_chk h
        refine wpS.take 6 false (some 16) (.pointer (some ⟨b2, 0 + (z3 : Int).toNat * 1, none⟩)) (by kernel_rfl) (yld_idx (t := 22) (e := 21) (n := 256) (sz := 1) (k := .i64) (x := z3) (by kernel_rfl) (by kernel_rfl) (by kernel_rfl) h0 h1) ?_
        refine wpS.only 7 (op_storeA (t := 21) (x := z3) (v := r7) (d := none) (by kernel_rfl) hs 0 rfl (by kernel_rfl /-v-/) (by kernel_rfl) h0 h1 ?_)
        intro w hs
        refine ⟨fun _ => trivial, ?_⟩
        refine wpS.fin rfl (kr _ _ ?_)
        refine inBlock_n ?_
        refine then_n (ks23 _ _ ?_)
        refine wp_regS (l := [0, 1, 2]) (by kernel_rfl) fun KR kr => ?_
        refine wpS.take 0 false (some 8) (.int .i64 z3) (by kernel_rfl) (yld fun _ => by kernel_rfl) ?_
        refine wpS.take 1 false (some 9) (.int .i64 (iadd .i64 z3 1)) (by kernel_rfl) (yld fun _ => by kernel_rfl) ?_
        obtain ⟨x8, hx, h⟩ := of_bind h
        refine wpS.take 2 false (some 3) (.int .i64 x8) (by kernel_rfl) (yld_int hx (fun _ => by kernel_rfl)) ?_
        refine wpS.fin rfl (kr _ _ ?_)
        exact then_n (kl0 _ _ ⟨n, Nat.lt_succ_self n, x8, (wr z4 z3 r7), h, (hs.conv rfl), exg (by kernel_rfl)⟩)
      · refine wpS.take 1 false (some 7) (.bool false) (by kernel_rfl) (yld_b (df hc) (fun _ => by kernel_rfl)) ?_
        refine wpS.fin rfl (kr _ _ ?_)
        refine then_n (ks22 _ _ ?_)
        refine wp_cond_f (by kernel_rfl) ?_
        refine wp_exit ?_
        refine then_x ?_
        refine then_x ?_
        refine inBlock_hit ?_
        have q0 := of_some h
        subst q0
        exact exq_n (nn0 _ _ ⟨(hs.conv rfl), exg (by kernel_rfl)⟩)
  · clear hs h hy
    rintro a w ⟨hs, g, rfl⟩
    have h := hk0
    refine then_n (ks14 _ _ ?_)
    refine wp_seq_k fun KS35 ks35 => ?_
    refine wp_seq_k fun KS36 ks36 => ?_
    refine wp_regS (l := [0]) (by kernel_rfl) fun KR kr => ?_
    refine wpS.take 0 false (some 17) (.int .i64 0) (by kernel_rfl) (yld fun _ => by kernel_rfl) ?_
    refine wpS.fin rfl (kr _ _ ?_)
    refine then_n (ks36 _ _ ?_)
    obtain ⟨y11, hy, hk1⟩ := of_bind h
    refine wp_exq (N := fun a w => St w0 [] [.blk b2 (enc .i32 y5) 22, .blk b1 (enc .i32 y11) 22] [] w ∧ ∃ g : Nat → Value, a = ⟨#[.pointer none, .pointer (some ⟨b1, 0, none⟩), .pointer (some ⟨b2, 0, none⟩), (g 3), (g 4), .pointer (some ⟨b2, 0 + (0 : Int).toNat * 1, none⟩), (g 6), (g 7), (g 8), (g 9), (g 10), (g 11), (g 12), (g 13), (g 14), (g 15), (g 16), (g 17), (g 18), (g 19), (g 20), (g 21), (g 22), (g 23), (g 24), (g 25), (g 26), (g 27)], []⟩) (fun N1 nn1 => ?_) ?_
    · clear hk1
      refine wp_block ?_
      refine wp_loop_k (fun n a w => ∃ z9 z10, zq_roots.l1 K n y5 z9 z10 = some y11 ∧ St w0 [] [.blk b2 (enc .i32 y5) 22, .blk b1 (enc .i32 z10) 22] [] w ∧ ∃ g : Nat → Value, a = ⟨#[.pointer none, .pointer (some ⟨b1, 0, none⟩), .pointer (some ⟨b2, 0, none⟩), (g 3), (g 4), .pointer (some ⟨b2, 0 + (0 : Int).toNat * 1, none⟩), (g 6), (g 7), (g 8), (g 9), (g 10), (g 11), (g 12), (g 13), (g 14), (g 15), (g 16), .int .i64 z9, (g 18), (g 19), (g 20), (g 21), (g 22), (g 23), (g 24), (g 25), (g 26), (g 27)], []⟩) K ⟨0, (zeroA 256), hy, hs.conv rfl, exg (by kernel_rfl)⟩ ?_
      clear hs h hy
      rintro n a w ⟨z9, z10, h, hs, g, rfl⟩ KL1 kl1
      cases n with
      | zero => exact nomatch (show none = some _ from h)
      | succ n =>
        refine wp_seq_k fun KS42 ks42 => ?_
        refine wp_regS (l := [0]) (by kernel_rfl) fun KR kr => ?_
        rcases of_if h with ⟨hc, h⟩ | ⟨hc, h⟩
        · refine wpS.take 0 false (some 18) (.bool true) (by kernel_rfl) (yld_b (dt hc) (fun _ => by kernel_rfl)) ?_
          refine wpS.fin rfl (kr _ _ ?_)
          refine then_n (ks42 _ _ ?_)
          refine wp_seq_k fun KS43 ks43 => ?_
          refine wp_cond_t (by kernel_rfl) ?_
          refine wp_skip ?_
          refine then_n (ks43 _ _ ?_)
          refine wp_seq_k fun KS44 ks44 => ?_
          refine wp_block ?_
          refine wp_seq_k fun KS45 ks45 => ?_
          refine wp_regS (l := [0, 1]) (by kernel_rfl) fun KR kr => ?_
          refine wpS.take 0 false (some 19) (.int .i64 z9) (by kernel_rfl) (yld fun _ => by kernel_rfl) ?_
          refine wpS.take 1 false (some 4) (.int .i64 z9) (by kernel_rfl) (yld fun _ => by kernel_rfl) ?_
          refine wpS.fin rfl (kr _ _ ?_)
          refine then_n (ks45 _ _ ?_)
          refine wp_regS (l := [0, 1, 2, 3, 4, 5, 6, 7]) (by kernel_rfl) fun KR kr => ?_
          refine wpS.take 0 false (some 20) (.int .i64 z9) (by kernel_rfl) (yld fun _ => by kernel_rfl) ?_
          refine wpS.take 1 false (some 21) (.int .i64 z9) (by kernel_rfl) (yld fun _ => by kernel_rfl) ?_
          refine wpS.take 2 false (some 22) (.int .u8 (iconv .u8 z9)) (by kernel_rfl) (yld fun _ => by kernel_rfl) ?_
          obtain ⟨r12, hg, h⟩ := of_bind h
          refine wpS.only 3 (op_call (d := (some 23)) (by kernel_rfl) hs (fun _ => by kernel_rfl) (math_bits_Reverse8.ok hg _) ?_)
          intro w gw hs
          refine ⟨fun _ => trivial, ?_⟩
          obtain ⟨h0, h⟩ := of_chk h
          obtain ⟨h1, h⟩ := of_chk h
          refine wpS.take 4 false (some 24) (.pointer (some ⟨b2, 0 + (r12 : Int).toNat * 1, none⟩)) (by kernel_rfl) (yld_idx (t := 22) (e := 21) (n := 256) (sz := 1) (k := .u8) (x := r12) (by kernel_rfl) (by kernel_rfl) (by kernel_rfl) h0 h1) ?_
          refine wpS.take 5 true (some 25) (.int .i32 (rd y5 r12)) (by kernel_rfl) (yld_loadA (e := 21) (x := r12) hs 0 rfl (by kernel_rfl) (by kernel_rfl) h0 h1) ?_
          obtain ⟨h0, h⟩ := of_chk h
          obtain ⟨h1, h⟩ := of_chk h
          refine wpS.take 6 false (some 26) (.pointer (some ⟨b1, 0 + (z9 : Int).toNat * 1, none⟩)) (by kernel_rfl) (yld_idx (t := 22) (e := 21) (n := 256) (sz := 1) (k := .i64) (x := z9) (by kernel_rfl) (by kernel_rfl) (by kernel_rfl) h0 h1) ?_
          obtain ⟨x13, hx, h⟩ := of_bind h
          refine wpS.only 7 (op_storeA (t := 21) (x := z9) (v := x13) (d := none) (by kernel_rfl) hs 1 rfl (by cases hx; kernel_rfl) (by kernel_rfl) h0 h1 ?_)
          intro w hs
          refine ⟨fun _ => trivial, ?_⟩
          refine wpS.fin rfl (kr _ _ ?_)
          refine inBlock_n ?_
          refine then_n (ks44 _ _ ?_)
          refine wp_regS (l := [0, 1]) (by kernel_rfl) fun KR kr => ?_
          refine wpS.take 0 false (some 27) (.int .i64 (iadd .i64 z9 1)) (by kernel_rfl) (yld fun _ => by kernel_rfl) ?_
          refine wpS.take 1 false (some 17) (.int .i64 (iadd .i64 z9 1)) (by kernel_rfl) (yld fun _ => by kernel_rfl) ?_
          refine wpS.fin rfl (kr _ _ ?_)
          exact then_n (kl1 _ _ ⟨n, Nat.lt_succ_self n, (iadd .i64 z9 1), (wr z10 z9 x13), h, (hs.conv rfl), exg (by kernel_rfl)⟩)
        · refine wpS.take 0 false (some 18) (.bool false) (by kernel_rfl) (yld_b (df hc) (fun _ => by kernel_rfl)) ?_
          refine wpS.fin rfl (kr _ _ ?_)
          refine then_n (ks42 _ _ ?_)
          refine wp_seq_k fun KS46 ks46 => ?_
          refine wp_cond_f (by kernel_rfl) ?_
          refine wp_exit ?_
          refine then_x ?_
          refine then_x ?_
          refine inBlock_hit ?_
          have q0 := of_some h
          subst q0
          exact exq_n (nn1 _ _ ⟨(hs.conv rfl), exg (by kernel_rfl)⟩)
    · clear hs h hy
      rintro a w ⟨hs, g, rfl⟩
      have h := hk1
      refine then_n (ks35 _ _ ?_)
      refine wp_seq_k fun KS47 ks47 => ?_
      refine wp_regS (l := [0]) (by kernel_rfl) fun KR kr => ?_
      refine wpS.take 0 false (some 0) (.pointer (some ⟨b1, 0, none⟩)) (by kernel_rfl) (yld fun _ => by kernel_rfl) ?_
      refine wpS.fin rfl (kr _ _ ?_)
      refine then_n (ks47 _ _ ?_)
      refine wp_ret ?_
      have q0 := of_some h
      subst q0
      exact qq _ _ (post_ret (by kernel_rfl) (run_results [.tmp 0] [.pointer (some ⟨b1, 0, none⟩)] (by kernel_rfl) (.cons (res_tmp (by kernel_rfl)) .nil)) ⟨_, congrArg Ending.returned (by kernel_rfl), ((hs.conv (L' := [.blk b2 (enc .i32 y5) 22, .blk b1 (enc .i32 y11) 22]) rfl).drop (.cons _ (.cons_cons _ .slnil)))⟩)

theorem zq_minus.ok {K : Nat} {a0 : Int} {a1 : Int} {r0 : Int} (h : zq_minus.f K a0 a1 = some r0) (w0 : World) : Ret Try.prog 66 #[.int .i32 a0, .int .i32 a1] w0 (.int .i32 r0) := by
  refine calls_k Try.func66 rfl fun Q qq => ?_
  have hs := St.start w0
  refine wp_conv (a' := ⟨#[.int .i32 a0, .int .i32 a1, undef, undef, undef, undef, undef, undef, undef, undef, undef, undef, undef], []⟩) (by kernel_rfl) ?_
  refine wp_seq_k fun KS1 ks1 => ?_
  refine wp_regS (l := [0]) (by kernel_rfl) fun KR kr => ?_
  refine wpS.take 0 false (some 4) (.int .i32 0) (by kernel_rfl) (yld fun _ => by kernel_rfl) ?_
  refine wpS.fin rfl (kr _ _ ?_)
  refine then_n (ks1 _ _ ?_)
  obtain ⟨y1, hj, h⟩ := of_bind h
  refine wp_seq_k fun KS9 ks9 => wp_join (N := fun a w => St w0 [] [] [] w ∧ ∃ g : Nat → Value, a = ⟨#[.int .i32 y1, .int .i32 a1, undef, undef, .int .i32 0, (g 5), (g 6), (g 7), (g 8), (g 9), (g 10), (g 11), undef], []⟩) (fun N nj => ?_) ?_
  · clear h
    have h := hj
    refine wp_seq_k fun KS6 ks6 => ?_
    refine wp_regS (l := [0, 1, 2, 3]) (by kernel_rfl) fun KR kr => ?_
    refine wpS.take 0 false (some 5) (.int .i32 a0) (by kernel_rfl) (yld fun _ => by kernel_rfl) ?_
    refine wpS.take 1 false (some 6) (.int .i32 a1) (by kernel_rfl) (yld fun _ => by kernel_rfl) ?_
    refine wpS.take 2 false (some 7) (.int .i32 (isub .i32 a0 a1)) (by kernel_rfl) (yld fun _ => by kernel_rfl) ?_
    obtain ⟨x2, hx, h⟩ := of_bind h
    refine wpS.take 3 false (some 0) (.int .i32 x2) (by kernel_rfl) (yld_int hx (fun _ => by kernel_rfl)) ?_
    refine wpS.fin rfl (kr _ _ ?_)
    refine then_n (ks6 _ _ ?_)
    refine wp_seq_k fun KS7 ks7 => ?_
    refine wp_regS (l := [0, 1]) (by kernel_rfl) fun KR kr => ?_
    refine wpS.take 0 false (some 8) (.int .i32 x2) (by kernel_rfl) (yld fun _ => by kernel_rfl) ?_
    rcases of_if h with ⟨hc, h⟩ | ⟨hc, h⟩
    · refine wpS.take 1 false (some 9) (.bool true) (by kernel_rfl) (yld_b (dt hc) (fun _ => by kernel_rfl)) ?_
      refine wpS.fin rfl (kr _ _ ?_)
      refine then_n (ks7 _ _ ?_)
      refine wp_cond_t (by kernel_rfl) ?_
      refine wp_regS (l := [0, 1, 2]) (by kernel_rfl) fun KR kr => ?_
      refine wpS.take 0 false (some 10) (.int .i32 x2) (by kernel_rfl) (yld fun _ => by kernel_rfl) ?_
      refine wpS.take 1 false (some 11) (.int .i32 (iadd .i32 x2 8380417)) (by kernel_rfl) (yld fun _ => by kernel_rfl) ?_
      obtain ⟨x3, hx, h⟩ := of_bind h
      refine wpS.take 2 false (some 0) (.int .i32 x3) (by kernel_rfl) (yld_int hx (fun _ => by kernel_rfl)) ?_
      refine wpS.fin rfl (kr _ _ ?_)
      have q0 := of_some h
      subst q0
      exact nj _ _ ⟨(hs.conv rfl), exg (by kernel_rfl)⟩
    · refine wpS.take 1 false (some 9) (.bool false) (by kernel_rfl) (yld_b (df hc) (fun _ => by kernel_rfl)) ?_
      refine wpS.fin rfl (kr _ _ ?_)
      refine then_n (ks7 _ _ ?_)
      refine wp_cond_f (by kernel_rfl) ?_
      refine wp_skip ?_
      have q0 := of_some h
      subst q0
      exact nj _ _ ⟨(hs.conv rfl), exg (by kernel_rfl)⟩
  · clear hj hs
    rintro a w ⟨hs, g, rfl⟩
    refine then_n (ks9 _ _ ?_)
    refine wp_seq_k fun KS8 ks8 => ?_
    refine wp_regS (l := [0, 1]) (by kernel_rfl) fun KR kr => ?_
    refine wpS.take 0 false (some 12) (.int .i32 y1) (by kernel_rfl) (yld fun _ => by kernel_rfl) ?_
    refine wpS.take 1 false (some 4) (.int .i32 y1) (by kernel_rfl) (yld fun _ => by kernel_rfl) ?_
    refine wpS.fin rfl (kr _ _ ?_)
    refine then_n (ks8 _ _ ?_)
    refine wp_ret ?_
    have q0 := of_some h
    subst q0
    exact qq _ _ (post_ret (by kernel_rfl) (run_results [.tmp 4] [.int .i32 y1] (by kernel_rfl) (.cons (res_tmp (by kernel_rfl)) .nil)) ⟨congrArg Ending.returned (by kernel_rfl), hs.none⟩)

theorem zq_Ntt.ok {K : Nat} {a0 : Arr 256} {r0 : Arr 256} (h : zq_Ntt.f K a0 = some r0) (w0 : World) : Ret Try.prog 26 #[.agg (enc .i32 a0).toArray] w0 (.agg (enc .i32 r0).toArray) := by
  refine calls_k Try.func26 rfl fun Q qq => ?_
  have hs := St.start w0
  refine wp_conv (a' := ⟨#[.agg (enc .i32 a0).toArray, undef, undef, undef, undef, undef, undef, undef, undef, undef, undef, undef, undef, undef, undef, undef, undef, undef, undef, undef, undef, undef, undef, undef, undef, undef, undef, undef, undef, undef, undef, undef, undef, undef, undef, undef, undef, undef, undef, undef, undef, undef, undef, undef, undef, undef, undef, undef, undef, undef, undef, undef, undef, undef, undef, undef, undef, undef], []⟩) (by kernel_rfl) ?_
  refine wp_seq_k fun KS1 ks1 => ?_
  refine wp_regS (l := [0, 1]) (by kernel_rfl) fun KR kr => ?_
  refine wpS.only 0 (op_box (t := 23) (v := .agg (enc .i32 a0).toArray) (d := (some 1)) (by kernel_rfl) hs (enc .i32 a0) (by kernel_rfl) (by kernel_rfl) ?_)
  intro b1 w gw hs
  refine ⟨fun _ => trivial, ?_⟩
  refine wpS.only 1 (op_alloc (t := 23) (d := (some 2)) (by kernel_rfl) hs (enc .i32 (zeroA 256)) (.agg (enc .i32 (zeroA 256)).toArray) (by kernel_rfl) (by kernel_rfl) (by kernel_rfl) ?_)
  intro b2 w gw hs
  refine ⟨fun _ => trivial, ?_⟩
  refine wpS.fin rfl (kr _ _ ?_)
  refine then_n (ks1 _ _ ?_)
  refine wp_seq_k fun KS2 ks2 => ?_
  refine wp_regS (l := [0, 1]) (by kernel_rfl) fun KR kr => ?_
  obtain ⟨r3, hg, h⟩ := of_bind h
  refine wpS.only 0 (op_callB (d := (some 9)) (by kernel_rfl) hs (fun _ => by kernel_rfl) (zq_roots.ok hg _) ?_)
  intro b4 w gw hs
  refine ⟨fun _ => trivial, ?_⟩
  refine wpS.take 1 false (some 3) (.pointer (some ⟨b4, 0, none⟩)) (by kernel_rfl) (yld fun _ => by kernel_rfl) ?_
  refine wpS.fin rfl (kr _ _ ?_)
  refine then_n (ks2 _ _ ?_)
  refine wp_seq_k fun KS3 ks3 => ?_
  refine wp_regS (l := [0]) (by kernel_rfl) fun KR kr => ?_
  refine wpS.take 0 false (some 4) (.int .i64 0) (by kernel_rfl) (yld fun _ => by kernel_rfl) ?_
  refine wpS.fin rfl (kr _ _ ?_)
  refine then_n (ks3 _ _ ?_)
  refine wp_seq_k fun KS241 ks241 => ?_
  refine wp_seq_k fun KS242 ks242 => ?_
  refine wp_regS (l := [0]) (by kernel_rfl) fun KR kr => ?_
  refine wpS.take 0 false (some 5) (.int .i64 128) (by kernel_rfl) (yld fun _ => by kernel_rfl) ?_
  refine wpS.fin rfl (kr _ _ ?_)
  refine then_n (ks242 _ _ ?_)
  obtain ⟨y8, hy, hk0⟩ := of_bind h
  refine wp_exq (N := fun a w => St w0 [] [.blk b4 (enc .i32 r3) 22, .blk b2 (enc .i32 (zeroA 256)) 23, .blk b1 (enc .i32 y8) 23] [] w ∧ ∃ g : Nat → Value, a = ⟨#[.agg (enc .i32 a0).toArray, .pointer (some ⟨b1, 0, none⟩), .pointer (some ⟨b2, 0, none⟩), .pointer (some ⟨b4, 0, none⟩), (g 4), (g 5), (g 6), (g 7), (g 8), .pointer (some ⟨b4, 0, none⟩), (g 10), (g 11), (g 12), (g 13), (g 14), (g 15), (g 16), (g 17), (g 18), (g 19), (g 20), (g 21), (g 22), (g 23), (g 24), (g 25), (g 26), (g 27), (g 28), (g 29), (g 30), (g 31), (g 32), (g 33), (g 34), (g 35), (g 36), (g 37), (g 38), (g 39), (g 40), (g 41), (g 42), (g 43), (g 44), (g 45), (g 46), (g 47), (g 48), (g 49), (g 50), (g 51), (g 52), (g 53), (g 54), (g 55), (g 56), undef], []⟩) (fun N0 nn0 => ?_) ?_
  · clear hk0
    refine wp_block ?_
    refine wp_loop_k (fun n a w => ∃ z5 z6 z7, zq_Ntt.l0 K n r3 z5 z6 z7 = some y8 ∧ St w0 [] [.blk b4 (enc .i32 r3) 22, .blk b2 (enc .i32 (zeroA 256)) 23, .blk b1 (enc .i32 z7) 23] [] w ∧ ∃ g : Nat → Value, a = ⟨#[.agg (enc .i32 a0).toArray, .pointer (some ⟨b1, 0, none⟩), .pointer (some ⟨b2, 0, none⟩), .pointer (some ⟨b4, 0, none⟩), .int .i64 z5, .int .i64 z6, (g 6), (g 7), (g 8), .pointer (some ⟨b4, 0, none⟩), (g 10), (g 11), (g 12), (g 13), (g 14), (g 15), (g 16), (g 17), (g 18), (g 19), (g 20), (g 21), (g 22), (g 23), (g 24), (g 25), (g 26), (g 27), (g 28), (g 29), (g 30), (g 31), (g 32), (g 33), (g 34), (g 35), (g 36), (g 37), (g 38), (g 39), (g 40), (g 41), (g 42), (g 43), (g 44), (g 45), (g 46), (g 47), (g 48), (g 49), (g 50), (g 51), (g 52), (g 53), (g 54), (g 55), (g 56), undef], []⟩) K ⟨0, 128, a0, hy, hs.conv rfl, exg (by kernel_rfl)⟩ ?_
    clear hs h hy
    rintro n a w ⟨z5, z6, z7, h, hs, g, rfl⟩ KL0 kl0
    cases n with
    | zero => exact nomatch (show none = some _ from h)
    | succ n =>
      refine wp_seq_k fun KS362 ks362 => ?_
      refine wp_seq_k fun KS363 ks363 => ?_
      refine wp_regS (l := [0, 1]) (by kernel_rfl) fun KR kr => ?_
      refine wpS.take 0 false (some 10) (.int .i64 z6) (by kernel_rfl) (yld fun _ => by kernel_rfl) ?_
      rcases of_if h with ⟨hc, h⟩ | ⟨hc, h⟩
      · refine wpS.take 1 false (some 11) (.bool true) (by kernel_rfl) (yld_b (dt hc) (fun _ => by kernel_rfl)) ?_
        refine wpS.fin rfl (kr _ _ ?_)
        refine then_n (ks363 _ _ ?_)
        refine wp_cond_t (by kernel_rfl) ?_
        refine wp_skip ?_
        refine then_n (ks362 _ _ ?_)
        refine wp_seq_k fun KS421 ks421 => ?_
        refine wp_block ?_
        refine wp_seq_k fun KS422 ks422 => ?_
        refine wp_regS (l := [0]) (by kernel_rfl) fun KR kr => ?_
        refine wpS.take 0 false (some 6) (.int .i64 0) (by kernel_rfl) (yld fun _ => by kernel_rfl) ?_
        refine wpS.fin rfl (kr _ _ ?_)
        refine then_n (ks422 _ _ ?_)
        obtain ⟨⟨y12, y13⟩, hy, hk1⟩ := of_bind h
        refine wp_exq (N := fun a w => St w0 [] [.blk b4 (enc .i32 r3) 22, .blk b2 (enc .i32 (zeroA 256)) 23, .blk b1 (enc .i32 y13) 23] [] w ∧ ∃ g : Nat → Value, a = ⟨#[.agg (enc .i32 a0).toArray, .pointer (some ⟨b1, 0, none⟩), .pointer (some ⟨b2, 0, none⟩), .pointer (some ⟨b4, 0, none⟩), .int .i64 y12, .int .i64 z6, (g 6), (g 7), (g 8), .pointer (some ⟨b4, 0, none⟩), .int .i64 z6, .bool true, (g 12), (g 13), (g 14), (g 15), (g 16), (g 17), (g 18), (g 19), (g 20), (g 21), (g 22), (g 23), (g 24), (g 25), (g 26), (g 27), (g 28), (g 29), (g 30), (g 31), (g 32), (g 33), (g 34), (g 35), (g 36), (g 37), (g 38), (g 39), (g 40), (g 41), (g 42), (g 43), (g 44), (g 45), (g 46), (g 47), (g 48), (g 49), (g 50), (g 51), (g 52), (g 53), (g 54), (g 55), (g 56), undef], []⟩) (fun N1 nn1 => ?_) ?_
        · clear hk1
          refine wp_block ?_
          refine wp_loop_k (fun n a w => ∃ z9 z10 z11, zq_Ntt.l1 K n r3 z6 z9 z10 z11 = some (y12, y13) ∧ St w0 [] [.blk b4 (enc .i32 r3) 22, .blk b2 (enc .i32 (zeroA 256)) 23, .blk b1 (enc .i32 z11) 23] [] w ∧ ∃ g : Nat → Value, a = ⟨#[.agg (enc .i32 a0).toArray, .pointer (some ⟨b1, 0, none⟩), .pointer (some ⟨b2, 0, none⟩), .pointer (some ⟨b4, 0, none⟩), .int .i64 z9, .int .i64 z6, .int .i64 z10, (g 7), (g 8), .pointer (some ⟨b4, 0, none⟩), .int .i64 z6, .bool true, (g 12), (g 13), (g 14), (g 15), (g 16), (g 17), (g 18), (g 19), (g 20), (g 21), (g 22), (g 23), (g 24), (g 25), (g 26), (g 27), (g 28), (g 29), (g 30), (g 31), (g 32), (g 33), (g 34), (g 35), (g 36), (g 37), (g 38), (g 39), (g 40), (g 41), (g 42), (g 43), (g 44), (g 45), (g 46), (g 47), (g 48), (g 49), (g 50), (g 51), (g 52), (g 53), (g 54), (g 55), (g 56), undef], []⟩) K ⟨z5, 0, z7, hy, hs.conv rfl, exg (by kernel_rfl)⟩ ?_
          clear hs h hy
          rintro n a w ⟨z9, z10, z11, h, hs, g, rfl⟩ KL1 kl1
          cases n with
          | zero => exact nomatch (show none = some _ from h)
          | succ n =>
            refine wp_seq_k fun KS452 ks452 => ?_
            refine wp_seq_k fun KS453 ks453 => ?_
            refine wp_regS (l := [0, 1]) (by kernel_rfl) fun KR kr => ?_
            refine wpS.take 0 false (some 14) (.int .i64 z10) (by kernel_rfl) (yld fun _ => by kernel_rfl) ?_
            rcases of_if h with ⟨hc, h⟩ | ⟨hc, h⟩
            · refine wpS.take 1 false (some 15) (.bool true) (by kernel_rfl) (yld_b (dt hc) (fun _ => by kernel_rfl)) ?_
              refine wpS.fin rfl (kr _ _ ?_)
              refine then_n (ks453 _ _ ?_)
              refine wp_cond_t (by kernel_rfl) ?_
              refine wp_skip ?_
              refine then_n (ks452 _ _ ?_)
              refine wp_seq_k fun KS466 ks466 => ?_
              refine wp_block ?_
              refine wp_seq_k fun KS467 ks467 => ?_
              refine wp_regS (l := [0, 1, 2]) (by kernel_rfl) fun KR kr => ?_
              refine wpS.take 0 false (some 20) (.int .i64 z9) (by kernel_rfl) (yld fun _ => by kernel_rfl) ?_
              refine wpS.take 1 false (some 21) (.int .i64 (iadd .i64 z9 1)) (by kernel_rfl) (yld fun _ => by kernel_rfl) ?_
              obtain ⟨x14, hx, h⟩ := of_bind h
              refine wpS.take 2 false (some 4) (.int .i64 x14) (by kernel_rfl) (yld_int hx (fun _ => by kernel_rfl)) ?_
              refine wpS.fin rfl (kr _ _ ?_)
              refine then_n (ks467 _ _ ?_)
              refine wp_seq_k fun KS468 ks468 => ?_
              refine wp_regS (l := [0, 1]) (by kernel_rfl) fun KR kr => ?_
              refine wpS.take 0 false (some 22) (.int .i64 z10) (by kernel_rfl) (yld fun _ => by kernel_rfl) ?_
              refine wpS.take 1 false (some 7) (.int .i64 z10) (by kernel_rfl) (yld fun _ => by kernel_rfl) ?_
              refine wpS.fin rfl (kr _ _ ?_)
              refine then_n (ks468 _ _ ?_)
              obtain ⟨y17, hy, hk2⟩ := of_bind h
              refine wp_exq (N := fun a w => St w0 [] [.blk b4 (enc .i32 r3) 22, .blk b2 (enc .i32 (zeroA 256)) 23, .blk b1 (enc .i32 y17) 23] [] w ∧ ∃ g : Nat → Value, a = ⟨#[.agg (enc .i32 a0).toArray, .pointer (some ⟨b1, 0, none⟩), .pointer (some ⟨b2, 0, none⟩), .pointer (some ⟨b4, 0, none⟩), .int .i64 x14, .int .i64 z6, .int .i64 z10, (g 7), (g 8), .pointer (some ⟨b4, 0, none⟩), .int .i64 z6, .bool true, (g 12), (g 13), .int .i64 z10, .bool true, (g 16), (g 17), (g 18), (g 19), .int .i64 z9, .int .i64 (iadd .i64 z9 1), .int .i64 z10, (g 23), (g 24), (g 25), (g 26), (g 27), (g 28), (g 29), (g 30), (g 31), (g 32), (g 33), (g 34), (g 35), (g 36), (g 37), (g 38), (g 39), (g 40), (g 41), (g 42), (g 43), (g 44), (g 45), (g 46), (g 47), (g 48), (g 49), (g 50), (g 51), (g 52), (g 53), (g 54), (g 55), (g 56), undef], []⟩) (fun N2 nn2 => ?_) ?_
              · clear hk2
                refine wp_block ?_
                refine wp_loop_k (fun n a w => ∃ z15 z16, zq_Ntt.l2 K n r3 z6 z10 x14 z15 z16 = some y17 ∧ St w0 [] [.blk b4 (enc .i32 r3) 22, .blk b2 (enc .i32 (zeroA 256)) 23, .blk b1 (enc .i32 z16) 23] [] w ∧ ∃ g : Nat → Value, a = ⟨#[.agg (enc .i32 a0).toArray, .pointer (some ⟨b1, 0, none⟩), .pointer (some ⟨b2, 0, none⟩), .pointer (some ⟨b4, 0, none⟩), .int .i64 x14, .int .i64 z6, .int .i64 z10, .int .i64 z15, (g 8), .pointer (some ⟨b4, 0, none⟩), .int .i64 z6, .bool true, (g 12), (g 13), .int .i64 z10, .bool true, (g 16), (g 17), (g 18), (g 19), .int .i64 z9, .int .i64 (iadd .i64 z9 1), .int .i64 z10, (g 23), (g 24), (g 25), (g 26), (g 27), (g 28), (g 29), (g 30), (g 31), (g 32), (g 33), (g 34), (g 35), (g 36), (g 37), (g 38), (g 39), (g 40), (g 41), (g 42), (g 43), (g 44), (g 45), (g 46), (g 47), (g 48), (g 49), (g 50), (g 51), (g 52), (g 53), (g 54), (g 55), (g 56), undef], []⟩) K ⟨z10, z11, hy, hs.conv rfl, exg (by kernel_rfl)⟩ ?_
                clear hs h hy
                rintro n a w ⟨z15, z16, h, hs, g, rfl⟩ KL2 kl2
                cases n with
                | zero => exact nomatch (show none = some _ from h)
                | succ n =>
                  refine wp_seq_k fun KS475 ks475 => ?_
                  refine wp_seq_k fun KS476 ks476 => ?_
                  refine wp_regS (l := [0, 1, 2, 3, 4]) (by kernel_rfl) fun KR kr => ?_
                  refine wpS.take 0 false (some 23) (.int .i64 z15) (by kernel_rfl) (yld fun _ => by kernel_rfl) ?_
                  refine wpS.take 1 false (some 24) (.int .i64 z10) (by kernel_rfl) (yld fun _ => by kernel_rfl) ?_
                  refine wpS.take 2 false (some 25) (.int .i64 z6) (by kernel_rfl) (yld fun _ => by kernel_rfl) ?_
                  refine wpS.take 3 false (some 26) (.int .i64 (iadd .i64 z10 z6)) (by kernel_rfl) (yld fun _ => by kernel_rfl) ?_
                  rcases of_if h with ⟨hc, h⟩ | ⟨hc, h⟩
                  · refine wpS.take 4 false (some 27) (.bool true) (by kernel_rfl) (yld_b (dt hc) (fun _ => by kernel_rfl)) ?_
                    refine wpS.fin rfl (kr _ _ ?_)
                    refine then_n (ks476 _ _ ?_)
                    refine wp_cond_t (by kernel_rfl) ?_
                    refine wp_skip ?_
                    refine then_n (ks475 _ _ ?_)
                    refine wp_seq_k fun KS477 ks477 => ?_
                    refine wp_block ?_
                    refine wp_seq_k fun KS478 ks478 => ?_
                    refine wp_regG [] 12 (by kernel_rfl) (by kernel_rfl) fun KR kr => ?_
                    have hs := hs.drawn1
                    refine wpG.take 0 false (some 30) (.pointer (some ⟨b4, 0, none⟩)) (by kernel_rfl) (by kernel_rfl) (yld fun _ => by kernel_rfl) ?_
                    refine wpG.take 1 false (some 31) (.int .i64 x14) (by kernel_rfl) (by kernel_rfl) (yld fun _ => by kernel_rfl) ?_
                    refine wpG.take 2 false (some 32) (.pointer (some ⟨b4, 0, none⟩)) (by kernel_rfl) (by kernel_rfl) (yld fun _ => by kernel_rfl) ?_
                    obtain ⟨h0, h⟩ := of_chk h
                    obtain ⟨h1, h⟩ := of_chk h
                    refine wpG.take 3 false (some 33) (.pointer (some ⟨b4, 0 + (x14 : Int).toNat * 1, none⟩)) (by kernel_rfl) (by kernel_rfl) (yld_idx (t := 22) (e := 21) (n := 256) (sz := 1) (k := .i64) (x := x14) (by kernel_rfl) (by kernel_rfl) (by kernel_rfl) h0 h1) ?_
                    refine wpG.take 4 true (some 34) (.int .i32 (rd r3 x14)) (by kernel_rfl) (by kernel_rfl) (yld_loadA (e := 21) (x := x14) hs 0 rfl (by kernel_rfl) (by kernel_rfl) h0 h1) ?_
                    refine wpG.take 5 false (some 35) (.int .i64 z15) (by kernel_rfl) (by kernel_rfl) (yld fun _ => by kernel_rfl) ?_
                    refine wpG.take 6 false (some 36) (.int .i64 z6) (by kernel_rfl) (by kernel_rfl) (yld fun _ => by kernel_rfl) ?_
                    refine wpG.take 7 false (some 37) (.int .i64 (iadd .i64 z15 z6)) (by kernel_rfl) (by kernel_rfl) (yld fun _ => by kernel_rfl) ?_
                    obtain ⟨x18, hx, h⟩ := of_bind h
                    have hx := of_some hx
                    subst hx
                    obtain ⟨h0, h⟩ := of_chk h
                    obtain ⟨h1, h⟩ := of_chk h
                    refine wpG.take 8 false (some 38) (.pointer (some ⟨b1, 0 + ((iadd .i64 z15 z6) : Int).toNat * 1, none⟩)) (by kernel_rfl) (by kernel_rfl) (yld_idx (t := 23) (e := 21) (n := 256) (sz := 1) (k := .i64) (x := (iadd .i64 z15 z6)) (by kernel_rfl) (by kernel_rfl) (by kernel_rfl) h0 h1) ?_
                    refine wpG.take 9 true (some 39) (.int .i32 (rd z16 (iadd .i64 z15 z6))) (by kernel_rfl) (by kernel_rfl) (yld_loadA (e := 21) (x := (iadd .i64 z15 z6)) hs 2 rfl (by kernel_rfl) (by kernel_rfl) h0 h1) ?_
                    obtain ⟨r19, hg, h⟩ := of_bind h
                    refine wpG.only 10 (by kernel_rfl) (op_call (d := (some 40)) (by kernel_rfl) hs (fun _ => by kernel_rfl) (zq_times.ok hg _) ?_)
                    intro w gw hs
                    refine ⟨fun _ => gw, ?_⟩
                    refine wpG.take 11 false (some 8) (.int .i32 r19) (by kernel_rfl) (by kernel_rfl) (yld fun _ => by kernel_rfl) ?_
                    refine wpG.fin (by kernel_rfl) rfl (kr _ _ ?_)
                    refine then_n (ks478 _ _ ?_)
                    refine wp_regG [15, 17] 18 (by kernel_rfl) (by kernel_rfl) fun KR kr => ?_
                    have hs := hs.drawn1
                    refine wpG.take 0 false (some 41) (.int .i64 z15) (by kernel_rfl) (by kernel_rfl) (yld fun _ => by kernel_rfl) ?_
                    refine wpG.take 1 false (some 42) (.int .i64 z6) (by kernel_rfl) (by kernel_rfl) (yld fun _ => by kernel_rfl) ?_
                    refine wpG.take 2 false (some 43) (.int .i64 (iadd .i64 z15 z6)) (by kernel_rfl) (by kernel_rfl) (yld fun _ => by kernel_rfl) ?_
                    refine wpG.take 3 false (some 44) (.int .i64 z15) (by kernel_rfl) (by kernel_rfl) (yld fun _ => by kernel_rfl) ?_
                    refine wpG.take 4 false (some 45) (.int .i64 z15) (by kernel_rfl) (by kernel_rfl) (yld fun _ => by kernel_rfl) ?_
                    obtain ⟨h0, h⟩ := of_chk h
                    obtain ⟨h1, h⟩ := of_chk h
                    refine wpG.take 5 false (some 46) (.pointer (some ⟨b1, 0 + (z15 : Int).toNat * 1, none⟩)) (by kernel_rfl) (by kernel_rfl) (yld_idx (t := 23) (e := 21) (n := 256) (sz := 1) (k := .i64) (x := z15) (by kernel_rfl) (by kernel_rfl) (by kernel_rfl) h0 h1) ?_
                    refine wpG.take 6 true (some 47) (.int .i32 (rd z16 z15)) (by kernel_rfl) (by kernel_rfl) (yld_loadA (e := 21) (x := z15) hs 2 rfl (by kernel_rfl) (by kernel_rfl) h0 h1) ?_
                    refine wpG.take 7 false (some 48) (.int .i32 r19) (by kernel_rfl) (by kernel_rfl) (yld fun _ => by kernel_rfl) ?_
                    refine wpG.take 9 false (some 50) (.int .i64 z15) (by kernel_rfl) (by kernel_rfl) (yld fun _ => by kernel_rfl) ?_
                    obtain ⟨h0, h⟩ := of_chk h
                    obtain ⟨h1, h⟩ := of_chk h
                    refine wpG.take 10 false (some 51) (.pointer (some ⟨b1, 0 + (z15 : Int).toNat * 1, none⟩)) (by kernel_rfl) (by kernel_rfl) (yld_idx (t := 23) (e := 21) (n := 256) (sz := 1) (k := .i64) (x := z15) (by kernel_rfl) (by kernel_rfl) (by kernel_rfl) h0 h1) ?_
                    refine wpG.take 11 true (some 52) (.int .i32 (rd z16 z15)) (by kernel_rfl) (by kernel_rfl) (yld_loadA (e := 21) (x := z15) hs 2 rfl (by kernel_rfl) (by kernel_rfl) h0 h1) ?_
                    refine wpG.take 12 false (some 53) (.int .i32 r19) (by kernel_rfl) (by kernel_rfl) (yld fun _ => by kernel_rfl) ?_
                    obtain ⟨r20, hg, h⟩ := of_bind h
                    refine wpG.only 8 (by kernel_rfl) (op_call (d := (some 49)) (by kernel_rfl) hs (fun _ => by kernel_rfl) (zq_minus.ok hg _) ?_)
                    intro w gw hs
                    refine ⟨fun _ => gw, ?_⟩
                    obtain ⟨x21, hx, h⟩ := of_bind h
                    have hx := of_some hx
                    subst hx
                    obtain ⟨h0, h⟩ := of_chk h
                    obtain ⟨h1, h⟩ := of_chk h
                    refine wpG.take 14 false (some 55) (.pointer (some ⟨b1, 0 + ((iadd .i64 z15 z6) : Int).toNat * 1, none⟩)) (by kernel_rfl) (by kernel_rfl) (yld_idx (t := 23) (e := 21) (n := 256) (sz := 1) (k := .i64) (x := (iadd .i64 z15 z6)) (by kernel_rfl) (by kernel_rfl) (by kernel_rfl) h0 h1) ?_
                    obtain ⟨r22, hg, h⟩ := of_bind h
                    refine wpG.only 13 (by kernel_rfl) (op_call (d := (some 54)) (by kernel_rfl) hs (fun _ => by kernel_rfl) (zq_plus.ok hg _) ?_)
                    intro w gw hs
                    refine ⟨fun _ => gw, ?_⟩
                    refine wpG.only 15 (by kernel_rfl) (op_storeA (t := 21) (x := (iadd .i64 z15 z6)) (v := r20) (d := none) (by kernel_rfl) hs 2 rfl (by kernel_rfl /-v-/) (by kernel_rfl) h0 h1 ?_)
                    intro w hs
                    refine ⟨fun hf => absurd hf (by decide), ?_⟩
                    obtain ⟨h0, h⟩ := of_chk h
                    obtain ⟨h1, h⟩ := of_chk h
                    refine wpG.take 16 false (some 56) (.pointer (some ⟨b1, 0 + (z15 : Int).toNat * 1, none⟩)) (by kernel_rfl) (by kernel_rfl) (yld_idx (t := 23) (e := 21) (n := 256) (sz := 1) (k := .i64) (x := z15) (by kernel_rfl) (by kernel_rfl) (by kernel_rfl) h0 h1) ?_
                    refine wpG.only 17 (by kernel_rfl) (op_storeA (t := 21) (x := z15) (v := r22) (d := none) (by kernel_rfl) hs 2 rfl (by kernel_rfl /-v-/) (by kernel_rfl) h0 h1 ?_)
                    intro w hs
                    refine ⟨fun hf => absurd hf (by decide), ?_⟩
                    refine wpG.fin (by kernel_rfl) rfl (kr _ _ ?_)
                    refine inBlock_n ?_
                    refine then_n (ks477 _ _ ?_)
                    refine wp_regS (l := [0, 1, 2]) (by kernel_rfl) fun KR kr => ?_
                    refine wpS.take 0 false (some 28) (.int .i64 z15) (by kernel_rfl) (yld fun _ => by kernel_rfl) ?_
                    refine wpS.take 1 false (some 29) (.int .i64 (iadd .i64 z15 1)) (by kernel_rfl) (yld fun _ => by kernel_rfl) ?_
                    obtain ⟨x23, hx, h⟩ := of_bind h
                    refine wpS.take 2 false (some 7) (.int .i64 x23) (by kernel_rfl) (yld_int hx (fun _ => by kernel_rfl)) ?_
                    refine wpS.fin rfl (kr _ _ ?_)
                    exact then_n (kl2 _ _ ⟨n, Nat.lt_succ_self n, x23, (wr (wr z16 (iadd .i64 z15 z6) r20) z15 r22), h, (hs.conv rfl), exg (by kernel_rfl)⟩)
                  · refine wpS.take 4 false (some 27) (.bool false) (by kernel_rfl) (yld_b (df hc) (fun _ => by kernel_rfl)) ?_
                    refine wpS.fin rfl (kr _ _ ?_)
                    refine then_n (ks476 _ _ ?_)
                    refine wp_cond_f (by kernel_rfl) ?_
                    refine wp_exit ?_
                    refine then_x ?_
                    refine then_x ?_
                    refine inBlock_hit ?_
                    have q0 := of_some h
                    subst q0
                    exact exq_n (nn2 _ _ ⟨(hs.conv rfl), exg (by kernel_rfl)⟩)
              · clear hs h hy
                rintro a w ⟨hs, g, rfl⟩
                have h := hk2
                refine inBlock_n ?_
                refine then_n (ks466 _ _ ?_)
                refine wp_regS (l := [0, 1, 2, 3, 4]) (by kernel_rfl) fun KR kr => ?_
                refine wpS.take 0 false (some 16) (.int .i64 z10) (by kernel_rfl) (yld fun _ => by kernel_rfl) ?_
                refine wpS.take 1 false (some 17) (.int .i64 z6) (by kernel_rfl) (yld fun _ => by kernel_rfl) ?_
                refine wpS.take 2 false (some 18) (.int .i64 (imul .i64 2 z6)) (by kernel_rfl) (yld fun _ => by kernel_rfl) ?_
                refine wpS.take 3 false (some 19) (.int .i64 (iadd .i64 z10 (imul .i64 2 z6))) (by kernel_rfl) (yld fun _ => by kernel_rfl) ?_
                obtain ⟨x24, hx, h⟩ := of_bind h
                refine wpS.take 4 false (some 6) (.int .i64 x24) (by kernel_rfl) (yld_int hx (fun _ => by kernel_rfl)) ?_
                refine wpS.fin rfl (kr _ _ ?_)
                exact then_n (kl1 _ _ ⟨n, Nat.lt_succ_self n, x14, x24, y17, h, (hs.conv rfl), exg (by kernel_rfl)⟩)
            · refine wpS.take 1 false (some 15) (.bool false) (by kernel_rfl) (yld_b (df hc) (fun _ => by kernel_rfl)) ?_
              refine wpS.fin rfl (kr _ _ ?_)
              refine then_n (ks453 _ _ ?_)
              refine wp_cond_f (by kernel_rfl) ?_
              refine wp_exit ?_
              refine then_x ?_
              refine then_x ?_
              refine inBlock_hit ?_
              obtain ⟨q0, qr0⟩ := Prod.mk.inj (of_some h)
              have q1 := qr0
              subst q0
              subst q1
              exact exq_n (nn1 _ _ ⟨(hs.conv rfl), exg (by kernel_rfl)⟩)
        · clear hs h hy
          rintro a w ⟨hs, g, rfl⟩
          have h := hk1
          refine inBlock_n ?_
          refine then_n (ks421 _ _ ?_)
          refine wp_regS (l := [0, 1, 2]) (by kernel_rfl) fun KR kr => ?_
          refine wpS.take 0 false (some 12) (.int .i64 z6) (by kernel_rfl) (yld fun _ => by kernel_rfl) ?_
          refine wpS.take 1 false (some 13) (.int .i64 (iquo .i64 z6 2)) (by kernel_rfl) (yld fun _ => by kernel_rfl) ?_
          obtain ⟨x25, hx, h⟩ := of_bind h
          refine wpS.take 2 false (some 5) (.int .i64 x25) (by kernel_rfl) (yld_int hx (fun _ => by kernel_rfl)) ?_
          refine wpS.fin rfl (kr _ _ ?_)
          exact then_n (kl0 _ _ ⟨n, Nat.lt_succ_self n, y12, x25, y13, h, (hs.conv rfl), exg (by kernel_rfl)⟩)
      · refine wpS.take 1 false (some 11) (.bool false) (by kernel_rfl) (yld_b (df hc) (fun _ => by kernel_rfl)) ?_
        refine wpS.fin rfl (kr _ _ ?_)
        refine then_n (ks363 _ _ ?_)
        refine wp_cond_f (by kernel_rfl) ?_
        refine wp_exit ?_
        refine then_x ?_
        refine then_x ?_
        refine inBlock_hit ?_
        have q0 := of_some h
        subst q0
        exact exq_n (nn0 _ _ ⟨(hs.conv rfl), exg (by kernel_rfl)⟩)
  · clear hs h hy
    rintro a w ⟨hs, g, rfl⟩
    have h := hk0
    refine then_n (ks241 _ _ ?_)
    refine wp_seq_k fun KS479 ks479 => ?_
    refine wp_regS (l := [0, 1]) (by kernel_rfl) fun KR kr => ?_
    refine wpS.take 0 true (some 57) (.agg (enc .i32 y8).toArray) (by kernel_rfl) (yld_loadW (e := 23) (n := 256) hs 2 rfl (by kernel_rfl) (by kernel_rfl) (by kernel_rfl) (by exact enc_len _ _)) ?_
    refine wpS.only 1 (op_storeW (t := 23) (v := .agg (enc .i32 y8).toArray) (d := none) (by kernel_rfl) hs 1 rfl (vs := enc .i32 y8) (n := 256) (by kernel_rfl) (by kernel_rfl) (by kernel_rfl) (by simp [enc_len]) (by simp [enc_len]) (by intro u hu; exact enc_one _ _ u hu) ?_)
    intro w hs
    refine ⟨fun _ => trivial, ?_⟩
    refine wpS.fin rfl (kr _ _ ?_)
    refine then_n (ks479 _ _ ?_)
    refine wp_ret ?_
    have q0 := of_some h
    subst q0
    exact qq _ _ (post_ret (by kernel_rfl) (run_results [.cell 2 23] [.agg (enc .i32 y8).toArray] (by kernel_rfl) (.cons (res_cellN (n := 256) hs 1 rfl (by kernel_rfl) (by kernel_rfl) (by kernel_rfl) (by exact enc_len _ _)) .nil)) ⟨congrArg Ending.returned (by kernel_rfl), hs.none⟩)

theorem law21_awake.ok {K : Nat} {r0 : Bool} (h : law21_awake.f K = some r0) (w0 : World) : Ret Try.prog 16 #[] w0 (.bool r0) := by
  refine calls_k Try.func16 rfl fun Q qq => ?_
  have hs := St.start w0
  refine wp_conv (a' := ⟨#[undef, undef, undef, undef, undef, undef, undef, undef, undef, undef, undef, undef, undef, undef, undef, undef, undef, undef, undef, undef, undef, undef, undef, undef, undef, undef, undef, undef, undef, undef, undef, undef, undef, undef, undef, undef, undef, undef, undef], []⟩) (by kernel_rfl) ?_
  refine wp_seq_k fun KS1 ks1 => ?_
  refine wp_regS (l := [0]) (by kernel_rfl) fun KR kr => ?_
  refine wpS.take 0 false (some 0) (.bool false) (by kernel_rfl) (yld fun _ => by kernel_rfl) ?_
  refine wpS.fin rfl (kr _ _ ?_)
  refine then_n (ks1 _ _ ?_)
  refine wp_seq_k fun KS2 ks2 => ?_
  refine wp_regS (l := [0, 1, 2, 3]) (by kernel_rfl) fun KR kr => ?_
  refine wpS.take 0 false (some 8) (.agg (enc .i32 (wr (zeroA 256) 0 1)).toArray) (by kernel_rfl) (yld fun _ => by kernel_rfl) ?_
  obtain ⟨r1, hg, h⟩ := of_bind h
  refine wpS.only 1 (op_call (d := (some 9)) (by kernel_rfl) hs (fun _ => by kernel_rfl) (zq_Ntt.ok hg _) ?_)
  intro w gw hs
  refine ⟨fun _ => trivial, ?_⟩
  refine wpS.only 2 (op_alloc (t := 23) (d := (some 1)) (by kernel_rfl) hs (enc .i32 (zeroA 256)) (.agg (enc .i32 (zeroA 256)).toArray) (by kernel_rfl) (by kernel_rfl) (by kernel_rfl) ?_)
  intro b2 w gw hs
  refine ⟨fun _ => trivial, ?_⟩
  refine wpS.only 3 (op_storeW (t := 23) (v := .agg (enc .i32 r1).toArray) (d := none) (by kernel_rfl) hs 0 rfl (vs := enc .i32 r1) (n := 256) (by kernel_rfl) (by kernel_rfl) (by kernel_rfl) (by simp [enc_len]) (by simp [enc_len]) (by intro u hu; exact enc_one _ _ u hu) ?_)
  intro w hs
  refine ⟨fun _ => trivial, ?_⟩
  refine wpS.fin rfl (kr _ _ ?_)
  refine then_n (ks2 _ _ ?_)
  refine wp_seq_k fun KS24 ks24 => ?_
  refine wp_seq_k fun KS25 ks25 => ?_
  refine wp_regS (l := [0, 1]) (by kernel_rfl) fun KR kr => ?_
  refine wpS.take 0 true (some 10) (.agg (enc .i32 r1).toArray) (by kernel_rfl) (yld_loadW (e := 23) (n := 256) hs 0 rfl (by kernel_rfl) (by kernel_rfl) (by kernel_rfl) (by exact enc_len _ _)) ?_
  refine wpS.take 1 false (some 11) (.int .i64 0) (by kernel_rfl) (yld fun _ => by kernel_rfl) ?_
  refine wpS.fin rfl (kr _ _ ?_)
  refine then_n (ks25 _ _ ?_)
  obtain ⟨t0, hy, hk0⟩ := of_bind h
  refine wp_exq (N := fun a w => t0 = .inl () ∧ St w0 [] [.blk b2 (enc .i32 r1) 23] [] w ∧ ∃ g : Nat → Value, a = ⟨#[(g 0), .pointer (some ⟨b2, 0, none⟩), undef, (g 3), undef, undef, undef, undef, .agg (enc .i32 (wr (zeroA 256) 0 1)).toArray, .agg (enc .i32 r1).toArray, .agg (enc .i32 r1).toArray, (g 11), (g 12), (g 13), (g 14), (g 15), (g 16), undef, undef, undef, undef, undef, undef, undef, undef, undef, undef, undef, undef, undef, undef, undef, undef, undef, undef, undef, undef, undef, undef], []⟩) (fun N0 nn0 => ?_) ?_
  · refine wp_block ?_
    refine wp_loop_k (fun n a w => ∃ z3, law21_awake.l0 K n r1 z3 = some t0 ∧ St w0 [] [.blk b2 (enc .i32 r1) 23] [] w ∧ ∃ g : Nat → Value, a = ⟨#[(g 0), .pointer (some ⟨b2, 0, none⟩), undef, (g 3), undef, undef, undef, undef, .agg (enc .i32 (wr (zeroA 256) 0 1)).toArray, .agg (enc .i32 r1).toArray, .agg (enc .i32 r1).toArray, .int .i64 z3, (g 12), (g 13), (g 14), (g 15), (g 16), undef, undef, undef, undef, undef, undef, undef, undef, undef, undef, undef, undef, undef, undef, undef, undef, undef, undef, undef, undef, undef, undef], []⟩) K ⟨0, hy, hs.conv rfl, exg (by kernel_rfl)⟩ ?_
    clear hs h hy
    rintro n a w ⟨z3, h, hs, g, rfl⟩ KL0 kl0
    cases n with
    | zero => exact nomatch (show none = some _ from h)
    | succ n =>
      refine wp_seq_k fun KS36 ks36 => ?_
      refine wp_regS (l := [0]) (by kernel_rfl) fun KR kr => ?_
      rcases of_if h with ⟨hc, h⟩ | ⟨hc, h⟩
      · refine wpS.take 0 false (some 12) (.bool true) (by kernel_rfl) (yld_b (dt hc) (fun _ => by kernel_rfl)) ?_
        refine wpS.fin rfl (kr _ _ ?_)
        refine then_n (ks36 _ _ ?_)
        refine wp_seq_k fun KS37 ks37 => ?_
        refine wp_cond_t (by kernel_rfl) ?_
        refine wp_skip ?_
        refine then_n (ks37 _ _ ?_)
        refine wp_seq_k fun KS41 ks41 => ?_
        refine wp_block ?_
        refine wp_seq_k fun KS42 ks42 => ?_
        refine wp_regS (l := [0, 1]) (by kernel_rfl) fun KR kr => ?_
        obtain ⟨h0, h⟩ := of_chk h
        obtain ⟨h1, h⟩ := of_chk h
        refine wpS.take 0 false (some 13) (.int .i32 (rd r1 z3)) (by kernel_rfl) (yld_at (t := 23) (e := 21) (k' := .i64) (by kernel_rfl) (by kernel_rfl) (by kernel_rfl) (by kernel_rfl) h0 h1) ?_
        obtain ⟨x4, hx, h⟩ := of_bind h
        refine wpS.take 1 false (some 3) (.int .i32 x4) (by kernel_rfl) (yld_int hx (fun _ => by kernel_rfl)) ?_
        refine wpS.fin rfl (kr _ _ ?_)
        refine then_n (ks42 _ _ ?_)
        refine wp_seq_k fun KS43 ks43 => ?_
        refine wp_regS (l := [0, 1]) (by kernel_rfl) fun KR kr => ?_
        refine wpS.take 0 false (some 14) (.int .i32 x4) (by kernel_rfl) (yld fun _ => by kernel_rfl) ?_
        rcases of_if h with ⟨hc, h⟩ | ⟨hc, h⟩
        · refine wpS.take 1 false (some 15) (.bool false) (by kernel_rfl) (yld_b (nf hc) (fun _ => by kernel_rfl)) ?_
          refine wpS.fin rfl (kr _ _ ?_)
          refine then_n (ks43 _ _ ?_)
          refine wp_cond_f (by kernel_rfl) ?_
          refine wp_skip ?_
          refine inBlock_n ?_
          refine then_n (ks41 _ _ ?_)
          refine wp_regS (l := [0, 1]) (by kernel_rfl) fun KR kr => ?_
          refine wpS.take 0 false (some 16) (.int .i64 (iadd .i64 z3 1)) (by kernel_rfl) (yld fun _ => by kernel_rfl) ?_
          refine wpS.take 1 false (some 11) (.int .i64 (iadd .i64 z3 1)) (by kernel_rfl) (yld fun _ => by kernel_rfl) ?_
          refine wpS.fin rfl (kr _ _ ?_)
          exact then_n (kl0 _ _ ⟨n, Nat.lt_succ_self n, (iadd .i64 z3 1), h, (hs.conv rfl), exg (by kernel_rfl)⟩)
        · refine wpS.take 1 false (some 15) (.bool true) (by kernel_rfl) (yld_b (nt hc) (fun _ => by kernel_rfl)) ?_
          refine wpS.fin rfl (kr _ _ ?_)
          refine then_n (ks43 _ _ ?_)
          refine wp_cond_t (by kernel_rfl) ?_
          refine wp_seq_k fun KS44 ks44 => ?_
          refine wp_regS (l := [0]) (by kernel_rfl) fun KR kr => ?_
          refine wpS.take 0 false (some 0) (.bool false) (by kernel_rfl) (yld fun _ => by kernel_rfl) ?_
          refine wpS.fin rfl (kr _ _ ?_)
          refine then_n (ks44 _ _ ?_)
          refine wp_ret ?_
          refine inBlock_r ?_
          refine then_r ?_
          refine then_r ?_
          refine inBlock_r ?_
          refine exq_r ?_
          refine then_r ?_
          have q0 := of_some h
          subst q0
          have q0 := of_some hk0
          subst q0
          exact qq _ _ (post_ret (by kernel_rfl) (run_results [.tmp 0] [.bool false] (by kernel_rfl) (.cons (res_tmp (by kernel_rfl)) .nil)) ⟨congrArg Ending.returned (by kernel_rfl), hs.none⟩)
      · refine wpS.take 0 false (some 12) (.bool false) (by kernel_rfl) (yld_b (df hc) (fun _ => by kernel_rfl)) ?_
        refine wpS.fin rfl (kr _ _ ?_)
        refine then_n (ks36 _ _ ?_)
        refine wp_seq_k fun KS45 ks45 => ?_
        refine wp_cond_f (by kernel_rfl) ?_
        refine wp_exit ?_
        refine then_x ?_
        refine then_x ?_
        refine inBlock_hit ?_
        have q0 := of_some h
        subst q0
        exact exq_n (nn0 _ _ ⟨rfl, (hs.conv rfl), exg (by kernel_rfl)⟩)
  · clear hs h hy
    rintro a w ⟨rfl, hs, g, rfl⟩
    have h := hk0
    refine then_n (ks24 _ _ ?_)
    refine wp_seq_k fun KS46 ks46 => ?_
    refine wp_regS (l := [0, 1, 2, 3, 4, 5]) (by kernel_rfl) fun KR kr => ?_
    obtain ⟨⟨r5, r6⟩, hg, h⟩ := of_bind h
    refine wpS.only 0 (op_call (d := (some 18)) (by kernel_rfl) hs (fun _ => by kernel_rfl) (zq_Split.ok hg _) ?_)
    intro w gw hs
    refine ⟨fun _ => trivial, ?_⟩
    refine wpS.take 1 false (some 17) (.tuple #[.int .i32 r5, .int .i32 r6]) (by kernel_rfl) (yld fun _ => by kernel_rfl) ?_
    refine wpS.take 2 false (some 19) (.int .i32 r5) (by kernel_rfl) (yld fun _ => by kernel_rfl) ?_
    refine wpS.take 3 false (some 20) (.int .i32 r6) (by kernel_rfl) (yld fun _ => by kernel_rfl) ?_
    refine wpS.take 4 false (some 4) (.int .i32 r5) (by kernel_rfl) (yld fun _ => by kernel_rfl) ?_
    refine wpS.take 5 false (some 5) (.int .i32 r6) (by kernel_rfl) (yld fun _ => by kernel_rfl) ?_
    refine wpS.fin rfl (kr _ _ ?_)
    refine then_n (ks46 _ _ ?_)
    refine wp_seq_k fun KS47 ks47 => ?_
    refine wp_regS (l := [0, 1, 2, 3, 4, 5]) (by kernel_rfl) fun KR kr => ?_
    obtain ⟨⟨r7, r8⟩, hg, h⟩ := of_bind h
    refine wpS.only 0 (op_call (d := (some 22)) (by kernel_rfl) hs (fun _ => by kernel_rfl) (zq_Parts.ok hg _) ?_)
    intro w gw hs
    refine ⟨fun _ => trivial, ?_⟩
    refine wpS.take 1 false (some 21) (.tuple #[.int .i32 r7, .int .i32 r8]) (by kernel_rfl) (yld fun _ => by kernel_rfl) ?_
    refine wpS.take 2 false (some 23) (.int .i32 r7) (by kernel_rfl) (yld fun _ => by kernel_rfl) ?_
    refine wpS.take 3 false (some 24) (.int .i32 r8) (by kernel_rfl) (yld fun _ => by kernel_rfl) ?_
    refine wpS.take 4 false (some 6) (.int .i32 r7) (by kernel_rfl) (yld fun _ => by kernel_rfl) ?_
    refine wpS.take 5 false (some 7) (.int .i32 r8) (by kernel_rfl) (yld fun _ => by kernel_rfl) ?_
    refine wpS.fin rfl (kr _ _ ?_)
    refine then_n (ks47 _ _ ?_)
    refine wp_seq_k fun KS48 ks48 => ?_
    refine wp_regS (l := [0, 1, 2, 3, 4, 5, 6, 7, 8, 9, 10, 11, 12, 13, 14]) (by kernel_rfl) fun KR kr => ?_
    refine wpS.take 0 false (some 25) (.int .i32 r5) (by kernel_rfl) (yld fun _ => by kernel_rfl) ?_
    rcases of_if h with ⟨hc, h⟩ | ⟨hc, h⟩
    · refine wpS.take 1 false (some 26) (.bool true) (by kernel_rfl) (yld_b (et hc) (fun _ => by kernel_rfl)) ?_
      refine wpS.take 2 false (some 27) (.bool true) (by kernel_rfl) (yld fun _ => by kernel_rfl) ?_
      refine wpS.take 3 false (some 28) (.int .i32 r6) (by kernel_rfl) (yld fun _ => by kernel_rfl) ?_
      rcases of_if h with ⟨hc, h⟩ | ⟨hc, h⟩
      · refine wpS.take 4 false (some 29) (.bool true) (by kernel_rfl) (yld_b (et hc) (fun _ => by kernel_rfl)) ?_
        refine wpS.take 5 false (some 30) (.bool true) (by kernel_rfl) (yld fun _ => by kernel_rfl) ?_
        refine wpS.take 6 false (some 31) (.bool true) (by kernel_rfl) (yld fun _ => by kernel_rfl) ?_
        refine wpS.take 7 false (some 32) (.int .i32 r7) (by kernel_rfl) (yld fun _ => by kernel_rfl) ?_
        rcases of_if h with ⟨hc, h⟩ | ⟨hc, h⟩
        · refine wpS.take 8 false (some 33) (.bool true) (by kernel_rfl) (yld_b (et hc) (fun _ => by kernel_rfl)) ?_
          refine wpS.take 9 false (some 34) (.bool true) (by kernel_rfl) (yld fun _ => by kernel_rfl) ?_
          refine wpS.take 10 false (some 35) (.bool true) (by kernel_rfl) (yld fun _ => by kernel_rfl) ?_
          refine wpS.take 11 false (some 36) (.int .i32 r8) (by kernel_rfl) (yld fun _ => by kernel_rfl) ?_
          refine wpS.take 12 false (some 37) (.bool (r8 == (-1))) (by kernel_rfl) (yld fun _ => by kernel_rfl) ?_
          refine wpS.take 13 false (some 38) (.bool (r8 == (-1))) (by kernel_rfl) (yld fun _ => by kernel_rfl) ?_
          refine wpS.take 14 false (some 0) (.bool (r8 == (-1))) (by kernel_rfl) (yld fun _ => by kernel_rfl) ?_
          refine wpS.fin rfl (kr _ _ ?_)
          refine then_n (ks48 _ _ ?_)
          refine wp_ret ?_
          have q0 := of_some h
          subst q0
          exact qq _ _ (post_ret (by kernel_rfl) (run_results [.tmp 0] [.bool (r8 == (-1))] (by kernel_rfl) (.cons (res_tmp (by kernel_rfl)) .nil)) ⟨congrArg Ending.returned (by kernel_rfl), hs.none⟩)
        · refine wpS.take 8 false (some 33) (.bool false) (by kernel_rfl) (yld_b (ef hc) (fun _ => by kernel_rfl)) ?_
          refine wpS.take 9 false (some 34) (.bool false) (by kernel_rfl) (yld fun _ => by kernel_rfl) ?_
          refine wpS.take 10 false (some 35) (.bool false) (by kernel_rfl) (yld fun _ => by kernel_rfl) ?_
          refine wpS.take 11 false (some 36) (undef) (by kernel_rfl) (yld fun _ => by kernel_rfl) ?_
          refine wpS.take 12 false (some 37) (undef) (by kernel_rfl) (yld fun _ => by kernel_rfl) ?_
          refine wpS.take 13 false (some 38) (.bool false) (by kernel_rfl) (yld fun _ => by kernel_rfl) ?_
          refine wpS.take 14 false (some 0) (.bool false) (by kernel_rfl) (yld fun _ => by kernel_rfl) ?_
          refine wpS.fin rfl (kr _ _ ?_)
          refine then_n (ks48 _ _ ?_)
          refine wp_ret ?_
          have q0 := of_some h
          subst q0
          exact qq _ _ (post_ret (by kernel_rfl) (run_results [.tmp 0] [.bool false] (by kernel_rfl) (.cons (res_tmp (by kernel_rfl)) .nil)) ⟨congrArg Ending.returned (by kernel_rfl), hs.none⟩)
      · refine wpS.take 4 false (some 29) (.bool false) (by kernel_rfl) (yld_b (ef hc) (fun _ => by kernel_rfl)) ?_
        refine wpS.take 5 false (some 30) (.bool false) (by kernel_rfl) (yld fun _ => by kernel_rfl) ?_
        refine wpS.take 6 false (some 31) (.bool false) (by kernel_rfl) (yld fun _ => by kernel_rfl) ?_
        refine wpS.take 7 false (some 32) (undef) (by kernel_rfl) (yld fun _ => by kernel_rfl) ?_
        refine wpS.take 8 false (some 33) (undef) (by kernel_rfl) (yld fun _ => by kernel_rfl) ?_
        refine wpS.take 9 false (some 34) (.bool false) (by kernel_rfl) (yld fun _ => by kernel_rfl) ?_
        refine wpS.take 10 false (some 35) (.bool false) (by kernel_rfl) (yld fun _ => by kernel_rfl) ?_
        refine wpS.take 11 false (some 36) (undef) (by kernel_rfl) (yld fun _ => by kernel_rfl) ?_
        refine wpS.take 12 false (some 37) (undef) (by kernel_rfl) (yld fun _ => by kernel_rfl) ?_
        refine wpS.take 13 false (some 38) (.bool false) (by kernel_rfl) (yld fun _ => by kernel_rfl) ?_
        refine wpS.take 14 false (some 0) (.bool false) (by kernel_rfl) (yld fun _ => by kernel_rfl) ?_
        refine wpS.fin rfl (kr _ _ ?_)
        refine then_n (ks48 _ _ ?_)
        refine wp_ret ?_
        have q0 := of_some h
        subst q0
        exact qq _ _ (post_ret (by kernel_rfl) (run_results [.tmp 0] [.bool false] (by kernel_rfl) (.cons (res_tmp (by kernel_rfl)) .nil)) ⟨congrArg Ending.returned (by kernel_rfl), hs.none⟩)
    · refine wpS.take 1 false (some 26) (.bool false) (by kernel_rfl) (yld_b (ef hc) (fun _ => by kernel_rfl)) ?_
      refine wpS.take 2 false (some 27) (.bool false) (by kernel_rfl) (yld fun _ => by kernel_rfl) ?_
      refine wpS.take 3 false (some 28) (undef) (by kernel_rfl) (yld fun _ => by kernel_rfl) ?_
      refine wpS.take 4 false (some 29) (undef) (by kernel_rfl) (yld fun _ => by kernel_rfl) ?_
      refine wpS.take 5 false (some 30) (.bool false) (by kernel_rfl) (yld fun _ => by kernel_rfl) ?_
      refine wpS.take 6 false (some 31) (.bool false) (by kernel_rfl) (yld fun _ => by kernel_rfl) ?_
      refine wpS.take 7 false (some 32) (undef) (by kernel_rfl) (yld fun _ => by kernel_rfl) ?_
      refine wpS.take 8 false (some 33) (undef) (by kernel_rfl) (yld fun _ => by kernel_rfl) ?_
      refine wpS.take 9 false (some 34) (.bool false) (by kernel_rfl) (yld fun _ => by kernel_rfl) ?_
      refine wpS.take 10 false (some 35) (.bool false) (by kernel_rfl) (yld fun _ => by kernel_rfl) ?_
      refine wpS.take 11 false (some 36) (undef) (by kernel_rfl) (yld fun _ => by kernel_rfl) ?_
      refine wpS.take 12 false (some 37) (undef) (by kernel_rfl) (yld fun _ => by kernel_rfl) ?_
      refine wpS.take 13 false (some 38) (.bool false) (by kernel_rfl) (yld fun _ => by kernel_rfl) ?_
      refine wpS.take 14 false (some 0) (.bool false) (by kernel_rfl) (yld fun _ => by kernel_rfl) ?_
      refine wpS.fin rfl (kr _ _ ?_)
      refine then_n (ks48 _ _ ?_)
      refine wp_ret ?_
      have q0 := of_some h
      subst q0
      exact qq _ _ (post_ret (by kernel_rfl) (run_results [.tmp 0] [.bool false] (by kernel_rfl) (.cons (res_tmp (by kernel_rfl)) .nil)) ⟨congrArg Ending.returned (by kernel_rfl), hs.none⟩)

theorem ref21_Split.ok {K : Nat} {a0 : Int} {r0 : Int} {r1 : Int} (h : ref21_Split.f K a0 = some (r0, r1)) (w0 : World) : Ret Try.prog 18 #[.int .i32 a0] w0 (.tuple #[.int .i32 r0, .int .i32 r1]) := by
  refine calls_k Try.func18 rfl fun Q qq => ?_
  have hs := St.start w0
  refine wp_conv (a' := ⟨#[.int .i32 a0, undef, undef, undef, undef, undef, undef, undef, undef, undef, undef, undef, undef, undef, undef, undef], []⟩) (by kernel_rfl) ?_
  refine wp_seq_k fun KS1 ks1 => ?_
  refine wp_regS (l := [0, 1]) (by kernel_rfl) fun KR kr => ?_
  refine wpS.take 0 false (some 2) (.int .i32 0) (by kernel_rfl) (yld fun _ => by kernel_rfl) ?_
  refine wpS.take 1 false (some 3) (.int .i32 0) (by kernel_rfl) (yld fun _ => by kernel_rfl) ?_
  refine wpS.fin rfl (kr _ _ ?_)
  refine then_n (ks1 _ _ ?_)
  refine wp_seq_k fun KS2 ks2 => ?_
  refine wp_regS (l := [0, 1, 2]) (by kernel_rfl) fun KR kr => ?_
  refine wpS.take 0 false (some 5) (.int .i32 a0) (by kernel_rfl) (yld fun _ => by kernel_rfl) ?_
  refine wpS.take 1 false (some 6) (.int .i32 (irem .i32 a0 8192)) (by kernel_rfl) (yld fun _ => by kernel_rfl) ?_
  obtain ⟨x1, hx, h⟩ := of_bind h
  refine wpS.take 2 false (some 4) (.int .i32 x1) (by kernel_rfl) (yld_int hx (fun _ => by kernel_rfl)) ?_
  refine wpS.fin rfl (kr _ _ ?_)
  refine then_n (ks2 _ _ ?_)
  obtain ⟨y2, hj, h⟩ := of_bind h
  refine wp_seq_k fun KS7 ks7 => wp_join (N := fun a w => St w0 [] [] [] w ∧ ∃ g : Nat → Value, a = ⟨#[.int .i32 a0, undef, .int .i32 0, .int .i32 0, .int .i32 y2, .int .i32 a0, .int .i32 (irem .i32 a0 8192), (g 7), (g 8), (g 9), (g 10), undef, undef, undef, undef, undef], []⟩) (fun N nj => ?_) ?_
  · clear h
    have h := hj
    refine wp_seq_k fun KS5 ks5 => ?_
    refine wp_regS (l := [0, 1]) (by kernel_rfl) fun KR kr => ?_
    refine wpS.take 0 false (some 7) (.int .i32 x1) (by kernel_rfl) (yld fun _ => by kernel_rfl) ?_
    rcases of_if h with ⟨hc, h⟩ | ⟨hc, h⟩
    · refine wpS.take 1 false (some 8) (.bool true) (by kernel_rfl) (yld_b (dt hc) (fun _ => by kernel_rfl)) ?_
      refine wpS.fin rfl (kr _ _ ?_)
      refine then_n (ks5 _ _ ?_)
      refine wp_cond_t (by kernel_rfl) ?_
      refine wp_regS (l := [0, 1, 2]) (by kernel_rfl) fun KR kr => ?_
      refine wpS.take 0 false (some 9) (.int .i32 x1) (by kernel_rfl) (yld fun _ => by kernel_rfl) ?_
      refine wpS.take 1 false (some 10) (.int .i32 (isub .i32 x1 8192)) (by kernel_rfl) (yld fun _ => by kernel_rfl) ?_
      obtain ⟨x3, hx, h⟩ := of_bind h
      refine wpS.take 2 false (some 4) (.int .i32 x3) (by kernel_rfl) (yld_int hx (fun _ => by kernel_rfl)) ?_
      refine wpS.fin rfl (kr _ _ ?_)
      have q0 := of_some h
      subst q0
      exact nj _ _ ⟨(hs.conv rfl), exg (by kernel_rfl)⟩
    · refine wpS.take 1 false (some 8) (.bool false) (by kernel_rfl) (yld_b (df hc) (fun _ => by kernel_rfl)) ?_
      refine wpS.fin rfl (kr _ _ ?_)
      refine then_n (ks5 _ _ ?_)
      refine wp_cond_f (by kernel_rfl) ?_
      refine wp_skip ?_
      have q0 := of_some h
      subst q0
      exact nj _ _ ⟨(hs.conv rfl), exg (by kernel_rfl)⟩
  · clear hj hs
    rintro a w ⟨hs, g, rfl⟩
    refine then_n (ks7 _ _ ?_)
    refine wp_seq_k fun KS6 ks6 => ?_
    refine wp_regS (l := [0, 1, 2, 3, 4, 5, 6]) (by kernel_rfl) fun KR kr => ?_
    refine wpS.take 0 false (some 11) (.int .i32 a0) (by kernel_rfl) (yld fun _ => by kernel_rfl) ?_
    refine wpS.take 1 false (some 12) (.int .i32 y2) (by kernel_rfl) (yld fun _ => by kernel_rfl) ?_
    refine wpS.take 2 false (some 13) (.int .i32 (isub .i32 a0 y2)) (by kernel_rfl) (yld fun _ => by kernel_rfl) ?_
    refine wpS.take 3 false (some 14) (.int .i32 (iquo .i32 (isub .i32 a0 y2) 8192)) (by kernel_rfl) (yld fun _ => by kernel_rfl) ?_
    refine wpS.take 4 false (some 15) (.int .i32 y2) (by kernel_rfl) (yld fun _ => by kernel_rfl) ?_
    obtain ⟨x4, hx, h⟩ := of_bind h
    refine wpS.take 5 false (some 2) (.int .i32 x4) (by kernel_rfl) (yld_int hx (fun _ => by kernel_rfl)) ?_
    refine wpS.take 6 false (some 3) (.int .i32 y2) (by kernel_rfl) (yld fun _ => by kernel_rfl) ?_
    refine wpS.fin rfl (kr _ _ ?_)
    refine then_n (ks6 _ _ ?_)
    refine wp_ret ?_
    obtain ⟨q0, qr0⟩ := Prod.mk.inj (of_some h)
    have q1 := qr0
    subst q0
    subst q1
    exact qq _ _ (post_ret (by kernel_rfl) (run_results [.tmp 2, .tmp 3] [.int .i32 x4, .int .i32 y2] (by kernel_rfl) (.cons (res_tmp (by kernel_rfl)) (.cons (res_tmp (by kernel_rfl)) .nil))) ⟨congrArg Ending.returned (by kernel_rfl), hs.none⟩)

theorem ref21_Parts.ok {K : Nat} {a0 : Int} {a1 : Int} {r0 : Int} {r1 : Int} (h : ref21_Parts.f K a0 a1 = some (r0, r1)) (w0 : World) : Ret Try.prog 20 #[.int .i32 a0, .int .i32 a1] w0 (.tuple #[.int .i32 r0, .int .i32 r1]) := by
  refine calls_k Try.func20 rfl fun Q qq => ?_
  have hs := St.start w0
  refine wp_conv (a' := ⟨#[.int .i32 a0, .int .i32 a1, undef, undef, undef, undef, undef, undef, undef, undef, undef, undef, undef, undef, undef, undef, undef, undef, undef, undef, undef, undef, undef, undef, undef, undef, undef, undef, undef, undef, undef], []⟩) (by kernel_rfl) ?_
  refine wp_seq_k fun KS1 ks1 => ?_
  refine wp_regS (l := [0, 1]) (by kernel_rfl) fun KR kr => ?_
  refine wpS.take 0 false (some 4) (.int .i32 0) (by kernel_rfl) (yld fun _ => by kernel_rfl) ?_
  refine wpS.take 1 false (some 5) (.int .i32 0) (by kernel_rfl) (yld fun _ => by kernel_rfl) ?_
  refine wpS.fin rfl (kr _ _ ?_)
  refine then_n (ks1 _ _ ?_)
  refine wp_seq_k fun KS2 ks2 => ?_
  refine wp_regS (l := [0, 1, 2, 3, 4]) (by kernel_rfl) fun KR kr => ?_
  refine wpS.take 0 false (some 7) (.int .i32 a0) (by kernel_rfl) (yld fun _ => by kernel_rfl) ?_
  refine wpS.take 1 false (some 8) (.int .i32 a1) (by kernel_rfl) (yld fun _ => by kernel_rfl) ?_
  refine wpS.take 2 false (some 9) (.int .i32 (imul .i32 2 a1)) (by kernel_rfl) (yld fun _ => by kernel_rfl) ?_
  obtain ⟨h0, h⟩ := of_chk h
  refine wpS.take 3 false (some 10) (.int .i32 (irem .i32 a0 (imul .i32 2 a1))) (by kernel_rfl) (yld_rem (t := 21) (by kernel_rfl) h0) ?_
  obtain ⟨x1, hx, h⟩ := of_bind h
  refine wpS.take 4 false (some 6) (.int .i32 x1) (by kernel_rfl) (yld_int hx (fun _ => by kernel_rfl)) ?_
  refine wpS.fin rfl (kr _ _ ?_)
  refine then_n (ks2 _ _ ?_)
  obtain ⟨y2, hj, h⟩ := of_bind h
  refine wp_seq_k fun KS12 ks12 => wp_join (N := fun a w => St w0 [] [] [] w ∧ ∃ g : Nat → Value, a = ⟨#[.int .i32 a0, .int .i32 a1, undef, undef, .int .i32 0, .int .i32 0, .int .i32 y2, .int .i32 a0, .int .i32 a1, .int .i32 (imul .i32 2 a1), .int .i32 (irem .i32 a0 (imul .i32 2 a1)), (g 11), (g 12), (g 13), (g 14), (g 15), (g 16), (g 17), undef, undef, undef, undef, undef, undef, undef, undef, undef, undef, undef, undef, undef], []⟩) (fun N nj => ?_) ?_
  · clear h
    have h := hj
    refine wp_seq_k fun KS5 ks5 => ?_
    refine wp_regS (l := [0, 1, 2]) (by kernel_rfl) fun KR kr => ?_
    refine wpS.take 0 false (some 11) (.int .i32 x1) (by kernel_rfl) (yld fun _ => by kernel_rfl) ?_
    refine wpS.take 1 false (some 12) (.int .i32 a1) (by kernel_rfl) (yld fun _ => by kernel_rfl) ?_
    rcases of_if h with ⟨hc, h⟩ | ⟨hc, h⟩
    · refine wpS.take 2 false (some 13) (.bool true) (by kernel_rfl) (yld_b (dt hc) (fun _ => by kernel_rfl)) ?_
      refine wpS.fin rfl (kr _ _ ?_)
      refine then_n (ks5 _ _ ?_)
      refine wp_cond_t (by kernel_rfl) ?_
      refine wp_regS (l := [0, 1, 2, 3, 4]) (by kernel_rfl) fun KR kr => ?_
      refine wpS.take 0 false (some 14) (.int .i32 x1) (by kernel_rfl) (yld fun _ => by kernel_rfl) ?_
      refine wpS.take 1 false (some 15) (.int .i32 a1) (by kernel_rfl) (yld fun _ => by kernel_rfl) ?_
      refine wpS.take 2 false (some 16) (.int .i32 (imul .i32 2 a1)) (by kernel_rfl) (yld fun _ => by kernel_rfl) ?_
      refine wpS.take 3 false (some 17) (.int .i32 (isub .i32 x1 (imul .i32 2 a1))) (by kernel_rfl) (yld fun _ => by kernel_rfl) ?_
      obtain ⟨x3, hx, h⟩ := of_bind h
      refine wpS.take 4 false (some 6) (.int .i32 x3) (by kernel_rfl) (yld_int hx (fun _ => by kernel_rfl)) ?_
      refine wpS.fin rfl (kr _ _ ?_)
      have q0 := of_some h
      subst q0
      exact nj _ _ ⟨(hs.conv rfl), exg (by kernel_rfl)⟩
    · refine wpS.take 2 false (some 13) (.bool false) (by kernel_rfl) (yld_b (df hc) (fun _ => by kernel_rfl)) ?_
      refine wpS.fin rfl (kr _ _ ?_)
      refine then_n (ks5 _ _ ?_)
      refine wp_cond_f (by kernel_rfl) ?_
      refine wp_skip ?_
      have q0 := of_some h
      subst q0
      exact nj _ _ ⟨(hs.conv rfl), exg (by kernel_rfl)⟩
  · clear hj hs
    rintro a w ⟨hs, g, rfl⟩
    refine then_n (ks12 _ _ ?_)
    refine wp_seq_k fun KS8 ks8 => ?_
    refine wp_seq_k fun KS9 ks9 => ?_
    refine wp_regS (l := [0, 1, 2, 3]) (by kernel_rfl) fun KR kr => ?_
    refine wpS.take 0 false (some 18) (.int .i32 a0) (by kernel_rfl) (yld fun _ => by kernel_rfl) ?_
    refine wpS.take 1 false (some 19) (.int .i32 y2) (by kernel_rfl) (yld fun _ => by kernel_rfl) ?_
    refine wpS.take 2 false (some 20) (.int .i32 (isub .i32 a0 y2)) (by kernel_rfl) (yld fun _ => by kernel_rfl) ?_
    rcases of_if h with ⟨hc, h⟩ | ⟨hc, h⟩
    · refine wpS.take 3 false (some 21) (.bool true) (by kernel_rfl) (yld_b (et hc) (fun _ => by kernel_rfl)) ?_
      refine wpS.fin rfl (kr _ _ ?_)
      refine then_n (ks9 _ _ ?_)
      refine wp_cond_t (by kernel_rfl) ?_
      refine wp_seq_k fun KS10 ks10 => ?_
      refine wp_regS (l := [0, 1, 2, 3]) (by kernel_rfl) fun KR kr => ?_
      refine wpS.take 0 false (some 22) (.int .i32 y2) (by kernel_rfl) (yld fun _ => by kernel_rfl) ?_
      refine wpS.take 1 false (some 23) (.int .i32 (isub .i32 y2 1)) (by kernel_rfl) (yld fun _ => by kernel_rfl) ?_
      refine wpS.take 2 false (some 4) (.int .i32 0) (by kernel_rfl) (yld fun _ => by kernel_rfl) ?_
      obtain ⟨x4, hx, h⟩ := of_bind h
      refine wpS.take 3 false (some 5) (.int .i32 x4) (by kernel_rfl) (yld_int hx (fun _ => by kernel_rfl)) ?_
      refine wpS.fin rfl (kr _ _ ?_)
      refine then_n (ks10 _ _ ?_)
      refine wp_ret ?_
      refine then_r ?_
      obtain ⟨q0, qr0⟩ := Prod.mk.inj (of_some h)
      have q1 := qr0
      subst q0
      subst q1
      exact qq _ _ (post_ret (by kernel_rfl) (run_results [.tmp 4, .tmp 5] [.int .i32 0, .int .i32 x4] (by kernel_rfl) (.cons (res_tmp (by kernel_rfl)) (.cons (res_tmp (by kernel_rfl)) .nil))) ⟨congrArg Ending.returned (by kernel_rfl), hs.none⟩)
    · refine wpS.take 3 false (some 21) (.bool false) (by kernel_rfl) (yld_b (ef hc) (fun _ => by kernel_rfl)) ?_
      refine wpS.fin rfl (kr _ _ ?_)
      refine then_n (ks9 _ _ ?_)
      refine wp_cond_f (by kernel_rfl) ?_
      refine wp_skip ?_
      refine then_n (ks8 _ _ ?_)
      refine wp_seq_k fun KS11 ks11 => ?_
      refine wp_regS (l := [0, 1, 2, 3, 4, 5, 6, 7, 8]) (by kernel_rfl) fun KR kr => ?_
      refine wpS.take 0 false (some 24) (.int .i32 a0) (by kernel_rfl) (yld fun _ => by kernel_rfl) ?_
      refine wpS.take 1 false (some 25) (.int .i32 y2) (by kernel_rfl) (yld fun _ => by kernel_rfl) ?_
      refine wpS.take 2 false (some 26) (.int .i32 (isub .i32 a0 y2)) (by kernel_rfl) (yld fun _ => by kernel_rfl) ?_
      refine wpS.take 3 false (some 27) (.int .i32 a1) (by kernel_rfl) (yld fun _ => by kernel_rfl) ?_
      refine wpS.take 4 false (some 28) (.int .i32 (imul .i32 2 a1)) (by kernel_rfl) (yld fun _ => by kernel_rfl) ?_
      obtain ⟨h0, h⟩ := of_chk h
      refine wpS.take 5 false (some 29) (.int .i32 (iquo .i32 (isub .i32 a0 y2) (imul .i32 2 a1))) (by kernel_rfl) (yld_quo (t := 21) (by kernel_rfl) h0) ?_
      refine wpS.take 6 false (some 30) (.int .i32 y2) (by kernel_rfl) (yld fun _ => by kernel_rfl) ?_
      obtain ⟨x5, hx, h⟩ := of_bind h
      refine wpS.take 7 false (some 4) (.int .i32 x5) (by kernel_rfl) (yld_int hx (fun _ => by kernel_rfl)) ?_
      refine wpS.take 8 false (some 5) (.int .i32 y2) (by kernel_rfl) (yld fun _ => by kernel_rfl) ?_
      refine wpS.fin rfl (kr _ _ ?_)
      refine then_n (ks11 _ _ ?_)
      refine wp_ret ?_
      obtain ⟨q0, qr0⟩ := Prod.mk.inj (of_some h)
      have q1 := qr0
      subst q0
      subst q1
      exact qq _ _ (post_ret (by kernel_rfl) (run_results [.tmp 4, .tmp 5] [.int .i32 x5, .int .i32 y2] (by kernel_rfl) (.cons (res_tmp (by kernel_rfl)) (.cons (res_tmp (by kernel_rfl)) .nil))) ⟨congrArg Ending.returned (by kernel_rfl), hs.none⟩)
end Go.Proofs.Ytijahfdldlmnhaa
