/- Printed by this work's own program: the code of each function below comes to the answer that its plain form tells. -/
import Derived.Test.YtijahfdldlmnhaaDoorMr
import Derived.Test.YtijahfdldlmnhaaDoorProg
import Derived.Test.YtijahfdldlmnhaaDoorSF0
set_option linter.unusedVariables false
set_option linter.unusedSimpArgs false
set_option maxRecDepth 100000
set_option maxHeartbeats 4000000
namespace Go.Proofs.YtijahfdldlmnhaaDoor
open Go.Mx
attribute [local irreducible] wpOp

theorem ref08_Rate.ok {K : Nat} {a0 : Int} {r0 : Int} (h : ref08_Rate.f K a0 = some r0) (w0 : World) : Ret Tryd.prog 22 #[.int .i64 a0] w0 (.int .i64 r0) := by
  refine calls_k Tryd.func22 rfl fun Q qq => ?_
  have hs := St.start w0
  refine wp_conv (a' := ⟨#[.int .i64 a0, undef, undef, undef, undef, undef, undef, undef, undef, undef, undef], []⟩) (by kernel_rfl) ?_
  refine wp_seq_k fun KS1 ks1 => ?_
  refine wp_regS (l := [0]) (by kernel_rfl) fun KR kr => ?_
  refine wpS.take 0 false (some 2) (.int .i64 0) (by kernel_rfl) (yld fun _ => by kernel_rfl) ?_
  refine wpS.fin rfl (kr _ _ ?_)
  refine then_n (ks1 _ _ ?_)
  refine wp_seq_k fun KS11 ks11 => ?_
  refine wp_seq_k fun KS12 ks12 => ?_
  refine wp_regS (l := [0]) (by kernel_rfl) fun KR kr => ?_
  refine wpS.take 0 false (some 3) (.int .i64 a0) (by kernel_rfl) (yld fun _ => by kernel_rfl) ?_
  refine wpS.fin rfl (kr _ _ ?_)
  refine then_n (ks12 _ _ ?_)
  refine wp_block ?_
  refine wp_seq_k fun KS13 ks13 => ?_
  refine wp_seq_k fun KS14 ks14 => ?_
  refine wp_regS (l := [0, 1]) (by kernel_rfl) fun KR kr => ?_
  rcases of_if h with ⟨hc, h⟩ | ⟨hc, h⟩
  · refine wpS.take 0 false (some 5) (.bool true) (by kernel_rfl) (yld_b (et hc) (fun _ => by kernel_rfl)) ?_
    refine wpS.take 1 false (some 4) (.bool true) (by kernel_rfl) (yld fun _ => by kernel_rfl) ?_
    refine wpS.fin rfl (kr _ _ ?_)
    refine then_n (ks14 _ _ ?_)
    refine wp_cond_t (by kernel_rfl) ?_
    refine wp_skip ?_
    refine then_n (ks13 _ _ ?_)
    refine wp_cond_t (by kernel_rfl) ?_
    refine wp_seq_k fun KS15 ks15 => ?_
    refine wp_regS (l := [0]) (by kernel_rfl) fun KR kr => ?_
    refine wpS.take 0 false (some 2) (.int .i64 136) (by kernel_rfl) (yld fun _ => by kernel_rfl) ?_
    refine wpS.fin rfl (kr _ _ ?_)
    refine then_n (ks15 _ _ ?_)
    refine wp_ret ?_
    refine inBlock_r ?_
    refine then_r ?_
    have q0 := of_some h
    subst q0
    exact qq _ _ (post_ret (by kernel_rfl) (run_results [.tmp 2] [.int .i64 136] (by kernel_rfl) (.cons (res_tmp (by kernel_rfl)) .nil)) ⟨congrArg Ending.returned (by kernel_rfl), hs.none⟩)
  · refine wpS.take 0 false (some 5) (.bool false) (by kernel_rfl) (yld_b (ef hc) (fun _ => by kernel_rfl)) ?_
    refine wpS.take 1 false (some 4) (.bool false) (by kernel_rfl) (yld fun _ => by kernel_rfl) ?_
    refine wpS.fin rfl (kr _ _ ?_)
    refine then_n (ks14 _ _ ?_)
    refine wp_cond_f (by kernel_rfl) ?_
    refine wp_regS (l := [0, 1]) (by kernel_rfl) fun KR kr => ?_
    rcases of_if h with ⟨hc, h⟩ | ⟨hc, h⟩
    · refine wpS.take 0 false (some 6) (.bool true) (by kernel_rfl) (yld_b (et hc) (fun _ => by kernel_rfl)) ?_
      refine wpS.take 1 false (some 4) (.bool true) (by kernel_rfl) (yld fun _ => by kernel_rfl) ?_
      refine wpS.fin rfl (kr _ _ ?_)
      refine then_n (ks13 _ _ ?_)
      refine wp_cond_t (by kernel_rfl) ?_
      refine wp_seq_k fun KS16 ks16 => ?_
      refine wp_regS (l := [0]) (by kernel_rfl) fun KR kr => ?_
      refine wpS.take 0 false (some 2) (.int .i64 136) (by kernel_rfl) (yld fun _ => by kernel_rfl) ?_
      refine wpS.fin rfl (kr _ _ ?_)
      refine then_n (ks16 _ _ ?_)
      refine wp_ret ?_
      refine inBlock_r ?_
      refine then_r ?_
      have q0 := of_some h
      subst q0
      exact qq _ _ (post_ret (by kernel_rfl) (run_results [.tmp 2] [.int .i64 136] (by kernel_rfl) (.cons (res_tmp (by kernel_rfl)) .nil)) ⟨congrArg Ending.returned (by kernel_rfl), hs.none⟩)
    · refine wpS.take 0 false (some 6) (.bool false) (by kernel_rfl) (yld_b (ef hc) (fun _ => by kernel_rfl)) ?_
      refine wpS.take 1 false (some 4) (.bool false) (by kernel_rfl) (yld fun _ => by kernel_rfl) ?_
      refine wpS.fin rfl (kr _ _ ?_)
      refine then_n (ks13 _ _ ?_)
      refine wp_cond_f (by kernel_rfl) ?_
      refine wp_seq_k fun KS17 ks17 => ?_
      refine wp_regS (l := [0, 1]) (by kernel_rfl) fun KR kr => ?_
      rcases of_if h with ⟨hc, h⟩ | ⟨hc, h⟩
      · refine wpS.take 0 false (some 8) (.bool true) (by kernel_rfl) (yld_b (et hc) (fun _ => by kernel_rfl)) ?_
        refine wpS.take 1 false (some 7) (.bool true) (by kernel_rfl) (yld fun _ => by kernel_rfl) ?_
        refine wpS.fin rfl (kr _ _ ?_)
        refine then_n (ks17 _ _ ?_)
        refine wp_cond_t (by kernel_rfl) ?_
        refine wp_seq_k fun KS18 ks18 => ?_
        refine wp_regS (l := [0]) (by kernel_rfl) fun KR kr => ?_
        refine wpS.take 0 false (some 2) (.int .i64 72) (by kernel_rfl) (yld fun _ => by kernel_rfl) ?_
        refine wpS.fin rfl (kr _ _ ?_)
        refine then_n (ks18 _ _ ?_)
        refine wp_ret ?_
        refine inBlock_r ?_
        refine then_r ?_
        have q0 := of_some h
        subst q0
        exact qq _ _ (post_ret (by kernel_rfl) (run_results [.tmp 2] [.int .i64 72] (by kernel_rfl) (.cons (res_tmp (by kernel_rfl)) .nil)) ⟨congrArg Ending.returned (by kernel_rfl), hs.none⟩)
      · refine wpS.take 0 false (some 8) (.bool false) (by kernel_rfl) (yld_b (ef hc) (fun _ => by kernel_rfl)) ?_
        refine wpS.take 1 false (some 7) (.bool false) (by kernel_rfl) (yld fun _ => by kernel_rfl) ?_
        refine wpS.fin rfl (kr _ _ ?_)
        refine then_n (ks17 _ _ ?_)
        refine wp_cond_f (by kernel_rfl) ?_
        refine wp_seq_k fun KS19 ks19 => ?_
        refine wp_regS (l := [0, 1]) (by kernel_rfl) fun KR kr => ?_
        rcases of_if h with ⟨hc, h⟩ | ⟨hc, h⟩
        · refine wpS.take 0 false (some 10) (.bool true) (by kernel_rfl) (yld_b (et hc) (fun _ => by kernel_rfl)) ?_
          refine wpS.take 1 false (some 9) (.bool true) (by kernel_rfl) (yld fun _ => by kernel_rfl) ?_
          refine wpS.fin rfl (kr _ _ ?_)
          refine then_n (ks19 _ _ ?_)
          refine wp_cond_t (by kernel_rfl) ?_
          refine wp_seq_k fun KS20 ks20 => ?_
          refine wp_regS (l := [0]) (by kernel_rfl) fun KR kr => ?_
          refine wpS.take 0 false (some 2) (.int .i64 168) (by kernel_rfl) (yld fun _ => by kernel_rfl) ?_
          refine wpS.fin rfl (kr _ _ ?_)
          refine then_n (ks20 _ _ ?_)
          refine wp_ret ?_
          refine inBlock_r ?_
          refine then_r ?_
          have q0 := of_some h
          subst q0
          exact qq _ _ (post_ret (by kernel_rfl) (run_results [.tmp 2] [.int .i64 168] (by kernel_rfl) (.cons (res_tmp (by kernel_rfl)) .nil)) ⟨congrArg Ending.returned (by kernel_rfl), hs.none⟩)
        · refine wpS.take 0 false (some 10) (.bool false) (by kernel_rfl) (yld_b (ef hc) (fun _ => by kernel_rfl)) ?_
          refine wpS.take 1 false (some 9) (.bool false) (by kernel_rfl) (yld fun _ => by kernel_rfl) ?_
          refine wpS.fin rfl (kr _ _ ?_)
          refine then_n (ks19 _ _ ?_)
          refine wp_cond_f (by kernel_rfl) ?_
          refine wp_skip ?_
          refine inBlock_n ?_
          refine then_n (ks11 _ _ ?_)
          refine wp_seq_k fun KS21 ks21 => ?_
          refine wp_regS (l := [0]) (by kernel_rfl) fun KR kr => ?_
          refine wpS.take 0 false (some 2) (.int .i64 0) (by kernel_rfl) (yld fun _ => by kernel_rfl) ?_
          refine wpS.fin rfl (kr _ _ ?_)
          refine then_n (ks21 _ _ ?_)
          refine wp_ret ?_
          have q0 := of_some h
          subst q0
          exact qq _ _ (post_ret (by kernel_rfl) (run_results [.tmp 2] [.int .i64 0] (by kernel_rfl) (.cons (res_tmp (by kernel_rfl)) .nil)) ⟨congrArg Ending.returned (by kernel_rfl), hs.none⟩)

theorem ref08_Fit.ok {K : Nat} {a0_0 : Int} {a0_1 : Arr 25} {a0_2 : Int} {a0_3 : Bool} {r0 : Bool} (h : ref08_Fit.f K a0_0 a0_1 a0_2 a0_3 = some r0) (w0 : World) : Ret Tryd.prog 7 #[.agg (([.int .i64 a0_0] : List Value) ++ enc .u64 a0_1 ++ ([.int .i64 a0_2, .bool a0_3] : List Value)).toArray] w0 (.bool r0) := by
  refine calls_k Tryd.func7 rfl fun Q qq => ?_
  have hs := St.start w0
  refine wp_conv (a' := ⟨#[.agg (([.int .i64 a0_0] : List Value) ++ enc .u64 a0_1 ++ ([.int .i64 a0_2, .bool a0_3] : List Value)).toArray, undef, undef, undef, undef, undef, undef, undef, undef, undef, undef, undef, undef, undef, undef, undef, undef, undef, undef, undef, undef, undef, undef, undef, undef, undef, undef, undef, undef, undef], []⟩) (by kernel_rfl) ?_
  refine wp_seq_k fun KS1 ks1 => ?_
  refine wp_regS (l := [0, 1]) (by kernel_rfl) fun KR kr => ?_
  refine wpS.only 0 (op_box (t := 25) (v := .agg (([.int .i64 a0_0] : List Value) ++ enc .u64 a0_1 ++ ([.int .i64 a0_2, .bool a0_3] : List Value)).toArray) (d := (some 1)) (by kernel_rfl) hs (([.int .i64 a0_0] : List Value) ++ enc .u64 a0_1 ++ ([.int .i64 a0_2, .bool a0_3] : List Value)) (by kernel_rfl) (by kernel_rfl) ?_)
  intro b1 w gw hs
  refine ⟨fun _ => trivial, ?_⟩
  refine wpS.take 1 false (some 2) (.bool false) (by kernel_rfl) (yld fun _ => by kernel_rfl) ?_
  refine wpS.fin rfl (kr _ _ ?_)
  refine then_n (ks1 _ _ ?_)
  refine wp_seq_k fun KS2 ks2 => ?_
  refine wp_regS (l := [0, 1, 2, 3]) (by kernel_rfl) fun KR kr => ?_
  refine wpS.take 0 false (some 4) (.pointer (some ⟨b1, 0, none⟩)) (by kernel_rfl) (yld fun _ => by kernel_rfl) ?_
  refine wpS.take 1 true (some 5) (.int .i64 a0_0) (by kernel_rfl) (yld_load1 (e := 3) (o := 0) hs 0 rfl (by kernel_rfl) (by kernel_rfl) (get_pre rfl) .grow) ?_
  obtain ⟨r2, hg, h⟩ := of_bind h
  refine wpS.only 2 (op_call (d := (some 6)) (by kernel_rfl) hs (fun _ => by kernel_rfl) (ref08_Rate.ok hg _) ?_)
  intro w gw hs
  refine ⟨fun _ => trivial, ?_⟩
  refine wpS.take 3 false (some 3) (.int .i64 r2) (by kernel_rfl) (yld fun _ => by kernel_rfl) ?_
  refine wpS.fin rfl (kr _ _ ?_)
  refine then_n (ks2 _ _ ?_)
  refine wp_seq_k fun KS3 ks3 => ?_
  refine wp_regS (l := [0, 1, 2, 3, 4, 5, 6, 7, 8, 9, 10, 11, 12, 13, 14, 15, 16, 17, 18, 19, 20, 21, 22, 23]) (by kernel_rfl) fun KR kr => ?_
  refine wpS.take 0 false (some 7) (.int .i64 r2) (by kernel_rfl) (yld fun _ => by kernel_rfl) ?_
  rcases of_if h with ⟨hc, h⟩ | ⟨hc, h⟩
  · refine wpS.take 1 false (some 8) (.bool true) (by kernel_rfl) (yld_b (dt hc) (fun _ => by kernel_rfl)) ?_
    refine wpS.take 2 false (some 9) (.bool true) (by kernel_rfl) (yld fun _ => by kernel_rfl) ?_
    refine wpS.take 3 false (some 10) (.pointer (some ⟨b1, 26, none⟩)) (by kernel_rfl) (yld fun _ => by kernel_rfl) ?_
    refine wpS.take 4 true (some 11) (.int .i64 a0_2) (by kernel_rfl) (yld_load1 (e := 3) (o := 26) hs 0 rfl (by kernel_rfl) (by kernel_rfl) (get_post 0 rfl rfl) .grow) ?_
    rcases of_if h with ⟨hc, h⟩ | ⟨hc, h⟩
    · refine wpS.take 5 false (some 12) (.bool true) (by kernel_rfl) (yld_b (dt hc) (fun _ => by kernel_rfl)) ?_
      refine wpS.take 6 false (some 13) (.bool true) (by kernel_rfl) (yld fun _ => by kernel_rfl) ?_
      refine wpS.take 7 false (some 14) (.bool true) (by kernel_rfl) (yld fun _ => by kernel_rfl) ?_
      refine wpS.take 8 false (some 15) (.pointer (some ⟨b1, 26, none⟩)) (by kernel_rfl) (yld fun _ => by kernel_rfl) ?_
      refine wpS.take 9 true (some 16) (.int .i64 a0_2) (by kernel_rfl) (yld_load1 (e := 3) (o := 26) hs 0 rfl (by kernel_rfl) (by kernel_rfl) (get_post 0 rfl rfl) .grow) ?_
      refine wpS.take 10 false (some 17) (.int .i64 r2) (by kernel_rfl) (yld fun _ => by kernel_rfl) ?_
      rcases of_if h with ⟨hc, h⟩ | ⟨hc, h⟩
      · refine wpS.take 11 false (some 18) (.bool true) (by kernel_rfl) (yld_b (dt hc) (fun _ => by kernel_rfl)) ?_
        refine wpS.take 12 false (some 19) (.bool true) (by kernel_rfl) (yld fun _ => by kernel_rfl) ?_
        refine wpS.take 13 false (some 20) (undef) (by kernel_rfl) (yld fun _ => by kernel_rfl) ?_
        refine wpS.take 14 false (some 21) (undef) (by kernel_rfl) (yld fun _ => by kernel_rfl) ?_
        refine wpS.take 15 false (some 22) (undef) (by kernel_rfl) (yld fun _ => by kernel_rfl) ?_
        refine wpS.take 16 false (some 23) (undef) (by kernel_rfl) (yld fun _ => by kernel_rfl) ?_
        refine wpS.take 17 false (some 24) (undef) (by kernel_rfl) (yld fun _ => by kernel_rfl) ?_
        refine wpS.take 18 false (some 25) (undef) (by kernel_rfl) (yld fun _ => by kernel_rfl) ?_
        refine wpS.take 19 false (some 26) (undef) (by kernel_rfl) (yld fun _ => by kernel_rfl) ?_
        refine wpS.take 20 false (some 27) (undef) (by kernel_rfl) (yld fun _ => by kernel_rfl) ?_
        refine wpS.take 21 false (some 28) (.bool true) (by kernel_rfl) (yld fun _ => by kernel_rfl) ?_
        refine wpS.take 22 false (some 29) (.bool true) (by kernel_rfl) (yld fun _ => by kernel_rfl) ?_
        refine wpS.take 23 false (some 2) (.bool true) (by kernel_rfl) (yld fun _ => by kernel_rfl) ?_
        refine wpS.fin rfl (kr _ _ ?_)
        refine then_n (ks3 _ _ ?_)
        refine wp_ret ?_
        have q0 := of_some h
        subst q0
        exact qq _ _ (post_ret (by kernel_rfl) (run_results [.tmp 2] [.bool true] (by kernel_rfl) (.cons (res_tmp (by kernel_rfl)) .nil)) ⟨congrArg Ending.returned (by kernel_rfl), hs.none⟩)
      · refine wpS.take 11 false (some 18) (.bool false) (by kernel_rfl) (yld_b (df hc) (fun _ => by kernel_rfl)) ?_
        refine wpS.take 12 false (some 19) (.bool false) (by kernel_rfl) (yld fun _ => by kernel_rfl) ?_
        refine wpS.take 13 false (some 20) (.pointer (some ⟨b1, 27, none⟩)) (by kernel_rfl) (yld fun _ => by kernel_rfl) ?_
        cases a0_3 with
        | true =>
          have h := of_if_t h
          refine wpS.take 14 true (some 21) (.bool true) (by kernel_rfl) (yld_load1 (e := 4) (o := 27) hs 0 rfl (by kernel_rfl) (by kernel_rfl) (get_post 1 rfl rfl) .grow) ?_
          refine wpS.take 15 false (some 22) (.bool true) (by kernel_rfl) (yld fun _ => by kernel_rfl) ?_
          refine wpS.take 16 false (some 23) (.pointer (some ⟨b1, 26, none⟩)) (by kernel_rfl) (yld fun _ => by kernel_rfl) ?_
          refine wpS.take 17 true (some 24) (.int .i64 a0_2) (by kernel_rfl) (yld_load1 (e := 3) (o := 26) hs 0 rfl (by kernel_rfl) (by kernel_rfl) (get_post 0 rfl rfl) .grow) ?_
          refine wpS.take 18 false (some 25) (.int .i64 r2) (by kernel_rfl) (yld fun _ => by kernel_rfl) ?_
          refine wpS.take 19 false (some 26) (.bool (a0_2 == r2)) (by kernel_rfl) (yld fun _ => by kernel_rfl) ?_
          refine wpS.take 20 false (some 27) (.bool (a0_2 == r2)) (by kernel_rfl) (yld fun _ => by kernel_rfl) ?_
          refine wpS.take 21 false (some 28) (.bool (a0_2 == r2)) (by kernel_rfl) (yld fun _ => by kernel_rfl) ?_
          refine wpS.take 22 false (some 29) (.bool (a0_2 == r2)) (by kernel_rfl) (yld fun _ => by kernel_rfl) ?_
          refine wpS.take 23 false (some 2) (.bool (a0_2 == r2)) (by kernel_rfl) (yld fun _ => by kernel_rfl) ?_
          refine wpS.fin rfl (kr _ _ ?_)
          refine then_n (ks3 _ _ ?_)
          refine wp_ret ?_
          have q0 := of_some h
          subst q0
          exact qq _ _ (post_ret (by kernel_rfl) (run_results [.tmp 2] [.bool (a0_2 == r2)] (by kernel_rfl) (.cons (res_tmp (by kernel_rfl)) .nil)) ⟨congrArg Ending.returned (by kernel_rfl), hs.none⟩)
        | false =>
          have h := of_if_f h
          refine wpS.take 14 true (some 21) (.bool false) (by kernel_rfl) (yld_load1 (e := 4) (o := 27) hs 0 rfl (by kernel_rfl) (by kernel_rfl) (get_post 1 rfl rfl) .grow) ?_
          refine wpS.take 15 false (some 22) (.bool false) (by kernel_rfl) (yld fun _ => by kernel_rfl) ?_
          refine wpS.take 16 false (some 23) (undef) (by kernel_rfl) (yld fun _ => by kernel_rfl) ?_
          refine wpS.take 17 false (some 24) (undef) (by kernel_rfl) (yld fun _ => by kernel_rfl) ?_
          refine wpS.take 18 false (some 25) (undef) (by kernel_rfl) (yld fun _ => by kernel_rfl) ?_
          refine wpS.take 19 false (some 26) (undef) (by kernel_rfl) (yld fun _ => by kernel_rfl) ?_
          refine wpS.take 20 false (some 27) (.bool false) (by kernel_rfl) (yld fun _ => by kernel_rfl) ?_
          refine wpS.take 21 false (some 28) (.bool false) (by kernel_rfl) (yld fun _ => by kernel_rfl) ?_
          refine wpS.take 22 false (some 29) (.bool false) (by kernel_rfl) (yld fun _ => by kernel_rfl) ?_
          refine wpS.take 23 false (some 2) (.bool false) (by kernel_rfl) (yld fun _ => by kernel_rfl) ?_
          refine wpS.fin rfl (kr _ _ ?_)
          refine then_n (ks3 _ _ ?_)
          refine wp_ret ?_
          have q0 := of_some h
          subst q0
          exact qq _ _ (post_ret (by kernel_rfl) (run_results [.tmp 2] [.bool false] (by kernel_rfl) (.cons (res_tmp (by kernel_rfl)) .nil)) ⟨congrArg Ending.returned (by kernel_rfl), hs.none⟩)
    · refine wpS.take 5 false (some 12) (.bool false) (by kernel_rfl) (yld_b (df hc) (fun _ => by kernel_rfl)) ?_
      refine wpS.take 6 false (some 13) (.bool false) (by kernel_rfl) (yld fun _ => by kernel_rfl) ?_
      refine wpS.take 7 false (some 14) (.bool false) (by kernel_rfl) (yld fun _ => by kernel_rfl) ?_
      refine wpS.take 8 false (some 15) (undef) (by kernel_rfl) (yld fun _ => by kernel_rfl) ?_
      refine wpS.take 9 false (some 16) (undef) (by kernel_rfl) (yld fun _ => by kernel_rfl) ?_
      refine wpS.take 10 false (some 17) (undef) (by kernel_rfl) (yld fun _ => by kernel_rfl) ?_
      refine wpS.take 11 false (some 18) (undef) (by kernel_rfl) (yld fun _ => by kernel_rfl) ?_
      refine wpS.take 12 false (some 19) (undef) (by kernel_rfl) (yld fun _ => by kernel_rfl) ?_
      refine wpS.take 13 false (some 20) (undef) (by kernel_rfl) (yld fun _ => by kernel_rfl) ?_
      refine wpS.take 14 false (some 21) (undef) (by kernel_rfl) (yld fun _ => by kernel_rfl) ?_
      refine wpS.take 15 false (some 22) (undef) (by kernel_rfl) (yld fun _ => by kernel_rfl) ?_
      refine wpS.take 16 false (some 23) (undef) (by kernel_rfl) (yld fun _ => by kernel_rfl) ?_
      refine wpS.take 17 false (some 24) (undef) (by kernel_rfl) (yld fun _ => by kernel_rfl) ?_
      refine wpS.take 18 false (some 25) (undef) (by kernel_rfl) (yld fun _ => by kernel_rfl) ?_
      refine wpS.take 19 false (some 26) (undef) (by kernel_rfl) (yld fun _ => by kernel_rfl) ?_
      refine wpS.take 20 false (some 27) (undef) (by kernel_rfl) (yld fun _ => by kernel_rfl) ?_
      refine wpS.take 21 false (some 28) (undef) (by kernel_rfl) (yld fun _ => by kernel_rfl) ?_
      refine wpS.take 22 false (some 29) (.bool false) (by kernel_rfl) (yld fun _ => by kernel_rfl) ?_
      refine wpS.take 23 false (some 2) (.bool false) (by kernel_rfl) (yld fun _ => by kernel_rfl) ?_
      refine wpS.fin rfl (kr _ _ ?_)
      refine then_n (ks3 _ _ ?_)
      refine wp_ret ?_
      have q0 := of_some h
      subst q0
      exact qq _ _ (post_ret (by kernel_rfl) (run_results [.tmp 2] [.bool false] (by kernel_rfl) (.cons (res_tmp (by kernel_rfl)) .nil)) ⟨congrArg Ending.returned (by kernel_rfl), hs.none⟩)
  · refine wpS.take 1 false (some 8) (.bool false) (by kernel_rfl) (yld_b (df hc) (fun _ => by kernel_rfl)) ?_
    refine wpS.take 2 false (some 9) (.bool false) (by kernel_rfl) (yld fun _ => by kernel_rfl) ?_
    refine wpS.take 3 false (some 10) (undef) (by kernel_rfl) (yld fun _ => by kernel_rfl) ?_
    refine wpS.take 4 false (some 11) (undef) (by kernel_rfl) (yld fun _ => by kernel_rfl) ?_
    refine wpS.take 5 false (some 12) (undef) (by kernel_rfl) (yld fun _ => by kernel_rfl) ?_
    refine wpS.take 6 false (some 13) (.bool false) (by kernel_rfl) (yld fun _ => by kernel_rfl) ?_
    refine wpS.take 7 false (some 14) (.bool false) (by kernel_rfl) (yld fun _ => by kernel_rfl) ?_
    refine wpS.take 8 false (some 15) (undef) (by kernel_rfl) (yld fun _ => by kernel_rfl) ?_
    refine wpS.take 9 false (some 16) (undef) (by kernel_rfl) (yld fun _ => by kernel_rfl) ?_
    refine wpS.take 10 false (some 17) (undef) (by kernel_rfl) (yld fun _ => by kernel_rfl) ?_
    refine wpS.take 11 false (some 18) (undef) (by kernel_rfl) (yld fun _ => by kernel_rfl) ?_
    refine wpS.take 12 false (some 19) (undef) (by kernel_rfl) (yld fun _ => by kernel_rfl) ?_
    refine wpS.take 13 false (some 20) (undef) (by kernel_rfl) (yld fun _ => by kernel_rfl) ?_
    refine wpS.take 14 false (some 21) (undef) (by kernel_rfl) (yld fun _ => by kernel_rfl) ?_
    refine wpS.take 15 false (some 22) (undef) (by kernel_rfl) (yld fun _ => by kernel_rfl) ?_
    refine wpS.take 16 false (some 23) (undef) (by kernel_rfl) (yld fun _ => by kernel_rfl) ?_
    refine wpS.take 17 false (some 24) (undef) (by kernel_rfl) (yld fun _ => by kernel_rfl) ?_
    refine wpS.take 18 false (some 25) (undef) (by kernel_rfl) (yld fun _ => by kernel_rfl) ?_
    refine wpS.take 19 false (some 26) (undef) (by kernel_rfl) (yld fun _ => by kernel_rfl) ?_
    refine wpS.take 20 false (some 27) (undef) (by kernel_rfl) (yld fun _ => by kernel_rfl) ?_
    refine wpS.take 21 false (some 28) (undef) (by kernel_rfl) (yld fun _ => by kernel_rfl) ?_
    refine wpS.take 22 false (some 29) (.bool false) (by kernel_rfl) (yld fun _ => by kernel_rfl) ?_
    refine wpS.take 23 false (some 2) (.bool false) (by kernel_rfl) (yld fun _ => by kernel_rfl) ?_
    refine wpS.fin rfl (kr _ _ ?_)
    refine then_n (ks3 _ _ ?_)
    refine wp_ret ?_
    have q0 := of_some h
    subst q0
    exact qq _ _ (post_ret (by kernel_rfl) (run_results [.tmp 2] [.bool false] (by kernel_rfl) (.cons (res_tmp (by kernel_rfl)) .nil)) ⟨congrArg Ending.returned (by kernel_rfl), hs.none⟩)

theorem ref01_Same.ok {K : Nat} {a0 : List Int} {a1 : List Int} {r0 : Bool} {a0_A : Option Addr} {a0_n : Nat} {a0_c : Nat} {a1_A : Option Addr} {a1_n : Nat} {a1_c : Nat} (h : ref01_Same.f K a0 a1 = some r0) (w0 : World) (hp0 : RowL (CI .u8) w0 a0_A a0_n a0_c a0) (hp1 : RowL (CI .u8) w0 a1_A a1_n a1_c a1) : Ret Tryd.prog 13 #[.slice a0_A a0_n a0_c, .slice a1_A a1_n a1_c] w0 (.bool r0) := by
  refine calls_k Tryd.func13 rfl fun Q qq => ?_
  have hs := St.startR (all_cons (RowP.ent hp0) (all_cons (RowP.ent hp1) all_nil))
  refine wp_conv (a' := ⟨#[.slice a0_A a0_n a0_c, .slice a1_A a1_n a1_c, undef, undef, undef, undef, undef, undef, undef, undef, undef, undef, undef, undef, undef, undef, undef, undef, undef, undef, undef, undef, undef, undef, undef, undef], []⟩) (by kernel_rfl) ?_
  refine wp_seq_k fun KS1 ks1 => ?_
  refine wp_regS (l := [0]) (by kernel_rfl) fun KR kr => ?_
  refine wpS.take 0 false (some 4) (.bool false) (by kernel_rfl) (yld fun _ => by kernel_rfl) ?_
  refine wpS.fin rfl (kr _ _ ?_)
  refine then_n (ks1 _ _ ?_)
  refine wp_seq_k fun KS4 ks4 => ?_
  refine wp_seq_k fun KS5 ks5 => ?_
  refine wp_regS (l := [0, 1, 2, 3, 4]) (by kernel_rfl) fun KR kr => ?_
  refine wpS.take 0 false (some 6) (.slice a0_A a0_n a0_c) (by kernel_rfl) (yld fun _ => by kernel_rfl) ?_
  refine wpS.take 1 false (some 7) (.int .i64 (a0.length : Int)) (by kernel_rfl) (yld_lenL (hs.rowR 0 rfl) (fun _ => by kernel_rfl)) ?_
  refine wpS.take 2 false (some 8) (.slice a1_A a1_n a1_c) (by kernel_rfl) (yld fun _ => by kernel_rfl) ?_
  refine wpS.take 3 false (some 9) (.int .i64 (a1.length : Int)) (by kernel_rfl) (yld_lenL (hs.rowR 1 rfl) (fun _ => by kernel_rfl)) ?_
  rcases of_if h with ⟨hc, h⟩ | ⟨hc, h⟩
  · refine wpS.take 4 false (some 10) (.bool false) (by kernel_rfl) (yld_b (nf hc) (fun _ => by kernel_rfl)) ?_
    refine wpS.fin rfl (kr _ _ ?_)
    refine then_n (ks5 _ _ ?_)
    refine wp_cond_f (by kernel_rfl) ?_
    refine wp_skip ?_
    refine then_n (ks4 _ _ ?_)
    refine wp_seq_k fun KS31 ks31 => ?_
    refine wp_seq_k fun KS32 ks32 => ?_
    refine wp_regS (l := [0]) (by kernel_rfl) fun KR kr => ?_
    refine wpS.take 0 false (some 5) (.int .i64 0) (by kernel_rfl) (yld fun _ => by kernel_rfl) ?_
    refine wpS.fin rfl (kr _ _ ?_)
    refine then_n (ks32 _ _ ?_)
    obtain ⟨t0, hy, hk0⟩ := of_bind h
    refine wp_exq (N := fun a w => t0 = .inl () ∧ St w0 [] [] [.rowL (CI .u8) a0_A a0_n a0_c a0, .rowL (CI .u8) a1_A a1_n a1_c a1] w ∧ ∃ g : Nat → Value, a = ⟨#[.slice a0_A a0_n a0_c, .slice a1_A a1_n a1_c, undef, undef, (g 4), (g 5), .slice a0_A a0_n a0_c, .int .i64 (a0.length : Int), .slice a1_A a1_n a1_c, .int .i64 (a1.length : Int), .bool false, (g 11), (g 12), (g 13), (g 14), (g 15), (g 16), (g 17), (g 18), (g 19), (g 20), (g 21), (g 22), (g 23), (g 24), (g 25)], []⟩) (fun N0 nn0 => ?_) ?_
    · refine wp_block ?_
      refine wp_loop_k (fun n a w => ∃ z1, ref01_Same.l0 K n a0 a1 z1 = some t0 ∧ St w0 [] [] [.rowL (CI .u8) a0_A a0_n a0_c a0, .rowL (CI .u8) a1_A a1_n a1_c a1] w ∧ ∃ g : Nat → Value, a = ⟨#[.slice a0_A a0_n a0_c, .slice a1_A a1_n a1_c, undef, undef, (g 4), .int .i64 z1, .slice a0_A a0_n a0_c, .int .i64 (a0.length : Int), .slice a1_A a1_n a1_c, .int .i64 (a1.length : Int), .bool false, (g 11), (g 12), (g 13), (g 14), (g 15), (g 16), (g 17), (g 18), (g 19), (g 20), (g 21), (g 22), (g 23), (g 24), (g 25)], []⟩) K ⟨0, hy, hs.conv rfl, exg (by kernel_rfl)⟩ ?_
      clear hs h hy
      rintro n a w ⟨z1, h, hs, g, rfl⟩ KL0 kl0
      cases n with
      | zero => exact nomatch (show none = some _ from h)
      | succ n =>
        refine wp_seq_k fun KS46 ks46 => ?_
        refine wp_seq_k fun KS47 ks47 => ?_
        refine wp_regS (l := [0, 1, 2, 3]) (by kernel_rfl) fun KR kr => ?_
        refine wpS.take 0 false (some 11) (.int .i64 z1) (by kernel_rfl) (yld fun _ => by kernel_rfl) ?_
        refine wpS.take 1 false (some 12) (.slice a0_A a0_n a0_c) (by kernel_rfl) (yld fun _ => by kernel_rfl) ?_
        refine wpS.take 2 false (some 13) (.int .i64 (a0.length : Int)) (by kernel_rfl) (yld_lenL (hs.rowR 0 rfl) (fun _ => by kernel_rfl)) ?_
        rcases of_if h with ⟨hc, h⟩ | ⟨hc, h⟩
        · refine wpS.take 3 false (some 14) (.bool true) (by kernel_rfl) (yld_b (dt hc) (fun _ => by kernel_rfl)) ?_
          refine wpS.fin rfl (kr _ _ ?_)
          refine then_n (ks47 _ _ ?_)
          refine wp_cond_t (by kernel_rfl) ?_
          refine wp_skip ?_
          refine then_n (ks46 _ _ ?_)
          refine wp_seq_k fun KS52 ks52 => ?_
          refine wp_block ?_
          refine wp_seq_k fun KS53 ks53 => ?_
          refine wp_regG [] (fun k => True) 9 (by kernel_rfl) (by kernel_rfl) fun KR kr => ?_
          have hs := hs.drawn1
          refine wpG.takeD 0 false (some 17) (.slice a0_A a0_n a0_c) (by kernel_rfl) (by kernel_rfl) (yld fun _ => by kernel_rfl) ?_
          refine wpG.takeD 1 false (some 18) (.int .i64 z1) (by kernel_rfl) (by kernel_rfl) (yld fun _ => by kernel_rfl) ?_
          obtain ⟨h0, h⟩ := of_chk h
          obtain ⟨h1, h⟩ := of_chk h
          have i0_54 := h0
          have i1_54 := h1
          refine wpG.takeD 2 false (some 19) (.pointer (adr a0_A ((z1 : Int).toNat * Cod.size (CI .u8)))) (by kernel_rfl) (by kernel_rfl) (yld_idxL (C := (CI .u8)) (t := 26) (e := 5) (k := .i64) (x := z1) (hs.rowR 0 rfl) (by kernel_rfl) (by kernel_rfl) (by kernel_rfl) h0 h1) ?_
          refine wpG.takeD 3 true (some 20) (.int .u8 (rdL (CI .u8) a0 z1)) (by kernel_rfl) (by kernel_rfl) (yld_loadL (C := (CI .u8)) (e := 5) (x := z1) (hs.rowR 0 rfl) (by kernel_rfl) rfl (by kernel_rfl) i0_54 i1_54) ?_
          refine wpG.takeD 4 false (some 21) (.slice a1_A a1_n a1_c) (by kernel_rfl) (by kernel_rfl) (yld fun _ => by kernel_rfl) ?_
          refine wpG.takeD 5 false (some 22) (.int .i64 z1) (by kernel_rfl) (by kernel_rfl) (yld fun _ => by kernel_rfl) ?_
          obtain ⟨h0, h⟩ := of_chk h
          obtain ⟨h1, h⟩ := of_chk h
          have i0_55 := h0
          have i1_55 := h1
          refine wpG.takeD 6 false (some 23) (.pointer (adr a1_A ((z1 : Int).toNat * Cod.size (CI .u8)))) (by kernel_rfl) (by kernel_rfl) (yld_idxL (C := (CI .u8)) (t := 26) (e := 5) (k := .i64) (x := z1) (hs.rowR 1 rfl) (by kernel_rfl) (by kernel_rfl) (by kernel_rfl) h0 h1) ?_
          refine wpG.takeD 7 true (some 24) (.int .u8 (rdL (CI .u8) a1 z1)) (by kernel_rfl) (by kernel_rfl) (yld_loadL (C := (CI .u8)) (e := 5) (x := z1) (hs.rowR 1 rfl) (by kernel_rfl) rfl (by kernel_rfl) i0_55 i1_55) ?_
          rcases of_if h with ⟨hc, h⟩ | ⟨hc, h⟩
          · refine wpG.takeD 8 false (some 25) (.bool false) (by kernel_rfl) (by kernel_rfl) (yld_b (nf hc) (fun _ => by kernel_rfl)) ?_
            refine wpG.fin (by kernel_rfl) rfl (kr _ _ ?_)
            refine then_n (ks53 _ _ ?_)
            refine wp_cond_f (by kernel_rfl) ?_
            refine wp_skip ?_
            refine inBlock_n ?_
            refine then_n (ks52 _ _ ?_)
            refine wp_regS (l := [0, 1, 2]) (by kernel_rfl) fun KR kr => ?_
            refine wpS.take 0 false (some 15) (.int .i64 z1) (by kernel_rfl) (yld fun _ => by kernel_rfl) ?_
            refine wpS.take 1 false (some 16) (.int .i64 (iadd .i64 z1 1)) (by kernel_rfl) (yld fun _ => by kernel_rfl) ?_
            obtain ⟨x2, hx, h⟩ := of_bind h
            refine wpS.take 2 false (some 5) (.int .i64 x2) (by kernel_rfl) (yld_int hx (fun _ => by kernel_rfl)) ?_
            refine wpS.fin rfl (kr _ _ ?_)
            exact then_n (kl0 _ _ ⟨n, Nat.lt_succ_self n, x2, h, (hs.conv rfl), exg (by kernel_rfl)⟩)
          · refine wpG.takeD 8 false (some 25) (.bool true) (by kernel_rfl) (by kernel_rfl) (yld_b (nt hc) (fun _ => by kernel_rfl)) ?_
            refine wpG.fin (by kernel_rfl) rfl (kr _ _ ?_)
            refine then_n (ks53 _ _ ?_)
            refine wp_cond_t (by kernel_rfl) ?_
            refine wp_seq_k fun KS56 ks56 => ?_
            refine wp_regS (l := [0]) (by kernel_rfl) fun KR kr => ?_
            refine wpS.take 0 false (some 4) (.bool false) (by kernel_rfl) (yld fun _ => by kernel_rfl) ?_
            refine wpS.fin rfl (kr _ _ ?_)
            refine then_n (ks56 _ _ ?_)
            refine wp_ret ?_
            refine inBlock_r ?_
            refine then_r ?_
            refine then_r ?_
            refine inBlock_r ?_
            refine exq_r ?_
            refine then_r ?_
            have q0 := of_some h
            subst q0
            have q0 := of_some hk0
            subst q0
            exact qq _ _ (post_ret (by kernel_rfl) (run_results [.tmp 4] [.bool false] (by kernel_rfl) (.cons (res_tmp (by kernel_rfl)) .nil)) ⟨congrArg Ending.returned (by kernel_rfl), hs.none⟩)
        · refine wpS.take 3 false (some 14) (.bool false) (by kernel_rfl) (yld_b (df hc) (fun _ => by kernel_rfl)) ?_
          refine wpS.fin rfl (kr _ _ ?_)
          refine then_n (ks47 _ _ ?_)
          refine wp_cond_f (by kernel_rfl) ?_
          refine wp_exit ?_
          refine then_x ?_
          refine then_x ?_
          refine inBlock_hit ?_
          have q0 := of_some h
          subst q0
          exact exq_n (nn0 _ _ ⟨rfl, (hs.conv rfl), exg (by kernel_rfl)⟩)
    · clear hs h hy
      rintro a w ⟨rfl, hs, g, rfl⟩
      have h := hk0
      refine then_n (ks31 _ _ ?_)
      refine wp_seq_k fun KS57 ks57 => ?_
      refine wp_regS (l := [0]) (by kernel_rfl) fun KR kr => ?_
      refine wpS.take 0 false (some 4) (.bool true) (by kernel_rfl) (yld fun _ => by kernel_rfl) ?_
      refine wpS.fin rfl (kr _ _ ?_)
      refine then_n (ks57 _ _ ?_)
      refine wp_ret ?_
      have q0 := of_some h
      subst q0
      exact qq _ _ (post_ret (by kernel_rfl) (run_results [.tmp 4] [.bool true] (by kernel_rfl) (.cons (res_tmp (by kernel_rfl)) .nil)) ⟨congrArg Ending.returned (by kernel_rfl), hs.none⟩)
  · refine wpS.take 4 false (some 10) (.bool true) (by kernel_rfl) (yld_b (nt hc) (fun _ => by kernel_rfl)) ?_
    refine wpS.fin rfl (kr _ _ ?_)
    refine then_n (ks5 _ _ ?_)
    refine wp_cond_t (by kernel_rfl) ?_
    refine wp_seq_k fun KS58 ks58 => ?_
    refine wp_regS (l := [0]) (by kernel_rfl) fun KR kr => ?_
    refine wpS.take 0 false (some 4) (.bool false) (by kernel_rfl) (yld fun _ => by kernel_rfl) ?_
    refine wpS.fin rfl (kr _ _ ?_)
    refine then_n (ks58 _ _ ?_)
    refine wp_ret ?_
    refine then_r ?_
    have q0 := of_some h
    subst q0
    exact qq _ _ (post_ret (by kernel_rfl) (run_results [.tmp 4] [.bool false] (by kernel_rfl) (.cons (res_tmp (by kernel_rfl)) .nil)) ⟨congrArg Ending.returned (by kernel_rfl), hs.none⟩)

theorem keccak_columns.ok {K : Nat} {a0 : Arr 25} {r0 : Arr 5} {p0 : Nat} (h : keccak_columns.f K a0 = some r0) (w0 : World) (hb : w0.heap[p0]? = some (.cells (enc .u64 a0).toArray 23 (0, 0))) : Calls Tryd.prog 31 #[.pointer (some ⟨p0, 0, none⟩)] w0 fun e w' => e = .returned (.agg (enc .u64 r0).toArray) ∧ St w0 [p0] [.blk p0 (enc .u64 a0) 23] [] w' := by
  refine calls_k Tryd.func31 rfl fun Q qq => ?_
  have hs := St.startX hb allX_nil
  refine wp_conv (a' := ⟨#[.pointer (some ⟨p0, 0, none⟩), undef, undef, undef, undef, undef, undef, undef, undef, undef, undef, undef, undef, undef, undef, undef, undef, undef, undef, undef, undef, undef, undef, undef, undef, undef, undef, undef, undef, undef, undef, undef, undef, undef, undef, undef, undef, undef, undef, undef, undef, undef, undef, undef], []⟩) (by kernel_rfl) ?_
  refine wp_seq_k fun KS74 ks74 => ?_
  refine wp_regS (l := [0]) (by kernel_rfl) fun KR kr => ?_
  refine wpS.only 0 (op_alloc (t := 58) (d := (some 2)) (by kernel_rfl) hs (enc .u64 (zeroA 5)) (.agg (enc .u64 (zeroA 5)).toArray) (by kernel_rfl) (by kernel_rfl) (by kernel_rfl) ?_)
  intro b1 w gw hs
  refine ⟨fun _ => trivial, ?_⟩
  refine wpS.fin rfl (kr _ _ ?_)
  refine then_n (ks74 _ _ ?_)
  refine wp_seq_k fun KS110 ks110 => ?_
  refine wp_seq_k fun KS111 ks111 => ?_
  refine wp_regS (l := [0]) (by kernel_rfl) fun KR kr => ?_
  refine wpS.take 0 false (some 4) (.int .i64 0) (by kernel_rfl) (yld fun _ => by kernel_rfl) ?_
  refine wpS.fin rfl (kr _ _ ?_)
  refine then_n (ks111 _ _ ?_)
  obtain ⟨y4, hy, hk0⟩ := of_bind h
  refine wp_exq (N := fun a w => St w0 [p0] [.blk b1 (enc .u64 y4) 58, .blk p0 (enc .u64 a0) 23] [] w ∧ ∃ g : Nat → Value, a = ⟨#[.pointer (some ⟨p0, 0, none⟩), undef, .pointer (some ⟨b1, 0, none⟩), (g 3), (g 4), (g 5), (g 6), (g 7), (g 8), (g 9), (g 10), (g 11), (g 12), (g 13), (g 14), (g 15), (g 16), (g 17), (g 18), (g 19), (g 20), (g 21), (g 22), (g 23), (g 24), (g 25), (g 26), (g 27), (g 28), (g 29), (g 30), (g 31), (g 32), (g 33), (g 34), (g 35), (g 36), (g 37), (g 38), (g 39), (g 40), (g 41), (g 42), undef], []⟩) (fun N0 nn0 => ?_) ?_
  · clear hk0
    refine wp_block ?_
    refine wp_loop_k (fun n a w => ∃ z2 z3, keccak_columns.l0 K n a0 z2 z3 = some y4 ∧ St w0 [p0] [.blk b1 (enc .u64 z3) 58, .blk p0 (enc .u64 a0) 23] [] w ∧ ∃ g : Nat → Value, a = ⟨#[.pointer (some ⟨p0, 0, none⟩), undef, .pointer (some ⟨b1, 0, none⟩), (g 3), .int .i64 z2, (g 5), (g 6), (g 7), (g 8), (g 9), (g 10), (g 11), (g 12), (g 13), (g 14), (g 15), (g 16), (g 17), (g 18), (g 19), (g 20), (g 21), (g 22), (g 23), (g 24), (g 25), (g 26), (g 27), (g 28), (g 29), (g 30), (g 31), (g 32), (g 33), (g 34), (g 35), (g 36), (g 37), (g 38), (g 39), (g 40), (g 41), (g 42), undef], []⟩) K ⟨0, (zeroA 5), hy, hs.conv rfl, exg (by kernel_rfl)⟩ ?_
    clear hs h hy
    rintro n a w ⟨z2, z3, h, hs, g, rfl⟩ KL0 kl0
    cases n with
    | zero => exact nomatch (show none = some _ from h)
    | succ n =>
      refine wp_seq_k fun KS129 ks129 => ?_
      refine wp_regS (l := [0]) (by kernel_rfl) fun KR kr => ?_
      rcases of_if h with ⟨hc, h⟩ | ⟨hc, h⟩
      · refine wpS.take 0 false (some 5) (.bool true) (by kernel_rfl) (yld_b (dt hc) (fun _ => by kernel_rfl)) ?_
        refine wpS.fin rfl (kr _ _ ?_)
        refine then_n (ks129 _ _ ?_)
        refine wp_seq_k fun KS130 ks130 => ?_
        refine wp_cond_t (by kernel_rfl) ?_
        refine wp_skip ?_
        refine then_n (ks130 _ _ ?_)
        refine wp_seq_k fun KS131 ks131 => ?_
        refine wp_block ?_
        refine wp_seq_k fun KS132 ks132 => ?_
        refine wp_regS (l := [0, 1]) (by kernel_rfl) fun KR kr => ?_
        refine wpS.take 0 false (some 6) (.int .i64 z2) (by kernel_rfl) (yld fun _ => by kernel_rfl) ?_
        refine wpS.take 1 false (some 3) (.int .i64 z2) (by kernel_rfl) (yld fun _ => by kernel_rfl) ?_
        refine wpS.fin rfl (kr _ _ ?_)
        refine then_n (ks132 _ _ ?_)
        refine wp_regG [35] (fun k => k = b1) 36 (by kernel_rfl) (by kernel_rfl) fun KR kr => ?_
        have hs := hs.drawn1
        refine wpG.takeD 0 false (some 7) (.int .i64 z2) (by kernel_rfl) (by kernel_rfl) (yld fun _ => by kernel_rfl) ?_
        refine wpG.takeD 1 false (some 8) (.pointer (some ⟨p0, 0, none⟩)) (by kernel_rfl) (by kernel_rfl) (yld fun _ => by kernel_rfl) ?_
        refine wpG.takeD 2 false (some 9) (.int .i64 z2) (by kernel_rfl) (by kernel_rfl) (yld fun _ => by kernel_rfl) ?_
        refine wpG.takeD 3 false (some 10) (.pointer (some ⟨p0, 0, none⟩)) (by kernel_rfl) (by kernel_rfl) (yld fun _ => by kernel_rfl) ?_
        obtain ⟨i0_139, h⟩ := of_chk h
        obtain ⟨i1_139, h⟩ := of_chk h
        refine wpG.takeD 4 false (some 11) (.pointer (some ⟨p0, 0 + (z2 : Int).toNat * 1, none⟩)) (by kernel_rfl) (by kernel_rfl) (yld_idx (t := 23) (e := 22) (n := 25) (sz := 1) (k := .i64) (x := z2) (by kernel_rfl) (by kernel_rfl) (by kernel_rfl) i0_139 i1_139) ?_
        refine wpG.takeD 5 true (some 12) (.int .u64 (rd a0 z2)) (by kernel_rfl) (by kernel_rfl) (yld_loadA (e := 22) (x := z2) hs 1 rfl (by kernel_rfl) (by kernel_rfl) i0_139 i1_139 .grow) ?_
        refine wpG.takeD 6 false (some 13) (.pointer (some ⟨p0, 0, none⟩)) (by kernel_rfl) (by kernel_rfl) (yld fun _ => by kernel_rfl) ?_
        refine wpG.takeD 7 false (some 14) (.int .i64 z2) (by kernel_rfl) (by kernel_rfl) (yld fun _ => by kernel_rfl) ?_
        refine wpG.takeD 8 false (some 15) (.int .i64 (iadd .i64 z2 5)) (by kernel_rfl) (by kernel_rfl) (yld fun _ => by kernel_rfl) ?_
        refine wpG.takeD 9 false (some 16) (.pointer (some ⟨p0, 0, none⟩)) (by kernel_rfl) (by kernel_rfl) (yld fun _ => by kernel_rfl) ?_
        obtain ⟨x5, hx, h⟩ := of_bind h
        have hx := of_some hx
        subst hx
        obtain ⟨i0_140, h⟩ := of_chk h
        obtain ⟨i1_140, h⟩ := of_chk h
        refine wpG.takeD 10 false (some 17) (.pointer (some ⟨p0, 0 + ((iadd .i64 z2 5) : Int).toNat * 1, none⟩)) (by kernel_rfl) (by kernel_rfl) (yld_idx (t := 23) (e := 22) (n := 25) (sz := 1) (k := .i64) (x := (iadd .i64 z2 5)) (by kernel_rfl) (by kernel_rfl) (by kernel_rfl) i0_140 i1_140) ?_
        refine wpG.takeD 11 true (some 18) (.int .u64 (rd a0 (iadd .i64 z2 5))) (by kernel_rfl) (by kernel_rfl) (yld_loadA (e := 22) (x := (iadd .i64 z2 5)) hs 1 rfl (by kernel_rfl) (by kernel_rfl) i0_140 i1_140 .grow) ?_
        refine wpG.takeD 12 false (some 19) (.int .u64 (ixor .u64 (rd a0 z2) (rd a0 (iadd .i64 z2 5)))) (by kernel_rfl) (by kernel_rfl) (yld fun _ => by kernel_rfl) ?_
        refine wpG.takeD 13 false (some 20) (.pointer (some ⟨p0, 0, none⟩)) (by kernel_rfl) (by kernel_rfl) (yld fun _ => by kernel_rfl) ?_
        refine wpG.takeD 14 false (some 21) (.int .i64 z2) (by kernel_rfl) (by kernel_rfl) (yld fun _ => by kernel_rfl) ?_
        refine wpG.takeD 15 false (some 22) (.int .i64 (iadd .i64 z2 10)) (by kernel_rfl) (by kernel_rfl) (yld fun _ => by kernel_rfl) ?_
        refine wpG.takeD 16 false (some 23) (.pointer (some ⟨p0, 0, none⟩)) (by kernel_rfl) (by kernel_rfl) (yld fun _ => by kernel_rfl) ?_
        obtain ⟨x6, hx, h⟩ := of_bind h
        have hx := of_some hx
        subst hx
        obtain ⟨i0_141, h⟩ := of_chk h
        obtain ⟨i1_141, h⟩ := of_chk h
        refine wpG.takeD 17 false (some 24) (.pointer (some ⟨p0, 0 + ((iadd .i64 z2 10) : Int).toNat * 1, none⟩)) (by kernel_rfl) (by kernel_rfl) (yld_idx (t := 23) (e := 22) (n := 25) (sz := 1) (k := .i64) (x := (iadd .i64 z2 10)) (by kernel_rfl) (by kernel_rfl) (by kernel_rfl) i0_141 i1_141) ?_
        refine wpG.takeD 18 true (some 25) (.int .u64 (rd a0 (iadd .i64 z2 10))) (by kernel_rfl) (by kernel_rfl) (yld_loadA (e := 22) (x := (iadd .i64 z2 10)) hs 1 rfl (by kernel_rfl) (by kernel_rfl) i0_141 i1_141 .grow) ?_
        refine wpG.takeD 19 false (some 26) (.int .u64 (ixor .u64 (ixor .u64 (rd a0 z2) (rd a0 (iadd .i64 z2 5))) (rd a0 (iadd .i64 z2 10)))) (by kernel_rfl) (by kernel_rfl) (yld fun _ => by kernel_rfl) ?_
        refine wpG.takeD 20 false (some 27) (.pointer (some ⟨p0, 0, none⟩)) (by kernel_rfl) (by kernel_rfl) (yld fun _ => by kernel_rfl) ?_
        refine wpG.takeD 21 false (some 28) (.int .i64 z2) (by kernel_rfl) (by kernel_rfl) (yld fun _ => by kernel_rfl) ?_
        refine wpG.takeD 22 false (some 29) (.int .i64 (iadd .i64 z2 15)) (by kernel_rfl) (by kernel_rfl) (yld fun _ => by kernel_rfl) ?_
        refine wpG.takeD 23 false (some 30) (.pointer (some ⟨p0, 0, none⟩)) (by kernel_rfl) (by kernel_rfl) (yld fun _ => by kernel_rfl) ?_
        obtain ⟨x7, hx, h⟩ := of_bind h
        have hx := of_some hx
        subst hx
        obtain ⟨i0_142, h⟩ := of_chk h
        obtain ⟨i1_142, h⟩ := of_chk h
        refine wpG.takeD 24 false (some 31) (.pointer (some ⟨p0, 0 + ((iadd .i64 z2 15) : Int).toNat * 1, none⟩)) (by kernel_rfl) (by kernel_rfl) (yld_idx (t := 23) (e := 22) (n := 25) (sz := 1) (k := .i64) (x := (iadd .i64 z2 15)) (by kernel_rfl) (by kernel_rfl) (by kernel_rfl) i0_142 i1_142) ?_
        refine wpG.takeD 25 true (some 32) (.int .u64 (rd a0 (iadd .i64 z2 15))) (by kernel_rfl) (by kernel_rfl) (yld_loadA (e := 22) (x := (iadd .i64 z2 15)) hs 1 rfl (by kernel_rfl) (by kernel_rfl) i0_142 i1_142 .grow) ?_
        refine wpG.takeD 26 false (some 33) (.int .u64 (ixor .u64 (ixor .u64 (ixor .u64 (rd a0 z2) (rd a0 (iadd .i64 z2 5))) (rd a0 (iadd .i64 z2 10))) (rd a0 (iadd .i64 z2 15)))) (by kernel_rfl) (by kernel_rfl) (yld fun _ => by kernel_rfl) ?_
        refine wpG.takeD 27 false (some 34) (.pointer (some ⟨p0, 0, none⟩)) (by kernel_rfl) (by kernel_rfl) (yld fun _ => by kernel_rfl) ?_
        refine wpG.takeD 28 false (some 35) (.int .i64 z2) (by kernel_rfl) (by kernel_rfl) (yld fun _ => by kernel_rfl) ?_
        refine wpG.takeD 29 false (some 36) (.int .i64 (iadd .i64 z2 20)) (by kernel_rfl) (by kernel_rfl) (yld fun _ => by kernel_rfl) ?_
        refine wpG.takeD 30 false (some 37) (.pointer (some ⟨p0, 0, none⟩)) (by kernel_rfl) (by kernel_rfl) (yld fun _ => by kernel_rfl) ?_
        obtain ⟨x8, hx, h⟩ := of_bind h
        have hx := of_some hx
        subst hx
        obtain ⟨i0_143, h⟩ := of_chk h
        obtain ⟨i1_143, h⟩ := of_chk h
        refine wpG.takeD 31 false (some 38) (.pointer (some ⟨p0, 0 + ((iadd .i64 z2 20) : Int).toNat * 1, none⟩)) (by kernel_rfl) (by kernel_rfl) (yld_idx (t := 23) (e := 22) (n := 25) (sz := 1) (k := .i64) (x := (iadd .i64 z2 20)) (by kernel_rfl) (by kernel_rfl) (by kernel_rfl) i0_143 i1_143) ?_
        refine wpG.takeD 32 true (some 39) (.int .u64 (rd a0 (iadd .i64 z2 20))) (by kernel_rfl) (by kernel_rfl) (yld_loadA (e := 22) (x := (iadd .i64 z2 20)) hs 1 rfl (by kernel_rfl) (by kernel_rfl) i0_143 i1_143 .grow) ?_
        refine wpG.takeD 33 false (some 40) (.int .u64 (ixor .u64 (ixor .u64 (ixor .u64 (ixor .u64 (rd a0 z2) (rd a0 (iadd .i64 z2 5))) (rd a0 (iadd .i64 z2 10))) (rd a0 (iadd .i64 z2 15))) (rd a0 (iadd .i64 z2 20)))) (by kernel_rfl) (by kernel_rfl) (yld fun _ => by kernel_rfl) ?_
        obtain ⟨i0_144, h⟩ := of_chk h
        obtain ⟨i1_144, h⟩ := of_chk h
        refine wpG.takeD 34 false (some 41) (.pointer (some ⟨b1, 0 + (z2 : Int).toNat * 1, none⟩)) (by kernel_rfl) (by kernel_rfl) (yld_idx (t := 58) (e := 22) (n := 5) (sz := 1) (k := .i64) (x := z2) (by kernel_rfl) (by kernel_rfl) (by kernel_rfl) i0_144 i1_144) ?_
        obtain ⟨x9, hx, h⟩ := of_bind h
        refine wpG.only 35 (by kernel_rfl) (op_storeA (t := 22) (x := z2) (v := x9) (d := none) (by kernel_rfl) hs 0 rfl (by cases hx; kernel_rfl) (by kernel_rfl) i0_144 i1_144 ?_)
        intro w kp hs
        refine ⟨⟨fun hf => absurd hf (by decide), kp.mono fun _ h => h⟩, ?_⟩
        refine wpG.fin (by kernel_rfl) rfl (kr _ _ ?_)
        refine inBlock_n ?_
        refine then_n (ks131 _ _ ?_)
        refine wp_regS (l := [0, 1]) (by kernel_rfl) fun KR kr => ?_
        refine wpS.take 0 false (some 42) (.int .i64 (iadd .i64 z2 1)) (by kernel_rfl) (yld fun _ => by kernel_rfl) ?_
        refine wpS.take 1 false (some 4) (.int .i64 (iadd .i64 z2 1)) (by kernel_rfl) (yld fun _ => by kernel_rfl) ?_
        refine wpS.fin rfl (kr _ _ ?_)
        exact then_n (kl0 _ _ ⟨n, Nat.lt_succ_self n, (iadd .i64 z2 1), (wr z3 z2 x9), h, (hs.conv rfl), exg (by kernel_rfl)⟩)
      · refine wpS.take 0 false (some 5) (.bool false) (by kernel_rfl) (yld_b (df hc) (fun _ => by kernel_rfl)) ?_
        refine wpS.fin rfl (kr _ _ ?_)
        refine then_n (ks129 _ _ ?_)
        refine wp_seq_k fun KS145 ks145 => ?_
        refine wp_cond_f (by kernel_rfl) ?_
        refine wp_exit ?_
        refine then_x ?_
        refine then_x ?_
        refine inBlock_hit ?_
        have q0 := of_some h
        subst q0
        exact exq_n (nn0 _ _ ⟨(hs.conv rfl), exg (by kernel_rfl)⟩)
  · clear hs h hy
    rintro a w ⟨hs, g, rfl⟩
    have h := hk0
    refine then_n (ks110 _ _ ?_)
    refine wp_seq_k fun KS146 ks146 => ?_
    refine wp_regS (l := [0, 1]) (by kernel_rfl) fun KR kr => ?_
    refine wpS.take 0 true (some 43) (.agg (enc .u64 y4).toArray) (by kernel_rfl) (yld_loadW (e := 58) (n := 5) hs 0 rfl (by kernel_rfl) (by kernel_rfl) (by kernel_rfl) (by exact enc_len _ _) .grow) ?_
    refine wpS.only 1 (op_storeW (t := 58) (v := .agg (enc .u64 y4).toArray) (d := none) (by kernel_rfl) hs 0 rfl (vs := enc .u64 y4) (n := 5) (by kernel_rfl) (by kernel_rfl) (by kernel_rfl) (by simp [enc_len]) (by simp [enc_len]) (by intro u hu; exact enc_one _ _ u hu) ?_)
    intro w kp hs
    refine ⟨fun _ => trivial, ?_⟩
    refine wpS.fin rfl (kr _ _ ?_)
    refine then_n (ks146 _ _ ?_)
    refine wp_ret ?_
    have q0 := of_some h
    subst q0
    exact qq _ _ (post_ret (by kernel_rfl) (run_results [.cell 2 58] [.agg (enc .u64 y4).toArray] (by kernel_rfl) (.cons (res_cellN (n := 5) hs 0 rfl (by kernel_rfl) (by kernel_rfl) (by kernel_rfl) (by exact enc_len _ _)) .nil)) ⟨congrArg Ending.returned (by kernel_rfl), ((hs.conv (L' := [.blk b1 (enc .u64 y4) 58, .blk p0 (enc .u64 a0) 23]) rfl).drop (.cons _ (.cons_cons _ .slnil)))⟩)

theorem math_bits_RotateLeft64.ok {K : Nat} {a0 : Int} {a1 : Int} {r0 : Int} (h : math_bits_RotateLeft64.f K a0 a1 = some r0) (w0 : World) : Ret Tryd.prog 32 #[.int .u64 a0, .int .i64 a1] w0 (.int .u64 r0) := by
  refine calls_k Tryd.func32 rfl fun Q qq => ?_
  have hs := St.start w0
  refine wp_conv (a' := ⟨#[.int .u64 a0, .int .i64 a1, undef, undef, undef, undef, undef, undef, undef, undef, undef, undef, undef, undef, undef, undef, undef], []⟩) (by kernel_rfl) ?_
  refine wp_seq_k fun KS1 ks1 => ?_
  refine wp_regS (l := [0]) (by kernel_rfl) fun KR kr => ?_
  refine wpS.take 0 false (some 4) (.int .u64 0) (by kernel_rfl) (yld fun _ => by kernel_rfl) ?_
  refine wpS.fin rfl (kr _ _ ?_)
  refine then_n (ks1 _ _ ?_)
  refine wp_seq_k fun KS2 ks2 => ?_
  refine wp_regS (l := [0, 1, 2, 3]) (by kernel_rfl) fun KR kr => ?_
  refine wpS.take 0 false (some 6) (.int .i64 a1) (by kernel_rfl) (yld fun _ => by kernel_rfl) ?_
  refine wpS.take 1 false (some 7) (.int .u64 (iconv .u64 a1)) (by kernel_rfl) (yld fun _ => by kernel_rfl) ?_
  refine wpS.take 2 false (some 8) (.int .u64 (iand .u64 (iconv .u64 a1) 63)) (by kernel_rfl) (yld fun _ => by kernel_rfl) ?_
  obtain ⟨x1, hx, h⟩ := of_bind h
  refine wpS.take 3 false (some 5) (.int .u64 x1) (by kernel_rfl) (yld_int hx (fun _ => by kernel_rfl)) ?_
  refine wpS.fin rfl (kr _ _ ?_)
  refine then_n (ks2 _ _ ?_)
  refine wp_seq_k fun KS3 ks3 => ?_
  refine wp_regS (l := [0, 1, 2, 3, 4, 5, 6, 7, 8]) (by kernel_rfl) fun KR kr => ?_
  refine wpS.take 0 false (some 9) (.int .u64 a0) (by kernel_rfl) (yld fun _ => by kernel_rfl) ?_
  refine wpS.take 1 false (some 10) (.int .u64 x1) (by kernel_rfl) (yld fun _ => by kernel_rfl) ?_
  obtain ⟨h0, h⟩ := of_chk h
  refine wpS.take 2 false (some 11) (.int .u64 (ishl .u64 a0 x1)) (by kernel_rfl) (yld_shl (t := 22) (k' := .u64) (by kernel_rfl) h0) ?_
  refine wpS.take 3 false (some 12) (.int .u64 a0) (by kernel_rfl) (yld fun _ => by kernel_rfl) ?_
  refine wpS.take 4 false (some 13) (.int .u64 x1) (by kernel_rfl) (yld fun _ => by kernel_rfl) ?_
  refine wpS.take 5 false (some 14) (.int .u64 (isub .u64 64 x1)) (by kernel_rfl) (yld fun _ => by kernel_rfl) ?_
  obtain ⟨h0, h⟩ := of_chk h
  refine wpS.take 6 false (some 15) (.int .u64 (ishr .u64 a0 (isub .u64 64 x1))) (by kernel_rfl) (yld_shr (t := 22) (k' := .u64) (by kernel_rfl) h0) ?_
  refine wpS.take 7 false (some 16) (.int .u64 (ior .u64 (ishl .u64 a0 x1) (ishr .u64 a0 (isub .u64 64 x1)))) (by kernel_rfl) (yld fun _ => by kernel_rfl) ?_
  obtain ⟨x2, hx, h⟩ := of_bind h
  refine wpS.take 8 false (some 4) (.int .u64 x2) (by kernel_rfl) (yld_int hx (fun _ => by kernel_rfl)) ?_
  refine wpS.fin rfl (kr _ _ ?_)
  refine then_n (ks3 _ _ ?_)
  refine wp_ret ?_
  have q0 := of_some h
  subst q0
  exact qq _ _ (post_ret (by kernel_rfl) (run_results [.tmp 4] [.int .u64 x2] (by kernel_rfl) (.cons (res_tmp (by kernel_rfl)) .nil)) ⟨congrArg Ending.returned (by kernel_rfl), hs.none⟩)
end Go.Proofs.YtijahfdldlmnhaaDoor
