/- Printed by this work's own program: the code of each function below comes to the answer that its plain form tells. -/
import Derived.Test.YtijahfdldlmnhaaMr
import Derived.Test.YtijahfdldlmnhaaProg
import Derived.Test.YtijahfdldlmnhaaKF0
set_option linter.unusedVariables false
set_option linter.unusedSimpArgs false
set_option maxRecDepth 100000
set_option maxHeartbeats 4000000
namespace Go.Proofs.Ytijahfdldlmnhaa
open Go.Mx
attribute [local irreducible] wpOp

theorem ref25_Below.ok {K : Nat} {a0 : Arr 256} {a1 : Int} {r0 : Bool} (h : ref25_Below.f K a0 a1 = some r0) (w0 : World) : Ret Try.prog 60 #[.agg (enc .i32 a0).toArray, .int .i32 a1] w0 (.bool r0) := by
  refine calls_k Try.func60 rfl fun Q qq => ?_
  have hs := St.start w0
  refine wp_conv (a' := ⟨#[.agg (enc .i32 a0).toArray, .int .i32 a1, undef, undef, undef, undef, undef, undef, undef, undef, undef, undef, undef, undef, undef, undef, undef, undef, undef, undef, undef], []⟩) (by kernel_rfl) ?_
  refine wp_seq_k fun KS1 ks1 => ?_
  refine wp_regS (l := [0, 1]) (by kernel_rfl) fun KR kr => ?_
  refine wpS.only 0 (op_box (t := 23) (v := .agg (enc .i32 a0).toArray) (d := (some 2)) (by kernel_rfl) hs (enc .i32 a0) (by kernel_rfl) (by kernel_rfl) ?_)
  intro b1 w gw hs
  refine ⟨fun _ => trivial, ?_⟩
  refine wpS.take 1 false (some 4) (.bool false) (by kernel_rfl) (yld fun _ => by kernel_rfl) ?_
  refine wpS.fin rfl (kr _ _ ?_)
  refine then_n (ks1 _ _ ?_)
  refine wp_seq_k fun KS31 ks31 => ?_
  refine wp_seq_k fun KS32 ks32 => ?_
  refine wp_regS (l := [0]) (by kernel_rfl) fun KR kr => ?_
  refine wpS.take 0 false (some 5) (.int .i64 0) (by kernel_rfl) (yld fun _ => by kernel_rfl) ?_
  refine wpS.fin rfl (kr _ _ ?_)
  refine then_n (ks32 _ _ ?_)
  obtain ⟨t0, hy, hk0⟩ := of_bind h
  refine wp_exq (N := fun a w => t0 = .inl () ∧ St w0 [] [.blk b1 (enc .i32 a0) 23] [] w ∧ ∃ g : Nat → Value, a = ⟨#[.agg (enc .i32 a0).toArray, .int .i32 a1, .pointer (some ⟨b1, 0, none⟩), undef, (g 4), (g 5), (g 6), (g 7), (g 8), (g 9), (g 10), (g 11), (g 12), (g 13), (g 14), (g 15), (g 16), (g 17), (g 18), (g 19), (g 20)], []⟩) (fun N0 nn0 => ?_) ?_
  · refine wp_block ?_
    refine wp_loop_k (fun n a w => ∃ z2, ref25_Below.l0 K n a0 a1 z2 = some t0 ∧ St w0 [] [.blk b1 (enc .i32 a0) 23] [] w ∧ ∃ g : Nat → Value, a = ⟨#[.agg (enc .i32 a0).toArray, .int .i32 a1, .pointer (some ⟨b1, 0, none⟩), undef, (g 4), .int .i64 z2, (g 6), (g 7), (g 8), (g 9), (g 10), (g 11), (g 12), (g 13), (g 14), (g 15), (g 16), (g 17), (g 18), (g 19), (g 20)], []⟩) K ⟨0, hy, hs.conv rfl, exg (by kernel_rfl)⟩ ?_
    clear hs h hy
    rintro n a w ⟨z2, h, hs, g, rfl⟩ KL0 kl0
    cases n with
    | zero => exact nomatch (show none = some _ from h)
    | succ n =>
      refine wp_seq_k fun KS48 ks48 => ?_
      refine wp_seq_k fun KS49 ks49 => ?_
      refine wp_regS (l := [0, 1]) (by kernel_rfl) fun KR kr => ?_
      refine wpS.take 0 false (some 6) (.int .i64 z2) (by kernel_rfl) (yld fun _ => by kernel_rfl) ?_
      rcases of_if h with ⟨hc, h⟩ | ⟨hc, h⟩
      · refine wpS.take 1 false (some 7) (.bool true) (by kernel_rfl) (yld_b (dt hc) (fun _ => by kernel_rfl)) ?_
        refine wpS.fin rfl (kr _ _ ?_)
        refine then_n (ks49 _ _ ?_)
        refine wp_cond_t (by kernel_rfl) ?_
        refine wp_skip ?_
        refine then_n (ks48 _ _ ?_)
        refine wp_seq_k fun KS55 ks55 => ?_
        refine wp_block ?_
        refine wp_seq_k fun KS56 ks56 => ?_
        refine wp_regS (l := [0, 1, 2, 3, 4, 5, 6, 7, 8, 9, 10]) (by kernel_rfl) fun KR kr => ?_
        refine wpS.take 0 false (some 10) (.int .i64 z2) (by kernel_rfl) (yld fun _ => by kernel_rfl) ?_
        obtain ⟨i0_57, h⟩ := of_chk h
        obtain ⟨i1_57, h⟩ := of_chk h
        refine wpS.take 1 false (some 11) (.pointer (some ⟨b1, 0 + (z2 : Int).toNat * 1, none⟩)) (by kernel_rfl) (yld_idx (t := 23) (e := 21) (n := 256) (sz := 1) (k := .i64) (x := z2) (by kernel_rfl) (by kernel_rfl) (by kernel_rfl) i0_57 i1_57) ?_
        refine wpS.take 2 true (some 12) (.int .i32 (rd a0 z2)) (by kernel_rfl) (yld_loadA (e := 21) (x := z2) hs 0 rfl (by kernel_rfl) (by kernel_rfl) i0_57 i1_57 .grow) ?_
        rcases of_if h with ⟨hc, h⟩ | ⟨hc, h⟩
        · refine wpS.take 3 false (some 13) (.bool true) (by kernel_rfl) (yld_b (dt hc) (fun _ => by kernel_rfl)) ?_
          refine wpS.take 4 false (some 14) (.bool true) (by kernel_rfl) (yld fun _ => by kernel_rfl) ?_
          refine wpS.take 5 false (some 15) (undef) (by kernel_rfl) (yld fun _ => by kernel_rfl) ?_
          refine wpS.take 6 false (some 16) (undef) (by kernel_rfl) (yld fun _ => by kernel_rfl) ?_
          refine wpS.take 7 false (some 17) (undef) (by kernel_rfl) (yld fun _ => by kernel_rfl) ?_
          refine wpS.take 8 false (some 18) (undef) (by kernel_rfl) (yld fun _ => by kernel_rfl) ?_
          refine wpS.take 9 false (some 19) (undef) (by kernel_rfl) (yld fun _ => by kernel_rfl) ?_
          refine wpS.take 10 false (some 20) (.bool true) (by kernel_rfl) (yld fun _ => by kernel_rfl) ?_
          refine wpS.fin rfl (kr _ _ ?_)
          refine then_n (ks56 _ _ ?_)
          refine wp_cond_t (by kernel_rfl) ?_
          refine wp_seq_k fun KS58 ks58 => ?_
          refine wp_regS (l := [0]) (by kernel_rfl) fun KR kr => ?_
          refine wpS.take 0 false (some 4) (.bool false) (by kernel_rfl) (yld fun _ => by kernel_rfl) ?_
          refine wpS.fin rfl (kr _ _ ?_)
          refine then_n (ks58 _ _ ?_)
          refine wp_ret ?_
          refine inBlock_r ?_
          refine then_r ?_
          refine then_r ?_
          refine inBlock_r ?_
          refine exq_r ?_
          refine then_r ?_
          have q0 := of_some h
          subst q0
          have q0 := of_some hk0
          subst q0
          exact qq _ _ (post_ret (by kernel_rfl) (run_results [.tmp 4] [.bool false] (by kernel_rfl) (.cons (res_tmp (by kernel_rfl)) .nil)) ⟨congrArg Ending.returned (by kernel_rfl), hs.none⟩)
        · refine wpS.take 3 false (some 13) (.bool false) (by kernel_rfl) (yld_b (df hc) (fun _ => by kernel_rfl)) ?_
          refine wpS.take 4 false (some 14) (.bool false) (by kernel_rfl) (yld fun _ => by kernel_rfl) ?_
          refine wpS.take 5 false (some 15) (.int .i64 z2) (by kernel_rfl) (yld fun _ => by kernel_rfl) ?_
          obtain ⟨i0_59, h⟩ := of_chk h
          obtain ⟨i1_59, h⟩ := of_chk h
          refine wpS.take 6 false (some 16) (.pointer (some ⟨b1, 0 + (z2 : Int).toNat * 1, none⟩)) (by kernel_rfl) (yld_idx (t := 23) (e := 21) (n := 256) (sz := 1) (k := .i64) (x := z2) (by kernel_rfl) (by kernel_rfl) (by kernel_rfl) i0_59 i1_59) ?_
          refine wpS.take 7 true (some 17) (.int .i32 (rd a0 z2)) (by kernel_rfl) (yld_loadA (e := 21) (x := z2) hs 0 rfl (by kernel_rfl) (by kernel_rfl) i0_59 i1_59 .grow) ?_
          refine wpS.take 8 false (some 18) (.int .i32 a1) (by kernel_rfl) (yld fun _ => by kernel_rfl) ?_
          rcases of_if h with ⟨hc, h⟩ | ⟨hc, h⟩
          · refine wpS.take 9 false (some 19) (.bool true) (by kernel_rfl) (yld_b (dt hc) (fun _ => by kernel_rfl)) ?_
            refine wpS.take 10 false (some 20) (.bool true) (by kernel_rfl) (yld fun _ => by kernel_rfl) ?_
            refine wpS.fin rfl (kr _ _ ?_)
            refine then_n (ks56 _ _ ?_)
            refine wp_cond_t (by kernel_rfl) ?_
            refine wp_seq_k fun KS60 ks60 => ?_
            refine wp_regS (l := [0]) (by kernel_rfl) fun KR kr => ?_
            refine wpS.take 0 false (some 4) (.bool false) (by kernel_rfl) (yld fun _ => by kernel_rfl) ?_
            refine wpS.fin rfl (kr _ _ ?_)
            refine then_n (ks60 _ _ ?_)
            refine wp_ret ?_
            refine inBlock_r ?_
            refine then_r ?_
            refine then_r ?_
            refine inBlock_r ?_
            refine exq_r ?_
            refine then_r ?_
            have q0 := of_some h
            subst q0
            have q0 := of_some hk0
            subst q0
            exact qq _ _ (post_ret (by kernel_rfl) (run_results [.tmp 4] [.bool false] (by kernel_rfl) (.cons (res_tmp (by kernel_rfl)) .nil)) ⟨congrArg Ending.returned (by kernel_rfl), hs.none⟩)
          · refine wpS.take 9 false (some 19) (.bool false) (by kernel_rfl) (yld_b (df hc) (fun _ => by kernel_rfl)) ?_
            refine wpS.take 10 false (some 20) (.bool false) (by kernel_rfl) (yld fun _ => by kernel_rfl) ?_
            refine wpS.fin rfl (kr _ _ ?_)
            refine then_n (ks56 _ _ ?_)
            refine wp_cond_f (by kernel_rfl) ?_
            refine wp_skip ?_
            refine inBlock_n ?_
            refine then_n (ks55 _ _ ?_)
            refine wp_regS (l := [0, 1, 2]) (by kernel_rfl) fun KR kr => ?_
            refine wpS.take 0 false (some 8) (.int .i64 z2) (by kernel_rfl) (yld fun _ => by kernel_rfl) ?_
            refine wpS.take 1 false (some 9) (.int .i64 (iadd .i64 z2 1)) (by kernel_rfl) (yld fun _ => by kernel_rfl) ?_
            obtain ⟨x3, hx, h⟩ := of_bind h
            refine wpS.take 2 false (some 5) (.int .i64 x3) (by kernel_rfl) (yld_int hx (fun _ => by kernel_rfl)) ?_
            refine wpS.fin rfl (kr _ _ ?_)
            exact then_n (kl0 _ _ ⟨n, Nat.lt_succ_self n, x3, h, (hs.conv rfl), exg (by kernel_rfl)⟩)
      · refine wpS.take 1 false (some 7) (.bool false) (by kernel_rfl) (yld_b (df hc) (fun _ => by kernel_rfl)) ?_
        refine wpS.fin rfl (kr _ _ ?_)
        refine then_n (ks49 _ _ ?_)
        refine wp_cond_f (by kernel_rfl) ?_
        refine wp_exit ?_
        refine then_x ?_
        refine then_x ?_
        refine inBlock_hit ?_
        have q0 := of_some h
        subst q0
        exact exq_n (nn0 _ _ ⟨rfl, (hs.conv rfl), exg (by kernel_rfl)⟩)
  · clear hs h hy
    rintro a w ⟨rfl, hs, g, rfl⟩
    have h := hk0
    refine then_n (ks31 _ _ ?_)
    refine wp_seq_k fun KS61 ks61 => ?_
    refine wp_regS (l := [0]) (by kernel_rfl) fun KR kr => ?_
    refine wpS.take 0 false (some 4) (.bool true) (by kernel_rfl) (yld fun _ => by kernel_rfl) ?_
    refine wpS.fin rfl (kr _ _ ?_)
    refine then_n (ks61 _ _ ?_)
    refine wp_ret ?_
    have q0 := of_some h
    subst q0
    exact qq _ _ (post_ret (by kernel_rfl) (run_results [.tmp 4] [.bool true] (by kernel_rfl) (.cons (res_tmp (by kernel_rfl)) .nil)) ⟨congrArg Ending.returned (by kernel_rfl), hs.none⟩)

theorem ref25_Fit.ok {K : Nat} {a0 : Arr 256} {r0 : Bool} (h : ref25_Fit.f K a0 = some r0) (w0 : World) : Ret Try.prog 11 #[.agg (enc .i32 a0).toArray] w0 (.bool r0) := by
  refine calls_k Try.func11 rfl fun Q qq => ?_
  have hs := St.start w0
  refine wp_conv (a' := ⟨#[.agg (enc .i32 a0).toArray, undef, undef, undef, undef], []⟩) (by kernel_rfl) ?_
  refine wp_seq_k fun KS1 ks1 => ?_
  refine wp_regS (l := [0, 1]) (by kernel_rfl) fun KR kr => ?_
  refine wpS.only 0 (op_box (t := 23) (v := .agg (enc .i32 a0).toArray) (d := (some 1)) (by kernel_rfl) hs (enc .i32 a0) (by kernel_rfl) (by kernel_rfl) ?_)
  intro b1 w gw hs
  refine ⟨fun _ => trivial, ?_⟩
  refine wpS.take 1 false (some 2) (.bool false) (by kernel_rfl) (yld fun _ => by kernel_rfl) ?_
  refine wpS.fin rfl (kr _ _ ?_)
  refine then_n (ks1 _ _ ?_)
  refine wp_seq_k fun KS2 ks2 => ?_
  refine wp_regS (l := [0, 1, 2]) (by kernel_rfl) fun KR kr => ?_
  refine wpS.take 0 true (some 3) (.agg (enc .i32 a0).toArray) (by kernel_rfl) (yld_loadW (e := 23) (n := 256) hs 0 rfl (by kernel_rfl) (by kernel_rfl) (by kernel_rfl) (by exact enc_len _ _) .grow) ?_
  obtain ⟨r2, hg, h⟩ := of_bind h
  refine wpS.only 1 (op_call (d := (some 4)) (by kernel_rfl) hs (fun _ => by kernel_rfl) (ref25_Below.ok hg _) ?_)
  intro w gw hs
  refine ⟨fun _ => trivial, ?_⟩
  refine wpS.take 2 false (some 2) (.bool r2) (by kernel_rfl) (yld fun _ => by kernel_rfl) ?_
  refine wpS.fin rfl (kr _ _ ?_)
  refine then_n (ks2 _ _ ?_)
  refine wp_ret ?_
  have q0 := of_some h
  subst q0
  exact qq _ _ (post_ret (by kernel_rfl) (run_results [.tmp 2] [.bool r2] (by kernel_rfl) (.cons (res_tmp (by kernel_rfl)) .nil)) ⟨congrArg Ending.returned (by kernel_rfl), hs.none⟩)

theorem kq_Squeeze.ok {K : Nat} {a0 : Arr 256} {a1 : Int} {r0 : Arr 256} (h : kq_Squeeze.f K a0 a1 = some r0) (w0 : World) : Ret Try.prog 13 #[.agg (enc .i32 a0).toArray, .int .i64 a1] w0 (.agg (enc .i32 r0).toArray) := by
  refine calls_k Try.func13 rfl fun Q qq => ?_
  have hs := St.start w0
  refine wp_conv (a' := ⟨#[.agg (enc .i32 a0).toArray, .int .i64 a1, undef, undef, undef, undef, undef, undef, undef, undef, undef, undef, undef, undef, undef, undef, undef, undef, undef, undef, undef, undef, undef, undef, undef, undef, undef, undef, undef, undef, undef, undef], []⟩) (by kernel_rfl) ?_
  refine wp_seq_k fun KS1 ks1 => ?_
  refine wp_regS (l := [0, 1]) (by kernel_rfl) fun KR kr => ?_
  refine wpS.only 0 (op_box (t := 23) (v := .agg (enc .i32 a0).toArray) (d := (some 2)) (by kernel_rfl) hs (enc .i32 a0) (by kernel_rfl) (by kernel_rfl) ?_)
  intro b1 w gw hs
  refine ⟨fun _ => trivial, ?_⟩
  refine wpS.only 1 (op_alloc (t := 23) (d := (some 4)) (by kernel_rfl) hs (enc .i32 (zeroA 256)) (.agg (enc .i32 (zeroA 256)).toArray) (by kernel_rfl) (by kernel_rfl) (by kernel_rfl) ?_)
  intro b2 w gw hs
  refine ⟨fun _ => trivial, ?_⟩
  refine wpS.fin rfl (kr _ _ ?_)
  refine then_n (ks1 _ _ ?_)
  refine wp_seq_k fun KS5 ks5 => ?_
  refine wp_seq_k fun KS6 ks6 => ?_
  refine wp_regS (l := [0, 1, 2, 3, 4, 5]) (by kernel_rfl) fun KR kr => ?_
  refine wpS.take 0 false (some 7) (.int .i64 a1) (by kernel_rfl) (yld fun _ => by kernel_rfl) ?_
  rcases of_if h with ⟨hc, h⟩ | ⟨hc, h⟩
  · refine wpS.take 1 false (some 8) (.bool true) (by kernel_rfl) (yld_b (dt hc) (fun _ => by kernel_rfl)) ?_
    refine wpS.take 2 false (some 9) (.bool true) (by kernel_rfl) (yld fun _ => by kernel_rfl) ?_
    refine wpS.take 3 false (some 10) (undef) (by kernel_rfl) (yld fun _ => by kernel_rfl) ?_
    refine wpS.take 4 false (some 11) (undef) (by kernel_rfl) (yld fun _ => by kernel_rfl) ?_
    refine wpS.take 5 false (some 12) (.bool true) (by kernel_rfl) (yld fun _ => by kernel_rfl) ?_
    refine wpS.fin rfl (kr _ _ ?_)
    refine then_n (ks6 _ _ ?_)
    refine wp_cond_t (by kernel_rfl) ?_
    refine wp_seq_k fun KS7 ks7 => ?_
    refine wp_regS (l := [0, 1]) (by kernel_rfl) fun KR kr => ?_
    refine wpS.take 0 false (some 13) (.agg (enc .i32 (zeroA 256)).toArray) (by kernel_rfl) (yld fun _ => by kernel_rfl) ?_
    refine wpS.only 1 (op_storeW (t := 23) (v := .agg (enc .i32 (zeroA 256)).toArray) (d := none) (by kernel_rfl) hs 0 rfl (vs := enc .i32 (zeroA 256)) (n := 256) (by kernel_rfl) (by kernel_rfl) (by kernel_rfl) (by simp [enc_len]) (by simp [enc_len]) (by intro u hu; exact enc_one _ _ u hu) ?_)
    intro w kp hs
    refine ⟨fun _ => trivial, ?_⟩
    refine wpS.fin rfl (kr _ _ ?_)
    refine then_n (ks7 _ _ ?_)
    refine wp_ret ?_
    refine then_r ?_
    have q0 := of_some h
    subst q0
    exact qq _ _ (post_ret (by kernel_rfl) (run_results [.cell 4 23] [.agg (enc .i32 (zeroA 256)).toArray] (by kernel_rfl) (.cons (res_cellN (n := 256) hs 0 rfl (by kernel_rfl) (by kernel_rfl) (by kernel_rfl) (by exact enc_len _ _)) .nil)) ⟨congrArg Ending.returned (by kernel_rfl), hs.none⟩)
  · refine wpS.take 1 false (some 8) (.bool false) (by kernel_rfl) (yld_b (df hc) (fun _ => by kernel_rfl)) ?_
    refine wpS.take 2 false (some 9) (.bool false) (by kernel_rfl) (yld fun _ => by kernel_rfl) ?_
    refine wpS.take 3 false (some 10) (.int .i64 a1) (by kernel_rfl) (yld fun _ => by kernel_rfl) ?_
    rcases of_if h with ⟨hc, h⟩ | ⟨hc, h⟩
    · refine wpS.take 4 false (some 11) (.bool true) (by kernel_rfl) (yld_b (dt hc) (fun _ => by kernel_rfl)) ?_
      refine wpS.take 5 false (some 12) (.bool true) (by kernel_rfl) (yld fun _ => by kernel_rfl) ?_
      refine wpS.fin rfl (kr _ _ ?_)
      refine then_n (ks6 _ _ ?_)
      refine wp_cond_t (by kernel_rfl) ?_
      refine wp_seq_k fun KS8 ks8 => ?_
      refine wp_regS (l := [0, 1]) (by kernel_rfl) fun KR kr => ?_
      refine wpS.take 0 false (some 13) (.agg (enc .i32 (zeroA 256)).toArray) (by kernel_rfl) (yld fun _ => by kernel_rfl) ?_
      refine wpS.only 1 (op_storeW (t := 23) (v := .agg (enc .i32 (zeroA 256)).toArray) (d := none) (by kernel_rfl) hs 0 rfl (vs := enc .i32 (zeroA 256)) (n := 256) (by kernel_rfl) (by kernel_rfl) (by kernel_rfl) (by simp [enc_len]) (by simp [enc_len]) (by intro u hu; exact enc_one _ _ u hu) ?_)
      intro w kp hs
      refine ⟨fun _ => trivial, ?_⟩
      refine wpS.fin rfl (kr _ _ ?_)
      refine then_n (ks8 _ _ ?_)
      refine wp_ret ?_
      refine then_r ?_
      have q0 := of_some h
      subst q0
      exact qq _ _ (post_ret (by kernel_rfl) (run_results [.cell 4 23] [.agg (enc .i32 (zeroA 256)).toArray] (by kernel_rfl) (.cons (res_cellN (n := 256) hs 0 rfl (by kernel_rfl) (by kernel_rfl) (by kernel_rfl) (by exact enc_len _ _)) .nil)) ⟨congrArg Ending.returned (by kernel_rfl), hs.none⟩)
    · refine wpS.take 4 false (some 11) (.bool false) (by kernel_rfl) (yld_b (df hc) (fun _ => by kernel_rfl)) ?_
      refine wpS.take 5 false (some 12) (.bool false) (by kernel_rfl) (yld fun _ => by kernel_rfl) ?_
      refine wpS.fin rfl (kr _ _ ?_)
      refine then_n (ks6 _ _ ?_)
      refine wp_cond_f (by kernel_rfl) ?_
      refine wp_skip ?_
      refine then_n (ks5 _ _ ?_)
      refine wp_seq_k fun KS22 ks22 => ?_
      refine wp_seq_k fun KS23 ks23 => ?_
      refine wp_regS (l := [0, 1]) (by kernel_rfl) fun KR kr => ?_
      refine wpS.take 0 true (some 14) (.agg (enc .i32 a0).toArray) (by kernel_rfl) (yld_loadW (e := 23) (n := 256) hs 1 rfl (by kernel_rfl) (by kernel_rfl) (by kernel_rfl) (by exact enc_len _ _) .grow) ?_
      refine wpS.take 1 false (some 15) (.int .i64 0) (by kernel_rfl) (yld fun _ => by kernel_rfl) ?_
      refine wpS.fin rfl (kr _ _ ?_)
      refine then_n (ks23 _ _ ?_)
      obtain ⟨y5, hy, hk0⟩ := of_bind h
      refine wp_exq (N := fun a w => St w0 [] [.blk b2 (enc .i32 (zeroA 256)) 23, .blk b1 (enc .i32 y5) 23] [] w ∧ ∃ g : Nat → Value, a = ⟨#[.agg (enc .i32 a0).toArray, .int .i64 a1, .pointer (some ⟨b1, 0, none⟩), undef, .pointer (some ⟨b2, 0, none⟩), (g 5), (g 6), .int .i64 a1, .bool false, .bool false, .int .i64 a1, .bool false, .bool false, undef, .agg (enc .i32 a0).toArray, (g 15), (g 16), (g 17), (g 18), (g 19), (g 20), (g 21), (g 22), (g 23), (g 24), (g 25), (g 26), (g 27), (g 28), (g 29), (g 30), undef], []⟩) (fun N0 nn0 => ?_) ?_
      · clear hk0
        refine wp_block ?_
        refine wp_loop_k (fun n a w => ∃ z3 z4, kq_Squeeze.l0 K n a0 a1 z3 z4 = some y5 ∧ St w0 [] [.blk b2 (enc .i32 (zeroA 256)) 23, .blk b1 (enc .i32 z4) 23] [] w ∧ ∃ g : Nat → Value, a = ⟨#[.agg (enc .i32 a0).toArray, .int .i64 a1, .pointer (some ⟨b1, 0, none⟩), undef, .pointer (some ⟨b2, 0, none⟩), (g 5), (g 6), .int .i64 a1, .bool false, .bool false, .int .i64 a1, .bool false, .bool false, undef, .agg (enc .i32 a0).toArray, .int .i64 z3, (g 16), (g 17), (g 18), (g 19), (g 20), (g 21), (g 22), (g 23), (g 24), (g 25), (g 26), (g 27), (g 28), (g 29), (g 30), undef], []⟩) K ⟨0, a0, hy, hs.conv rfl, exg (by kernel_rfl)⟩ ?_
        clear hs h hy
        rintro n a w ⟨z3, z4, h, hs, g, rfl⟩ KL0 kl0
        cases n with
        | zero => exact nomatch (show none = some _ from h)
        | succ n =>
          refine wp_seq_k fun KS30 ks30 => ?_
          refine wp_regS (l := [0]) (by kernel_rfl) fun KR kr => ?_
          rcases of_if h with ⟨hc, h⟩ | ⟨hc, h⟩
          · refine wpS.take 0 false (some 16) (.bool true) (by kernel_rfl) (yld_b (dt hc) (fun _ => by kernel_rfl)) ?_
            refine wpS.fin rfl (kr _ _ ?_)
            refine then_n (ks30 _ _ ?_)
            refine wp_seq_k fun KS31 ks31 => ?_
            refine wp_cond_t (by kernel_rfl) ?_
            refine wp_skip ?_
            refine then_n (ks31 _ _ ?_)
            refine wp_seq_k fun KS32 ks32 => ?_
            refine wp_block ?_
            refine wp_seq_k fun KS33 ks33 => ?_
            refine wp_regS (l := [0, 1, 2, 3]) (by kernel_rfl) fun KR kr => ?_
            refine wpS.take 0 false (some 17) (.int .i64 z3) (by kernel_rfl) (yld fun _ => by kernel_rfl) ?_
            obtain ⟨h0, h⟩ := of_chk h
            obtain ⟨h1, h⟩ := of_chk h
            refine wpS.take 1 false (some 18) (.int .i32 (rd a0 z3)) (by kernel_rfl) (yld_at (t := 23) (e := 21) (k' := .i64) (by kernel_rfl) (by kernel_rfl) (by kernel_rfl) (by kernel_rfl) h0 h1) ?_
            refine wpS.take 2 false (some 5) (.int .i64 z3) (by kernel_rfl) (yld fun _ => by kernel_rfl) ?_
            obtain ⟨x6, hx, h⟩ := of_bind h
            refine wpS.take 3 false (some 6) (.int .i32 x6) (by kernel_rfl) (yld_int hx (fun _ => by kernel_rfl)) ?_
            refine wpS.fin rfl (kr _ _ ?_)
            refine then_n (ks33 _ _ ?_)
            refine wp_regG [11] (fun k => True) 12 (by kernel_rfl) (by kernel_rfl) fun KR kr => ?_
            have hs := hs.drawn1
            refine wpG.takeD 0 false (some 19) (.int .i64 z3) (by kernel_rfl) (by kernel_rfl) (yld fun _ => by kernel_rfl) ?_
            refine wpG.takeD 1 false (some 20) (.int .i32 x6) (by kernel_rfl) (by kernel_rfl) (yld fun _ => by kernel_rfl) ?_
            refine wpG.takeD 2 false (some 21) (.int .i64 a1) (by kernel_rfl) (by kernel_rfl) (yld fun _ => by kernel_rfl) ?_
            obtain ⟨h0, h⟩ := of_chk h
            refine wpG.takeD 3 false (some 22) (.int .i32 (ishl .i32 x6 a1)) (by kernel_rfl) (by kernel_rfl) (yld_shl (t := 21) (k' := .i64) (by kernel_rfl) h0) ?_
            refine wpG.takeD 4 false (some 23) (.int .i32 (iadd .i32 (ishl .i32 x6 a1) 1664)) (by kernel_rfl) (by kernel_rfl) (yld fun _ => by kernel_rfl) ?_
            refine wpG.takeD 5 false (some 24) (.int .i32 (iquo .i32 (iadd .i32 (ishl .i32 x6 a1) 1664) 3329)) (by kernel_rfl) (by kernel_rfl) (yld fun _ => by kernel_rfl) ?_
            refine wpG.takeD 6 false (some 25) (.int .i64 a1) (by kernel_rfl) (by kernel_rfl) (yld fun _ => by kernel_rfl) ?_
            obtain ⟨h0, h⟩ := of_chk h
            refine wpG.takeD 7 false (some 26) (.int .i32 (ishl .i32 1 a1)) (by kernel_rfl) (by kernel_rfl) (yld_shl (t := 21) (k' := .i64) (by kernel_rfl) h0) ?_
            refine wpG.takeD 8 false (some 27) (.int .i32 (isub .i32 (ishl .i32 1 a1) 1)) (by kernel_rfl) (by kernel_rfl) (yld fun _ => by kernel_rfl) ?_
            refine wpG.takeD 9 false (some 28) (.int .i32 (iand .i32 (iquo .i32 (iadd .i32 (ishl .i32 x6 a1) 1664) 3329) (isub .i32 (ishl .i32 1 a1) 1))) (by kernel_rfl) (by kernel_rfl) (yld fun _ => by kernel_rfl) ?_
            obtain ⟨i0_34, h⟩ := of_chk h
            obtain ⟨i1_34, h⟩ := of_chk h
            refine wpG.takeD 10 false (some 29) (.pointer (some ⟨b1, 0 + (z3 : Int).toNat * 1, none⟩)) (by kernel_rfl) (by kernel_rfl) (yld_idx (t := 23) (e := 21) (n := 256) (sz := 1) (k := .i64) (x := z3) (by kernel_rfl) (by kernel_rfl) (by kernel_rfl) i0_34 i1_34) ?_
            obtain ⟨x7, hx, h⟩ := of_bind h
            refine wpG.only 11 (by kernel_rfl) (op_storeA (t := 21) (x := z3) (v := x7) (d := none) (by kernel_rfl) hs 1 rfl (by cases hx; kernel_rfl) (by kernel_rfl) i0_34 i1_34 ?_)
            intro w kp hs
            refine ⟨⟨fun hf => absurd hf (by decide), .all _ _⟩, ?_⟩
            refine wpG.fin (by kernel_rfl) rfl (kr _ _ ?_)
            refine inBlock_n ?_
            refine then_n (ks32 _ _ ?_)
            refine wp_regS (l := [0, 1]) (by kernel_rfl) fun KR kr => ?_
            refine wpS.take 0 false (some 30) (.int .i64 (iadd .i64 z3 1)) (by kernel_rfl) (yld fun _ => by kernel_rfl) ?_
            refine wpS.take 1 false (some 15) (.int .i64 (iadd .i64 z3 1)) (by kernel_rfl) (yld fun _ => by kernel_rfl) ?_
            refine wpS.fin rfl (kr _ _ ?_)
            exact then_n (kl0 _ _ ⟨n, Nat.lt_succ_self n, (iadd .i64 z3 1), (wr z4 z3 x7), h, (hs.conv rfl), exg (by kernel_rfl)⟩)
          · refine wpS.take 0 false (some 16) (.bool false) (by kernel_rfl) (yld_b (df hc) (fun _ => by kernel_rfl)) ?_
            refine wpS.fin rfl (kr _ _ ?_)
            refine then_n (ks30 _ _ ?_)
            refine wp_seq_k fun KS35 ks35 => ?_
            refine wp_cond_f (by kernel_rfl) ?_
            refine wp_exit ?_
            refine then_x ?_
            refine then_x ?_
            refine inBlock_hit ?_
            have q0 := of_some h
            subst q0
            exact exq_n (nn0 _ _ ⟨(hs.conv rfl), exg (by kernel_rfl)⟩)
      · clear hs h hy
        rintro a w ⟨hs, g, rfl⟩
        have h := hk0
        refine then_n (ks22 _ _ ?_)
        refine wp_seq_k fun KS36 ks36 => ?_
        refine wp_regS (l := [0, 1]) (by kernel_rfl) fun KR kr => ?_
        refine wpS.take 0 true (some 31) (.agg (enc .i32 y5).toArray) (by kernel_rfl) (yld_loadW (e := 23) (n := 256) hs 1 rfl (by kernel_rfl) (by kernel_rfl) (by kernel_rfl) (by exact enc_len _ _) .grow) ?_
        refine wpS.only 1 (op_storeW (t := 23) (v := .agg (enc .i32 y5).toArray) (d := none) (by kernel_rfl) hs 0 rfl (vs := enc .i32 y5) (n := 256) (by kernel_rfl) (by kernel_rfl) (by kernel_rfl) (by simp [enc_len]) (by simp [enc_len]) (by intro u hu; exact enc_one _ _ u hu) ?_)
        intro w kp hs
        refine ⟨fun _ => trivial, ?_⟩
        refine wpS.fin rfl (kr _ _ ?_)
        refine then_n (ks36 _ _ ?_)
        refine wp_ret ?_
        have q0 := of_some h
        subst q0
        exact qq _ _ (post_ret (by kernel_rfl) (run_results [.cell 4 23] [.agg (enc .i32 y5).toArray] (by kernel_rfl) (.cons (res_cellN (n := 256) hs 0 rfl (by kernel_rfl) (by kernel_rfl) (by kernel_rfl) (by exact enc_len _ _)) .nil)) ⟨congrArg Ending.returned (by kernel_rfl), hs.none⟩)

theorem kq_below.ok {K : Nat} {a0 : Arr 256} {a1 : Int} {r0 : Bool} (h : kq_below.f K a0 a1 = some r0) (w0 : World) : Ret Try.prog 61 #[.agg (enc .i32 a0).toArray, .int .i32 a1] w0 (.bool r0) := by
  refine calls_k Try.func61 rfl fun Q qq => ?_
  have hs := St.start w0
  refine wp_conv (a' := ⟨#[.agg (enc .i32 a0).toArray, .int .i32 a1, undef, undef, undef, undef, undef, undef, undef, undef, undef, undef, undef, undef, undef, undef, undef, undef, undef], []⟩) (by kernel_rfl) ?_
  refine wp_seq_k fun KS1 ks1 => ?_
  refine wp_regS (l := [0, 1]) (by kernel_rfl) fun KR kr => ?_
  refine wpS.only 0 (op_box (t := 23) (v := .agg (enc .i32 a0).toArray) (d := (some 2)) (by kernel_rfl) hs (enc .i32 a0) (by kernel_rfl) (by kernel_rfl) ?_)
  intro b1 w gw hs
  refine ⟨fun _ => trivial, ?_⟩
  refine wpS.take 1 false (some 4) (.bool false) (by kernel_rfl) (yld fun _ => by kernel_rfl) ?_
  refine wpS.fin rfl (kr _ _ ?_)
  refine then_n (ks1 _ _ ?_)
  refine wp_seq_k fun KS27 ks27 => ?_
  refine wp_seq_k fun KS28 ks28 => ?_
  refine wp_regS (l := [0, 1]) (by kernel_rfl) fun KR kr => ?_
  refine wpS.take 0 true (some 7) (.agg (enc .i32 a0).toArray) (by kernel_rfl) (yld_loadW (e := 23) (n := 256) hs 0 rfl (by kernel_rfl) (by kernel_rfl) (by kernel_rfl) (by exact enc_len _ _) .grow) ?_
  refine wpS.take 1 false (some 8) (.int .i64 0) (by kernel_rfl) (yld fun _ => by kernel_rfl) ?_
  refine wpS.fin rfl (kr _ _ ?_)
  refine then_n (ks28 _ _ ?_)
  obtain ⟨t0, hy, hk0⟩ := of_bind h
  refine wp_exq (N := fun a w => t0 = .inl () ∧ St w0 [] [.blk b1 (enc .i32 a0) 23] [] w ∧ ∃ g : Nat → Value, a = ⟨#[.agg (enc .i32 a0).toArray, .int .i32 a1, .pointer (some ⟨b1, 0, none⟩), undef, (g 4), undef, (g 6), .agg (enc .i32 a0).toArray, (g 8), (g 9), (g 10), (g 11), (g 12), (g 13), (g 14), (g 15), (g 16), (g 17), (g 18)], []⟩) (fun N0 nn0 => ?_) ?_
  · refine wp_block ?_
    refine wp_loop_k (fun n a w => ∃ z2, kq_below.l0 K n a0 a1 z2 = some t0 ∧ St w0 [] [.blk b1 (enc .i32 a0) 23] [] w ∧ ∃ g : Nat → Value, a = ⟨#[.agg (enc .i32 a0).toArray, .int .i32 a1, .pointer (some ⟨b1, 0, none⟩), undef, (g 4), undef, (g 6), .agg (enc .i32 a0).toArray, .int .i64 z2, (g 9), (g 10), (g 11), (g 12), (g 13), (g 14), (g 15), (g 16), (g 17), (g 18)], []⟩) K ⟨0, hy, hs.conv rfl, exg (by kernel_rfl)⟩ ?_
    clear hs h hy
    rintro n a w ⟨z2, h, hs, g, rfl⟩ KL0 kl0
    cases n with
    | zero => exact nomatch (show none = some _ from h)
    | succ n =>
      refine wp_seq_k fun KS41 ks41 => ?_
      refine wp_regS (l := [0]) (by kernel_rfl) fun KR kr => ?_
      rcases of_if h with ⟨hc, h⟩ | ⟨hc, h⟩
      · refine wpS.take 0 false (some 9) (.bool true) (by kernel_rfl) (yld_b (dt hc) (fun _ => by kernel_rfl)) ?_
        refine wpS.fin rfl (kr _ _ ?_)
        refine then_n (ks41 _ _ ?_)
        refine wp_seq_k fun KS42 ks42 => ?_
        refine wp_cond_t (by kernel_rfl) ?_
        refine wp_skip ?_
        refine then_n (ks42 _ _ ?_)
        refine wp_seq_k fun KS47 ks47 => ?_
        refine wp_block ?_
        refine wp_seq_k fun KS48 ks48 => ?_
        refine wp_regS (l := [0, 1]) (by kernel_rfl) fun KR kr => ?_
        obtain ⟨h0, h⟩ := of_chk h
        obtain ⟨h1, h⟩ := of_chk h
        refine wpS.take 0 false (some 10) (.int .i32 (rd a0 z2)) (by kernel_rfl) (yld_at (t := 23) (e := 21) (k' := .i64) (by kernel_rfl) (by kernel_rfl) (by kernel_rfl) (by kernel_rfl) h0 h1) ?_
        obtain ⟨x3, hx, h⟩ := of_bind h
        refine wpS.take 1 false (some 6) (.int .i32 x3) (by kernel_rfl) (yld_int hx (fun _ => by kernel_rfl)) ?_
        refine wpS.fin rfl (kr _ _ ?_)
        refine then_n (ks48 _ _ ?_)
        refine wp_seq_k fun KS49 ks49 => ?_
        refine wp_regS (l := [0, 1, 2, 3, 4, 5, 6]) (by kernel_rfl) fun KR kr => ?_
        refine wpS.take 0 false (some 11) (.int .i32 x3) (by kernel_rfl) (yld fun _ => by kernel_rfl) ?_
        rcases of_if h with ⟨hc, h⟩ | ⟨hc, h⟩
        · refine wpS.take 1 false (some 12) (.bool true) (by kernel_rfl) (yld_b (dt hc) (fun _ => by kernel_rfl)) ?_
          refine wpS.take 2 false (some 13) (.bool true) (by kernel_rfl) (yld fun _ => by kernel_rfl) ?_
          refine wpS.take 3 false (some 14) (undef) (by kernel_rfl) (yld fun _ => by kernel_rfl) ?_
          refine wpS.take 4 false (some 15) (undef) (by kernel_rfl) (yld fun _ => by kernel_rfl) ?_
          refine wpS.take 5 false (some 16) (undef) (by kernel_rfl) (yld fun _ => by kernel_rfl) ?_
          refine wpS.take 6 false (some 17) (.bool true) (by kernel_rfl) (yld fun _ => by kernel_rfl) ?_
          refine wpS.fin rfl (kr _ _ ?_)
          refine then_n (ks49 _ _ ?_)
          refine wp_cond_t (by kernel_rfl) ?_
          refine wp_seq_k fun KS50 ks50 => ?_
          refine wp_regS (l := [0]) (by kernel_rfl) fun KR kr => ?_
          refine wpS.take 0 false (some 4) (.bool false) (by kernel_rfl) (yld fun _ => by kernel_rfl) ?_
          refine wpS.fin rfl (kr _ _ ?_)
          refine then_n (ks50 _ _ ?_)
          refine wp_ret ?_
          refine inBlock_r ?_
          refine then_r ?_
          refine then_r ?_
          refine inBlock_r ?_
          refine exq_r ?_
          refine then_r ?_
          have q0 := of_some h
          subst q0
          have q0 := of_some hk0
          subst q0
          exact qq _ _ (post_ret (by kernel_rfl) (run_results [.tmp 4] [.bool false] (by kernel_rfl) (.cons (res_tmp (by kernel_rfl)) .nil)) ⟨congrArg Ending.returned (by kernel_rfl), hs.none⟩)
        · refine wpS.take 1 false (some 12) (.bool false) (by kernel_rfl) (yld_b (df hc) (fun _ => by kernel_rfl)) ?_
          refine wpS.take 2 false (some 13) (.bool false) (by kernel_rfl) (yld fun _ => by kernel_rfl) ?_
          refine wpS.take 3 false (some 14) (.int .i32 x3) (by kernel_rfl) (yld fun _ => by kernel_rfl) ?_
          refine wpS.take 4 false (some 15) (.int .i32 a1) (by kernel_rfl) (yld fun _ => by kernel_rfl) ?_
          rcases of_if h with ⟨hc, h⟩ | ⟨hc, h⟩
          · refine wpS.take 5 false (some 16) (.bool true) (by kernel_rfl) (yld_b (dt hc) (fun _ => by kernel_rfl)) ?_
            refine wpS.take 6 false (some 17) (.bool true) (by kernel_rfl) (yld fun _ => by kernel_rfl) ?_
            refine wpS.fin rfl (kr _ _ ?_)
            refine then_n (ks49 _ _ ?_)
            refine wp_cond_t (by kernel_rfl) ?_
            refine wp_seq_k fun KS51 ks51 => ?_
            refine wp_regS (l := [0]) (by kernel_rfl) fun KR kr => ?_
            refine wpS.take 0 false (some 4) (.bool false) (by kernel_rfl) (yld fun _ => by kernel_rfl) ?_
            refine wpS.fin rfl (kr _ _ ?_)
            refine then_n (ks51 _ _ ?_)
            refine wp_ret ?_
            refine inBlock_r ?_
            refine then_r ?_
            refine then_r ?_
            refine inBlock_r ?_
            refine exq_r ?_
            refine then_r ?_
            have q0 := of_some h
            subst q0
            have q0 := of_some hk0
            subst q0
            exact qq _ _ (post_ret (by kernel_rfl) (run_results [.tmp 4] [.bool false] (by kernel_rfl) (.cons (res_tmp (by kernel_rfl)) .nil)) ⟨congrArg Ending.returned (by kernel_rfl), hs.none⟩)
          · refine wpS.take 5 false (some 16) (.bool false) (by kernel_rfl) (yld_b (df hc) (fun _ => by kernel_rfl)) ?_
            refine wpS.take 6 false (some 17) (.bool false) (by kernel_rfl) (yld fun _ => by kernel_rfl) ?_
            refine wpS.fin rfl (kr _ _ ?_)
            refine then_n (ks49 _ _ ?_)
            refine wp_cond_f (by kernel_rfl) ?_
            refine wp_skip ?_
            refine inBlock_n ?_
            refine then_n (ks47 _ _ ?_)
            refine wp_regS (l := [0, 1]) (by kernel_rfl) fun KR kr => ?_
            refine wpS.take 0 false (some 18) (.int .i64 (iadd .i64 z2 1)) (by kernel_rfl) (yld fun _ => by kernel_rfl) ?_
            refine wpS.take 1 false (some 8) (.int .i64 (iadd .i64 z2 1)) (by kernel_rfl) (yld fun _ => by kernel_rfl) ?_
            refine wpS.fin rfl (kr _ _ ?_)
            exact then_n (kl0 _ _ ⟨n, Nat.lt_succ_self n, (iadd .i64 z2 1), h, (hs.conv rfl), exg (by kernel_rfl)⟩)
      · refine wpS.take 0 false (some 9) (.bool false) (by kernel_rfl) (yld_b (df hc) (fun _ => by kernel_rfl)) ?_
        refine wpS.fin rfl (kr _ _ ?_)
        refine then_n (ks41 _ _ ?_)
        refine wp_seq_k fun KS52 ks52 => ?_
        refine wp_cond_f (by kernel_rfl) ?_
        refine wp_exit ?_
        refine then_x ?_
        refine then_x ?_
        refine inBlock_hit ?_
        have q0 := of_some h
        subst q0
        exact exq_n (nn0 _ _ ⟨rfl, (hs.conv rfl), exg (by kernel_rfl)⟩)
  · clear hs h hy
    rintro a w ⟨rfl, hs, g, rfl⟩
    have h := hk0
    refine then_n (ks27 _ _ ?_)
    refine wp_seq_k fun KS53 ks53 => ?_
    refine wp_regS (l := [0]) (by kernel_rfl) fun KR kr => ?_
    refine wpS.take 0 false (some 4) (.bool true) (by kernel_rfl) (yld fun _ => by kernel_rfl) ?_
    refine wpS.fin rfl (kr _ _ ?_)
    refine then_n (ks53 _ _ ?_)
    refine wp_ret ?_
    have q0 := of_some h
    subst q0
    exact qq _ _ (post_ret (by kernel_rfl) (run_results [.tmp 4] [.bool true] (by kernel_rfl) (.cons (res_tmp (by kernel_rfl)) .nil)) ⟨congrArg Ending.returned (by kernel_rfl), hs.none⟩)

theorem bits_such.ok {K : Nat} {a0 : List Int} {a1 : Int} {a2 : Int} {r0 : Bool} {a0_A : Option Addr} {a0_n : Nat} {a0_c : Nat} (h : bits_such.f K a0 a1 a2 = some r0) (w0 : World) (hp0 : RowL (CI .u8) w0 a0_A a0_n a0_c a0) : Ret Try.prog 81 #[.slice a0_A a0_n a0_c, .int .i64 a1, .int .i64 a2] w0 (.bool r0) := by
  refine calls_k Try.func81 rfl fun Q qq => ?_
  have hs := St.startR (all_cons (RowP.ent hp0) all_nil)
  refine wp_conv (a' := ⟨#[.slice a0_A a0_n a0_c, .int .i64 a1, .int .i64 a2, undef, undef, undef, undef, undef, undef, undef, undef, undef, undef, undef, undef, undef, undef, undef, undef, undef, undef, undef, undef, undef, undef, undef], []⟩) (by kernel_rfl) ?_
  refine wp_seq_k fun KS1 ks1 => ?_
  refine wp_regS (l := [0]) (by kernel_rfl) fun KR kr => ?_
  refine wpS.take 0 false (some 6) (.bool false) (by kernel_rfl) (yld fun _ => by kernel_rfl) ?_
  refine wpS.fin rfl (kr _ _ ?_)
  refine then_n (ks1 _ _ ?_)
  refine wp_seq_k fun KS2 ks2 => ?_
  refine wp_regS (l := [0, 1, 2, 3, 4, 5, 6, 7, 8, 9, 10, 11, 12, 13, 14, 15, 16, 17, 18, 19]) (by kernel_rfl) fun KR kr => ?_
  refine wpS.take 0 false (some 7) (.int .i64 a1) (by kernel_rfl) (yld fun _ => by kernel_rfl) ?_
  rcases of_if h with ⟨hc, h⟩ | ⟨hc, h⟩
  · refine wpS.take 1 false (some 8) (.bool true) (by kernel_rfl) (yld_b (dt hc) (fun _ => by kernel_rfl)) ?_
    refine wpS.take 2 false (some 9) (.bool true) (by kernel_rfl) (yld fun _ => by kernel_rfl) ?_
    refine wpS.take 3 false (some 10) (.int .i64 a1) (by kernel_rfl) (yld fun _ => by kernel_rfl) ?_
    rcases of_if h with ⟨hc, h⟩ | ⟨hc, h⟩
    · refine wpS.take 4 false (some 11) (.bool true) (by kernel_rfl) (yld_b (dt hc) (fun _ => by kernel_rfl)) ?_
      refine wpS.take 5 false (some 12) (.bool true) (by kernel_rfl) (yld fun _ => by kernel_rfl) ?_
      refine wpS.take 6 false (some 13) (.bool true) (by kernel_rfl) (yld fun _ => by kernel_rfl) ?_
      refine wpS.take 7 false (some 14) (.int .i64 a2) (by kernel_rfl) (yld fun _ => by kernel_rfl) ?_
      rcases of_if h with ⟨hc, h⟩ | ⟨hc, h⟩
      · refine wpS.take 8 false (some 15) (.bool true) (by kernel_rfl) (yld_b (dt hc) (fun _ => by kernel_rfl)) ?_
        refine wpS.take 9 false (some 16) (.bool true) (by kernel_rfl) (yld fun _ => by kernel_rfl) ?_
        refine wpS.take 10 false (some 17) (.bool true) (by kernel_rfl) (yld fun _ => by kernel_rfl) ?_
        refine wpS.take 11 false (some 18) (.int .i64 a2) (by kernel_rfl) (yld fun _ => by kernel_rfl) ?_
        refine wpS.take 12 false (some 19) (.slice a0_A a0_n a0_c) (by kernel_rfl) (yld fun _ => by kernel_rfl) ?_
        refine wpS.take 13 false (some 20) (.int .i64 (a0.length : Int)) (by kernel_rfl) (yld_lenL (hs.rowR 0 rfl) (fun _ => by kernel_rfl)) ?_
        refine wpS.take 14 false (some 21) (.int .i64 (imul .i64 (a0.length : Int) 8)) (by kernel_rfl) (yld fun _ => by kernel_rfl) ?_
        refine wpS.take 15 false (some 22) (.int .i64 a1) (by kernel_rfl) (yld fun _ => by kernel_rfl) ?_
        obtain ⟨h0, h⟩ := of_chk h
        refine wpS.take 16 false (some 23) (.int .i64 (iquo .i64 (imul .i64 (a0.length : Int) 8) a1)) (by kernel_rfl) (yld_quo (t := 3) (by kernel_rfl) h0) ?_
        refine wpS.take 17 false (some 24) (.bool (decide (a2 ≤ (iquo .i64 (imul .i64 (a0.length : Int) 8) a1)))) (by kernel_rfl) (yld fun _ => by kernel_rfl) ?_
        refine wpS.take 18 false (some 25) (.bool (decide (a2 ≤ (iquo .i64 (imul .i64 (a0.length : Int) 8) a1)))) (by kernel_rfl) (yld fun _ => by kernel_rfl) ?_
        refine wpS.take 19 false (some 6) (.bool (decide (a2 ≤ (iquo .i64 (imul .i64 (a0.length : Int) 8) a1)))) (by kernel_rfl) (yld fun _ => by kernel_rfl) ?_
        refine wpS.fin rfl (kr _ _ ?_)
        refine then_n (ks2 _ _ ?_)
        refine wp_ret ?_
        have q0 := of_some h
        subst q0
        exact qq _ _ (post_ret (by kernel_rfl) (run_results [.tmp 6] [.bool (decide (a2 ≤ (iquo .i64 (imul .i64 (a0.length : Int) 8) a1)))] (by kernel_rfl) (.cons (res_tmp (by kernel_rfl)) .nil)) ⟨congrArg Ending.returned (by kernel_rfl), hs.none⟩)
      · refine wpS.take 8 false (some 15) (.bool false) (by kernel_rfl) (yld_b (df hc) (fun _ => by kernel_rfl)) ?_
        refine wpS.take 9 false (some 16) (.bool false) (by kernel_rfl) (yld fun _ => by kernel_rfl) ?_
        refine wpS.take 10 false (some 17) (.bool false) (by kernel_rfl) (yld fun _ => by kernel_rfl) ?_
        refine wpS.take 11 false (some 18) (undef) (by kernel_rfl) (yld fun _ => by kernel_rfl) ?_
        refine wpS.take 12 false (some 19) (undef) (by kernel_rfl) (yld fun _ => by kernel_rfl) ?_
        refine wpS.take 13 false (some 20) (undef) (by kernel_rfl) (yld fun _ => by kernel_rfl) ?_
        refine wpS.take 14 false (some 21) (undef) (by kernel_rfl) (yld fun _ => by kernel_rfl) ?_
        refine wpS.take 15 false (some 22) (undef) (by kernel_rfl) (yld fun _ => by kernel_rfl) ?_
        refine wpS.take 16 false (some 23) (undef) (by kernel_rfl) (yld fun _ => by kernel_rfl) ?_
        refine wpS.take 17 false (some 24) (undef) (by kernel_rfl) (yld fun _ => by kernel_rfl) ?_
        refine wpS.take 18 false (some 25) (.bool false) (by kernel_rfl) (yld fun _ => by kernel_rfl) ?_
        refine wpS.take 19 false (some 6) (.bool false) (by kernel_rfl) (yld fun _ => by kernel_rfl) ?_
        refine wpS.fin rfl (kr _ _ ?_)
        refine then_n (ks2 _ _ ?_)
        refine wp_ret ?_
        have q0 := of_some h
        subst q0
        exact qq _ _ (post_ret (by kernel_rfl) (run_results [.tmp 6] [.bool false] (by kernel_rfl) (.cons (res_tmp (by kernel_rfl)) .nil)) ⟨congrArg Ending.returned (by kernel_rfl), hs.none⟩)
    · refine wpS.take 4 false (some 11) (.bool false) (by kernel_rfl) (yld_b (df hc) (fun _ => by kernel_rfl)) ?_
      refine wpS.take 5 false (some 12) (.bool false) (by kernel_rfl) (yld fun _ => by kernel_rfl) ?_
      refine wpS.take 6 false (some 13) (.bool false) (by kernel_rfl) (yld fun _ => by kernel_rfl) ?_
      refine wpS.take 7 false (some 14) (undef) (by kernel_rfl) (yld fun _ => by kernel_rfl) ?_
      refine wpS.take 8 false (some 15) (undef) (by kernel_rfl) (yld fun _ => by kernel_rfl) ?_
      refine wpS.take 9 false (some 16) (.bool false) (by kernel_rfl) (yld fun _ => by kernel_rfl) ?_
      refine wpS.take 10 false (some 17) (.bool false) (by kernel_rfl) (yld fun _ => by kernel_rfl) ?_
      refine wpS.take 11 false (some 18) (undef) (by kernel_rfl) (yld fun _ => by kernel_rfl) ?_
      refine wpS.take 12 false (some 19) (undef) (by kernel_rfl) (yld fun _ => by kernel_rfl) ?_
      refine wpS.take 13 false (some 20) (undef) (by kernel_rfl) (yld fun _ => by kernel_rfl) ?_
      refine wpS.take 14 false (some 21) (undef) (by kernel_rfl) (yld fun _ => by kernel_rfl) ?_
      refine wpS.take 15 false (some 22) (undef) (by kernel_rfl) (yld fun _ => by kernel_rfl) ?_
      refine wpS.take 16 false (some 23) (undef) (by kernel_rfl) (yld fun _ => by kernel_rfl) ?_
      refine wpS.take 17 false (some 24) (undef) (by kernel_rfl) (yld fun _ => by kernel_rfl) ?_
      refine wpS.take 18 false (some 25) (.bool false) (by kernel_rfl) (yld fun _ => by kernel_rfl) ?_
      refine wpS.take 19 false (some 6) (.bool false) (by kernel_rfl) (yld fun _ => by kernel_rfl) ?_
      refine wpS.fin rfl (kr _ _ ?_)
      refine then_n (ks2 _ _ ?_)
      refine wp_ret ?_
      have q0 := of_some h
      subst q0
      exact qq _ _ (post_ret (by kernel_rfl) (run_results [.tmp 6] [.bool false] (by kernel_rfl) (.cons (res_tmp (by kernel_rfl)) .nil)) ⟨congrArg Ending.returned (by kernel_rfl), hs.none⟩)
  · refine wpS.take 1 false (some 8) (.bool false) (by kernel_rfl) (yld_b (df hc) (fun _ => by kernel_rfl)) ?_
    refine wpS.take 2 false (some 9) (.bool false) (by kernel_rfl) (yld fun _ => by kernel_rfl) ?_
    refine wpS.take 3 false (some 10) (undef) (by kernel_rfl) (yld fun _ => by kernel_rfl) ?_
    refine wpS.take 4 false (some 11) (undef) (by kernel_rfl) (yld fun _ => by kernel_rfl) ?_
    refine wpS.take 5 false (some 12) (.bool false) (by kernel_rfl) (yld fun _ => by kernel_rfl) ?_
    refine wpS.take 6 false (some 13) (.bool false) (by kernel_rfl) (yld fun _ => by kernel_rfl) ?_
    refine wpS.take 7 false (some 14) (undef) (by kernel_rfl) (yld fun _ => by kernel_rfl) ?_
    refine wpS.take 8 false (some 15) (undef) (by kernel_rfl) (yld fun _ => by kernel_rfl) ?_
    refine wpS.take 9 false (some 16) (.bool false) (by kernel_rfl) (yld fun _ => by kernel_rfl) ?_
    refine wpS.take 10 false (some 17) (.bool false) (by kernel_rfl) (yld fun _ => by kernel_rfl) ?_
    refine wpS.take 11 false (some 18) (undef) (by kernel_rfl) (yld fun _ => by kernel_rfl) ?_
    refine wpS.take 12 false (some 19) (undef) (by kernel_rfl) (yld fun _ => by kernel_rfl) ?_
    refine wpS.take 13 false (some 20) (undef) (by kernel_rfl) (yld fun _ => by kernel_rfl) ?_
    refine wpS.take 14 false (some 21) (undef) (by kernel_rfl) (yld fun _ => by kernel_rfl) ?_
    refine wpS.take 15 false (some 22) (undef) (by kernel_rfl) (yld fun _ => by kernel_rfl) ?_
    refine wpS.take 16 false (some 23) (undef) (by kernel_rfl) (yld fun _ => by kernel_rfl) ?_
    refine wpS.take 17 false (some 24) (undef) (by kernel_rfl) (yld fun _ => by kernel_rfl) ?_
    refine wpS.take 18 false (some 25) (.bool false) (by kernel_rfl) (yld fun _ => by kernel_rfl) ?_
    refine wpS.take 19 false (some 6) (.bool false) (by kernel_rfl) (yld fun _ => by kernel_rfl) ?_
    refine wpS.fin rfl (kr _ _ ?_)
    refine then_n (ks2 _ _ ?_)
    refine wp_ret ?_
    have q0 := of_some h
    subst q0
    exact qq _ _ (post_ret (by kernel_rfl) (run_results [.tmp 6] [.bool false] (by kernel_rfl) (.cons (res_tmp (by kernel_rfl)) .nil)) ⟨congrArg Ending.returned (by kernel_rfl), hs.none⟩)

theorem bits_Unpack.ok {K : Nat} {a0 : List Int} {a1 : Int} {a2 : Int} {r0 : List Int} {a0_A : Option Addr} {a0_n : Nat} {a0_c : Nat} (h : bits_Unpack.f K a0 a1 a2 = some r0) (w0 : World) (hp0 : RowL (CI .u8) w0 a0_A a0_n a0_c a0) : Calls Try.prog 70 #[.slice a0_A a0_n a0_c, .int .i64 a1, .int .i64 a2] w0 fun e w' => ∃ h : (Option Addr × Nat × Nat), e = .returned (.slice h.1 h.2.1 h.2.2) ∧ St w0 [] [.ownL (CI .u32) h.1 h.2.1 h.2.2 r0 58] [] w' := by
  refine calls_k Try.func70 rfl fun Q qq => ?_
  have hs := St.startR (all_cons (RowP.ent hp0) all_nil)
  refine wp_conv (a' := ⟨#[.slice a0_A a0_n a0_c, .int .i64 a1, .int .i64 a2, undef, undef, undef, undef, undef, undef, undef, undef, undef, undef, undef, undef, undef, undef, undef, undef, undef, undef, undef, undef, undef, undef, undef, undef, undef, undef, undef, undef, undef, undef, undef, undef, undef, undef, undef, undef, undef, undef, undef, undef, undef, undef, undef, undef, undef, undef, undef, undef, undef, undef, undef, undef], []⟩) (by kernel_rfl) ?_
  refine wp_seq_k fun KS1 ks1 => ?_
  refine wp_regS (l := [0]) (by kernel_rfl) fun KR kr => ?_
  refine wpS.take 0 false (some 6) (.slice none 0 0) (by kernel_rfl) (yld fun _ => by kernel_rfl) ?_
  refine wpS.fin rfl (kr _ _ ?_)
  refine then_n (ks1 _ _ ?_)
  refine wp_seq_k fun KS4 ks4 => ?_
  refine wp_seq_k fun KS5 ks5 => ?_
  refine wp_regS (l := [0, 1, 2, 3, 4]) (by kernel_rfl) fun KR kr => ?_
  refine wpS.take 0 false (some 11) (.slice a0_A a0_n a0_c) (by kernel_rfl) (yld fun _ => by kernel_rfl) ?_
  refine wpS.take 1 false (some 12) (.int .i64 a1) (by kernel_rfl) (yld fun _ => by kernel_rfl) ?_
  refine wpS.take 2 false (some 13) (.int .i64 a2) (by kernel_rfl) (yld fun _ => by kernel_rfl) ?_
  obtain ⟨r1, hg, h⟩ := of_bind h
  cases r1 with
  | true =>
    have h := of_if_t h
    refine wpS.only 3 (op_call (d := (some 14)) (by kernel_rfl) hs (fun _ => by kernel_rfl) (bits_such.ok hg _ (hs.rowR 0 rfl)) ?_)
    intro w gw hs
    refine ⟨fun _ => trivial, ?_⟩
    refine wpS.take 4 false (some 15) (.bool false) (by kernel_rfl) (yld fun _ => by kernel_rfl) ?_
    refine wpS.fin rfl (kr _ _ ?_)
    refine then_n (ks5 _ _ ?_)
    refine wp_cond_f (by kernel_rfl) ?_
    refine wp_skip ?_
    refine then_n (ks4 _ _ ?_)
    refine wp_seq_k fun KS6 ks6 => ?_
    refine wp_regS (l := [0, 1, 2]) (by kernel_rfl) fun KR kr => ?_
    refine wpS.take 0 false (some 16) (.int .i64 a2) (by kernel_rfl) (yld fun _ => by kernel_rfl) ?_
    obtain ⟨h0, h⟩ := of_chk h
    obtain ⟨h1, h⟩ := of_chk h
    refine wpS.only 1 (op_makeT (C := (CI .u32)) (t := 56) (e := 58) (bytes := 4) (B := 35184372088832) (kl := .i64) (kc := .i64) (x := a2) (d := (some 17)) (by kernel_rfl) hs (by kernel_rfl) (by kernel_rfl) (by kernel_rfl) (by kernel_rfl) (by kernel_rfl) h0 h1 (by decide) (by decide) ?_)
    intro s2_A s2_n s2_c w gw hs
    refine ⟨fun _ => trivial, ?_⟩
    refine wpS.take 2 false (some 7) (.slice s2_A s2_n s2_c) (by kernel_rfl) (yld fun _ => by kernel_rfl) ?_
    refine wpS.fin rfl (kr _ _ ?_)
    refine then_n (ks6 _ _ ?_)
    refine wp_seq_k fun KS7 ks7 => ?_
    refine wp_regS (l := [0, 1]) (by kernel_rfl) fun KR kr => ?_
    refine wpS.take 0 false (some 8) (.int .u64 0) (by kernel_rfl) (yld fun _ => by kernel_rfl) ?_
    refine wpS.take 1 false (some 9) (.int .i64 0) (by kernel_rfl) (yld fun _ => by kernel_rfl) ?_
    refine wpS.fin rfl (kr _ _ ?_)
    refine then_n (ks7 _ _ ?_)
    refine wp_seq_k fun KS69 ks69 => ?_
    refine wp_seq_k fun KS70 ks70 => ?_
    refine wp_regS (l := [0, 1, 2]) (by kernel_rfl) fun KR kr => ?_
    refine wpS.take 0 false (some 18) (.slice s2_A s2_n s2_c) (by kernel_rfl) (yld fun _ => by kernel_rfl) ?_
    refine wpS.take 1 false (some 19) (.int .i64 ((List.replicate (a2 : Int).toNat (Cod.zero (CI .u32))).length : Int)) (by kernel_rfl) (yld_lenL (hs.rowL 0 rfl) (fun _ => by kernel_rfl)) ?_
    refine wpS.take 2 false (some 20) (.int .i64 0) (by kernel_rfl) (yld fun _ => by kernel_rfl) ?_
    refine wpS.fin rfl (kr _ _ ?_)
    refine then_n (ks70 _ _ ?_)
    obtain ⟨y8, hy, hk0⟩ := of_bind h
    refine wp_exq (N := fun a w => St w0 [] [.ownL (CI .u32) s2_A s2_n s2_c y8 58] [.rowL (CI .u8) a0_A a0_n a0_c a0] w ∧ ∃ g : Nat → Value, a = ⟨#[(g 0), .int .i64 a1, .int .i64 a2, undef, undef, undef, .slice none 0 0, .slice s2_A s2_n s2_c, (g 8), (g 9), (g 10), .slice a0_A a0_n a0_c, .int .i64 a1, .int .i64 a2, .bool true, .bool false, .int .i64 a2, .slice s2_A s2_n s2_c, .slice s2_A s2_n s2_c, .int .i64 ((List.replicate (a2 : Int).toNat (Cod.zero (CI .u32))).length : Int), (g 20), (g 21), (g 22), (g 23), (g 24), (g 25), (g 26), (g 27), (g 28), (g 29), (g 30), (g 31), (g 32), (g 33), (g 34), (g 35), (g 36), (g 37), (g 38), (g 39), (g 40), (g 41), (g 42), (g 43), (g 44), (g 45), (g 46), (g 47), (g 48), (g 49), (g 50), (g 51), (g 52), (g 53), undef], []⟩) (fun N0 nn0 => ?_) ?_
    · clear hk0
      refine wp_block ?_
      refine wp_loop_k (fun n a w => ∃ z3 z4 z5 z6 z7, ∃ (z7_A : Option Addr) (z7_n : Nat) (z7_c : Nat), bits_Unpack.l0 K n a1 a2 z3 z4 z5 z6 z7 = some y8 ∧ St w0 [] [.ownL (CI .u32) s2_A s2_n s2_c z6 58] [.rowL (CI .u8) z7_A z7_n z7_c z7, .rowL (CI .u8) a0_A a0_n a0_c a0] w ∧ ∃ g : Nat → Value, a = ⟨#[.slice z7_A z7_n z7_c, .int .i64 a1, .int .i64 a2, undef, undef, undef, .slice none 0 0, .slice s2_A s2_n s2_c, .int .u64 z3, .int .i64 z4, (g 10), .slice a0_A a0_n a0_c, .int .i64 a1, .int .i64 a2, .bool true, .bool false, .int .i64 a2, .slice s2_A s2_n s2_c, .slice s2_A s2_n s2_c, .int .i64 ((List.replicate (a2 : Int).toNat (Cod.zero (CI .u32))).length : Int), .int .i64 z5, (g 21), (g 22), (g 23), (g 24), (g 25), (g 26), (g 27), (g 28), (g 29), (g 30), (g 31), (g 32), (g 33), (g 34), (g 35), (g 36), (g 37), (g 38), (g 39), (g 40), (g 41), (g 42), (g 43), (g 44), (g 45), (g 46), (g 47), (g 48), (g 49), (g 50), (g 51), (g 52), (g 53), undef], []⟩) K ⟨0, 0, 0, (List.replicate (a2 : Int).toNat (Cod.zero (CI .u32))), a0, a0_A, a0_n, a0_c, hy, (hs.conv (L' := [.ownL (CI .u32) s2_A s2_n s2_c (List.replicate (a2 : Int).toNat (Cod.zero (CI .u32))) 58]) rfl).pickR (pick_cons 0 rfl (pick_cons 0 rfl pick_nil)), exg (by kernel_rfl)⟩ ?_
      clear hs h hy
      rintro n a w ⟨z3, z4, z5, z6, z7, z7_A, z7_n, z7_c, h, hs, g, rfl⟩ KL0 kl0
      cases n with
      | zero => exact nomatch (show none = some _ from h)
      | succ n =>
        refine wp_seq_k fun KS101 ks101 => ?_
        refine wp_regS (l := [0]) (by kernel_rfl) fun KR kr => ?_
        rcases of_if h with ⟨hc, h⟩ | ⟨hc, h⟩
        · refine wpS.take 0 false (some 21) (.bool true) (by kernel_rfl) (yld_b (dt hc) (fun _ => by kernel_rfl)) ?_
          refine wpS.fin rfl (kr _ _ ?_)
          refine then_n (ks101 _ _ ?_)
          refine wp_seq_k fun KS102 ks102 => ?_
          refine wp_cond_t (by kernel_rfl) ?_
          refine wp_skip ?_
          refine then_n (ks102 _ _ ?_)
          refine wp_seq_k fun KS116 ks116 => ?_
          refine wp_block ?_
          refine wp_seq_k fun KS117 ks117 => ?_
          refine wp_regS (l := [0, 1]) (by kernel_rfl) fun KR kr => ?_
          refine wpS.take 0 false (some 22) (.int .i64 z5) (by kernel_rfl) (yld fun _ => by kernel_rfl) ?_
          refine wpS.take 1 false (some 10) (.int .i64 z5) (by kernel_rfl) (yld fun _ => by kernel_rfl) ?_
          refine wpS.fin rfl (kr _ _ ?_)
          refine then_n (ks117 _ _ ?_)
          refine wp_seq_k fun KS118 ks118 => ?_
          obtain ⟨⟨y12, y13, y14⟩, hy, hk1⟩ := of_bind h
          refine wp_exq (N := fun a w => ∃ (y14_A : Option Addr) (y14_n : Nat) (y14_c : Nat), St w0 [] [.ownL (CI .u32) s2_A s2_n s2_c z6 58] [.rowL (CI .u8) y14_A y14_n y14_c y14, .rowL (CI .u8) z7_A z7_n z7_c z7, .rowL (CI .u8) a0_A a0_n a0_c a0] w ∧ ∃ g : Nat → Value, a = ⟨#[.slice y14_A y14_n y14_c, .int .i64 a1, .int .i64 a2, undef, undef, undef, .slice none 0 0, .slice s2_A s2_n s2_c, .int .u64 y12, .int .i64 y13, .int .i64 z5, .slice a0_A a0_n a0_c, .int .i64 a1, .int .i64 a2, .bool true, .bool false, .int .i64 a2, .slice s2_A s2_n s2_c, .slice s2_A s2_n s2_c, .int .i64 ((List.replicate (a2 : Int).toNat (Cod.zero (CI .u32))).length : Int), .int .i64 z5, .bool true, .int .i64 z5, (g 23), (g 24), (g 25), (g 26), (g 27), (g 28), (g 29), (g 30), (g 31), (g 32), (g 33), (g 34), (g 35), (g 36), (g 37), (g 38), (g 39), (g 40), (g 41), (g 42), (g 43), (g 44), (g 45), (g 46), (g 47), (g 48), (g 49), (g 50), (g 51), (g 52), (g 53), undef], []⟩) (fun N1 nn1 => ?_) ?_
          · clear hk1
            refine wp_block ?_
            refine wp_loop_k (fun n a w => ∃ z9 z10 z11, ∃ (z11_A : Option Addr) (z11_n : Nat) (z11_c : Nat), bits_Unpack.l1 K n a1 z9 z10 z11 = some (y12, y13, y14) ∧ St w0 [] [.ownL (CI .u32) s2_A s2_n s2_c z6 58] [.rowL (CI .u8) z11_A z11_n z11_c z11, .rowL (CI .u8) z7_A z7_n z7_c z7, .rowL (CI .u8) a0_A a0_n a0_c a0] w ∧ ∃ g : Nat → Value, a = ⟨#[.slice z11_A z11_n z11_c, .int .i64 a1, .int .i64 a2, undef, undef, undef, .slice none 0 0, .slice s2_A s2_n s2_c, .int .u64 z9, .int .i64 z10, .int .i64 z5, .slice a0_A a0_n a0_c, .int .i64 a1, .int .i64 a2, .bool true, .bool false, .int .i64 a2, .slice s2_A s2_n s2_c, .slice s2_A s2_n s2_c, .int .i64 ((List.replicate (a2 : Int).toNat (Cod.zero (CI .u32))).length : Int), .int .i64 z5, .bool true, .int .i64 z5, (g 23), (g 24), (g 25), (g 26), (g 27), (g 28), (g 29), (g 30), (g 31), (g 32), (g 33), (g 34), (g 35), (g 36), (g 37), (g 38), (g 39), (g 40), (g 41), (g 42), (g 43), (g 44), (g 45), (g 46), (g 47), (g 48), (g 49), (g 50), (g 51), (g 52), (g 53), undef], []⟩) K ⟨z3, z4, z7, z7_A, z7_n, z7_c, hy, (hs.conv (L' := [.ownL (CI .u32) s2_A s2_n s2_c z6 58]) rfl).pickR (pick_cons 0 rfl (pick_cons 0 rfl (pick_cons 1 rfl pick_nil))), exg (by kernel_rfl)⟩ ?_
            clear hs h hy
            rintro n a w ⟨z9, z10, z11, z11_A, z11_n, z11_c, h, hs, g, rfl⟩ KL1 kl1
            cases n with
            | zero => exact nomatch (show none = some _ from h)
            | succ n =>
              refine wp_seq_k fun KS124 ks124 => ?_
              refine wp_seq_k fun KS125 ks125 => ?_
              refine wp_regS (l := [0, 1, 2]) (by kernel_rfl) fun KR kr => ?_
              refine wpS.take 0 false (some 23) (.int .i64 z10) (by kernel_rfl) (yld fun _ => by kernel_rfl) ?_
              refine wpS.take 1 false (some 24) (.int .i64 a1) (by kernel_rfl) (yld fun _ => by kernel_rfl) ?_
              rcases of_if h with ⟨hc, h⟩ | ⟨hc, h⟩
              · refine wpS.take 2 false (some 25) (.bool true) (by kernel_rfl) (yld_b (dt hc) (fun _ => by kernel_rfl)) ?_
                refine wpS.fin rfl (kr _ _ ?_)
                refine then_n (ks125 _ _ ?_)
                refine wp_cond_t (by kernel_rfl) ?_
                refine wp_skip ?_
                refine then_n (ks124 _ _ ?_)
                refine wp_block ?_
                refine wp_regG [] (fun k => True) 15 (by kernel_rfl) (by kernel_rfl) fun KR kr => ?_
                have hs := hs.drawn1
                refine wpG.takeD 0 false (some 26) (.int .u64 z9) (by kernel_rfl) (by kernel_rfl) (yld fun _ => by kernel_rfl) ?_
                refine wpG.takeD 1 false (some 27) (.slice z11_A z11_n z11_c) (by kernel_rfl) (by kernel_rfl) (yld fun _ => by kernel_rfl) ?_
                obtain ⟨h0, h⟩ := of_chk h
                obtain ⟨h1, h⟩ := of_chk h
                have i0_126 := h0
                have i1_126 := h1
                refine wpG.takeD 2 false (some 28) (.pointer (adr z11_A ((0 : Int).toNat * Cod.size (CI .u8)))) (by kernel_rfl) (by kernel_rfl) (yld_idxL (C := (CI .u8)) (t := 39) (e := 5) (k := .i64) (x := 0) (hs.rowR 0 rfl) (by kernel_rfl) (by kernel_rfl) (by kernel_rfl) h0 h1) ?_
                refine wpG.takeD 3 true (some 29) (.int .u8 (rdL (CI .u8) z11 0)) (by kernel_rfl) (by kernel_rfl) (yld_loadL (C := (CI .u8)) (e := 5) (x := 0) (hs.rowR 0 rfl) (by kernel_rfl) rfl (by kernel_rfl) i0_126 i1_126) ?_
                refine wpG.takeD 4 false (some 30) (.int .u64 (iconv .u64 (rdL (CI .u8) z11 0))) (by kernel_rfl) (by kernel_rfl) (yld fun _ => by kernel_rfl) ?_
                refine wpG.takeD 5 false (some 31) (.int .i64 z10) (by kernel_rfl) (by kernel_rfl) (yld fun _ => by kernel_rfl) ?_
                obtain ⟨h0, h⟩ := of_chk h
                refine wpG.takeD 6 false (some 32) (.int .u64 (ishl .u64 (iconv .u64 (rdL (CI .u8) z11 0)) z10)) (by kernel_rfl) (by kernel_rfl) (yld_shl (t := 70) (k' := .i64) (by kernel_rfl) h0) ?_
                refine wpG.takeD 7 false (some 33) (.int .u64 (ior .u64 z9 (ishl .u64 (iconv .u64 (rdL (CI .u8) z11 0)) z10))) (by kernel_rfl) (by kernel_rfl) (yld fun _ => by kernel_rfl) ?_
                refine wpG.takeD 8 false (some 34) (.int .i64 z10) (by kernel_rfl) (by kernel_rfl) (yld fun _ => by kernel_rfl) ?_
                refine wpG.takeD 9 false (some 35) (.int .i64 (iadd .i64 z10 8)) (by kernel_rfl) (by kernel_rfl) (yld fun _ => by kernel_rfl) ?_
                refine wpG.takeD 10 false (some 36) (.slice z11_A z11_n z11_c) (by kernel_rfl) (by kernel_rfl) (yld fun _ => by kernel_rfl) ?_
                obtain ⟨h0, h⟩ := of_chk h
                obtain ⟨h1, h⟩ := of_chk h
                obtain ⟨h2, h⟩ := of_chk h
                obtain ⟨s15_A, hA⟩ : ∃ A, A = if z11_c = (1 : Int).toNat then z11_A else adr z11_A ((1 : Int).toNat * Cod.size (CI .u8)) := ⟨_, rfl⟩
                obtain ⟨s15_n, hn⟩ : ∃ n, n = ((z11.length : Int) : Int).toNat - (1 : Int).toNat := ⟨_, rfl⟩
                obtain ⟨s15_c, hc⟩ : ∃ c, c = z11_c - (1 : Int).toNat := ⟨_, rfl⟩
                refine wpG.takeD 11 false (some 37) (.slice s15_A s15_n s15_c) (by kernel_rfl) (by kernel_rfl) (yld_sub (C := (CI .u8)) (t := 39) (e := 5) (low := some (.int .i64 1)) (high := none) (lo := 1) (hi := (z11.length : Int)) (hs.rowR 0 rfl) (by kernel_rfl) (by kernel_rfl) (by kernel_rfl) (.inr ⟨_, rfl⟩) (.inl ⟨rfl, rfl⟩) h0 h1 h2 hA hn hc) ?_
                have hs := hs.addSub (C := (CI .u8)) 0 rfl h0 h1 h2 hA hn hc
                obtain ⟨x16, hx, h⟩ := of_bind h
                refine wpG.takeD 12 false (some 8) (.int .u64 x16) (by kernel_rfl) (by kernel_rfl) (yld_int hx (fun _ => by kernel_rfl)) ?_
                obtain ⟨x17, hx, h⟩ := of_bind h
                refine wpG.takeD 13 false (some 9) (.int .i64 x17) (by kernel_rfl) (by kernel_rfl) (yld_int hx (fun _ => by kernel_rfl)) ?_
                refine wpG.takeD 14 false (some 0) (.slice s15_A s15_n s15_c) (by kernel_rfl) (by kernel_rfl) (yld fun _ => by kernel_rfl) ?_
                refine wpG.fin (by kernel_rfl) rfl (kr _ _ ?_)
                refine inBlock_n ?_
                exact then_n (kl1 _ _ ⟨n, Nat.lt_succ_self n, x16, x17, (subL z11 1 (z11.length : Int)), s15_A, s15_n, s15_c, h, ((hs.conv (L' := [.ownL (CI .u32) s2_A s2_n s2_c z6 58]) rfl).pickR (pick_cons 0 rfl (pick_cons 2 rfl (pick_cons 3 rfl pick_nil)))), exg (by kernel_rfl)⟩)
              · refine wpS.take 2 false (some 25) (.bool false) (by kernel_rfl) (yld_b (df hc) (fun _ => by kernel_rfl)) ?_
                refine wpS.fin rfl (kr _ _ ?_)
                refine then_n (ks125 _ _ ?_)
                refine wp_cond_f (by kernel_rfl) ?_
                refine wp_exit ?_
                refine then_x ?_
                refine then_x ?_
                refine inBlock_hit ?_
                obtain ⟨q0, qr0⟩ := Prod.mk.inj (of_some h)
                obtain ⟨q1, qr1⟩ := Prod.mk.inj (qr0)
                have q2 := qr1
                subst q0
                subst q1
                subst q2
                exact exq_n (nn1 _ _ ⟨z11_A, z11_n, z11_c, (hs.conv rfl), exg (by kernel_rfl)⟩)
          · clear hs h hy
            rintro a w ⟨y14_A, y14_n, y14_c, hs, g, rfl⟩
            have h := hk1
            refine then_n (ks118 _ _ ?_)
            refine wp_seq_k fun KS127 ks127 => ?_
            refine wp_regS (l := [0, 1, 2, 3, 4, 5, 6, 7, 8, 9]) (by kernel_rfl) fun KR kr => ?_
            refine wpS.take 0 false (some 38) (.slice s2_A s2_n s2_c) (by kernel_rfl) (yld fun _ => by kernel_rfl) ?_
            refine wpS.take 1 false (some 39) (.int .i64 z5) (by kernel_rfl) (yld fun _ => by kernel_rfl) ?_
            refine wpS.take 2 false (some 40) (.int .u64 y12) (by kernel_rfl) (yld fun _ => by kernel_rfl) ?_
            refine wpS.take 3 false (some 41) (.int .i64 a1) (by kernel_rfl) (yld fun _ => by kernel_rfl) ?_
            obtain ⟨h0, h⟩ := of_chk h
            refine wpS.take 4 false (some 42) (.int .u64 (ishl .u64 1 a1)) (by kernel_rfl) (yld_shl (t := 70) (k' := .i64) (by kernel_rfl) h0) ?_
            refine wpS.take 5 false (some 43) (.int .u64 (isub .u64 (ishl .u64 1 a1) 1)) (by kernel_rfl) (yld fun _ => by kernel_rfl) ?_
            refine wpS.take 6 false (some 44) (.int .u64 (iand .u64 y12 (isub .u64 (ishl .u64 1 a1) 1))) (by kernel_rfl) (yld fun _ => by kernel_rfl) ?_
            refine wpS.take 7 false (some 45) (.int .u32 (iconv .u32 (iand .u64 y12 (isub .u64 (ishl .u64 1 a1) 1)))) (by kernel_rfl) (yld fun _ => by kernel_rfl) ?_
            obtain ⟨h0, h⟩ := of_chk h
            obtain ⟨h1, h⟩ := of_chk h
            have i0_128 := h0
            have i1_128 := h1
            refine wpS.take 8 false (some 46) (.pointer (adr s2_A ((z5 : Int).toNat * Cod.size (CI .u32)))) (by kernel_rfl) (yld_idxL (C := (CI .u32)) (t := 56) (e := 58) (k := .i64) (x := z5) (hs.rowL 0 rfl) (by kernel_rfl) (by kernel_rfl) (by kernel_rfl) h0 h1) ?_
            obtain ⟨x18, hx, h⟩ := of_bind h
            refine wpS.only 9 (op_storeL (C := (CI .u32)) (t := 58) (x := z5) (v := x18) (d := none) (by kernel_rfl) hs 0 rfl (by cases hx; kernel_rfl) (by kernel_rfl) i0_128 i1_128 ?_)
            intro w hs
            refine ⟨fun _ => trivial, ?_⟩
            refine wpS.fin rfl (kr _ _ ?_)
            refine then_n (ks127 _ _ ?_)
            refine wp_seq_k fun KS129 ks129 => ?_
            refine wp_regS (l := [0, 1, 2, 3]) (by kernel_rfl) fun KR kr => ?_
            refine wpS.take 0 false (some 47) (.int .u64 y12) (by kernel_rfl) (yld fun _ => by kernel_rfl) ?_
            refine wpS.take 1 false (some 48) (.int .i64 a1) (by kernel_rfl) (yld fun _ => by kernel_rfl) ?_
            obtain ⟨h0, h⟩ := of_chk h
            refine wpS.take 2 false (some 49) (.int .u64 (ishr .u64 y12 a1)) (by kernel_rfl) (yld_shr (t := 70) (k' := .i64) (by kernel_rfl) h0) ?_
            obtain ⟨x19, hx, h⟩ := of_bind h
            refine wpS.take 3 false (some 8) (.int .u64 x19) (by kernel_rfl) (yld_int hx (fun _ => by kernel_rfl)) ?_
            refine wpS.fin rfl (kr _ _ ?_)
            refine then_n (ks129 _ _ ?_)
            refine wp_regS (l := [0, 1, 2, 3]) (by kernel_rfl) fun KR kr => ?_
            refine wpS.take 0 false (some 50) (.int .i64 y13) (by kernel_rfl) (yld fun _ => by kernel_rfl) ?_
            refine wpS.take 1 false (some 51) (.int .i64 a1) (by kernel_rfl) (yld fun _ => by kernel_rfl) ?_
            refine wpS.take 2 false (some 52) (.int .i64 (isub .i64 y13 a1)) (by kernel_rfl) (yld fun _ => by kernel_rfl) ?_
            obtain ⟨x20, hx, h⟩ := of_bind h
            refine wpS.take 3 false (some 9) (.int .i64 x20) (by kernel_rfl) (yld_int hx (fun _ => by kernel_rfl)) ?_
            refine wpS.fin rfl (kr _ _ ?_)
            refine inBlock_n ?_
            refine then_n (ks116 _ _ ?_)
            refine wp_regS (l := [0, 1]) (by kernel_rfl) fun KR kr => ?_
            refine wpS.take 0 false (some 53) (.int .i64 (iadd .i64 z5 1)) (by kernel_rfl) (yld fun _ => by kernel_rfl) ?_
            refine wpS.take 1 false (some 20) (.int .i64 (iadd .i64 z5 1)) (by kernel_rfl) (yld fun _ => by kernel_rfl) ?_
            refine wpS.fin rfl (kr _ _ ?_)
            exact then_n (kl0 _ _ ⟨n, Nat.lt_succ_self n, x19, x20, (iadd .i64 z5 1), (wrL z6 z5 x18), y14, y14_A, y14_n, y14_c, h, ((hs.conv (L' := [.ownL (CI .u32) s2_A s2_n s2_c (wrL z6 z5 x18) 58]) rfl).pickR (pick_cons 0 rfl (pick_cons 2 rfl pick_nil))), exg (by kernel_rfl)⟩)
        · refine wpS.take 0 false (some 21) (.bool false) (by kernel_rfl) (yld_b (df hc) (fun _ => by kernel_rfl)) ?_
          refine wpS.fin rfl (kr _ _ ?_)
          refine then_n (ks101 _ _ ?_)
          refine wp_seq_k fun KS130 ks130 => ?_
          refine wp_cond_f (by kernel_rfl) ?_
          refine wp_exit ?_
          refine then_x ?_
          refine then_x ?_
          refine inBlock_hit ?_
          have q0 := of_some h
          subst q0
          exact exq_n (nn0 _ _ ⟨((hs.conv (L' := [.ownL (CI .u32) s2_A s2_n s2_c z6 58]) rfl).pickR (pick_cons 1 rfl pick_nil)), exg (by kernel_rfl)⟩)
    · clear hs h hy
      rintro a w ⟨hs, g, rfl⟩
      have h := hk0
      refine then_n (ks69 _ _ ?_)
      refine wp_seq_k fun KS131 ks131 => ?_
      refine wp_regS (l := [0, 1]) (by kernel_rfl) fun KR kr => ?_
      refine wpS.take 0 false (some 54) (.slice s2_A s2_n s2_c) (by kernel_rfl) (yld fun _ => by kernel_rfl) ?_
      refine wpS.take 1 false (some 6) (.slice s2_A s2_n s2_c) (by kernel_rfl) (yld fun _ => by kernel_rfl) ?_
      refine wpS.fin rfl (kr _ _ ?_)
      refine then_n (ks131 _ _ ?_)
      refine wp_ret ?_
      have q0 := of_some h
      subst q0
      exact qq _ _ (post_ret (by kernel_rfl) (run_results [.tmp 6] [.slice s2_A s2_n s2_c] (by kernel_rfl) (.cons (res_tmp (by kernel_rfl)) .nil)) ⟨⟨s2_A, s2_n, s2_c⟩, congrArg Ending.returned (by kernel_rfl), ((hs.conv (L' := [.ownL (CI .u32) s2_A s2_n s2_c y8 58]) rfl).pickR pick_nil)⟩)
  | false =>
    have h := of_if_f h
    refine wpS.only 3 (op_call (d := (some 14)) (by kernel_rfl) hs (fun _ => by kernel_rfl) (bits_such.ok hg _ (hs.rowR 0 rfl)) ?_)
    intro w gw hs
    refine ⟨fun _ => trivial, ?_⟩
    refine wpS.take 4 false (some 15) (.bool true) (by kernel_rfl) (yld fun _ => by kernel_rfl) ?_
    refine wpS.fin rfl (kr _ _ ?_)
    refine then_n (ks5 _ _ ?_)
    refine wp_cond_t (by kernel_rfl) ?_
    refine wp_seq_k fun KS132 ks132 => ?_
    refine wp_regS (l := [0]) (by kernel_rfl) fun KR kr => ?_
    refine wpS.take 0 false (some 6) (.slice none 0 0) (by kernel_rfl) (yld fun _ => by kernel_rfl) ?_
    refine wpS.fin rfl (kr _ _ ?_)
    refine then_n (ks132 _ _ ?_)
    refine wp_ret ?_
    refine then_r ?_
    have q0 := of_some h
    subst q0
    have hs := hs.addNilL (CI .u32) 58
    exact qq _ _ (post_ret (by kernel_rfl) (run_results [.tmp 6] [.slice none 0 0] (by kernel_rfl) (.cons (res_tmp (by kernel_rfl)) .nil)) ⟨⟨none, 0, 0⟩, congrArg Ending.returned (by kernel_rfl), ((hs.conv (L' := [.ownL (CI .u32) none 0 0 ([] : List Int) 58]) rfl).pickR pick_nil)⟩)

theorem kq_bound.ok {K : Nat} {a0 : Int} {r0 : Int} (h : kq_bound.f K a0 = some r0) (w0 : World) : Ret Try.prog 71 #[.int .i64 a0] w0 (.int .i32 r0) := by
  refine calls_k Try.func71 rfl fun Q qq => ?_
  have hs := St.start w0
  refine wp_conv (a' := ⟨#[.int .i64 a0, undef, undef, undef, undef, undef, undef], []⟩) (by kernel_rfl) ?_
  refine wp_seq_k fun KS1 ks1 => ?_
  refine wp_regS (l := [0]) (by kernel_rfl) fun KR kr => ?_
  refine wpS.take 0 false (some 2) (.int .i32 0) (by kernel_rfl) (yld fun _ => by kernel_rfl) ?_
  refine wpS.fin rfl (kr _ _ ?_)
  refine then_n (ks1 _ _ ?_)
  refine wp_seq_k fun KS4 ks4 => ?_
  refine wp_seq_k fun KS5 ks5 => ?_
  refine wp_regS (l := [0, 1]) (by kernel_rfl) fun KR kr => ?_
  refine wpS.take 0 false (some 3) (.int .i64 a0) (by kernel_rfl) (yld fun _ => by kernel_rfl) ?_
  rcases of_if h with ⟨hc, h⟩ | ⟨hc, h⟩
  · refine wpS.take 1 false (some 4) (.bool true) (by kernel_rfl) (yld_b (et hc) (fun _ => by kernel_rfl)) ?_
    refine wpS.fin rfl (kr _ _ ?_)
    refine then_n (ks5 _ _ ?_)
    refine wp_cond_t (by kernel_rfl) ?_
    refine wp_seq_k fun KS6 ks6 => ?_
    refine wp_regS (l := [0]) (by kernel_rfl) fun KR kr => ?_
    refine wpS.take 0 false (some 2) (.int .i32 3329) (by kernel_rfl) (yld fun _ => by kernel_rfl) ?_
    refine wpS.fin rfl (kr _ _ ?_)
    refine then_n (ks6 _ _ ?_)
    refine wp_ret ?_
    refine then_r ?_
    have q0 := of_some h
    subst q0
    exact qq _ _ (post_ret (by kernel_rfl) (run_results [.tmp 2] [.int .i32 3329] (by kernel_rfl) (.cons (res_tmp (by kernel_rfl)) .nil)) ⟨congrArg Ending.returned (by kernel_rfl), hs.none⟩)
  · refine wpS.take 1 false (some 4) (.bool false) (by kernel_rfl) (yld_b (ef hc) (fun _ => by kernel_rfl)) ?_
    refine wpS.fin rfl (kr _ _ ?_)
    refine then_n (ks5 _ _ ?_)
    refine wp_cond_f (by kernel_rfl) ?_
    refine wp_skip ?_
    refine then_n (ks4 _ _ ?_)
    refine wp_seq_k fun KS7 ks7 => ?_
    refine wp_regS (l := [0, 1, 2]) (by kernel_rfl) fun KR kr => ?_
    refine wpS.take 0 false (some 5) (.int .i64 a0) (by kernel_rfl) (yld fun _ => by kernel_rfl) ?_
    obtain ⟨h0, h⟩ := of_chk h
    refine wpS.take 1 false (some 6) (.int .i32 (ishl .i32 1 a0)) (by kernel_rfl) (yld_shl (t := 21) (k' := .i64) (by kernel_rfl) h0) ?_
    obtain ⟨x1, hx, h⟩ := of_bind h
    refine wpS.take 2 false (some 2) (.int .i32 x1) (by kernel_rfl) (yld_int hx (fun _ => by kernel_rfl)) ?_
    refine wpS.fin rfl (kr _ _ ?_)
    refine then_n (ks7 _ _ ?_)
    refine wp_ret ?_
    have q0 := of_some h
    subst q0
    exact qq _ _ (post_ret (by kernel_rfl) (run_results [.tmp 2] [.int .i32 x1] (by kernel_rfl) (.cons (res_tmp (by kernel_rfl)) .nil)) ⟨congrArg Ending.returned (by kernel_rfl), hs.none⟩)

theorem kq_Unpack.ok {K : Nat} {a0 : List Int} {a1 : Int} {r0 : Arr 256} {r1 : Bool} {a0_A : Option Addr} {a0_n : Nat} {a0_c : Nat} (h : kq_Unpack.f K a0 a1 = some (r0, r1)) (w0 : World) (hp0 : RowL (CI .u8) w0 a0_A a0_n a0_c a0) : Ret Try.prog 41 #[.slice a0_A a0_n a0_c, .int .i64 a1] w0 (.tuple #[.agg (enc .i32 r0).toArray, .bool r1]) := by
  refine calls_k Try.func41 rfl fun Q qq => ?_
  have hs := St.startR (all_cons (RowP.ent hp0) all_nil)
  refine wp_conv (a' := ⟨#[.slice a0_A a0_n a0_c, .int .i64 a1, undef, undef, undef, undef, undef, undef, undef, undef, undef, undef, undef, undef, undef, undef, undef, undef, undef, undef, undef, undef, undef, undef, undef, undef, undef, undef, undef, undef, undef, undef, undef, undef, undef, undef, undef, undef, undef, undef, undef, undef, undef, undef], []⟩) (by kernel_rfl) ?_
  refine wp_seq_k fun KS1 ks1 => ?_
  refine wp_regS (l := [0, 1]) (by kernel_rfl) fun KR kr => ?_
  refine wpS.only 0 (op_alloc (t := 23) (d := (some 4)) (by kernel_rfl) hs (enc .i32 (zeroA 256)) (.agg (enc .i32 (zeroA 256)).toArray) (by kernel_rfl) (by kernel_rfl) (by kernel_rfl) ?_)
  intro b1 w gw hs
  refine ⟨fun _ => trivial, ?_⟩
  refine wpS.take 1 false (some 5) (.bool false) (by kernel_rfl) (yld fun _ => by kernel_rfl) ?_
  refine wpS.fin rfl (kr _ _ ?_)
  refine then_n (ks1 _ _ ?_)
  refine wp_seq_k fun KS6 ks6 => ?_
  refine wp_seq_k fun KS7 ks7 => ?_
  refine wp_regS (l := [0, 1, 2, 3, 4, 5, 6, 7, 8, 9, 10, 11, 12]) (by kernel_rfl) fun KR kr => ?_
  refine wpS.take 0 false (some 9) (.int .i64 a1) (by kernel_rfl) (yld fun _ => by kernel_rfl) ?_
  rcases of_if h with ⟨hc, h⟩ | ⟨hc, h⟩
  · refine wpS.take 1 false (some 10) (.bool true) (by kernel_rfl) (yld_b (dt hc) (fun _ => by kernel_rfl)) ?_
    refine wpS.take 2 false (some 11) (.bool true) (by kernel_rfl) (yld fun _ => by kernel_rfl) ?_
    refine wpS.take 3 false (some 12) (undef) (by kernel_rfl) (yld fun _ => by kernel_rfl) ?_
    refine wpS.take 4 false (some 13) (undef) (by kernel_rfl) (yld fun _ => by kernel_rfl) ?_
    refine wpS.take 5 false (some 14) (.bool true) (by kernel_rfl) (yld fun _ => by kernel_rfl) ?_
    refine wpS.take 6 false (some 15) (.bool true) (by kernel_rfl) (yld fun _ => by kernel_rfl) ?_
    refine wpS.take 7 false (some 16) (undef) (by kernel_rfl) (yld fun _ => by kernel_rfl) ?_
    refine wpS.take 8 false (some 17) (undef) (by kernel_rfl) (yld fun _ => by kernel_rfl) ?_
    refine wpS.take 9 false (some 18) (undef) (by kernel_rfl) (yld fun _ => by kernel_rfl) ?_
    refine wpS.take 10 false (some 19) (undef) (by kernel_rfl) (yld fun _ => by kernel_rfl) ?_
    refine wpS.take 11 false (some 20) (undef) (by kernel_rfl) (yld fun _ => by kernel_rfl) ?_
    refine wpS.take 12 false (some 21) (.bool true) (by kernel_rfl) (yld fun _ => by kernel_rfl) ?_
    refine wpS.fin rfl (kr _ _ ?_)
    refine then_n (ks7 _ _ ?_)
    refine wp_cond_t (by kernel_rfl) ?_
    refine wp_seq_k fun KS8 ks8 => ?_
    refine wp_regS (l := [0, 1, 2]) (by kernel_rfl) fun KR kr => ?_
    refine wpS.take 0 false (some 22) (.agg (enc .i32 (zeroA 256)).toArray) (by kernel_rfl) (yld fun _ => by kernel_rfl) ?_
    refine wpS.only 1 (op_storeW (t := 23) (v := .agg (enc .i32 (zeroA 256)).toArray) (d := none) (by kernel_rfl) hs 0 rfl (vs := enc .i32 (zeroA 256)) (n := 256) (by kernel_rfl) (by kernel_rfl) (by kernel_rfl) (by simp [enc_len]) (by simp [enc_len]) (by intro u hu; exact enc_one _ _ u hu) ?_)
    intro w kp hs
    refine ⟨fun _ => trivial, ?_⟩
    refine wpS.take 2 false (some 5) (.bool false) (by kernel_rfl) (yld fun _ => by kernel_rfl) ?_
    refine wpS.fin rfl (kr _ _ ?_)
    refine then_n (ks8 _ _ ?_)
    refine wp_ret ?_
    refine then_r ?_
    obtain ⟨q0, qr0⟩ := Prod.mk.inj (of_some h)
    have q1 := qr0
    subst q0
    subst q1
    exact qq _ _ (post_ret (by kernel_rfl) (run_results [.cell 4 23, .tmp 5] [.agg (enc .i32 (zeroA 256)).toArray, .bool false] (by kernel_rfl) (.cons (res_cellN (n := 256) hs 0 rfl (by kernel_rfl) (by kernel_rfl) (by kernel_rfl) (by exact enc_len _ _)) (.cons (res_tmp (by kernel_rfl)) .nil))) ⟨congrArg Ending.returned (by kernel_rfl), hs.none⟩)
  · refine wpS.take 1 false (some 10) (.bool false) (by kernel_rfl) (yld_b (df hc) (fun _ => by kernel_rfl)) ?_
    refine wpS.take 2 false (some 11) (.bool false) (by kernel_rfl) (yld fun _ => by kernel_rfl) ?_
    refine wpS.take 3 false (some 12) (.int .i64 a1) (by kernel_rfl) (yld fun _ => by kernel_rfl) ?_
    rcases of_if h with ⟨hc, h⟩ | ⟨hc, h⟩
    · refine wpS.take 4 false (some 13) (.bool true) (by kernel_rfl) (yld_b (dt hc) (fun _ => by kernel_rfl)) ?_
      refine wpS.take 5 false (some 14) (.bool true) (by kernel_rfl) (yld fun _ => by kernel_rfl) ?_
      refine wpS.take 6 false (some 15) (.bool true) (by kernel_rfl) (yld fun _ => by kernel_rfl) ?_
      refine wpS.take 7 false (some 16) (undef) (by kernel_rfl) (yld fun _ => by kernel_rfl) ?_
      refine wpS.take 8 false (some 17) (undef) (by kernel_rfl) (yld fun _ => by kernel_rfl) ?_
      refine wpS.take 9 false (some 18) (undef) (by kernel_rfl) (yld fun _ => by kernel_rfl) ?_
      refine wpS.take 10 false (some 19) (undef) (by kernel_rfl) (yld fun _ => by kernel_rfl) ?_
      refine wpS.take 11 false (some 20) (undef) (by kernel_rfl) (yld fun _ => by kernel_rfl) ?_
      refine wpS.take 12 false (some 21) (.bool true) (by kernel_rfl) (yld fun _ => by kernel_rfl) ?_
      refine wpS.fin rfl (kr _ _ ?_)
      refine then_n (ks7 _ _ ?_)
      refine wp_cond_t (by kernel_rfl) ?_
      refine wp_seq_k fun KS9 ks9 => ?_
      refine wp_regS (l := [0, 1, 2]) (by kernel_rfl) fun KR kr => ?_
      refine wpS.take 0 false (some 22) (.agg (enc .i32 (zeroA 256)).toArray) (by kernel_rfl) (yld fun _ => by kernel_rfl) ?_
      refine wpS.only 1 (op_storeW (t := 23) (v := .agg (enc .i32 (zeroA 256)).toArray) (d := none) (by kernel_rfl) hs 0 rfl (vs := enc .i32 (zeroA 256)) (n := 256) (by kernel_rfl) (by kernel_rfl) (by kernel_rfl) (by simp [enc_len]) (by simp [enc_len]) (by intro u hu; exact enc_one _ _ u hu) ?_)
      intro w kp hs
      refine ⟨fun _ => trivial, ?_⟩
      refine wpS.take 2 false (some 5) (.bool false) (by kernel_rfl) (yld fun _ => by kernel_rfl) ?_
      refine wpS.fin rfl (kr _ _ ?_)
      refine then_n (ks9 _ _ ?_)
      refine wp_ret ?_
      refine then_r ?_
      obtain ⟨q0, qr0⟩ := Prod.mk.inj (of_some h)
      have q1 := qr0
      subst q0
      subst q1
      exact qq _ _ (post_ret (by kernel_rfl) (run_results [.cell 4 23, .tmp 5] [.agg (enc .i32 (zeroA 256)).toArray, .bool false] (by kernel_rfl) (.cons (res_cellN (n := 256) hs 0 rfl (by kernel_rfl) (by kernel_rfl) (by kernel_rfl) (by exact enc_len _ _)) (.cons (res_tmp (by kernel_rfl)) .nil))) ⟨congrArg Ending.returned (by kernel_rfl), hs.none⟩)
    · refine wpS.take 4 false (some 13) (.bool false) (by kernel_rfl) (yld_b (df hc) (fun _ => by kernel_rfl)) ?_
      refine wpS.take 5 false (some 14) (.bool false) (by kernel_rfl) (yld fun _ => by kernel_rfl) ?_
      refine wpS.take 6 false (some 15) (.bool false) (by kernel_rfl) (yld fun _ => by kernel_rfl) ?_
      refine wpS.take 7 false (some 16) (.slice a0_A a0_n a0_c) (by kernel_rfl) (yld fun _ => by kernel_rfl) ?_
      refine wpS.take 8 false (some 17) (.int .i64 (a0.length : Int)) (by kernel_rfl) (yld_lenL (hs.rowR 0 rfl) (fun _ => by kernel_rfl)) ?_
      refine wpS.take 9 false (some 18) (.int .i64 a1) (by kernel_rfl) (yld fun _ => by kernel_rfl) ?_
      refine wpS.take 10 false (some 19) (.int .i64 (imul .i64 32 a1)) (by kernel_rfl) (yld fun _ => by kernel_rfl) ?_
      rcases of_if h with ⟨hc, h⟩ | ⟨hc, h⟩
      · refine wpS.take 11 false (some 20) (.bool false) (by kernel_rfl) (yld_b (nf hc) (fun _ => by kernel_rfl)) ?_
        refine wpS.take 12 false (some 21) (.bool false) (by kernel_rfl) (yld fun _ => by kernel_rfl) ?_
        refine wpS.fin rfl (kr _ _ ?_)
        refine then_n (ks7 _ _ ?_)
        refine wp_cond_f (by kernel_rfl) ?_
        refine wp_skip ?_
        refine then_n (ks6 _ _ ?_)
        refine wp_seq_k fun KS10 ks10 => ?_
        refine wp_regS (l := [0]) (by kernel_rfl) fun KR kr => ?_
        refine wpS.only 0 (op_alloc (t := 23) (d := (some 6)) (by kernel_rfl) hs (enc .i32 (zeroA 256)) (.agg (enc .i32 (zeroA 256)).toArray) (by kernel_rfl) (by kernel_rfl) (by kernel_rfl) ?_)
        intro b2 w gw hs
        refine ⟨fun _ => trivial, ?_⟩
        refine wpS.fin rfl (kr _ _ ?_)
        refine then_n (ks10 _ _ ?_)
        refine wp_seq_k fun KS26 ks26 => ?_
        refine wp_seq_k fun KS27 ks27 => ?_
        refine wp_regS (l := [0, 1, 2, 3, 4]) (by kernel_rfl) fun KR kr => ?_
        refine wpS.take 0 false (some 23) (.slice a0_A a0_n a0_c) (by kernel_rfl) (yld fun _ => by kernel_rfl) ?_
        refine wpS.take 1 false (some 24) (.int .i64 a1) (by kernel_rfl) (yld fun _ => by kernel_rfl) ?_
        obtain ⟨r3, hg, h⟩ := of_bind h
        refine wpS.only 2 (op_callH (d := (some 25)) (by kernel_rfl) hs (fun _ => by kernel_rfl) (bits_Unpack.ok hg _ (hs.rowR 0 rfl)) ?_)
        rintro ⟨r3_A, r3_n, r3_c⟩ w gw hs
        have hs := hs.conv (L' := [.ownL (CI .u32) r3_A r3_n r3_c r3 58, .blk b2 (enc .i32 (zeroA 256)) 23, .blk b1 (enc .i32 (zeroA 256)) 23]) rfl
        refine ⟨fun _ => trivial, ?_⟩
        refine wpS.take 3 false (some 26) (.int .i64 (r3.length : Int)) (by kernel_rfl) (yld_lenL (hs.rowL 0 rfl) (fun _ => by kernel_rfl)) ?_
        refine wpS.take 4 false (some 27) (.int .i64 0) (by kernel_rfl) (yld fun _ => by kernel_rfl) ?_
        refine wpS.fin rfl (kr _ _ ?_)
        refine then_n (ks27 _ _ ?_)
        obtain ⟨y6, hy, hk0⟩ := of_bind h
        refine wp_exq (N := fun a w => St w0 [] [.ownL (CI .u32) r3_A r3_n r3_c r3 58, .blk b2 (enc .i32 y6) 23, .blk b1 (enc .i32 (zeroA 256)) 23] [.rowL (CI .u8) a0_A a0_n a0_c a0] w ∧ ∃ g : Nat → Value, a = ⟨#[.slice a0_A a0_n a0_c, .int .i64 a1, undef, undef, .pointer (some ⟨b1, 0, none⟩), .bool false, .pointer (some ⟨b2, 0, none⟩), (g 7), (g 8), .int .i64 a1, .bool false, .bool false, .int .i64 a1, .bool false, .bool false, .bool false, .slice a0_A a0_n a0_c, .int .i64 (a0.length : Int), .int .i64 a1, .int .i64 (imul .i64 32 a1), .bool false, .bool false, undef, .slice a0_A a0_n a0_c, .int .i64 a1, .slice r3_A r3_n r3_c, .int .i64 (r3.length : Int), (g 27), (g 28), (g 29), (g 30), (g 31), (g 32), (g 33), (g 34), (g 35), (g 36), undef, undef, undef, undef, undef, undef, undef], []⟩) (fun N0 nn0 => ?_) ?_
        · clear hk0
          refine wp_block ?_
          refine wp_loop_k (fun n a w => ∃ z4 z5, kq_Unpack.l0 K n r3 z4 z5 = some y6 ∧ St w0 [] [.ownL (CI .u32) r3_A r3_n r3_c r3 58, .blk b2 (enc .i32 z5) 23, .blk b1 (enc .i32 (zeroA 256)) 23] [.rowL (CI .u8) a0_A a0_n a0_c a0] w ∧ ∃ g : Nat → Value, a = ⟨#[.slice a0_A a0_n a0_c, .int .i64 a1, undef, undef, .pointer (some ⟨b1, 0, none⟩), .bool false, .pointer (some ⟨b2, 0, none⟩), (g 7), (g 8), .int .i64 a1, .bool false, .bool false, .int .i64 a1, .bool false, .bool false, .bool false, .slice a0_A a0_n a0_c, .int .i64 (a0.length : Int), .int .i64 a1, .int .i64 (imul .i64 32 a1), .bool false, .bool false, undef, .slice a0_A a0_n a0_c, .int .i64 a1, .slice r3_A r3_n r3_c, .int .i64 (r3.length : Int), .int .i64 z4, (g 28), (g 29), (g 30), (g 31), (g 32), (g 33), (g 34), (g 35), (g 36), undef, undef, undef, undef, undef, undef, undef], []⟩) K ⟨0, (zeroA 256), hy, hs.conv rfl, exg (by kernel_rfl)⟩ ?_
          clear hs h hy
          rintro n a w ⟨z4, z5, h, hs, g, rfl⟩ KL0 kl0
          cases n with
          | zero => exact nomatch (show none = some _ from h)
          | succ n =>
            refine wp_seq_k fun KS35 ks35 => ?_
            refine wp_regS (l := [0]) (by kernel_rfl) fun KR kr => ?_
            rcases of_if h with ⟨hc, h⟩ | ⟨hc, h⟩
            · refine wpS.take 0 false (some 28) (.bool true) (by kernel_rfl) (yld_b (dt hc) (fun _ => by kernel_rfl)) ?_
              refine wpS.fin rfl (kr _ _ ?_)
              refine then_n (ks35 _ _ ?_)
              refine wp_seq_k fun KS36 ks36 => ?_
              refine wp_cond_t (by kernel_rfl) ?_
              refine wp_skip ?_
              refine then_n (ks36 _ _ ?_)
              refine wp_seq_k fun KS37 ks37 => ?_
              refine wp_block ?_
              refine wp_seq_k fun KS38 ks38 => ?_
              refine wp_regS (l := [0, 1, 2, 3, 4]) (by kernel_rfl) fun KR kr => ?_
              refine wpS.take 0 false (some 29) (.int .i64 z4) (by kernel_rfl) (yld fun _ => by kernel_rfl) ?_
              obtain ⟨h0, h⟩ := of_chk h
              obtain ⟨h1, h⟩ := of_chk h
              have i0_39 := h0
              have i1_39 := h1
              refine wpS.take 1 false (some 30) (.pointer (adr r3_A ((z4 : Int).toNat * Cod.size (CI .u32)))) (by kernel_rfl) (yld_idxL (C := (CI .u32)) (t := 56) (e := 58) (k := .i64) (x := z4) (hs.rowL 0 rfl) (by kernel_rfl) (by kernel_rfl) (by kernel_rfl) h0 h1) ?_
              refine wpS.take 2 true (some 31) (.int .u32 (rdL (CI .u32) r3 z4)) (by kernel_rfl) (yld_loadL (C := (CI .u32)) (e := 58) (x := z4) (hs.rowL 0 rfl) (by kernel_rfl) rfl (by kernel_rfl) i0_39 i1_39) ?_
              refine wpS.take 3 false (some 7) (.int .i64 z4) (by kernel_rfl) (yld fun _ => by kernel_rfl) ?_
              obtain ⟨x7, hx, h⟩ := of_bind h
              refine wpS.take 4 false (some 8) (.int .u32 x7) (by kernel_rfl) (yld_int hx (fun _ => by kernel_rfl)) ?_
              refine wpS.fin rfl (kr _ _ ?_)
              refine then_n (ks38 _ _ ?_)
              refine wp_regS (l := [0, 1, 2, 3, 4]) (by kernel_rfl) fun KR kr => ?_
              refine wpS.take 0 false (some 32) (.int .i64 z4) (by kernel_rfl) (yld fun _ => by kernel_rfl) ?_
              refine wpS.take 1 false (some 33) (.int .u32 x7) (by kernel_rfl) (yld fun _ => by kernel_rfl) ?_
              refine wpS.take 2 false (some 34) (.int .i32 (iconv .i32 x7)) (by kernel_rfl) (yld fun _ => by kernel_rfl) ?_
              obtain ⟨i0_40, h⟩ := of_chk h
              obtain ⟨i1_40, h⟩ := of_chk h
              refine wpS.take 3 false (some 35) (.pointer (some ⟨b2, 0 + (z4 : Int).toNat * 1, none⟩)) (by kernel_rfl) (yld_idx (t := 23) (e := 21) (n := 256) (sz := 1) (k := .i64) (x := z4) (by kernel_rfl) (by kernel_rfl) (by kernel_rfl) i0_40 i1_40) ?_
              obtain ⟨x8, hx, h⟩ := of_bind h
              refine wpS.only 4 (op_storeA (t := 21) (x := z4) (v := x8) (d := none) (by kernel_rfl) hs 1 rfl (by cases hx; kernel_rfl) (by kernel_rfl) i0_40 i1_40 ?_)
              intro w kp hs
              refine ⟨fun _ => trivial, ?_⟩
              refine wpS.fin rfl (kr _ _ ?_)
              refine inBlock_n ?_
              refine then_n (ks37 _ _ ?_)
              refine wp_regS (l := [0, 1]) (by kernel_rfl) fun KR kr => ?_
              refine wpS.take 0 false (some 36) (.int .i64 (iadd .i64 z4 1)) (by kernel_rfl) (yld fun _ => by kernel_rfl) ?_
              refine wpS.take 1 false (some 27) (.int .i64 (iadd .i64 z4 1)) (by kernel_rfl) (yld fun _ => by kernel_rfl) ?_
              refine wpS.fin rfl (kr _ _ ?_)
              exact then_n (kl0 _ _ ⟨n, Nat.lt_succ_self n, (iadd .i64 z4 1), (wr z5 z4 x8), h, (hs.conv rfl), exg (by kernel_rfl)⟩)
            · refine wpS.take 0 false (some 28) (.bool false) (by kernel_rfl) (yld_b (df hc) (fun _ => by kernel_rfl)) ?_
              refine wpS.fin rfl (kr _ _ ?_)
              refine then_n (ks35 _ _ ?_)
              refine wp_seq_k fun KS41 ks41 => ?_
              refine wp_cond_f (by kernel_rfl) ?_
              refine wp_exit ?_
              refine then_x ?_
              refine then_x ?_
              refine inBlock_hit ?_
              have q0 := of_some h
              subst q0
              exact exq_n (nn0 _ _ ⟨(hs.conv rfl), exg (by kernel_rfl)⟩)
        · clear hs h hy
          rintro a w ⟨hs, g, rfl⟩
          have h := hk0
          refine then_n (ks26 _ _ ?_)
          refine wp_seq_k fun KS44 ks44 => ?_
          refine wp_seq_k fun KS45 ks45 => ?_
          refine wp_regG [] (fun k => True) 5 (by kernel_rfl) (by kernel_rfl) fun KR kr => ?_
          have hs := hs.drawn1
          refine wpG.takeD 0 true (some 37) (.agg (enc .i32 y6).toArray) (by kernel_rfl) (by kernel_rfl) (yld_loadW (e := 23) (n := 256) hs 1 rfl (by kernel_rfl) (by kernel_rfl) (by kernel_rfl) (by exact enc_len _ _) .grow) ?_
          refine wpG.takeD 1 false (some 38) (.int .i64 a1) (by kernel_rfl) (by kernel_rfl) (yld fun _ => by kernel_rfl) ?_
          obtain ⟨r9, hg, h⟩ := of_bind h
          refine wpG.only 2 (by kernel_rfl) (op_call (d := (some 39)) (by kernel_rfl) hs (fun _ => by kernel_rfl) (kq_bound.ok hg _) ?_)
          intro w gw hs
          refine ⟨.of gw, ?_⟩
          obtain ⟨r10, hg, h⟩ := of_bind h
          cases r10 with
          | true =>
            have h := of_if_t h
            refine wpG.only 3 (by kernel_rfl) (op_call (d := (some 40)) (by kernel_rfl) hs (fun _ => by kernel_rfl) (kq_below.ok hg _) ?_)
            intro w gw hs
            refine ⟨.of gw, ?_⟩
            refine wpG.takeD 4 false (some 41) (.bool false) (by kernel_rfl) (by kernel_rfl) (yld fun _ => by kernel_rfl) ?_
            refine wpG.fin (by kernel_rfl) rfl (kr _ _ ?_)
            refine then_n (ks45 _ _ ?_)
            refine wp_cond_f (by kernel_rfl) ?_
            refine wp_skip ?_
            refine then_n (ks44 _ _ ?_)
            refine wp_seq_k fun KS46 ks46 => ?_
            refine wp_regS (l := [0, 1, 2]) (by kernel_rfl) fun KR kr => ?_
            refine wpS.take 0 true (some 43) (.agg (enc .i32 y6).toArray) (by kernel_rfl) (yld_loadW (e := 23) (n := 256) hs 1 rfl (by kernel_rfl) (by kernel_rfl) (by kernel_rfl) (by exact enc_len _ _) .grow) ?_
            refine wpS.only 1 (op_storeW (t := 23) (v := .agg (enc .i32 y6).toArray) (d := none) (by kernel_rfl) hs 2 rfl (vs := enc .i32 y6) (n := 256) (by kernel_rfl) (by kernel_rfl) (by kernel_rfl) (by simp [enc_len]) (by simp [enc_len]) (by intro u hu; exact enc_one _ _ u hu) ?_)
            intro w kp hs
            refine ⟨fun _ => trivial, ?_⟩
            refine wpS.take 2 false (some 5) (.bool true) (by kernel_rfl) (yld fun _ => by kernel_rfl) ?_
            refine wpS.fin rfl (kr _ _ ?_)
            refine then_n (ks46 _ _ ?_)
            refine wp_ret ?_
            obtain ⟨q0, qr0⟩ := Prod.mk.inj (of_some h)
            have q1 := qr0
            subst q0
            subst q1
            exact qq _ _ (post_ret (by kernel_rfl) (run_results [.cell 4 23, .tmp 5] [.agg (enc .i32 y6).toArray, .bool true] (by kernel_rfl) (.cons (res_cellN (n := 256) hs 2 rfl (by kernel_rfl) (by kernel_rfl) (by kernel_rfl) (by exact enc_len _ _)) (.cons (res_tmp (by kernel_rfl)) .nil))) ⟨congrArg Ending.returned (by kernel_rfl), hs.none⟩)
          | false =>
            have h := of_if_f h
            refine wpG.only 3 (by kernel_rfl) (op_call (d := (some 40)) (by kernel_rfl) hs (fun _ => by kernel_rfl) (kq_below.ok hg _) ?_)
            intro w gw hs
            refine ⟨.of gw, ?_⟩
            refine wpG.takeD 4 false (some 41) (.bool true) (by kernel_rfl) (by kernel_rfl) (yld fun _ => by kernel_rfl) ?_
            refine wpG.fin (by kernel_rfl) rfl (kr _ _ ?_)
            refine then_n (ks45 _ _ ?_)
            refine wp_cond_t (by kernel_rfl) ?_
            refine wp_seq_k fun KS47 ks47 => ?_
            refine wp_regS (l := [0, 1, 2]) (by kernel_rfl) fun KR kr => ?_
            refine wpS.take 0 false (some 42) (.agg (enc .i32 (zeroA 256)).toArray) (by kernel_rfl) (yld fun _ => by kernel_rfl) ?_
            refine wpS.only 1 (op_storeW (t := 23) (v := .agg (enc .i32 (zeroA 256)).toArray) (d := none) (by kernel_rfl) hs 2 rfl (vs := enc .i32 (zeroA 256)) (n := 256) (by kernel_rfl) (by kernel_rfl) (by kernel_rfl) (by simp [enc_len]) (by simp [enc_len]) (by intro u hu; exact enc_one _ _ u hu) ?_)
            intro w kp hs
            refine ⟨fun _ => trivial, ?_⟩
            refine wpS.take 2 false (some 5) (.bool false) (by kernel_rfl) (yld fun _ => by kernel_rfl) ?_
            refine wpS.fin rfl (kr _ _ ?_)
            refine then_n (ks47 _ _ ?_)
            refine wp_ret ?_
            refine then_r ?_
            obtain ⟨q0, qr0⟩ := Prod.mk.inj (of_some h)
            have q1 := qr0
            subst q0
            subst q1
            exact qq _ _ (post_ret (by kernel_rfl) (run_results [.cell 4 23, .tmp 5] [.agg (enc .i32 (zeroA 256)).toArray, .bool false] (by kernel_rfl) (.cons (res_cellN (n := 256) hs 2 rfl (by kernel_rfl) (by kernel_rfl) (by kernel_rfl) (by exact enc_len _ _)) (.cons (res_tmp (by kernel_rfl)) .nil))) ⟨congrArg Ending.returned (by kernel_rfl), hs.none⟩)
      · refine wpS.take 11 false (some 20) (.bool true) (by kernel_rfl) (yld_b (nt hc) (fun _ => by kernel_rfl)) ?_
        refine wpS.take 12 false (some 21) (.bool true) (by kernel_rfl) (yld fun _ => by kernel_rfl) ?_
        refine wpS.fin rfl (kr _ _ ?_)
        refine then_n (ks7 _ _ ?_)
        refine wp_cond_t (by kernel_rfl) ?_
        refine wp_seq_k fun KS48 ks48 => ?_
        refine wp_regS (l := [0, 1, 2]) (by kernel_rfl) fun KR kr => ?_
        refine wpS.take 0 false (some 22) (.agg (enc .i32 (zeroA 256)).toArray) (by kernel_rfl) (yld fun _ => by kernel_rfl) ?_
        refine wpS.only 1 (op_storeW (t := 23) (v := .agg (enc .i32 (zeroA 256)).toArray) (d := none) (by kernel_rfl) hs 0 rfl (vs := enc .i32 (zeroA 256)) (n := 256) (by kernel_rfl) (by kernel_rfl) (by kernel_rfl) (by simp [enc_len]) (by simp [enc_len]) (by intro u hu; exact enc_one _ _ u hu) ?_)
        intro w kp hs
        refine ⟨fun _ => trivial, ?_⟩
        refine wpS.take 2 false (some 5) (.bool false) (by kernel_rfl) (yld fun _ => by kernel_rfl) ?_
        refine wpS.fin rfl (kr _ _ ?_)
        refine then_n (ks48 _ _ ?_)
        refine wp_ret ?_
        refine then_r ?_
        obtain ⟨q0, qr0⟩ := Prod.mk.inj (of_some h)
        have q1 := qr0
        subst q0
        subst q1
        exact qq _ _ (post_ret (by kernel_rfl) (run_results [.cell 4 23, .tmp 5] [.agg (enc .i32 (zeroA 256)).toArray, .bool false] (by kernel_rfl) (.cons (res_cellN (n := 256) hs 0 rfl (by kernel_rfl) (by kernel_rfl) (by kernel_rfl) (by exact enc_len _ _)) (.cons (res_tmp (by kernel_rfl)) .nil))) ⟨congrArg Ending.returned (by kernel_rfl), hs.none⟩)
end Go.Proofs.Ytijahfdldlmnhaa
