/- Printed by this work's own program: the code of each function below comes to the answer that its plain form tells. -/
import Derived.Test.YtijahfdldlmnhabMr
import Derived.Test.YtijahfdldlmnhabProg
import Derived.Test.YtijahfdldlmnhabKF0
import Derived.Test.YtijahfdldlmnhabKX0
set_option linter.unusedVariables false
set_option linter.unusedSimpArgs false
set_option maxRecDepth 100000
set_option maxHeartbeats 4000000
namespace Go.Proofs.Ytijahfdldlmnhab
open Go.Mx
attribute [local irreducible] wpOp

theorem law25_awake.ok {K : Nat} {r0 : Bool} (h : law25_awake.f K = some r0) (w0 : World) : Ret Try.prog 5 #[] w0 (.bool r0) := by
  refine calls_k Try.func5 rfl fun Q qq => ?_
  have hs := St.start w0
  refine wp_conv (a' := ⟨#[undef, undef, undef, undef, undef, undef, undef, undef, undef, undef, undef, undef, undef, undef, undef, undef, undef, undef, undef, undef, undef, undef, undef, undef, undef, undef, undef, undef, undef, undef, undef, undef, undef, undef, undef, undef, undef, undef, undef, undef], []⟩) (by kernel_rfl) ?_
  refine wp_seq_k fun KS1 ks1 => ?_
  refine wp_regS (l := [0]) (by kernel_rfl) fun KR kr => ?_
  refine wpS.take 0 false (some 0) (.bool false) (by kernel_rfl) (yld fun _ => by kernel_rfl) ?_
  refine wpS.fin rfl (kr _ _ ?_)
  refine then_n (ks1 _ _ ?_)
  refine wp_seq_k fun KS2 ks2 => ?_
  refine wp_regS (l := [0, 1, 2, 3]) (by kernel_rfl) fun KR kr => ?_
  refine wpS.take 0 false (some 6) (.agg (enc .i32 (wr (wr (wr (zeroA 256) 0 832) 1 833) 2 2497)).toArray) (by kernel_rfl) (yld fun _ => by kernel_rfl) ?_
  obtain ⟨r1, hg, h⟩ := of_bind h
  refine wpS.only 1 (op_call (d := (some 7)) (by kernel_rfl) hs (fun _ => by kernel_rfl) (kq_Squeeze.ok hg _) ?_)
  intro w gw hs
  refine ⟨fun _ => trivial, ?_⟩
  refine wpS.only 2 (op_alloc (t := 23) (d := (some 1)) (by kernel_rfl) hs (enc .i32 (zeroA 256)) (.agg (enc .i32 (zeroA 256)).toArray) (by kernel_rfl) (by kernel_rfl) (by kernel_rfl) ?_)
  intro b2 w gw hs
  refine ⟨fun _ => trivial, ?_⟩
  refine wpS.only 3 (op_storeW (t := 23) (v := .agg (enc .i32 r1).toArray) (d := none) (by kernel_rfl) hs 0 rfl (vs := enc .i32 r1) (n := 256) (by kernel_rfl) (by kernel_rfl) (by kernel_rfl) (by simp [enc_len]) (by simp [enc_len]) (by intro u hu; exact enc_one _ _ u hu) ?_)
  intro w kp hs
  refine ⟨fun _ => trivial, ?_⟩
  refine wpS.fin rfl (kr _ _ ?_)
  refine then_n (ks2 _ _ ?_)
  refine wp_seq_k fun KS3 ks3 => ?_
  refine wp_regS (l := [0, 1]) (by kernel_rfl) fun KR kr => ?_
  obtain ⟨h0, h⟩ := of_chk h
  obtain ⟨h1, h⟩ := of_chk h
  refine wpS.only 0 (op_makeT (C := (CI .u8)) (t := 24) (e := 5) (bytes := 1) (B := 140737488355328) (kl := .i64) (kc := .i64) (x := 384) (d := (some 8)) (by kernel_rfl) hs (by kernel_rfl) (by kernel_rfl) (by kernel_rfl) (by kernel_rfl) (by kernel_rfl) h0 h1 (by decide) (by decide) ?_)
  intro s3_A s3_n s3_c w gw hs
  refine ⟨fun _ => trivial, ?_⟩
  refine wpS.take 1 false (some 2) (.slice s3_A s3_n s3_c) (by kernel_rfl) (yld fun _ => by kernel_rfl) ?_
  refine wpS.fin rfl (kr _ _ ?_)
  refine then_n (ks3 _ _ ?_)
  refine wp_seq_k fun KS17 ks17 => ?_
  refine wp_seq_k fun KS18 ks18 => ?_
  refine wp_regS (l := [0, 1, 2]) (by kernel_rfl) fun KR kr => ?_
  refine wpS.take 0 false (some 9) (.slice s3_A s3_n s3_c) (by kernel_rfl) (yld fun _ => by kernel_rfl) ?_
  refine wpS.take 1 false (some 10) (.int .i64 ((List.replicate (384 : Int).toNat (Cod.zero (CI .u8))).length : Int)) (by kernel_rfl) (yld_lenL (hs.rowL 0 rfl) (fun _ => by kernel_rfl)) ?_
  refine wpS.take 2 false (some 11) (.int .i64 0) (by kernel_rfl) (yld fun _ => by kernel_rfl) ?_
  refine wpS.fin rfl (kr _ _ ?_)
  refine then_n (ks18 _ _ ?_)
  obtain ⟨y6, hy, hk0⟩ := of_bind h
  refine wp_exq (N := fun a w => St w0 [] [.ownL (CI .u8) s3_A s3_n s3_c y6 5, .blk b2 (enc .i32 r1) 23] [] w ∧ ∃ g : Nat → Value, a = ⟨#[.bool false, .pointer (some ⟨b2, 0, none⟩), .slice s3_A s3_n s3_c, (g 3), undef, undef, .agg (enc .i32 (wr (wr (wr (zeroA 256) 0 832) 1 833) 2 2497)).toArray, .agg (enc .i32 r1).toArray, .slice s3_A s3_n s3_c, .slice s3_A s3_n s3_c, .int .i64 ((List.replicate (384 : Int).toNat (Cod.zero (CI .u8))).length : Int), (g 11), (g 12), (g 13), (g 14), (g 15), (g 16), (g 17), undef, undef, undef, undef, undef, undef, undef, undef, undef, undef, undef, undef, undef, undef, undef, undef, undef, undef, undef, undef, undef, undef], []⟩) (fun N0 nn0 => ?_) ?_
  · clear hk0
    refine wp_block ?_
    refine wp_loop_k (fun n a w => ∃ z4 z5, law25_awake.l0 K n z4 z5 = some y6 ∧ St w0 [] [.ownL (CI .u8) s3_A s3_n s3_c z5 5, .blk b2 (enc .i32 r1) 23] [] w ∧ ∃ g : Nat → Value, a = ⟨#[.bool false, .pointer (some ⟨b2, 0, none⟩), .slice s3_A s3_n s3_c, (g 3), undef, undef, .agg (enc .i32 (wr (wr (wr (zeroA 256) 0 832) 1 833) 2 2497)).toArray, .agg (enc .i32 r1).toArray, .slice s3_A s3_n s3_c, .slice s3_A s3_n s3_c, .int .i64 ((List.replicate (384 : Int).toNat (Cod.zero (CI .u8))).length : Int), .int .i64 z4, (g 12), (g 13), (g 14), (g 15), (g 16), (g 17), undef, undef, undef, undef, undef, undef, undef, undef, undef, undef, undef, undef, undef, undef, undef, undef, undef, undef, undef, undef, undef, undef], []⟩) K ⟨0, (List.replicate (384 : Int).toNat (Cod.zero (CI .u8))), hy, hs.conv rfl, exg (by kernel_rfl)⟩ ?_
    clear hs h hy
    rintro n a w ⟨z4, z5, h, hs, g, rfl⟩ KL0 kl0
    cases n with
    | zero => exact nomatch (show none = some _ from h)
    | succ n =>
      refine wp_seq_k fun KS25 ks25 => ?_
      refine wp_regS (l := [0]) (by kernel_rfl) fun KR kr => ?_
      rcases of_if h with ⟨hc, h⟩ | ⟨hc, h⟩
      · refine wpS.take 0 false (some 12) (.bool true) (by kernel_rfl) (yld_b (dt hc) (fun _ => by kernel_rfl)) ?_
        refine wpS.fin rfl (kr _ _ ?_)
        refine then_n (ks25 _ _ ?_)
        refine wp_seq_k fun KS26 ks26 => ?_
        refine wp_cond_t (by kernel_rfl) ?_
        refine wp_skip ?_
        refine then_n (ks26 _ _ ?_)
        refine wp_seq_k fun KS27 ks27 => ?_
        refine wp_block ?_
        refine wp_seq_k fun KS28 ks28 => ?_
        refine wp_regS (l := [0, 1]) (by kernel_rfl) fun KR kr => ?_
        refine wpS.take 0 false (some 13) (.int .i64 z4) (by kernel_rfl) (yld fun _ => by kernel_rfl) ?_
        refine wpS.take 1 false (some 3) (.int .i64 z4) (by kernel_rfl) (yld fun _ => by kernel_rfl) ?_
        refine wpS.fin rfl (kr _ _ ?_)
        refine then_n (ks28 _ _ ?_)
        refine wp_regS (l := [0, 1, 2, 3]) (by kernel_rfl) fun KR kr => ?_
        refine wpS.take 0 false (some 14) (.slice s3_A s3_n s3_c) (by kernel_rfl) (yld fun _ => by kernel_rfl) ?_
        refine wpS.take 1 false (some 15) (.int .i64 z4) (by kernel_rfl) (yld fun _ => by kernel_rfl) ?_
        obtain ⟨h0, h⟩ := of_chk h
        obtain ⟨h1, h⟩ := of_chk h
        have i0_29 := h0
        have i1_29 := h1
        refine wpS.take 2 false (some 16) (.pointer (adr s3_A ((z4 : Int).toNat * Cod.size (CI .u8)))) (by kernel_rfl) (yld_idxL (C := (CI .u8)) (t := 24) (e := 5) (k := .i64) (x := z4) (hs.rowL 0 rfl) (by kernel_rfl) (by kernel_rfl) (by kernel_rfl) h0 h1) ?_
        refine wpS.only 3 (op_storeL (C := (CI .u8)) (t := 5) (x := z4) (v := 255) (d := none) (by kernel_rfl) hs 0 rfl (by kernel_rfl /-v-/) (by kernel_rfl) i0_29 i1_29 ?_)
        intro w hs
        refine ⟨fun _ => trivial, ?_⟩
        refine wpS.fin rfl (kr _ _ ?_)
        refine inBlock_n ?_
        refine then_n (ks27 _ _ ?_)
        refine wp_regS (l := [0, 1]) (by kernel_rfl) fun KR kr => ?_
        refine wpS.take 0 false (some 17) (.int .i64 (iadd .i64 z4 1)) (by kernel_rfl) (yld fun _ => by kernel_rfl) ?_
        refine wpS.take 1 false (some 11) (.int .i64 (iadd .i64 z4 1)) (by kernel_rfl) (yld fun _ => by kernel_rfl) ?_
        refine wpS.fin rfl (kr _ _ ?_)
        exact then_n (kl0 _ _ ⟨n, Nat.lt_succ_self n, (iadd .i64 z4 1), (wrL z5 z4 255), h, (hs.conv rfl), exg (by kernel_rfl)⟩)
      · refine wpS.take 0 false (some 12) (.bool false) (by kernel_rfl) (yld_b (df hc) (fun _ => by kernel_rfl)) ?_
        refine wpS.fin rfl (kr _ _ ?_)
        refine then_n (ks25 _ _ ?_)
        refine wp_seq_k fun KS30 ks30 => ?_
        refine wp_cond_f (by kernel_rfl) ?_
        refine wp_exit ?_
        refine then_x ?_
        refine then_x ?_
        refine inBlock_hit ?_
        have q0 := of_some h
        subst q0
        exact exq_n (nn0 _ _ ⟨(hs.conv rfl), exg (by kernel_rfl)⟩)
  · clear hs h hy
    rintro a w ⟨hs, g, rfl⟩
    have h := hk0
    refine then_n (ks17 _ _ ?_)
    refine wp_seq_k fun KS31 ks31 => ?_
    refine wp_regS (l := [0, 1, 2, 3, 4, 5, 6, 7]) (by kernel_rfl) fun KR kr => ?_
    refine wpS.take 0 false (some 19) (.slice s3_A s3_n s3_c) (by kernel_rfl) (yld fun _ => by kernel_rfl) ?_
    obtain ⟨⟨r7, r8⟩, hg, h⟩ := of_bind h
    refine wpS.only 1 (op_call (d := (some 20)) (by kernel_rfl) hs (fun _ => by kernel_rfl) (kq_Unpack.ok hg _ (hs.rowL 0 rfl)) ?_)
    intro w gw hs
    refine ⟨fun _ => trivial, ?_⟩
    refine wpS.take 2 false (some 18) (.tuple #[.agg (enc .i32 r7).toArray, .bool r8]) (by kernel_rfl) (yld fun _ => by kernel_rfl) ?_
    refine wpS.take 3 false (some 21) (.agg (enc .i32 r7).toArray) (by kernel_rfl) (yld fun _ => by kernel_rfl) ?_
    refine wpS.take 4 false (some 22) (.bool r8) (by kernel_rfl) (yld fun _ => by kernel_rfl) ?_
    refine wpS.only 5 (op_alloc (t := 23) (d := (some 4)) (by kernel_rfl) hs (enc .i32 (zeroA 256)) (.agg (enc .i32 (zeroA 256)).toArray) (by kernel_rfl) (by kernel_rfl) (by kernel_rfl) ?_)
    intro b9 w gw hs
    refine ⟨fun _ => trivial, ?_⟩
    refine wpS.only 6 (op_storeW (t := 23) (v := .agg (enc .i32 r7).toArray) (d := none) (by kernel_rfl) hs 0 rfl (vs := enc .i32 r7) (n := 256) (by kernel_rfl) (by kernel_rfl) (by kernel_rfl) (by simp [enc_len]) (by simp [enc_len]) (by intro u hu; exact enc_one _ _ u hu) ?_)
    intro w kp hs
    refine ⟨fun _ => trivial, ?_⟩
    refine wpS.take 7 false (some 5) (.bool r8) (by kernel_rfl) (yld fun _ => by kernel_rfl) ?_
    refine wpS.fin rfl (kr _ _ ?_)
    refine then_n (ks31 _ _ ?_)
    refine wp_seq_k fun KS32 ks32 => ?_
    refine wp_regS (l := [0, 1, 2, 3, 4, 5, 6, 7, 8, 9, 10, 11, 12, 13, 14, 15, 16, 17]) (by kernel_rfl) fun KR kr => ?_
    refine wpS.take 0 false (some 23) (.pointer (some ⟨b2, 0 + (0 : Int).toNat * 1, none⟩)) (by kernel_rfl) (yld_idx (t := 23) (e := 21) (n := 256) (sz := 1) (k := .i64) (x := 0) (by kernel_rfl) (by kernel_rfl) (by kernel_rfl) (by decide) (by decide)) ?_
    refine wpS.take 1 true (some 24) (.int .i32 (rd r1 0)) (by kernel_rfl) (yld_loadA (e := 21) (x := 0) hs 2 rfl (by kernel_rfl) (by kernel_rfl) (by decide) (by decide) .grow) ?_
    rcases of_if h with ⟨hc, h⟩ | ⟨hc, h⟩
    · refine wpS.take 2 false (some 25) (.bool true) (by kernel_rfl) (yld_b (et hc) (fun _ => by kernel_rfl)) ?_
      refine wpS.take 3 false (some 26) (.bool true) (by kernel_rfl) (yld fun _ => by kernel_rfl) ?_
      refine wpS.take 4 false (some 27) (.pointer (some ⟨b2, 0 + (1 : Int).toNat * 1, none⟩)) (by kernel_rfl) (yld_idx (t := 23) (e := 21) (n := 256) (sz := 1) (k := .i64) (x := 1) (by kernel_rfl) (by kernel_rfl) (by kernel_rfl) (by decide) (by decide)) ?_
      refine wpS.take 5 true (some 28) (.int .i32 (rd r1 1)) (by kernel_rfl) (yld_loadA (e := 21) (x := 1) hs 2 rfl (by kernel_rfl) (by kernel_rfl) (by decide) (by decide) .grow) ?_
      rcases of_if h with ⟨hc, h⟩ | ⟨hc, h⟩
      · refine wpS.take 6 false (some 29) (.bool true) (by kernel_rfl) (yld_b (et hc) (fun _ => by kernel_rfl)) ?_
        refine wpS.take 7 false (some 30) (.bool true) (by kernel_rfl) (yld fun _ => by kernel_rfl) ?_
        refine wpS.take 8 false (some 31) (.bool true) (by kernel_rfl) (yld fun _ => by kernel_rfl) ?_
        refine wpS.take 9 false (some 32) (.pointer (some ⟨b2, 0 + (2 : Int).toNat * 1, none⟩)) (by kernel_rfl) (yld_idx (t := 23) (e := 21) (n := 256) (sz := 1) (k := .i64) (x := 2) (by kernel_rfl) (by kernel_rfl) (by kernel_rfl) (by decide) (by decide)) ?_
        refine wpS.take 10 true (some 33) (.int .i32 (rd r1 2)) (by kernel_rfl) (yld_loadA (e := 21) (x := 2) hs 2 rfl (by kernel_rfl) (by kernel_rfl) (by decide) (by decide) .grow) ?_
        rcases of_if h with ⟨hc, h⟩ | ⟨hc, h⟩
        · refine wpS.take 11 false (some 34) (.bool true) (by kernel_rfl) (yld_b (et hc) (fun _ => by kernel_rfl)) ?_
          refine wpS.take 12 false (some 35) (.bool true) (by kernel_rfl) (yld fun _ => by kernel_rfl) ?_
          refine wpS.take 13 false (some 36) (.bool true) (by kernel_rfl) (yld fun _ => by kernel_rfl) ?_
          refine wpS.take 14 false (some 37) (.bool r8) (by kernel_rfl) (yld fun _ => by kernel_rfl) ?_
          refine wpS.take 15 false (some 38) (.bool (!r8)) (by kernel_rfl) (yld fun _ => by kernel_rfl) ?_
          refine wpS.take 16 false (some 39) (.bool (!r8)) (by kernel_rfl) (yld fun _ => by kernel_rfl) ?_
          refine wpS.take 17 false (some 0) (.bool (!r8)) (by kernel_rfl) (yld fun _ => by kernel_rfl) ?_
          refine wpS.fin rfl (kr _ _ ?_)
          refine then_n (ks32 _ _ ?_)
          refine wp_ret ?_
          have q0 := of_some h
          subst q0
          exact qq _ _ (post_ret (by kernel_rfl) (run_results [.tmp 0] [.bool (!r8)] (by kernel_rfl) (.cons (res_tmp (by kernel_rfl)) .nil)) ⟨congrArg Ending.returned (by kernel_rfl), hs.none⟩)
        · refine wpS.take 11 false (some 34) (.bool false) (by kernel_rfl) (yld_b (ef hc) (fun _ => by kernel_rfl)) ?_
          refine wpS.take 12 false (some 35) (.bool false) (by kernel_rfl) (yld fun _ => by kernel_rfl) ?_
          refine wpS.take 13 false (some 36) (.bool false) (by kernel_rfl) (yld fun _ => by kernel_rfl) ?_
          refine wpS.take 14 false (some 37) (undef) (by kernel_rfl) (yld fun _ => by kernel_rfl) ?_
          refine wpS.take 15 false (some 38) (undef) (by kernel_rfl) (yld fun _ => by kernel_rfl) ?_
          refine wpS.take 16 false (some 39) (.bool false) (by kernel_rfl) (yld fun _ => by kernel_rfl) ?_
          refine wpS.take 17 false (some 0) (.bool false) (by kernel_rfl) (yld fun _ => by kernel_rfl) ?_
          refine wpS.fin rfl (kr _ _ ?_)
          refine then_n (ks32 _ _ ?_)
          refine wp_ret ?_
          have q0 := of_some h
          subst q0
          exact qq _ _ (post_ret (by kernel_rfl) (run_results [.tmp 0] [.bool false] (by kernel_rfl) (.cons (res_tmp (by kernel_rfl)) .nil)) ⟨congrArg Ending.returned (by kernel_rfl), hs.none⟩)
      · refine wpS.take 6 false (some 29) (.bool false) (by kernel_rfl) (yld_b (ef hc) (fun _ => by kernel_rfl)) ?_
        refine wpS.take 7 false (some 30) (.bool false) (by kernel_rfl) (yld fun _ => by kernel_rfl) ?_
        refine wpS.take 8 false (some 31) (.bool false) (by kernel_rfl) (yld fun _ => by kernel_rfl) ?_
        refine wpS.take 9 false (some 32) (undef) (by kernel_rfl) (yld fun _ => by kernel_rfl) ?_
        refine wpS.take 10 false (some 33) (undef) (by kernel_rfl) (yld fun _ => by kernel_rfl) ?_
        refine wpS.take 11 false (some 34) (undef) (by kernel_rfl) (yld fun _ => by kernel_rfl) ?_
        refine wpS.take 12 false (some 35) (.bool false) (by kernel_rfl) (yld fun _ => by kernel_rfl) ?_
        refine wpS.take 13 false (some 36) (.bool false) (by kernel_rfl) (yld fun _ => by kernel_rfl) ?_
        refine wpS.take 14 false (some 37) (undef) (by kernel_rfl) (yld fun _ => by kernel_rfl) ?_
        refine wpS.take 15 false (some 38) (undef) (by kernel_rfl) (yld fun _ => by kernel_rfl) ?_
        refine wpS.take 16 false (some 39) (.bool false) (by kernel_rfl) (yld fun _ => by kernel_rfl) ?_
        refine wpS.take 17 false (some 0) (.bool false) (by kernel_rfl) (yld fun _ => by kernel_rfl) ?_
        refine wpS.fin rfl (kr _ _ ?_)
        refine then_n (ks32 _ _ ?_)
        refine wp_ret ?_
        have q0 := of_some h
        subst q0
        exact qq _ _ (post_ret (by kernel_rfl) (run_results [.tmp 0] [.bool false] (by kernel_rfl) (.cons (res_tmp (by kernel_rfl)) .nil)) ⟨congrArg Ending.returned (by kernel_rfl), hs.none⟩)
    · refine wpS.take 2 false (some 25) (.bool false) (by kernel_rfl) (yld_b (ef hc) (fun _ => by kernel_rfl)) ?_
      refine wpS.take 3 false (some 26) (.bool false) (by kernel_rfl) (yld fun _ => by kernel_rfl) ?_
      refine wpS.take 4 false (some 27) (undef) (by kernel_rfl) (yld fun _ => by kernel_rfl) ?_
      refine wpS.take 5 false (some 28) (undef) (by kernel_rfl) (yld fun _ => by kernel_rfl) ?_
      refine wpS.take 6 false (some 29) (undef) (by kernel_rfl) (yld fun _ => by kernel_rfl) ?_
      refine wpS.take 7 false (some 30) (.bool false) (by kernel_rfl) (yld fun _ => by kernel_rfl) ?_
      refine wpS.take 8 false (some 31) (.bool false) (by kernel_rfl) (yld fun _ => by kernel_rfl) ?_
      refine wpS.take 9 false (some 32) (undef) (by kernel_rfl) (yld fun _ => by kernel_rfl) ?_
      refine wpS.take 10 false (some 33) (undef) (by kernel_rfl) (yld fun _ => by kernel_rfl) ?_
      refine wpS.take 11 false (some 34) (undef) (by kernel_rfl) (yld fun _ => by kernel_rfl) ?_
      refine wpS.take 12 false (some 35) (.bool false) (by kernel_rfl) (yld fun _ => by kernel_rfl) ?_
      refine wpS.take 13 false (some 36) (.bool false) (by kernel_rfl) (yld fun _ => by kernel_rfl) ?_
      refine wpS.take 14 false (some 37) (undef) (by kernel_rfl) (yld fun _ => by kernel_rfl) ?_
      refine wpS.take 15 false (some 38) (undef) (by kernel_rfl) (yld fun _ => by kernel_rfl) ?_
      refine wpS.take 16 false (some 39) (.bool false) (by kernel_rfl) (yld fun _ => by kernel_rfl) ?_
      refine wpS.take 17 false (some 0) (.bool false) (by kernel_rfl) (yld fun _ => by kernel_rfl) ?_
      refine wpS.fin rfl (kr _ _ ?_)
      refine then_n (ks32 _ _ ?_)
      refine wp_ret ?_
      have q0 := of_some h
      subst q0
      exact qq _ _ (post_ret (by kernel_rfl) (run_results [.tmp 0] [.bool false] (by kernel_rfl) (.cons (res_tmp (by kernel_rfl)) .nil)) ⟨congrArg Ending.returned (by kernel_rfl), hs.none⟩)

theorem math_bits_Reverse8.ok {K : Nat} {a0 : Int} {r0 : Int} (h : math_bits_Reverse8.f K a0 = some r0) (w0 : World) : Ret Try.prog 23 #[.int .u8 a0] w0 (.int .u8 r0) := by
  refine calls_k Try.func23 rfl fun Q qq => ?_
  have hs := St.start w0
  refine wp_conv (a' := ⟨#[.int .u8 a0, undef, undef, undef, undef], []⟩) (by kernel_rfl) ?_
  refine wp_seq_k fun KS1 ks1 => ?_
  refine wp_regS (l := [0]) (by kernel_rfl) fun KR kr => ?_
  refine wpS.take 0 false (some 2) (.int .u8 0) (by kernel_rfl) (yld fun _ => by kernel_rfl) ?_
  refine wpS.fin rfl (kr _ _ ?_)
  refine then_n (ks1 _ _ ?_)
  refine wp_seq_k fun KS2 ks2 => ?_
  refine wp_regS (l := [0, 1, 2]) (by kernel_rfl) fun KR kr => ?_
  refine wpS.take 0 false (some 3) (.int .u8 a0) (by kernel_rfl) (yld fun _ => by kernel_rfl) ?_
  obtain ⟨h0, h⟩ := of_chk h
  obtain ⟨h1, h⟩ := of_chk h
  refine wpS.take 1 false (some 4) (.int .u8 (strAt [0, 128, 64, 192, 32, 160, 96, 224, 16, 144, 80, 208, 48, 176, 112, 240, 8, 136, 72, 200, 40, 168, 104, 232, 24, 152, 88, 216, 56, 184, 120, 248, 4, 132, 68, 196, 36, 164, 100, 228, 20, 148, 84, 212, 52, 180, 116, 244, 12, 140, 76, 204, 44, 172, 108, 236, 28, 156, 92, 220, 60, 188, 124, 252, 2, 130, 66, 194, 34, 162, 98, 226, 18, 146, 82, 210, 50, 178, 114, 242, 10, 138, 74, 202, 42, 170, 106, 234, 26, 154, 90, 218, 58, 186, 122, 250, 6, 134, 70, 198, 38, 166, 102, 230, 22, 150, 86, 214, 54, 182, 118, 246, 14, 142, 78, 206, 46, 174, 110, 238, 30, 158, 94, 222, 62, 190, 126, 254, 1, 129, 65, 193, 33, 161, 97, 225, 17, 145, 81, 209, 49, 177, 113, 241, 9, 137, 73, 201, 41, 169, 105, 233, 25, 153, 89, 217, 57, 185, 121, 249, 5, 133, 69, 197, 37, 165, 101, 229, 21, 149, 85, 213, 53, 181, 117, 245, 13, 141, 77, 205, 45, 173, 109, 237, 29, 157, 93, 221, 61, 189, 125, 253, 3, 131, 67, 195, 35, 163, 99, 227, 19, 147, 83, 211, 51, 179, 115, 243, 11, 139, 75, 203, 43, 171, 107, 235, 27, 155, 91, 219, 59, 187, 123, 251, 7, 135, 71, 199, 39, 167, 103, 231, 23, 151, 87, 215, 55, 183, 119, 247, 15, 143, 79, 207, 47, 175, 111, 239, 31, 159, 95, 223, 63, 191, 127, 255] a0)) (by kernel_rfl) (yld_str (t := 9) (k' := .u8) (by kernel_rfl) (by kernel_rfl) h0 h1) ?_
  obtain ⟨x1, hx, h⟩ := of_bind h
  refine wpS.take 2 false (some 2) (.int .u8 x1) (by kernel_rfl) (yld_int hx (fun _ => by kernel_rfl)) ?_
  refine wpS.fin rfl (kr _ _ ?_)
  refine then_n (ks2 _ _ ?_)
  refine wp_ret ?_
  have q0 := of_some h
  subst q0
  exact qq _ _ (post_ret (by kernel_rfl) (run_results [.tmp 2] [.int .u8 x1] (by kernel_rfl) (.cons (res_tmp (by kernel_rfl)) .nil)) ⟨congrArg Ending.returned (by kernel_rfl), hs.none⟩)

theorem kq_roots.ok {K : Nat} {r0 : Arr 128} (h : kq_roots.f K = some r0) (w0 : World) : Calls Try.prog 17 #[] w0 fun e w' => ∃ b, e = .returned (.pointer (some ⟨b, 0, none⟩)) ∧ St w0 [] [.blk b (enc .i32 r0) 47] [] w' := by
  refine calls_k Try.func17 rfl fun Q qq => ?_
  have hs := St.start w0
  refine wp_conv (a' := ⟨#[undef, undef, undef, undef, undef, undef, undef, undef, undef, undef, undef, undef, undef, undef, undef, undef, undef, undef, undef, undef, undef, undef, undef, undef, undef, undef, undef, undef, undef, undef], []⟩) (by kernel_rfl) ?_
  refine wp_seq_k fun KS1 ks1 => ?_
  refine wp_regS (l := [0]) (by kernel_rfl) fun KR kr => ?_
  refine wpS.take 0 false (some 0) (.pointer none) (by kernel_rfl) (yld fun _ => by kernel_rfl) ?_
  refine wpS.fin rfl (kr _ _ ?_)
  refine then_n (ks1 _ _ ?_)
  refine wp_seq_k fun KS2 ks2 => ?_
  refine wp_regS (l := [0, 1]) (by kernel_rfl) fun KR kr => ?_
  refine wpS.only 0 (op_alloc (t := 47) (d := (some 1)) (by kernel_rfl) hs (enc .i32 (zeroA 128)) (.agg (enc .i32 (zeroA 128)).toArray) (by kernel_rfl) (by kernel_rfl) (by kernel_rfl) ?_)
  intro b1 w gw hs
  refine ⟨fun _ => trivial, ?_⟩
  refine wpS.only 1 (op_alloc (t := 47) (d := (some 2)) (by kernel_rfl) hs (enc .i32 (zeroA 128)) (.agg (enc .i32 (zeroA 128)).toArray) (by kernel_rfl) (by kernel_rfl) (by kernel_rfl) ?_)
  intro b2 w gw hs
  refine ⟨fun _ => trivial, ?_⟩
  refine wpS.fin rfl (kr _ _ ?_)
  refine then_n (ks2 _ _ ?_)
  refine wp_seq_k fun KS3 ks3 => ?_
  refine wp_regS (l := [0, 1]) (by kernel_rfl) fun KR kr => ?_
  refine wpS.take 0 false (some 5) (.pointer (some ⟨b1, 0 + (0 : Int).toNat * 1, none⟩)) (by kernel_rfl) (yld_idx (t := 47) (e := 21) (n := 128) (sz := 1) (k := .i64) (x := 0) (by kernel_rfl) (by kernel_rfl) (by kernel_rfl) (by decide) (by decide)) ?_
  refine wpS.only 1 (op_storeA (t := 21) (x := 0) (v := 1) (d := none) (by kernel_rfl) hs 1 rfl (by kernel_rfl /-v-/) (by kernel_rfl) (by decide) (by decide) ?_)
  intro w kp hs
  refine ⟨fun _ => trivial, ?_⟩
  refine wpS.fin rfl (kr _ _ ?_)
  refine then_n (ks3 _ _ ?_)
  refine wp_seq_k fun KS18 ks18 => ?_
  refine wp_seq_k fun KS19 ks19 => ?_
  refine wp_regS (l := [0]) (by kernel_rfl) fun KR kr => ?_
  refine wpS.take 0 false (some 3) (.int .i64 1) (by kernel_rfl) (yld fun _ => by kernel_rfl) ?_
  refine wpS.fin rfl (kr _ _ ?_)
  refine then_n (ks19 _ _ ?_)
  obtain ⟨y5, hy, hk0⟩ := of_bind h
  refine wp_exq (N := fun a w => St w0 [] [.blk b2 (enc .i32 (zeroA 128)) 47, .blk b1 (enc .i32 y5) 47] [] w ∧ ∃ g : Nat → Value, a = ⟨#[.pointer none, .pointer (some ⟨b1, 0, none⟩), .pointer (some ⟨b2, 0, none⟩), (g 3), undef, .pointer (some ⟨b1, 0 + (0 : Int).toNat * 1, none⟩), (g 6), (g 7), (g 8), (g 9), (g 10), (g 11), (g 12), (g 13), (g 14), (g 15), (g 16), (g 17), undef, undef, undef, undef, undef, undef, undef, undef, undef, undef, undef, undef], []⟩) (fun N0 nn0 => ?_) ?_
  · clear hk0
    refine wp_block ?_
    refine wp_loop_k (fun n a w => ∃ z3 z4, kq_roots.l0 K n z3 z4 = some y5 ∧ St w0 [] [.blk b2 (enc .i32 (zeroA 128)) 47, .blk b1 (enc .i32 z4) 47] [] w ∧ ∃ g : Nat → Value, a = ⟨#[.pointer none, .pointer (some ⟨b1, 0, none⟩), .pointer (some ⟨b2, 0, none⟩), .int .i64 z3, undef, .pointer (some ⟨b1, 0 + (0 : Int).toNat * 1, none⟩), (g 6), (g 7), (g 8), (g 9), (g 10), (g 11), (g 12), (g 13), (g 14), (g 15), (g 16), (g 17), undef, undef, undef, undef, undef, undef, undef, undef, undef, undef, undef, undef], []⟩) K ⟨1, (wr (zeroA 128) 0 1), hy, hs.conv rfl, exg (by kernel_rfl)⟩ ?_
    clear hs h hy
    rintro n a w ⟨z3, z4, h, hs, g, rfl⟩ KL0 kl0
    cases n with
    | zero => exact nomatch (show none = some _ from h)
    | succ n =>
      refine wp_seq_k fun KS27 ks27 => ?_
      refine wp_seq_k fun KS28 ks28 => ?_
      refine wp_regS (l := [0, 1]) (by kernel_rfl) fun KR kr => ?_
      refine wpS.take 0 false (some 6) (.int .i64 z3) (by kernel_rfl) (yld fun _ => by kernel_rfl) ?_
      rcases of_if h with ⟨hc, h⟩ | ⟨hc, h⟩
      · refine wpS.take 1 false (some 7) (.bool true) (by kernel_rfl) (yld_b (dt hc) (fun _ => by kernel_rfl)) ?_
        refine wpS.fin rfl (kr _ _ ?_)
        refine then_n (ks28 _ _ ?_)
        refine wp_cond_t (by kernel_rfl) ?_
        refine wp_skip ?_
        refine then_n (ks27 _ _ ?_)
        refine wp_seq_k fun KS29 ks29 => ?_
        refine wp_block ?_
        refine wp_regS (l := [0, 1, 2, 3, 4, 5, 6, 7, 8]) (by kernel_rfl) fun KR kr => ?_
        refine wpS.take 0 false (some 10) (.int .i64 z3) (by kernel_rfl) (yld fun _ => by kernel_rfl) ?_
        refine wpS.take 1 false (some 11) (.int .i64 z3) (by kernel_rfl) (yld fun _ => by kernel_rfl) ?_
        refine wpS.take 2 false (some 12) (.int .i64 (isub .i64 z3 1)) (by kernel_rfl) (yld fun _ => by kernel_rfl) ?_
        obtain ⟨x6, hx, h⟩ := of_bind h
        have hx := of_some hx
        subst hx
        obtain ⟨i0_30, h⟩ := of_chk h
        obtain ⟨i1_30, h⟩ := of_chk h
        refine wpS.take 3 false (some 13) (.pointer (some ⟨b1, 0 + ((isub .i64 z3 1) : Int).toNat * 1, none⟩)) (by kernel_rfl) (yld_idx (t := 47) (e := 21) (n := 128) (sz := 1) (k := .i64) (x := (isub .i64 z3 1)) (by kernel_rfl) (by kernel_rfl) (by kernel_rfl) i0_30 i1_30) ?_
        refine wpS.take 4 true (some 14) (.int .i32 (rd z4 (isub .i64 z3 1))) (by kernel_rfl) (yld_loadA (e := 21) (x := (isub .i64 z3 1)) hs 1 rfl (by kernel_rfl) (by kernel_rfl) i0_30 i1_30 .grow) ?_
        refine wpS.take 5 false (some 15) (.int .i32 (imul .i32 (rd z4 (isub .i64 z3 1)) 17)) (by kernel_rfl) (yld fun _ => by kernel_rfl) ?_
        refine wpS.take 6 false (some 16) (.int .i32 (irem .i32 (imul .i32 (rd z4 (isub .i64 z3 1)) 17) 3329)) (by kernel_rfl) (yld fun _ => by kernel_rfl) ?_
        obtain ⟨i0_31, h⟩ := of_chk h
        obtain ⟨i1_31, h⟩ := of_chk h
        refine wpS.take 7 false (some 17) (.pointer (some ⟨b1, 0 + (z3 : Int).toNat * 1, none⟩)) (by kernel_rfl) (yld_idx (t := 47) (e := 21) (n := 128) (sz := 1) (k := .i64) (x := z3) (by kernel_rfl) (by kernel_rfl) (by kernel_rfl) i0_31 i1_31) ?_
        obtain ⟨x7, hx, h⟩ := of_bind h
        refine wpS.only 8 (op_storeA (t := 21) (x := z3) (v := x7) (d := none) (by kernel_rfl) hs 1 rfl (by cases hx; kernel_rfl) (by kernel_rfl) i0_31 i1_31 ?_)
        intro w kp hs
        refine ⟨fun _ => trivial, ?_⟩
        refine wpS.fin rfl (kr _ _ ?_)
        refine inBlock_n ?_
        refine then_n (ks29 _ _ ?_)
        refine wp_regS (l := [0, 1, 2]) (by kernel_rfl) fun KR kr => ?_
        refine wpS.take 0 false (some 8) (.int .i64 z3) (by kernel_rfl) (yld fun _ => by kernel_rfl) ?_
        refine wpS.take 1 false (some 9) (.int .i64 (iadd .i64 z3 1)) (by kernel_rfl) (yld fun _ => by kernel_rfl) ?_
        obtain ⟨x8, hx, h⟩ := of_bind h
        refine wpS.take 2 false (some 3) (.int .i64 x8) (by kernel_rfl) (yld_int hx (fun _ => by kernel_rfl)) ?_
        refine wpS.fin rfl (kr _ _ ?_)
        exact then_n (kl0 _ _ ⟨n, Nat.lt_succ_self n, x8, (wr z4 z3 x7), h, (hs.conv rfl), exg (by kernel_rfl)⟩)
      · refine wpS.take 1 false (some 7) (.bool false) (by kernel_rfl) (yld_b (df hc) (fun _ => by kernel_rfl)) ?_
        refine wpS.fin rfl (kr _ _ ?_)
        refine then_n (ks28 _ _ ?_)
        refine wp_cond_f (by kernel_rfl) ?_
        refine wp_exit ?_
        refine then_x ?_
        refine then_x ?_
        refine inBlock_hit ?_
        have q0 := of_some h
        subst q0
        exact exq_n (nn0 _ _ ⟨(hs.conv rfl), exg (by kernel_rfl)⟩)
  · clear hs h hy
    rintro a w ⟨hs, g, rfl⟩
    have h := hk0
    refine then_n (ks18 _ _ ?_)
    refine wp_seq_k fun KS47 ks47 => ?_
    refine wp_seq_k fun KS48 ks48 => ?_
    refine wp_regS (l := [0]) (by kernel_rfl) fun KR kr => ?_
    refine wpS.take 0 false (some 18) (.int .i64 0) (by kernel_rfl) (yld fun _ => by kernel_rfl) ?_
    refine wpS.fin rfl (kr _ _ ?_)
    refine then_n (ks48 _ _ ?_)
    obtain ⟨y11, hy, hk1⟩ := of_bind h
    refine wp_exq (N := fun a w => St w0 [] [.blk b2 (enc .i32 y11) 47, .blk b1 (enc .i32 y5) 47] [] w ∧ ∃ g : Nat → Value, a = ⟨#[.pointer none, .pointer (some ⟨b1, 0, none⟩), .pointer (some ⟨b2, 0, none⟩), (g 3), (g 4), .pointer (some ⟨b1, 0 + (0 : Int).toNat * 1, none⟩), (g 6), (g 7), (g 8), (g 9), (g 10), (g 11), (g 12), (g 13), (g 14), (g 15), (g 16), (g 17), (g 18), (g 19), (g 20), (g 21), (g 22), (g 23), (g 24), (g 25), (g 26), (g 27), (g 28), (g 29)], []⟩) (fun N1 nn1 => ?_) ?_
    · clear hk1
      refine wp_block ?_
      refine wp_loop_k (fun n a w => ∃ z9 z10, kq_roots.l1 K n y5 z9 z10 = some y11 ∧ St w0 [] [.blk b2 (enc .i32 z10) 47, .blk b1 (enc .i32 y5) 47] [] w ∧ ∃ g : Nat → Value, a = ⟨#[.pointer none, .pointer (some ⟨b1, 0, none⟩), .pointer (some ⟨b2, 0, none⟩), (g 3), (g 4), .pointer (some ⟨b1, 0 + (0 : Int).toNat * 1, none⟩), (g 6), (g 7), (g 8), (g 9), (g 10), (g 11), (g 12), (g 13), (g 14), (g 15), (g 16), (g 17), .int .i64 z9, (g 19), (g 20), (g 21), (g 22), (g 23), (g 24), (g 25), (g 26), (g 27), (g 28), (g 29)], []⟩) K ⟨0, (zeroA 128), hy, hs.conv rfl, exg (by kernel_rfl)⟩ ?_
      clear hs h hy
      rintro n a w ⟨z9, z10, h, hs, g, rfl⟩ KL1 kl1
      cases n with
      | zero => exact nomatch (show none = some _ from h)
      | succ n =>
        refine wp_seq_k fun KS56 ks56 => ?_
        refine wp_regS (l := [0]) (by kernel_rfl) fun KR kr => ?_
        rcases of_if h with ⟨hc, h⟩ | ⟨hc, h⟩
        · refine wpS.take 0 false (some 19) (.bool true) (by kernel_rfl) (yld_b (dt hc) (fun _ => by kernel_rfl)) ?_
          refine wpS.fin rfl (kr _ _ ?_)
          refine then_n (ks56 _ _ ?_)
          refine wp_seq_k fun KS57 ks57 => ?_
          refine wp_cond_t (by kernel_rfl) ?_
          refine wp_skip ?_
          refine then_n (ks57 _ _ ?_)
          refine wp_seq_k fun KS58 ks58 => ?_
          refine wp_block ?_
          refine wp_seq_k fun KS59 ks59 => ?_
          refine wp_regS (l := [0, 1]) (by kernel_rfl) fun KR kr => ?_
          refine wpS.take 0 false (some 20) (.int .i64 z9) (by kernel_rfl) (yld fun _ => by kernel_rfl) ?_
          refine wpS.take 1 false (some 4) (.int .i64 z9) (by kernel_rfl) (yld fun _ => by kernel_rfl) ?_
          refine wpS.fin rfl (kr _ _ ?_)
          refine then_n (ks59 _ _ ?_)
          refine wp_regS (l := [0, 1, 2, 3, 4, 5, 6, 7, 8]) (by kernel_rfl) fun KR kr => ?_
          refine wpS.take 0 false (some 21) (.int .i64 z9) (by kernel_rfl) (yld fun _ => by kernel_rfl) ?_
          refine wpS.take 1 false (some 22) (.int .i64 z9) (by kernel_rfl) (yld fun _ => by kernel_rfl) ?_
          refine wpS.take 2 false (some 23) (.int .u8 (iconv .u8 z9)) (by kernel_rfl) (yld fun _ => by kernel_rfl) ?_
          obtain ⟨r12, hg, h⟩ := of_bind h
          refine wpS.only 3 (op_call (d := (some 24)) (by kernel_rfl) hs (fun _ => by kernel_rfl) (math_bits_Reverse8.ok hg _) ?_)
          intro w gw hs
          refine ⟨fun _ => trivial, ?_⟩
          refine wpS.take 4 false (some 25) (.int .u8 (ishr .u8 r12 1)) (by kernel_rfl) (yld fun _ => by kernel_rfl) ?_
          obtain ⟨x13, hx, h⟩ := of_bind h
          have hx := of_some hx
          subst hx
          obtain ⟨i0_60, h⟩ := of_chk h
          obtain ⟨i1_60, h⟩ := of_chk h
          refine wpS.take 5 false (some 26) (.pointer (some ⟨b1, 0 + ((ishr .u8 r12 1) : Int).toNat * 1, none⟩)) (by kernel_rfl) (yld_idx (t := 47) (e := 21) (n := 128) (sz := 1) (k := .u8) (x := (ishr .u8 r12 1)) (by kernel_rfl) (by kernel_rfl) (by kernel_rfl) i0_60 i1_60) ?_
          refine wpS.take 6 true (some 27) (.int .i32 (rd y5 (ishr .u8 r12 1))) (by kernel_rfl) (yld_loadA (e := 21) (x := (ishr .u8 r12 1)) hs 1 rfl (by kernel_rfl) (by kernel_rfl) i0_60 i1_60 .grow) ?_
          obtain ⟨i0_61, h⟩ := of_chk h
          obtain ⟨i1_61, h⟩ := of_chk h
          refine wpS.take 7 false (some 28) (.pointer (some ⟨b2, 0 + (z9 : Int).toNat * 1, none⟩)) (by kernel_rfl) (yld_idx (t := 47) (e := 21) (n := 128) (sz := 1) (k := .i64) (x := z9) (by kernel_rfl) (by kernel_rfl) (by kernel_rfl) i0_61 i1_61) ?_
          obtain ⟨x14, hx, h⟩ := of_bind h
          refine wpS.only 8 (op_storeA (t := 21) (x := z9) (v := x14) (d := none) (by kernel_rfl) hs 0 rfl (by cases hx; kernel_rfl) (by kernel_rfl) i0_61 i1_61 ?_)
          intro w kp hs
          refine ⟨fun _ => trivial, ?_⟩
          refine wpS.fin rfl (kr _ _ ?_)
          refine inBlock_n ?_
          refine then_n (ks58 _ _ ?_)
          refine wp_regS (l := [0, 1]) (by kernel_rfl) fun KR kr => ?_
          refine wpS.take 0 false (some 29) (.int .i64 (iadd .i64 z9 1)) (by kernel_rfl) (yld fun _ => by kernel_rfl) ?_
          refine wpS.take 1 false (some 18) (.int .i64 (iadd .i64 z9 1)) (by kernel_rfl) (yld fun _ => by kernel_rfl) ?_
          refine wpS.fin rfl (kr _ _ ?_)
          exact then_n (kl1 _ _ ⟨n, Nat.lt_succ_self n, (iadd .i64 z9 1), (wr z10 z9 x14), h, (hs.conv rfl), exg (by kernel_rfl)⟩)
        · refine wpS.take 0 false (some 19) (.bool false) (by kernel_rfl) (yld_b (df hc) (fun _ => by kernel_rfl)) ?_
          refine wpS.fin rfl (kr _ _ ?_)
          refine then_n (ks56 _ _ ?_)
          refine wp_seq_k fun KS62 ks62 => ?_
          refine wp_cond_f (by kernel_rfl) ?_
          refine wp_exit ?_
          refine then_x ?_
          refine then_x ?_
          refine inBlock_hit ?_
          have q0 := of_some h
          subst q0
          exact exq_n (nn1 _ _ ⟨(hs.conv rfl), exg (by kernel_rfl)⟩)
    · clear hs h hy
      rintro a w ⟨hs, g, rfl⟩
      have h := hk1
      refine then_n (ks47 _ _ ?_)
      refine wp_seq_k fun KS63 ks63 => ?_
      refine wp_regS (l := [0]) (by kernel_rfl) fun KR kr => ?_
      refine wpS.take 0 false (some 0) (.pointer (some ⟨b2, 0, none⟩)) (by kernel_rfl) (yld fun _ => by kernel_rfl) ?_
      refine wpS.fin rfl (kr _ _ ?_)
      refine then_n (ks63 _ _ ?_)
      refine wp_ret ?_
      have q0 := of_some h
      subst q0
      exact qq _ _ (post_ret (by kernel_rfl) (run_results [.tmp 0] [.pointer (some ⟨b2, 0, none⟩)] (by kernel_rfl) (.cons (res_tmp (by kernel_rfl)) .nil)) ⟨_, congrArg Ending.returned (by kernel_rfl), ((hs.conv (L' := [.blk b2 (enc .i32 y11) 47, .blk b1 (enc .i32 y5) 47]) rfl).drop (.cons_cons _ (.cons _ .slnil)))⟩)

theorem kq_Back.ok {K : Nat} {a0 : Arr 256} {r0 : Arr 256} (h : kq_Back.f K a0 = some r0) (w0 : World) : Ret Try.prog 6 #[.agg (enc .i32 a0).toArray] w0 (.agg (enc .i32 r0).toArray) := by
  refine calls_k Try.func6 rfl fun Q qq => ?_
  have hs := St.start w0
  refine wp_conv (a' := ⟨#[.agg (enc .i32 a0).toArray, undef, undef, undef, undef, undef, undef, undef, undef, undef, undef, undef, undef, undef, undef, undef, undef, undef, undef, undef, undef, undef, undef, undef, undef, undef, undef, undef, undef, undef, undef, undef, undef, undef, undef, undef, undef, undef, undef, undef, undef, undef, undef, undef, undef, undef, undef, undef, undef, undef, undef, undef, undef, undef, undef, undef, undef, undef, undef, undef, undef, undef, undef, undef, undef, undef, undef, undef, undef, undef, undef, undef, undef, undef, undef], []⟩) (by kernel_rfl) ?_
  refine wp_seq_k fun KS1 ks1 => ?_
  refine wp_regS (l := [0, 1]) (by kernel_rfl) fun KR kr => ?_
  refine wpS.only 0 (op_box (t := 23) (v := .agg (enc .i32 a0).toArray) (d := (some 1)) (by kernel_rfl) hs (enc .i32 a0) (by kernel_rfl) (by kernel_rfl) ?_)
  intro b1 w gw hs
  refine ⟨fun _ => trivial, ?_⟩
  refine wpS.only 1 (op_alloc (t := 23) (d := (some 2)) (by kernel_rfl) hs (enc .i32 (zeroA 256)) (.agg (enc .i32 (zeroA 256)).toArray) (by kernel_rfl) (by kernel_rfl) (by kernel_rfl) ?_)
  intro b2 w gw hs
  refine ⟨fun _ => trivial, ?_⟩
  refine wpS.fin rfl (kr _ _ ?_)
  refine then_n (ks1 _ _ ?_)
  refine wp_seq_k fun KS2 ks2 => ?_
  refine wp_regS (l := [0, 1]) (by kernel_rfl) fun KR kr => ?_
  obtain ⟨r3, hg, h⟩ := of_bind h
  refine wpS.only 0 (op_callB (d := (some 10)) (by kernel_rfl) hs (fun _ => by kernel_rfl) (kq_roots.ok hg _) ?_)
  intro b4 w gw hs
  refine ⟨fun _ => trivial, ?_⟩
  refine wpS.take 1 false (some 3) (.pointer (some ⟨b4, 0, none⟩)) (by kernel_rfl) (yld fun _ => by kernel_rfl) ?_
  refine wpS.fin rfl (kr _ _ ?_)
  refine then_n (ks2 _ _ ?_)
  refine wp_seq_k fun KS3 ks3 => ?_
  refine wp_regS (l := [0]) (by kernel_rfl) fun KR kr => ?_
  refine wpS.take 0 false (some 4) (.int .i64 128) (by kernel_rfl) (yld fun _ => by kernel_rfl) ?_
  refine wpS.fin rfl (kr _ _ ?_)
  refine then_n (ks3 _ _ ?_)
  refine wp_seq_k fun KS561 ks561 => ?_
  refine wp_seq_k fun KS562 ks562 => ?_
  refine wp_regS (l := [0]) (by kernel_rfl) fun KR kr => ?_
  refine wpS.take 0 false (some 5) (.int .i64 2) (by kernel_rfl) (yld fun _ => by kernel_rfl) ?_
  refine wpS.fin rfl (kr _ _ ?_)
  refine then_n (ks562 _ _ ?_)
  obtain ⟨y8, hy, hk0⟩ := of_bind h
  refine wp_exq (N := fun a w => St w0 [] [.blk b4 (enc .i32 r3) 47, .blk b2 (enc .i32 (zeroA 256)) 23, .blk b1 (enc .i32 y8) 23] [] w ∧ ∃ g : Nat → Value, a = ⟨#[.agg (enc .i32 a0).toArray, .pointer (some ⟨b1, 0, none⟩), .pointer (some ⟨b2, 0, none⟩), .pointer (some ⟨b4, 0, none⟩), (g 4), (g 5), (g 6), (g 7), (g 8), undef, .pointer (some ⟨b4, 0, none⟩), (g 11), (g 12), (g 13), (g 14), (g 15), (g 16), (g 17), (g 18), (g 19), (g 20), (g 21), (g 22), (g 23), (g 24), (g 25), (g 26), (g 27), (g 28), (g 29), (g 30), (g 31), (g 32), (g 33), (g 34), (g 35), (g 36), (g 37), (g 38), (g 39), (g 40), (g 41), (g 42), (g 43), (g 44), (g 45), (g 46), (g 47), (g 48), (g 49), (g 50), (g 51), (g 52), (g 53), (g 54), (g 55), (g 56), (g 57), (g 58), (g 59), (g 60), (g 61), (g 62), undef, undef, undef, undef, undef, undef, undef, undef, undef, undef, undef, undef], []⟩) (fun N0 nn0 => ?_) ?_
  · clear hk0
    refine wp_block ?_
    refine wp_loop_k (fun n a w => ∃ z5 z6 z7, kq_Back.l0 K n r3 z5 z6 z7 = some y8 ∧ St w0 [] [.blk b4 (enc .i32 r3) 47, .blk b2 (enc .i32 (zeroA 256)) 23, .blk b1 (enc .i32 z7) 23] [] w ∧ ∃ g : Nat → Value, a = ⟨#[.agg (enc .i32 a0).toArray, .pointer (some ⟨b1, 0, none⟩), .pointer (some ⟨b2, 0, none⟩), .pointer (some ⟨b4, 0, none⟩), .int .i64 z5, .int .i64 z6, (g 6), (g 7), (g 8), undef, .pointer (some ⟨b4, 0, none⟩), (g 11), (g 12), (g 13), (g 14), (g 15), (g 16), (g 17), (g 18), (g 19), (g 20), (g 21), (g 22), (g 23), (g 24), (g 25), (g 26), (g 27), (g 28), (g 29), (g 30), (g 31), (g 32), (g 33), (g 34), (g 35), (g 36), (g 37), (g 38), (g 39), (g 40), (g 41), (g 42), (g 43), (g 44), (g 45), (g 46), (g 47), (g 48), (g 49), (g 50), (g 51), (g 52), (g 53), (g 54), (g 55), (g 56), (g 57), (g 58), (g 59), (g 60), (g 61), (g 62), undef, undef, undef, undef, undef, undef, undef, undef, undef, undef, undef, undef], []⟩) K ⟨128, 2, a0, hy, hs.conv rfl, exg (by kernel_rfl)⟩ ?_
    clear hs h hy
    rintro n a w ⟨z5, z6, z7, h, hs, g, rfl⟩ KL0 kl0
    cases n with
    | zero => exact nomatch (show none = some _ from h)
    | succ n =>
      refine wp_seq_k fun KS842 ks842 => ?_
      refine wp_seq_k fun KS843 ks843 => ?_
      refine wp_regS (l := [0, 1]) (by kernel_rfl) fun KR kr => ?_
      refine wpS.take 0 false (some 11) (.int .i64 z6) (by kernel_rfl) (yld fun _ => by kernel_rfl) ?_
      rcases of_if h with ⟨hc, h⟩ | ⟨hc, h⟩
      · refine wpS.take 1 false (some 12) (.bool true) (by kernel_rfl) (yld_b (dt hc) (fun _ => by kernel_rfl)) ?_
        refine wpS.fin rfl (kr _ _ ?_)
        refine then_n (ks843 _ _ ?_)
        refine wp_cond_t (by kernel_rfl) ?_
        refine wp_skip ?_
        refine then_n (ks842 _ _ ?_)
        refine wp_seq_k fun KS981 ks981 => ?_
        refine wp_block ?_
        refine wp_seq_k fun KS982 ks982 => ?_
        refine wp_regS (l := [0]) (by kernel_rfl) fun KR kr => ?_
        refine wpS.take 0 false (some 6) (.int .i64 0) (by kernel_rfl) (yld fun _ => by kernel_rfl) ?_
        refine wpS.fin rfl (kr _ _ ?_)
        refine then_n (ks982 _ _ ?_)
        obtain ⟨⟨y12, y13⟩, hy, hk1⟩ := of_bind h
        refine wp_exq (N := fun a w => St w0 [] [.blk b4 (enc .i32 r3) 47, .blk b2 (enc .i32 (zeroA 256)) 23, .blk b1 (enc .i32 y13) 23] [] w ∧ ∃ g : Nat → Value, a = ⟨#[.agg (enc .i32 a0).toArray, .pointer (some ⟨b1, 0, none⟩), .pointer (some ⟨b2, 0, none⟩), .pointer (some ⟨b4, 0, none⟩), .int .i64 y12, .int .i64 z6, (g 6), (g 7), (g 8), undef, .pointer (some ⟨b4, 0, none⟩), .int .i64 z6, .bool true, (g 13), (g 14), (g 15), (g 16), (g 17), (g 18), (g 19), (g 20), (g 21), (g 22), (g 23), (g 24), (g 25), (g 26), (g 27), (g 28), (g 29), (g 30), (g 31), (g 32), (g 33), (g 34), (g 35), (g 36), (g 37), (g 38), (g 39), (g 40), (g 41), (g 42), (g 43), (g 44), (g 45), (g 46), (g 47), (g 48), (g 49), (g 50), (g 51), (g 52), (g 53), (g 54), (g 55), (g 56), (g 57), (g 58), (g 59), (g 60), (g 61), (g 62), undef, undef, undef, undef, undef, undef, undef, undef, undef, undef, undef, undef], []⟩) (fun N1 nn1 => ?_) ?_
        · clear hk1
          refine wp_block ?_
          refine wp_loop_k (fun n a w => ∃ z9 z10 z11, kq_Back.l1 K n r3 z6 z9 z10 z11 = some (y12, y13) ∧ St w0 [] [.blk b4 (enc .i32 r3) 47, .blk b2 (enc .i32 (zeroA 256)) 23, .blk b1 (enc .i32 z11) 23] [] w ∧ ∃ g : Nat → Value, a = ⟨#[.agg (enc .i32 a0).toArray, .pointer (some ⟨b1, 0, none⟩), .pointer (some ⟨b2, 0, none⟩), .pointer (some ⟨b4, 0, none⟩), .int .i64 z9, .int .i64 z6, .int .i64 z10, (g 7), (g 8), undef, .pointer (some ⟨b4, 0, none⟩), .int .i64 z6, .bool true, (g 13), (g 14), (g 15), (g 16), (g 17), (g 18), (g 19), (g 20), (g 21), (g 22), (g 23), (g 24), (g 25), (g 26), (g 27), (g 28), (g 29), (g 30), (g 31), (g 32), (g 33), (g 34), (g 35), (g 36), (g 37), (g 38), (g 39), (g 40), (g 41), (g 42), (g 43), (g 44), (g 45), (g 46), (g 47), (g 48), (g 49), (g 50), (g 51), (g 52), (g 53), (g 54), (g 55), (g 56), (g 57), (g 58), (g 59), (g 60), (g 61), (g 62), undef, undef, undef, undef, undef, undef, undef, undef, undef, undef, undef, undef], []⟩) K ⟨z5, 0, z7, hy, hs.conv rfl, exg (by kernel_rfl)⟩ ?_
          clear hs h hy
          rintro n a w ⟨z9, z10, z11, h, hs, g, rfl⟩ KL1 kl1
          cases n with
          | zero => exact nomatch (show none = some _ from h)
          | succ n =>
            refine wp_seq_k fun KS1052 ks1052 => ?_
            refine wp_seq_k fun KS1053 ks1053 => ?_
            refine wp_regS (l := [0, 1]) (by kernel_rfl) fun KR kr => ?_
            refine wpS.take 0 false (some 15) (.int .i64 z10) (by kernel_rfl) (yld fun _ => by kernel_rfl) ?_
            rcases of_if h with ⟨hc, h⟩ | ⟨hc, h⟩
            · refine wpS.take 1 false (some 16) (.bool true) (by kernel_rfl) (yld_b (dt hc) (fun _ => by kernel_rfl)) ?_
              refine wpS.fin rfl (kr _ _ ?_)
              refine then_n (ks1053 _ _ ?_)
              refine wp_cond_t (by kernel_rfl) ?_
              refine wp_skip ?_
              refine then_n (ks1052 _ _ ?_)
              refine wp_seq_k fun KS1086 ks1086 => ?_
              refine wp_block ?_
              refine wp_seq_k fun KS1087 ks1087 => ?_
              refine wp_regS (l := [0, 1, 2]) (by kernel_rfl) fun KR kr => ?_
              refine wpS.take 0 false (some 21) (.int .i64 z9) (by kernel_rfl) (yld fun _ => by kernel_rfl) ?_
              refine wpS.take 1 false (some 22) (.int .i64 (isub .i64 z9 1)) (by kernel_rfl) (yld fun _ => by kernel_rfl) ?_
              obtain ⟨x14, hx, h⟩ := of_bind h
              refine wpS.take 2 false (some 4) (.int .i64 x14) (by kernel_rfl) (yld_int hx (fun _ => by kernel_rfl)) ?_
              refine wpS.fin rfl (kr _ _ ?_)
              refine then_n (ks1087 _ _ ?_)
              refine wp_seq_k fun KS1088 ks1088 => ?_
              refine wp_regS (l := [0, 1]) (by kernel_rfl) fun KR kr => ?_
              refine wpS.take 0 false (some 23) (.int .i64 z10) (by kernel_rfl) (yld fun _ => by kernel_rfl) ?_
              refine wpS.take 1 false (some 7) (.int .i64 z10) (by kernel_rfl) (yld fun _ => by kernel_rfl) ?_
              refine wpS.fin rfl (kr _ _ ?_)
              refine then_n (ks1088 _ _ ?_)
              obtain ⟨y17, hy, hk2⟩ := of_bind h
              refine wp_exq (N := fun a w => St w0 [] [.blk b4 (enc .i32 r3) 47, .blk b2 (enc .i32 (zeroA 256)) 23, .blk b1 (enc .i32 y17) 23] [] w ∧ ∃ g : Nat → Value, a = ⟨#[.agg (enc .i32 a0).toArray, .pointer (some ⟨b1, 0, none⟩), .pointer (some ⟨b2, 0, none⟩), .pointer (some ⟨b4, 0, none⟩), .int .i64 x14, .int .i64 z6, .int .i64 z10, (g 7), (g 8), undef, .pointer (some ⟨b4, 0, none⟩), .int .i64 z6, .bool true, (g 13), (g 14), .int .i64 z10, .bool true, (g 17), (g 18), (g 19), (g 20), .int .i64 z9, .int .i64 (isub .i64 z9 1), .int .i64 z10, (g 24), (g 25), (g 26), (g 27), (g 28), (g 29), (g 30), (g 31), (g 32), (g 33), (g 34), (g 35), (g 36), (g 37), (g 38), (g 39), (g 40), (g 41), (g 42), (g 43), (g 44), (g 45), (g 46), (g 47), (g 48), (g 49), (g 50), (g 51), (g 52), (g 53), (g 54), (g 55), (g 56), (g 57), (g 58), (g 59), (g 60), (g 61), (g 62), undef, undef, undef, undef, undef, undef, undef, undef, undef, undef, undef, undef], []⟩) (fun N2 nn2 => ?_) ?_
              · clear hk2
                refine wp_block ?_
                refine wp_loop_k (fun n a w => ∃ z15 z16, kq_Back.l2 K n r3 z6 z10 x14 z15 z16 = some y17 ∧ St w0 [] [.blk b4 (enc .i32 r3) 47, .blk b2 (enc .i32 (zeroA 256)) 23, .blk b1 (enc .i32 z16) 23] [] w ∧ ∃ g : Nat → Value, a = ⟨#[.agg (enc .i32 a0).toArray, .pointer (some ⟨b1, 0, none⟩), .pointer (some ⟨b2, 0, none⟩), .pointer (some ⟨b4, 0, none⟩), .int .i64 x14, .int .i64 z6, .int .i64 z10, .int .i64 z15, (g 8), undef, .pointer (some ⟨b4, 0, none⟩), .int .i64 z6, .bool true, (g 13), (g 14), .int .i64 z10, .bool true, (g 17), (g 18), (g 19), (g 20), .int .i64 z9, .int .i64 (isub .i64 z9 1), .int .i64 z10, (g 24), (g 25), (g 26), (g 27), (g 28), (g 29), (g 30), (g 31), (g 32), (g 33), (g 34), (g 35), (g 36), (g 37), (g 38), (g 39), (g 40), (g 41), (g 42), (g 43), (g 44), (g 45), (g 46), (g 47), (g 48), (g 49), (g 50), (g 51), (g 52), (g 53), (g 54), (g 55), (g 56), (g 57), (g 58), (g 59), (g 60), (g 61), (g 62), undef, undef, undef, undef, undef, undef, undef, undef, undef, undef, undef, undef], []⟩) K ⟨z10, z11, hy, hs.conv rfl, exg (by kernel_rfl)⟩ ?_
                clear hs h hy
                rintro n a w ⟨z15, z16, h, hs, g, rfl⟩ KL2 kl2
                cases n with
                | zero => exact nomatch (show none = some _ from h)
                | succ n =>
                  refine wp_seq_k fun KS1105 ks1105 => ?_
                  refine wp_seq_k fun KS1106 ks1106 => ?_
                  refine wp_regS (l := [0, 1, 2, 3, 4]) (by kernel_rfl) fun KR kr => ?_
                  refine wpS.take 0 false (some 24) (.int .i64 z15) (by kernel_rfl) (yld fun _ => by kernel_rfl) ?_
                  refine wpS.take 1 false (some 25) (.int .i64 z10) (by kernel_rfl) (yld fun _ => by kernel_rfl) ?_
                  refine wpS.take 2 false (some 26) (.int .i64 z6) (by kernel_rfl) (yld fun _ => by kernel_rfl) ?_
                  refine wpS.take 3 false (some 27) (.int .i64 (iadd .i64 z10 z6)) (by kernel_rfl) (yld fun _ => by kernel_rfl) ?_
                  rcases of_if h with ⟨hc, h⟩ | ⟨hc, h⟩
                  · refine wpS.take 4 false (some 28) (.bool true) (by kernel_rfl) (yld_b (dt hc) (fun _ => by kernel_rfl)) ?_
                    refine wpS.fin rfl (kr _ _ ?_)
                    refine then_n (ks1106 _ _ ?_)
                    refine wp_cond_t (by kernel_rfl) ?_
                    refine wp_skip ?_
                    refine then_n (ks1105 _ _ ?_)
                    refine wp_seq_k fun KS1107 ks1107 => ?_
                    refine wp_block ?_
                    refine wp_seq_k fun KS1108 ks1108 => ?_
                    refine wp_regS (l := [0, 1, 2, 3]) (by kernel_rfl) fun KR kr => ?_
                    refine wpS.take 0 false (some 31) (.int .i64 z15) (by kernel_rfl) (yld fun _ => by kernel_rfl) ?_
                    obtain ⟨i0_1109, h⟩ := of_chk h
                    obtain ⟨i1_1109, h⟩ := of_chk h
                    refine wpS.take 1 false (some 32) (.pointer (some ⟨b1, 0 + (z15 : Int).toNat * 1, none⟩)) (by kernel_rfl) (yld_idx (t := 23) (e := 21) (n := 256) (sz := 1) (k := .i64) (x := z15) (by kernel_rfl) (by kernel_rfl) (by kernel_rfl) i0_1109 i1_1109) ?_
                    refine wpS.take 2 true (some 33) (.int .i32 (rd z16 z15)) (by kernel_rfl) (yld_loadA (e := 21) (x := z15) hs 2 rfl (by kernel_rfl) (by kernel_rfl) i0_1109 i1_1109 .grow) ?_
                    obtain ⟨x18, hx, h⟩ := of_bind h
                    refine wpS.take 3 false (some 8) (.int .i32 x18) (by kernel_rfl) (yld_int hx (fun _ => by kernel_rfl)) ?_
                    refine wpS.fin rfl (kr _ _ ?_)
                    refine then_n (ks1108 _ _ ?_)
                    refine wp_seq_k fun KS1110 ks1110 => ?_
                    refine wp_regS (l := [0, 1, 2, 3, 4, 5, 6, 7, 8, 9, 10]) (by kernel_rfl) fun KR kr => ?_
                    refine wpS.take 0 false (some 34) (.int .i64 z15) (by kernel_rfl) (yld fun _ => by kernel_rfl) ?_
                    refine wpS.take 1 false (some 35) (.int .i32 x18) (by kernel_rfl) (yld fun _ => by kernel_rfl) ?_
                    refine wpS.take 2 false (some 36) (.int .i64 z15) (by kernel_rfl) (yld fun _ => by kernel_rfl) ?_
                    refine wpS.take 3 false (some 37) (.int .i64 z6) (by kernel_rfl) (yld fun _ => by kernel_rfl) ?_
                    refine wpS.take 4 false (some 38) (.int .i64 (iadd .i64 z15 z6)) (by kernel_rfl) (yld fun _ => by kernel_rfl) ?_
                    obtain ⟨x19, hx, h⟩ := of_bind h
                    have hx := of_some hx
                    subst hx
                    obtain ⟨i0_1111, h⟩ := of_chk h
                    obtain ⟨i1_1111, h⟩ := of_chk h
                    refine wpS.take 5 false (some 39) (.pointer (some ⟨b1, 0 + ((iadd .i64 z15 z6) : Int).toNat * 1, none⟩)) (by kernel_rfl) (yld_idx (t := 23) (e := 21) (n := 256) (sz := 1) (k := .i64) (x := (iadd .i64 z15 z6)) (by kernel_rfl) (by kernel_rfl) (by kernel_rfl) i0_1111 i1_1111) ?_
                    refine wpS.take 6 true (some 40) (.int .i32 (rd z16 (iadd .i64 z15 z6))) (by kernel_rfl) (yld_loadA (e := 21) (x := (iadd .i64 z15 z6)) hs 2 rfl (by kernel_rfl) (by kernel_rfl) i0_1111 i1_1111 .grow) ?_
                    refine wpS.take 7 false (some 41) (.int .i32 (iadd .i32 x18 (rd z16 (iadd .i64 z15 z6)))) (by kernel_rfl) (yld fun _ => by kernel_rfl) ?_
                    refine wpS.take 8 false (some 42) (.int .i32 (irem .i32 (iadd .i32 x18 (rd z16 (iadd .i64 z15 z6))) 3329)) (by kernel_rfl) (yld fun _ => by kernel_rfl) ?_
                    obtain ⟨i0_1112, h⟩ := of_chk h
                    obtain ⟨i1_1112, h⟩ := of_chk h
                    refine wpS.take 9 false (some 43) (.pointer (some ⟨b1, 0 + (z15 : Int).toNat * 1, none⟩)) (by kernel_rfl) (yld_idx (t := 23) (e := 21) (n := 256) (sz := 1) (k := .i64) (x := z15) (by kernel_rfl) (by kernel_rfl) (by kernel_rfl) i0_1112 i1_1112) ?_
                    obtain ⟨x20, hx, h⟩ := of_bind h
                    refine wpS.only 10 (op_storeA (t := 21) (x := z15) (v := x20) (d := none) (by kernel_rfl) hs 2 rfl (by cases hx; kernel_rfl) (by kernel_rfl) i0_1112 i1_1112 ?_)
                    intro w kp hs
                    refine ⟨fun _ => trivial, ?_⟩
                    refine wpS.fin rfl (kr _ _ ?_)
                    refine then_n (ks1110 _ _ ?_)
                    refine wp_regG [19] (fun k => k = b1) 20 (by kernel_rfl) (by kernel_rfl) fun KR kr => ?_
                    have hs := hs.drawn1
                    refine wpG.takeD 0 false (some 44) (.int .i64 z15) (by kernel_rfl) (by kernel_rfl) (yld fun _ => by kernel_rfl) ?_
                    refine wpG.takeD 1 false (some 45) (.int .i64 z6) (by kernel_rfl) (by kernel_rfl) (yld fun _ => by kernel_rfl) ?_
                    refine wpG.takeD 2 false (some 46) (.int .i64 (iadd .i64 z15 z6)) (by kernel_rfl) (by kernel_rfl) (yld fun _ => by kernel_rfl) ?_
                    refine wpG.takeD 3 false (some 47) (.pointer (some ⟨b4, 0, none⟩)) (by kernel_rfl) (by kernel_rfl) (yld fun _ => by kernel_rfl) ?_
                    refine wpG.takeD 4 false (some 48) (.int .i64 x14) (by kernel_rfl) (by kernel_rfl) (yld fun _ => by kernel_rfl) ?_
                    refine wpG.takeD 5 false (some 49) (.pointer (some ⟨b4, 0, none⟩)) (by kernel_rfl) (by kernel_rfl) (yld fun _ => by kernel_rfl) ?_
                    obtain ⟨i0_1116, h⟩ := of_chk h
                    obtain ⟨i1_1116, h⟩ := of_chk h
                    refine wpG.takeD 6 false (some 50) (.pointer (some ⟨b4, 0 + (x14 : Int).toNat * 1, none⟩)) (by kernel_rfl) (by kernel_rfl) (yld_idx (t := 47) (e := 21) (n := 128) (sz := 1) (k := .i64) (x := x14) (by kernel_rfl) (by kernel_rfl) (by kernel_rfl) i0_1116 i1_1116) ?_
                    refine wpG.takeD 7 true (some 51) (.int .i32 (rd r3 x14)) (by kernel_rfl) (by kernel_rfl) (yld_loadA (e := 21) (x := x14) hs 0 rfl (by kernel_rfl) (by kernel_rfl) i0_1116 i1_1116 .grow) ?_
                    refine wpG.takeD 8 false (some 52) (.int .i64 z15) (by kernel_rfl) (by kernel_rfl) (yld fun _ => by kernel_rfl) ?_
                    refine wpG.takeD 9 false (some 53) (.int .i64 z6) (by kernel_rfl) (by kernel_rfl) (yld fun _ => by kernel_rfl) ?_
                    refine wpG.takeD 10 false (some 54) (.int .i64 (iadd .i64 z15 z6)) (by kernel_rfl) (by kernel_rfl) (yld fun _ => by kernel_rfl) ?_
                    obtain ⟨x21, hx, h⟩ := of_bind h
                    have hx := of_some hx
                    subst hx
                    obtain ⟨i0_1117, h⟩ := of_chk h
                    obtain ⟨i1_1117, h⟩ := of_chk h
                    refine wpG.takeD 11 false (some 55) (.pointer (some ⟨b1, 0 + ((iadd .i64 z15 z6) : Int).toNat * 1, none⟩)) (by kernel_rfl) (by kernel_rfl) (yld_idx (t := 23) (e := 21) (n := 256) (sz := 1) (k := .i64) (x := (iadd .i64 z15 z6)) (by kernel_rfl) (by kernel_rfl) (by kernel_rfl) i0_1117 i1_1117) ?_
                    refine wpG.takeD 12 true (some 56) (.int .i32 (rd (wr z16 z15 x20) (iadd .i64 z15 z6))) (by kernel_rfl) (by kernel_rfl) (yld_loadA (e := 21) (x := (iadd .i64 z15 z6)) hs 2 rfl (by kernel_rfl) (by kernel_rfl) i0_1117 i1_1117 .grow) ?_
                    refine wpG.takeD 13 false (some 57) (.int .i32 x18) (by kernel_rfl) (by kernel_rfl) (yld fun _ => by kernel_rfl) ?_
                    refine wpG.takeD 14 false (some 58) (.int .i32 (isub .i32 (rd (wr z16 z15 x20) (iadd .i64 z15 z6)) x18)) (by kernel_rfl) (by kernel_rfl) (yld fun _ => by kernel_rfl) ?_
                    refine wpG.takeD 15 false (some 59) (.int .i32 (iadd .i32 (isub .i32 (rd (wr z16 z15 x20) (iadd .i64 z15 z6)) x18) 3329)) (by kernel_rfl) (by kernel_rfl) (yld fun _ => by kernel_rfl) ?_
                    refine wpG.takeD 16 false (some 60) (.int .i32 (imul .i32 (rd r3 x14) (iadd .i32 (isub .i32 (rd (wr z16 z15 x20) (iadd .i64 z15 z6)) x18) 3329))) (by kernel_rfl) (by kernel_rfl) (yld fun _ => by kernel_rfl) ?_
                    refine wpG.takeD 17 false (some 61) (.int .i32 (irem .i32 (imul .i32 (rd r3 x14) (iadd .i32 (isub .i32 (rd (wr z16 z15 x20) (iadd .i64 z15 z6)) x18) 3329)) 3329)) (by kernel_rfl) (by kernel_rfl) (yld fun _ => by kernel_rfl) ?_
                    obtain ⟨x22, hx, h⟩ := of_bind h
                    have hx := of_some hx
                    subst hx
                    obtain ⟨i0_1118, h⟩ := of_chk h
                    obtain ⟨i1_1118, h⟩ := of_chk h
                    refine wpG.takeD 18 false (some 62) (.pointer (some ⟨b1, 0 + ((iadd .i64 z15 z6) : Int).toNat * 1, none⟩)) (by kernel_rfl) (by kernel_rfl) (yld_idx (t := 23) (e := 21) (n := 256) (sz := 1) (k := .i64) (x := (iadd .i64 z15 z6)) (by kernel_rfl) (by kernel_rfl) (by kernel_rfl) i0_1118 i1_1118) ?_
                    obtain ⟨x23, hx, h⟩ := of_bind h
                    refine wpG.only 19 (by kernel_rfl) (op_storeA (t := 21) (x := (iadd .i64 z15 z6)) (v := x23) (d := none) (by kernel_rfl) hs 2 rfl (by cases hx; kernel_rfl) (by kernel_rfl) i0_1118 i1_1118 ?_)
                    intro w kp hs
                    refine ⟨⟨fun hf => absurd hf (by decide), kp.mono fun _ h => h⟩, ?_⟩
                    refine wpG.fin (by kernel_rfl) rfl (kr _ _ ?_)
                    refine inBlock_n ?_
                    refine then_n (ks1107 _ _ ?_)
                    refine wp_regS (l := [0, 1, 2]) (by kernel_rfl) fun KR kr => ?_
                    refine wpS.take 0 false (some 29) (.int .i64 z15) (by kernel_rfl) (yld fun _ => by kernel_rfl) ?_
                    refine wpS.take 1 false (some 30) (.int .i64 (iadd .i64 z15 1)) (by kernel_rfl) (yld fun _ => by kernel_rfl) ?_
                    obtain ⟨x24, hx, h⟩ := of_bind h
                    refine wpS.take 2 false (some 7) (.int .i64 x24) (by kernel_rfl) (yld_int hx (fun _ => by kernel_rfl)) ?_
                    refine wpS.fin rfl (kr _ _ ?_)
                    exact then_n (kl2 _ _ ⟨n, Nat.lt_succ_self n, x24, (wr (wr z16 z15 x20) (iadd .i64 z15 z6) x23), h, (hs.conv rfl), exg (by kernel_rfl)⟩)
                  · refine wpS.take 4 false (some 28) (.bool false) (by kernel_rfl) (yld_b (df hc) (fun _ => by kernel_rfl)) ?_
                    refine wpS.fin rfl (kr _ _ ?_)
                    refine then_n (ks1106 _ _ ?_)
                    refine wp_cond_f (by kernel_rfl) ?_
                    refine wp_exit ?_
                    refine then_x ?_
                    refine then_x ?_
                    refine inBlock_hit ?_
                    have q0 := of_some h
                    subst q0
                    exact exq_n (nn2 _ _ ⟨(hs.conv rfl), exg (by kernel_rfl)⟩)
              · clear hs h hy
                rintro a w ⟨hs, g, rfl⟩
                have h := hk2
                refine inBlock_n ?_
                refine then_n (ks1086 _ _ ?_)
                refine wp_regS (l := [0, 1, 2, 3, 4]) (by kernel_rfl) fun KR kr => ?_
                refine wpS.take 0 false (some 17) (.int .i64 z10) (by kernel_rfl) (yld fun _ => by kernel_rfl) ?_
                refine wpS.take 1 false (some 18) (.int .i64 z6) (by kernel_rfl) (yld fun _ => by kernel_rfl) ?_
                refine wpS.take 2 false (some 19) (.int .i64 (imul .i64 2 z6)) (by kernel_rfl) (yld fun _ => by kernel_rfl) ?_
                refine wpS.take 3 false (some 20) (.int .i64 (iadd .i64 z10 (imul .i64 2 z6))) (by kernel_rfl) (yld fun _ => by kernel_rfl) ?_
                obtain ⟨x25, hx, h⟩ := of_bind h
                refine wpS.take 4 false (some 6) (.int .i64 x25) (by kernel_rfl) (yld_int hx (fun _ => by kernel_rfl)) ?_
                refine wpS.fin rfl (kr _ _ ?_)
                exact then_n (kl1 _ _ ⟨n, Nat.lt_succ_self n, x14, x25, y17, h, (hs.conv rfl), exg (by kernel_rfl)⟩)
            · refine wpS.take 1 false (some 16) (.bool false) (by kernel_rfl) (yld_b (df hc) (fun _ => by kernel_rfl)) ?_
              refine wpS.fin rfl (kr _ _ ?_)
              refine then_n (ks1053 _ _ ?_)
              refine wp_cond_f (by kernel_rfl) ?_
              refine wp_exit ?_
              refine then_x ?_
              refine then_x ?_
              refine inBlock_hit ?_
              obtain ⟨q0, qr0⟩ := Prod.mk.inj (of_some h)
              have q1 := qr0
              subst q0
              subst q1
              exact exq_n (nn1 _ _ ⟨(hs.conv rfl), exg (by kernel_rfl)⟩)
        · clear hs h hy
          rintro a w ⟨hs, g, rfl⟩
          have h := hk1
          refine inBlock_n ?_
          refine then_n (ks981 _ _ ?_)
          refine wp_regS (l := [0, 1, 2]) (by kernel_rfl) fun KR kr => ?_
          refine wpS.take 0 false (some 13) (.int .i64 z6) (by kernel_rfl) (yld fun _ => by kernel_rfl) ?_
          refine wpS.take 1 false (some 14) (.int .i64 (imul .i64 z6 2)) (by kernel_rfl) (yld fun _ => by kernel_rfl) ?_
          obtain ⟨x26, hx, h⟩ := of_bind h
          refine wpS.take 2 false (some 5) (.int .i64 x26) (by kernel_rfl) (yld_int hx (fun _ => by kernel_rfl)) ?_
          refine wpS.fin rfl (kr _ _ ?_)
          exact then_n (kl0 _ _ ⟨n, Nat.lt_succ_self n, y12, x26, y13, h, (hs.conv rfl), exg (by kernel_rfl)⟩)
      · refine wpS.take 1 false (some 12) (.bool false) (by kernel_rfl) (yld_b (df hc) (fun _ => by kernel_rfl)) ?_
        refine wpS.fin rfl (kr _ _ ?_)
        refine then_n (ks843 _ _ ?_)
        refine wp_cond_f (by kernel_rfl) ?_
        refine wp_exit ?_
        refine then_x ?_
        refine then_x ?_
        refine inBlock_hit ?_
        have q0 := of_some h
        subst q0
        exact exq_n (nn0 _ _ ⟨(hs.conv rfl), exg (by kernel_rfl)⟩)
  · clear hs h hy
    rintro a w ⟨hs, g, rfl⟩
    have h := hk0
    refine then_n (ks561 _ _ ?_)
    refine wp_seq_k fun KS1134 ks1134 => ?_
    refine wp_seq_k fun KS1135 ks1135 => ?_
    refine wp_regS (l := [0]) (by kernel_rfl) fun KR kr => ?_
    refine wpS.take 0 false (some 63) (.int .i64 0) (by kernel_rfl) (yld fun _ => by kernel_rfl) ?_
    refine wpS.fin rfl (kr _ _ ?_)
    refine then_n (ks1135 _ _ ?_)
    obtain ⟨y29, hy, hk3⟩ := of_bind h
    refine wp_exq (N := fun a w => St w0 [] [.blk b4 (enc .i32 r3) 47, .blk b2 (enc .i32 (zeroA 256)) 23, .blk b1 (enc .i32 y29) 23] [] w ∧ ∃ g : Nat → Value, a = ⟨#[.agg (enc .i32 a0).toArray, .pointer (some ⟨b1, 0, none⟩), .pointer (some ⟨b2, 0, none⟩), .pointer (some ⟨b4, 0, none⟩), (g 4), (g 5), (g 6), (g 7), (g 8), (g 9), .pointer (some ⟨b4, 0, none⟩), (g 11), (g 12), (g 13), (g 14), (g 15), (g 16), (g 17), (g 18), (g 19), (g 20), (g 21), (g 22), (g 23), (g 24), (g 25), (g 26), (g 27), (g 28), (g 29), (g 30), (g 31), (g 32), (g 33), (g 34), (g 35), (g 36), (g 37), (g 38), (g 39), (g 40), (g 41), (g 42), (g 43), (g 44), (g 45), (g 46), (g 47), (g 48), (g 49), (g 50), (g 51), (g 52), (g 53), (g 54), (g 55), (g 56), (g 57), (g 58), (g 59), (g 60), (g 61), (g 62), (g 63), (g 64), (g 65), (g 66), (g 67), (g 68), (g 69), (g 70), (g 71), (g 72), (g 73), undef], []⟩) (fun N3 nn3 => ?_) ?_
    · clear hk3
      refine wp_block ?_
      refine wp_loop_k (fun n a w => ∃ z27 z28, kq_Back.l3 K n z27 z28 = some y29 ∧ St w0 [] [.blk b4 (enc .i32 r3) 47, .blk b2 (enc .i32 (zeroA 256)) 23, .blk b1 (enc .i32 z28) 23] [] w ∧ ∃ g : Nat → Value, a = ⟨#[.agg (enc .i32 a0).toArray, .pointer (some ⟨b1, 0, none⟩), .pointer (some ⟨b2, 0, none⟩), .pointer (some ⟨b4, 0, none⟩), (g 4), (g 5), (g 6), (g 7), (g 8), (g 9), .pointer (some ⟨b4, 0, none⟩), (g 11), (g 12), (g 13), (g 14), (g 15), (g 16), (g 17), (g 18), (g 19), (g 20), (g 21), (g 22), (g 23), (g 24), (g 25), (g 26), (g 27), (g 28), (g 29), (g 30), (g 31), (g 32), (g 33), (g 34), (g 35), (g 36), (g 37), (g 38), (g 39), (g 40), (g 41), (g 42), (g 43), (g 44), (g 45), (g 46), (g 47), (g 48), (g 49), (g 50), (g 51), (g 52), (g 53), (g 54), (g 55), (g 56), (g 57), (g 58), (g 59), (g 60), (g 61), (g 62), .int .i64 z27, (g 64), (g 65), (g 66), (g 67), (g 68), (g 69), (g 70), (g 71), (g 72), (g 73), undef], []⟩) K ⟨0, y8, hy, hs.conv rfl, exg (by kernel_rfl)⟩ ?_
      clear hs h hy
      rintro n a w ⟨z27, z28, h, hs, g, rfl⟩ KL3 kl3
      cases n with
      | zero => exact nomatch (show none = some _ from h)
      | succ n =>
        refine wp_seq_k fun KS1143 ks1143 => ?_
        refine wp_regS (l := [0]) (by kernel_rfl) fun KR kr => ?_
        rcases of_if h with ⟨hc, h⟩ | ⟨hc, h⟩
        · refine wpS.take 0 false (some 64) (.bool true) (by kernel_rfl) (yld_b (dt hc) (fun _ => by kernel_rfl)) ?_
          refine wpS.fin rfl (kr _ _ ?_)
          refine then_n (ks1143 _ _ ?_)
          refine wp_seq_k fun KS1144 ks1144 => ?_
          refine wp_cond_t (by kernel_rfl) ?_
          refine wp_skip ?_
          refine then_n (ks1144 _ _ ?_)
          refine wp_seq_k fun KS1145 ks1145 => ?_
          refine wp_block ?_
          refine wp_seq_k fun KS1146 ks1146 => ?_
          refine wp_regS (l := [0, 1]) (by kernel_rfl) fun KR kr => ?_
          refine wpS.take 0 false (some 65) (.int .i64 z27) (by kernel_rfl) (yld fun _ => by kernel_rfl) ?_
          refine wpS.take 1 false (some 9) (.int .i64 z27) (by kernel_rfl) (yld fun _ => by kernel_rfl) ?_
          refine wpS.fin rfl (kr _ _ ?_)
          refine then_n (ks1146 _ _ ?_)
          refine wp_regS (l := [0, 1, 2, 3, 4, 5, 6, 7]) (by kernel_rfl) fun KR kr => ?_
          refine wpS.take 0 false (some 66) (.int .i64 z27) (by kernel_rfl) (yld fun _ => by kernel_rfl) ?_
          refine wpS.take 1 false (some 67) (.int .i64 z27) (by kernel_rfl) (yld fun _ => by kernel_rfl) ?_
          obtain ⟨i0_1147, h⟩ := of_chk h
          obtain ⟨i1_1147, h⟩ := of_chk h
          refine wpS.take 2 false (some 68) (.pointer (some ⟨b1, 0 + (z27 : Int).toNat * 1, none⟩)) (by kernel_rfl) (yld_idx (t := 23) (e := 21) (n := 256) (sz := 1) (k := .i64) (x := z27) (by kernel_rfl) (by kernel_rfl) (by kernel_rfl) i0_1147 i1_1147) ?_
          refine wpS.take 3 true (some 69) (.int .i32 (rd z28 z27)) (by kernel_rfl) (yld_loadA (e := 21) (x := z27) hs 2 rfl (by kernel_rfl) (by kernel_rfl) i0_1147 i1_1147 .grow) ?_
          refine wpS.take 4 false (some 70) (.int .i32 (imul .i32 (rd z28 z27) 3303)) (by kernel_rfl) (yld fun _ => by kernel_rfl) ?_
          refine wpS.take 5 false (some 71) (.int .i32 (irem .i32 (imul .i32 (rd z28 z27) 3303) 3329)) (by kernel_rfl) (yld fun _ => by kernel_rfl) ?_
          obtain ⟨i0_1148, h⟩ := of_chk h
          obtain ⟨i1_1148, h⟩ := of_chk h
          refine wpS.take 6 false (some 72) (.pointer (some ⟨b1, 0 + (z27 : Int).toNat * 1, none⟩)) (by kernel_rfl) (yld_idx (t := 23) (e := 21) (n := 256) (sz := 1) (k := .i64) (x := z27) (by kernel_rfl) (by kernel_rfl) (by kernel_rfl) i0_1148 i1_1148) ?_
          obtain ⟨x30, hx, h⟩ := of_bind h
          refine wpS.only 7 (op_storeA (t := 21) (x := z27) (v := x30) (d := none) (by kernel_rfl) hs 2 rfl (by cases hx; kernel_rfl) (by kernel_rfl) i0_1148 i1_1148 ?_)
          intro w kp hs
          refine ⟨fun _ => trivial, ?_⟩
          refine wpS.fin rfl (kr _ _ ?_)
          refine inBlock_n ?_
          refine then_n (ks1145 _ _ ?_)
          refine wp_regS (l := [0, 1]) (by kernel_rfl) fun KR kr => ?_
          refine wpS.take 0 false (some 73) (.int .i64 (iadd .i64 z27 1)) (by kernel_rfl) (yld fun _ => by kernel_rfl) ?_
          refine wpS.take 1 false (some 63) (.int .i64 (iadd .i64 z27 1)) (by kernel_rfl) (yld fun _ => by kernel_rfl) ?_
          refine wpS.fin rfl (kr _ _ ?_)
          exact then_n (kl3 _ _ ⟨n, Nat.lt_succ_self n, (iadd .i64 z27 1), (wr z28 z27 x30), h, (hs.conv rfl), exg (by kernel_rfl)⟩)
        · refine wpS.take 0 false (some 64) (.bool false) (by kernel_rfl) (yld_b (df hc) (fun _ => by kernel_rfl)) ?_
          refine wpS.fin rfl (kr _ _ ?_)
          refine then_n (ks1143 _ _ ?_)
          refine wp_seq_k fun KS1149 ks1149 => ?_
          refine wp_cond_f (by kernel_rfl) ?_
          refine wp_exit ?_
          refine then_x ?_
          refine then_x ?_
          refine inBlock_hit ?_
          have q0 := of_some h
          subst q0
          exact exq_n (nn3 _ _ ⟨(hs.conv rfl), exg (by kernel_rfl)⟩)
    · clear hs h hy
      rintro a w ⟨hs, g, rfl⟩
      have h := hk3
      refine then_n (ks1134 _ _ ?_)
      refine wp_seq_k fun KS1150 ks1150 => ?_
      refine wp_regS (l := [0, 1]) (by kernel_rfl) fun KR kr => ?_
      refine wpS.take 0 true (some 74) (.agg (enc .i32 y29).toArray) (by kernel_rfl) (yld_loadW (e := 23) (n := 256) hs 2 rfl (by kernel_rfl) (by kernel_rfl) (by kernel_rfl) (by exact enc_len _ _) .grow) ?_
      refine wpS.only 1 (op_storeW (t := 23) (v := .agg (enc .i32 y29).toArray) (d := none) (by kernel_rfl) hs 1 rfl (vs := enc .i32 y29) (n := 256) (by kernel_rfl) (by kernel_rfl) (by kernel_rfl) (by simp [enc_len]) (by simp [enc_len]) (by intro u hu; exact enc_one _ _ u hu) ?_)
      intro w kp hs
      refine ⟨fun _ => trivial, ?_⟩
      refine wpS.fin rfl (kr _ _ ?_)
      refine then_n (ks1150 _ _ ?_)
      refine wp_ret ?_
      have q0 := of_some h
      subst q0
      exact qq _ _ (post_ret (by kernel_rfl) (run_results [.cell 2 23] [.agg (enc .i32 y29).toArray] (by kernel_rfl) (.cons (res_cellN (n := 256) hs 1 rfl (by kernel_rfl) (by kernel_rfl) (by kernel_rfl) (by exact enc_len _ _)) .nil)) ⟨congrArg Ending.returned (by kernel_rfl), hs.none⟩)
end Go.Proofs.Ytijahfdldlmnhab
