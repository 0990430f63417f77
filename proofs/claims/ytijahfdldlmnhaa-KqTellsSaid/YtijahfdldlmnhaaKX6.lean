/- Printed by this work's own program: the code of each function below comes to the answer that its plain form tells. -/
import Derived.Test.YtijahfdldlmnhaaMr
import Derived.Test.YtijahfdldlmnhaaProg
import Derived.Test.YtijahfdldlmnhaaKF0
import Derived.Test.YtijahfdldlmnhaaKX5
set_option linter.unusedVariables false
set_option linter.unusedSimpArgs false
set_option maxRecDepth 100000
set_option maxHeartbeats 4000000
namespace Go.Proofs.Ytijahfdldlmnhaa
open Go.Mx
attribute [local irreducible] wpOp

theorem ref25_turned.ok {K : Nat} {a0 : Int} {r0 : Int} (h : ref25_turned.f K a0 = some r0) (w0 : World) : Ret Try.prog 78 #[.int .i64 a0] w0 (.int .i64 r0) := by
  refine calls_k Try.func78 rfl fun Q qq => ?_
  have hs := St.start w0
  refine wp_conv (a' := ⟨#[.int .i64 a0, undef, undef, undef, undef, undef, undef, undef, undef, undef, undef, undef, undef, undef, undef, undef, undef], []⟩) (by kernel_rfl) ?_
  refine wp_seq_k fun KS1 ks1 => ?_
  refine wp_regS (l := [0]) (by kernel_rfl) fun KR kr => ?_
  refine wpS.take 0 false (some 2) (.int .i64 0) (by kernel_rfl) (yld fun _ => by kernel_rfl) ?_
  refine wpS.fin rfl (kr _ _ ?_)
  refine then_n (ks1 _ _ ?_)
  refine wp_seq_k fun KS2 ks2 => ?_
  refine wp_regS (l := [0]) (by kernel_rfl) fun KR kr => ?_
  refine wpS.take 0 false (some 3) (.int .i64 0) (by kernel_rfl) (yld fun _ => by kernel_rfl) ?_
  refine wpS.fin rfl (kr _ _ ?_)
  refine then_n (ks2 _ _ ?_)
  refine wp_seq_k fun KS12 ks12 => ?_
  refine wp_seq_k fun KS13 ks13 => ?_
  refine wp_regS (l := [0]) (by kernel_rfl) fun KR kr => ?_
  refine wpS.take 0 false (some 4) (.int .i64 0) (by kernel_rfl) (yld fun _ => by kernel_rfl) ?_
  refine wpS.fin rfl (kr _ _ ?_)
  refine then_n (ks13 _ _ ?_)
  obtain ⟨y3, hy, hk0⟩ := of_bind h
  refine wp_exq (N := fun a w => St w0 [] [] [] w ∧ ∃ g : Nat → Value, a = ⟨#[.int .i64 a0, undef, .int .i64 0, .int .i64 y3, (g 4), (g 5), (g 6), (g 7), (g 8), (g 9), (g 10), (g 11), (g 12), (g 13), (g 14), (g 15), undef], []⟩) (fun N0 nn0 => ?_) ?_
  · clear hk0
    refine wp_block ?_
    refine wp_loop_k (fun n a w => ∃ z1 z2, ref25_turned.l0 K n a0 z1 z2 = some y3 ∧ St w0 [] [] [] w ∧ ∃ g : Nat → Value, a = ⟨#[.int .i64 a0, undef, .int .i64 0, .int .i64 z1, .int .i64 z2, (g 5), (g 6), (g 7), (g 8), (g 9), (g 10), (g 11), (g 12), (g 13), (g 14), (g 15), undef], []⟩) K ⟨0, 0, hy, hs.conv rfl, exg (by kernel_rfl)⟩ ?_
    clear hs h hy
    rintro n a w ⟨z1, z2, h, hs, g, rfl⟩ KL0 kl0
    cases n with
    | zero => exact nomatch (show none = some _ from h)
    | succ n =>
      refine wp_seq_k fun KS19 ks19 => ?_
      refine wp_seq_k fun KS20 ks20 => ?_
      refine wp_regS (l := [0, 1]) (by kernel_rfl) fun KR kr => ?_
      refine wpS.take 0 false (some 5) (.int .i64 z2) (by kernel_rfl) (yld fun _ => by kernel_rfl) ?_
      rcases of_if h with ⟨hc, h⟩ | ⟨hc, h⟩
      · refine wpS.take 1 false (some 6) (.bool true) (by kernel_rfl) (yld_b (dt hc) (fun _ => by kernel_rfl)) ?_
        refine wpS.fin rfl (kr _ _ ?_)
        refine then_n (ks20 _ _ ?_)
        refine wp_cond_t (by kernel_rfl) ?_
        refine wp_skip ?_
        refine then_n (ks19 _ _ ?_)
        refine wp_seq_k fun KS21 ks21 => ?_
        refine wp_block ?_
        refine wp_regS (l := [0, 1, 2, 3, 4, 5, 6, 7]) (by kernel_rfl) fun KR kr => ?_
        refine wpS.take 0 false (some 9) (.int .i64 z1) (by kernel_rfl) (yld fun _ => by kernel_rfl) ?_
        refine wpS.take 1 false (some 10) (.int .i64 (imul .i64 z1 2)) (by kernel_rfl) (yld fun _ => by kernel_rfl) ?_
        refine wpS.take 2 false (some 11) (.int .i64 a0) (by kernel_rfl) (yld fun _ => by kernel_rfl) ?_
        refine wpS.take 3 false (some 12) (.int .i64 z2) (by kernel_rfl) (yld fun _ => by kernel_rfl) ?_
        obtain ⟨h0, h⟩ := of_chk h
        refine wpS.take 4 false (some 13) (.int .i64 (ishr .i64 a0 z2)) (by kernel_rfl) (yld_shr (t := 3) (k' := .i64) (by kernel_rfl) h0) ?_
        refine wpS.take 5 false (some 14) (.int .i64 (iand .i64 (ishr .i64 a0 z2) 1)) (by kernel_rfl) (yld fun _ => by kernel_rfl) ?_
        refine wpS.take 6 false (some 15) (.int .i64 (iadd .i64 (imul .i64 z1 2) (iand .i64 (ishr .i64 a0 z2) 1))) (by kernel_rfl) (yld fun _ => by kernel_rfl) ?_
        obtain ⟨x4, hx, h⟩ := of_bind h
        refine wpS.take 7 false (some 3) (.int .i64 x4) (by kernel_rfl) (yld_int hx (fun _ => by kernel_rfl)) ?_
        refine wpS.fin rfl (kr _ _ ?_)
        refine inBlock_n ?_
        refine then_n (ks21 _ _ ?_)
        refine wp_regS (l := [0, 1, 2]) (by kernel_rfl) fun KR kr => ?_
        refine wpS.take 0 false (some 7) (.int .i64 z2) (by kernel_rfl) (yld fun _ => by kernel_rfl) ?_
        refine wpS.take 1 false (some 8) (.int .i64 (iadd .i64 z2 1)) (by kernel_rfl) (yld fun _ => by kernel_rfl) ?_
        obtain ⟨x5, hx, h⟩ := of_bind h
        refine wpS.take 2 false (some 4) (.int .i64 x5) (by kernel_rfl) (yld_int hx (fun _ => by kernel_rfl)) ?_
        refine wpS.fin rfl (kr _ _ ?_)
        exact then_n (kl0 _ _ ⟨n, Nat.lt_succ_self n, x4, x5, h, (hs.conv rfl), exg (by kernel_rfl)⟩)
      · refine wpS.take 1 false (some 6) (.bool false) (by kernel_rfl) (yld_b (df hc) (fun _ => by kernel_rfl)) ?_
        refine wpS.fin rfl (kr _ _ ?_)
        refine then_n (ks20 _ _ ?_)
        refine wp_cond_f (by kernel_rfl) ?_
        refine wp_exit ?_
        refine then_x ?_
        refine then_x ?_
        refine inBlock_hit ?_
        have q0 := of_some h
        subst q0
        exact exq_n (nn0 _ _ ⟨(hs.conv rfl), exg (by kernel_rfl)⟩)
  · clear hs h hy
    rintro a w ⟨hs, g, rfl⟩
    have h := hk0
    refine then_n (ks12 _ _ ?_)
    refine wp_seq_k fun KS22 ks22 => ?_
    refine wp_regS (l := [0, 1]) (by kernel_rfl) fun KR kr => ?_
    refine wpS.take 0 false (some 16) (.int .i64 y3) (by kernel_rfl) (yld fun _ => by kernel_rfl) ?_
    refine wpS.take 1 false (some 2) (.int .i64 y3) (by kernel_rfl) (yld fun _ => by kernel_rfl) ?_
    refine wpS.fin rfl (kr _ _ ?_)
    refine then_n (ks22 _ _ ?_)
    refine wp_ret ?_
    have q0 := of_some h
    subst q0
    exact qq _ _ (post_ret (by kernel_rfl) (run_results [.tmp 2] [.int .i64 y3] (by kernel_rfl) (.cons (res_tmp (by kernel_rfl)) .nil)) ⟨congrArg Ending.returned (by kernel_rfl), hs.none⟩)

theorem ref25_Ntt.ok {K : Nat} {a0 : Arr 256} {r0 : Arr 256} (h : ref25_Ntt.f K a0 = some r0) (w0 : World) : Ret Try.prog 55 #[.agg (enc .i32 a0).toArray] w0 (.agg (enc .i32 r0).toArray) := by
  refine calls_k Try.func55 rfl fun Q qq => ?_
  have hs := St.start w0
  refine wp_conv (a' := ⟨#[.agg (enc .i32 a0).toArray, undef, undef, undef, undef, undef, undef, undef, undef, undef, undef, undef, undef, undef, undef, undef, undef, undef, undef, undef, undef, undef, undef, undef, undef, undef, undef, undef, undef, undef, undef, undef, undef, undef, undef, undef, undef, undef, undef, undef, undef, undef, undef, undef, undef, undef, undef, undef, undef, undef, undef, undef, undef, undef, undef, undef, undef, undef, undef], []⟩) (by kernel_rfl) ?_
  refine wp_seq_k fun KS1 ks1 => ?_
  refine wp_regS (l := [0, 1]) (by kernel_rfl) fun KR kr => ?_
  refine wpS.only 0 (op_box (t := 23) (v := .agg (enc .i32 a0).toArray) (d := (some 1)) (by kernel_rfl) hs (enc .i32 a0) (by kernel_rfl) (by kernel_rfl) ?_)
  intro b1 w gw hs
  refine ⟨fun _ => trivial, ?_⟩
  refine wpS.only 1 (op_alloc (t := 23) (d := (some 2)) (by kernel_rfl) hs (enc .i32 (zeroA 256)) (.agg (enc .i32 (zeroA 256)).toArray) (by kernel_rfl) (by kernel_rfl) (by kernel_rfl) ?_)
  intro b2 w gw hs
  refine ⟨fun _ => trivial, ?_⟩
  refine wpS.fin rfl (kr _ _ ?_)
  refine then_n (ks1 _ _ ?_)
  refine wp_seq_k fun KS2 ks2 => ?_
  refine wp_regS (l := [0, 1, 2]) (by kernel_rfl) fun KR kr => ?_
  obtain ⟨r3, hg, h⟩ := of_bind h
  refine wpS.only 0 (op_call (d := (some 11)) (by kernel_rfl) hs (fun _ => by kernel_rfl) (ref25_powers.ok hg _) ?_)
  intro w gw hs
  refine ⟨fun _ => trivial, ?_⟩
  refine wpS.only 1 (op_alloc (t := 22) (d := (some 3)) (by kernel_rfl) hs (enc .i32 (zeroA 256)) (.agg (enc .i32 (zeroA 256)).toArray) (by kernel_rfl) (by kernel_rfl) (by kernel_rfl) ?_)
  intro b4 w gw hs
  refine ⟨fun _ => trivial, ?_⟩
  refine wpS.only 2 (op_storeW (t := 22) (v := .agg (enc .i32 r3).toArray) (d := none) (by kernel_rfl) hs 0 rfl (vs := enc .i32 r3) (n := 256) (by kernel_rfl) (by kernel_rfl) (by kernel_rfl) (by simp [enc_len]) (by simp [enc_len]) (by intro u hu; exact enc_one _ _ u hu) ?_)
  intro w kp hs
  refine ⟨fun _ => trivial, ?_⟩
  refine wpS.fin rfl (kr _ _ ?_)
  refine then_n (ks2 _ _ ?_)
  refine wp_seq_k fun KS3 ks3 => ?_
  refine wp_regS (l := [0]) (by kernel_rfl) fun KR kr => ?_
  refine wpS.only 0 (op_alloc (t := 23) (d := (some 4)) (by kernel_rfl) hs (enc .i32 (zeroA 256)) (.agg (enc .i32 (zeroA 256)).toArray) (by kernel_rfl) (by kernel_rfl) (by kernel_rfl) ?_)
  intro b5 w gw hs
  refine ⟨fun _ => trivial, ?_⟩
  refine wpS.fin rfl (kr _ _ ?_)
  refine then_n (ks3 _ _ ?_)
  refine wp_seq_k fun KS193 ks193 => ?_
  refine wp_seq_k fun KS194 ks194 => ?_
  refine wp_regS (l := [0]) (by kernel_rfl) fun KR kr => ?_
  refine wpS.take 0 false (some 5) (.int .i64 0) (by kernel_rfl) (yld fun _ => by kernel_rfl) ?_
  refine wpS.fin rfl (kr _ _ ?_)
  refine then_n (ks194 _ _ ?_)
  obtain ⟨y8, hy, hk0⟩ := of_bind h
  refine wp_exq (N := fun a w => St w0 [] [.blk b5 (enc .i32 y8) 23, .blk b4 (enc .i32 r3) 22, .blk b2 (enc .i32 (zeroA 256)) 23, .blk b1 (enc .i32 a0) 23] [] w ∧ ∃ g : Nat → Value, a = ⟨#[.agg (enc .i32 a0).toArray, .pointer (some ⟨b1, 0, none⟩), .pointer (some ⟨b2, 0, none⟩), .pointer (some ⟨b4, 0, none⟩), .pointer (some ⟨b5, 0, none⟩), (g 5), (g 6), (g 7), (g 8), (g 9), (g 10), .agg (enc .i32 r3).toArray, (g 12), (g 13), (g 14), (g 15), (g 16), (g 17), (g 18), (g 19), (g 20), (g 21), (g 22), (g 23), (g 24), (g 25), (g 26), (g 27), (g 28), (g 29), (g 30), (g 31), (g 32), (g 33), (g 34), (g 35), (g 36), (g 37), (g 38), (g 39), (g 40), (g 41), (g 42), (g 43), (g 44), (g 45), (g 46), (g 47), (g 48), (g 49), (g 50), (g 51), (g 52), (g 53), (g 54), (g 55), (g 56), (g 57), undef], []⟩) (fun N0 nn0 => ?_) ?_
  · clear hk0
    refine wp_block ?_
    refine wp_loop_k (fun n a w => ∃ z6 z7, ref25_Ntt.l0 K n a0 r3 z6 z7 = some y8 ∧ St w0 [] [.blk b5 (enc .i32 z7) 23, .blk b4 (enc .i32 r3) 22, .blk b2 (enc .i32 (zeroA 256)) 23, .blk b1 (enc .i32 a0) 23] [] w ∧ ∃ g : Nat → Value, a = ⟨#[.agg (enc .i32 a0).toArray, .pointer (some ⟨b1, 0, none⟩), .pointer (some ⟨b2, 0, none⟩), .pointer (some ⟨b4, 0, none⟩), .pointer (some ⟨b5, 0, none⟩), .int .i64 z6, (g 6), (g 7), (g 8), (g 9), (g 10), .agg (enc .i32 r3).toArray, (g 12), (g 13), (g 14), (g 15), (g 16), (g 17), (g 18), (g 19), (g 20), (g 21), (g 22), (g 23), (g 24), (g 25), (g 26), (g 27), (g 28), (g 29), (g 30), (g 31), (g 32), (g 33), (g 34), (g 35), (g 36), (g 37), (g 38), (g 39), (g 40), (g 41), (g 42), (g 43), (g 44), (g 45), (g 46), (g 47), (g 48), (g 49), (g 50), (g 51), (g 52), (g 53), (g 54), (g 55), (g 56), (g 57), undef], []⟩) K ⟨0, (zeroA 256), hy, hs.conv rfl, exg (by kernel_rfl)⟩ ?_
    clear hs h hy
    rintro n a w ⟨z6, z7, h, hs, g, rfl⟩ KL0 kl0
    cases n with
    | zero => exact nomatch (show none = some _ from h)
    | succ n =>
      refine wp_seq_k fun KS290 ks290 => ?_
      refine wp_seq_k fun KS291 ks291 => ?_
      refine wp_regS (l := [0, 1]) (by kernel_rfl) fun KR kr => ?_
      refine wpS.take 0 false (some 12) (.int .i64 z6) (by kernel_rfl) (yld fun _ => by kernel_rfl) ?_
      rcases of_if h with ⟨hc, h⟩ | ⟨hc, h⟩
      · refine wpS.take 1 false (some 13) (.bool true) (by kernel_rfl) (yld_b (dt hc) (fun _ => by kernel_rfl)) ?_
        refine wpS.fin rfl (kr _ _ ?_)
        refine then_n (ks291 _ _ ?_)
        refine wp_cond_t (by kernel_rfl) ?_
        refine wp_skip ?_
        refine then_n (ks290 _ _ ?_)
        refine wp_seq_k fun KS337 ks337 => ?_
        refine wp_block ?_
        refine wp_seq_k fun KS338 ks338 => ?_
        refine wp_regS (l := [0, 1, 2, 3, 4]) (by kernel_rfl) fun KR kr => ?_
        refine wpS.take 0 false (some 16) (.int .i64 z6) (by kernel_rfl) (yld fun _ => by kernel_rfl) ?_
        obtain ⟨r9, hg, h⟩ := of_bind h
        refine wpS.only 1 (op_call (d := (some 17)) (by kernel_rfl) hs (fun _ => by kernel_rfl) (ref25_turned.ok hg _) ?_)
        intro w gw hs
        refine ⟨fun _ => trivial, ?_⟩
        refine wpS.take 2 false (some 18) (.int .i64 (imul .i64 2 r9)) (by kernel_rfl) (yld fun _ => by kernel_rfl) ?_
        refine wpS.take 3 false (some 19) (.int .i64 (iadd .i64 (imul .i64 2 r9) 1)) (by kernel_rfl) (yld fun _ => by kernel_rfl) ?_
        obtain ⟨x10, hx, h⟩ := of_bind h
        refine wpS.take 4 false (some 6) (.int .i64 x10) (by kernel_rfl) (yld_int hx (fun _ => by kernel_rfl)) ?_
        refine wpS.fin rfl (kr _ _ ?_)
        refine then_n (ks338 _ _ ?_)
        refine wp_seq_k fun KS339 ks339 => ?_
        refine wp_regS (l := [0]) (by kernel_rfl) fun KR kr => ?_
        refine wpS.take 0 false (some 7) (.int .i32 0) (by kernel_rfl) (yld fun _ => by kernel_rfl) ?_
        refine wpS.fin rfl (kr _ _ ?_)
        refine then_n (ks339 _ _ ?_)
        refine wp_seq_k fun KS340 ks340 => ?_
        refine wp_regS (l := [0]) (by kernel_rfl) fun KR kr => ?_
        refine wpS.take 0 false (some 8) (.int .i32 0) (by kernel_rfl) (yld fun _ => by kernel_rfl) ?_
        refine wpS.fin rfl (kr _ _ ?_)
        refine then_n (ks340 _ _ ?_)
        refine wp_seq_k fun KS360 ks360 => ?_
        refine wp_seq_k fun KS361 ks361 => ?_
        refine wp_regS (l := [0]) (by kernel_rfl) fun KR kr => ?_
        refine wpS.take 0 false (some 9) (.int .i64 0) (by kernel_rfl) (yld fun _ => by kernel_rfl) ?_
        refine wpS.fin rfl (kr _ _ ?_)
        refine then_n (ks361 _ _ ?_)
        obtain ⟨⟨y14, y15⟩, hy, hk1⟩ := of_bind h
        refine wp_exq (N := fun a w => St w0 [] [.blk b5 (enc .i32 z7) 23, .blk b4 (enc .i32 r3) 22, .blk b2 (enc .i32 (zeroA 256)) 23, .blk b1 (enc .i32 a0) 23] [] w ∧ ∃ g : Nat → Value, a = ⟨#[.agg (enc .i32 a0).toArray, .pointer (some ⟨b1, 0, none⟩), .pointer (some ⟨b2, 0, none⟩), .pointer (some ⟨b4, 0, none⟩), .pointer (some ⟨b5, 0, none⟩), .int .i64 z6, .int .i64 x10, .int .i32 y14, .int .i32 y15, (g 9), (g 10), .agg (enc .i32 r3).toArray, .int .i64 z6, .bool true, (g 14), (g 15), .int .i64 z6, .int .i64 r9, .int .i64 (imul .i64 2 r9), .int .i64 (iadd .i64 (imul .i64 2 r9) 1), (g 20), (g 21), (g 22), (g 23), (g 24), (g 25), (g 26), (g 27), (g 28), (g 29), (g 30), (g 31), (g 32), (g 33), (g 34), (g 35), (g 36), (g 37), (g 38), (g 39), (g 40), (g 41), (g 42), (g 43), (g 44), (g 45), (g 46), (g 47), (g 48), (g 49), (g 50), (g 51), (g 52), (g 53), (g 54), (g 55), (g 56), (g 57), undef], []⟩) (fun N1 nn1 => ?_) ?_
        · clear hk1
          refine wp_block ?_
          refine wp_loop_k (fun n a w => ∃ z11 z12 z13, ref25_Ntt.l1 K n a0 r3 x10 z11 z12 z13 = some (y14, y15) ∧ St w0 [] [.blk b5 (enc .i32 z7) 23, .blk b4 (enc .i32 r3) 22, .blk b2 (enc .i32 (zeroA 256)) 23, .blk b1 (enc .i32 a0) 23] [] w ∧ ∃ g : Nat → Value, a = ⟨#[.agg (enc .i32 a0).toArray, .pointer (some ⟨b1, 0, none⟩), .pointer (some ⟨b2, 0, none⟩), .pointer (some ⟨b4, 0, none⟩), .pointer (some ⟨b5, 0, none⟩), .int .i64 z6, .int .i64 x10, .int .i32 z11, .int .i32 z12, .int .i64 z13, (g 10), .agg (enc .i32 r3).toArray, .int .i64 z6, .bool true, (g 14), (g 15), .int .i64 z6, .int .i64 r9, .int .i64 (imul .i64 2 r9), .int .i64 (iadd .i64 (imul .i64 2 r9) 1), (g 20), (g 21), (g 22), (g 23), (g 24), (g 25), (g 26), (g 27), (g 28), (g 29), (g 30), (g 31), (g 32), (g 33), (g 34), (g 35), (g 36), (g 37), (g 38), (g 39), (g 40), (g 41), (g 42), (g 43), (g 44), (g 45), (g 46), (g 47), (g 48), (g 49), (g 50), (g 51), (g 52), (g 53), (g 54), (g 55), (g 56), (g 57), undef], []⟩) K ⟨0, 0, 0, hy, hs.conv rfl, exg (by kernel_rfl)⟩ ?_
          clear hs h hy
          rintro n a w ⟨z11, z12, z13, h, hs, g, rfl⟩ KL1 kl1
          cases n with
          | zero => exact nomatch (show none = some _ from h)
          | succ n =>
            refine wp_seq_k fun KS372 ks372 => ?_
            refine wp_seq_k fun KS373 ks373 => ?_
            refine wp_regS (l := [0, 1]) (by kernel_rfl) fun KR kr => ?_
            refine wpS.take 0 false (some 20) (.int .i64 z13) (by kernel_rfl) (yld fun _ => by kernel_rfl) ?_
            rcases of_if h with ⟨hc, h⟩ | ⟨hc, h⟩
            · refine wpS.take 1 false (some 21) (.bool true) (by kernel_rfl) (yld_b (dt hc) (fun _ => by kernel_rfl)) ?_
              refine wpS.fin rfl (kr _ _ ?_)
              refine then_n (ks373 _ _ ?_)
              refine wp_cond_t (by kernel_rfl) ?_
              refine wp_skip ?_
              refine then_n (ks372 _ _ ?_)
              refine wp_seq_k fun KS374 ks374 => ?_
              refine wp_block ?_
              refine wp_seq_k fun KS375 ks375 => ?_
              refine wp_regS (l := [0, 1, 2, 3, 4, 5, 6]) (by kernel_rfl) fun KR kr => ?_
              refine wpS.take 0 false (some 24) (.int .i64 x10) (by kernel_rfl) (yld fun _ => by kernel_rfl) ?_
              refine wpS.take 1 false (some 25) (.int .i64 z13) (by kernel_rfl) (yld fun _ => by kernel_rfl) ?_
              refine wpS.take 2 false (some 26) (.int .i64 (imul .i64 x10 z13)) (by kernel_rfl) (yld fun _ => by kernel_rfl) ?_
              refine wpS.take 3 false (some 27) (.int .i64 (irem .i64 (imul .i64 x10 z13) 256)) (by kernel_rfl) (yld fun _ => by kernel_rfl) ?_
              obtain ⟨x16, hx, h⟩ := of_bind h
              have hx := of_some hx
              subst hx
              obtain ⟨i0_376, h⟩ := of_chk h
              obtain ⟨i1_376, h⟩ := of_chk h
              refine wpS.take 4 false (some 28) (.pointer (some ⟨b4, 0 + ((irem .i64 (imul .i64 x10 z13) 256) : Int).toNat * 1, none⟩)) (by kernel_rfl) (yld_idx (t := 22) (e := 21) (n := 256) (sz := 1) (k := .i64) (x := (irem .i64 (imul .i64 x10 z13) 256)) (by kernel_rfl) (by kernel_rfl) (by kernel_rfl) i0_376 i1_376) ?_
              refine wpS.take 5 true (some 29) (.int .i32 (rd r3 (irem .i64 (imul .i64 x10 z13) 256))) (by kernel_rfl) (yld_loadA (e := 21) (x := (irem .i64 (imul .i64 x10 z13) 256)) hs 1 rfl (by kernel_rfl) (by kernel_rfl) i0_376 i1_376 .grow) ?_
              obtain ⟨x17, hx, h⟩ := of_bind h
              refine wpS.take 6 false (some 10) (.int .i32 x17) (by kernel_rfl) (yld_int hx (fun _ => by kernel_rfl)) ?_
              refine wpS.fin rfl (kr _ _ ?_)
              refine then_n (ks375 _ _ ?_)
              refine wp_seq_k fun KS377 ks377 => ?_
              refine wp_regS (l := [0, 1, 2, 3, 4, 5, 6, 7, 8, 9]) (by kernel_rfl) fun KR kr => ?_
              refine wpS.take 0 false (some 30) (.int .i32 z11) (by kernel_rfl) (yld fun _ => by kernel_rfl) ?_
              refine wpS.take 1 false (some 31) (.int .i64 z13) (by kernel_rfl) (yld fun _ => by kernel_rfl) ?_
              refine wpS.take 2 false (some 32) (.int .i64 (imul .i64 2 z13)) (by kernel_rfl) (yld fun _ => by kernel_rfl) ?_
              obtain ⟨x18, hx, h⟩ := of_bind h
              have hx := of_some hx
              subst hx
              obtain ⟨i0_378, h⟩ := of_chk h
              obtain ⟨i1_378, h⟩ := of_chk h
              refine wpS.take 3 false (some 33) (.pointer (some ⟨b1, 0 + ((imul .i64 2 z13) : Int).toNat * 1, none⟩)) (by kernel_rfl) (yld_idx (t := 23) (e := 21) (n := 256) (sz := 1) (k := .i64) (x := (imul .i64 2 z13)) (by kernel_rfl) (by kernel_rfl) (by kernel_rfl) i0_378 i1_378) ?_
              refine wpS.take 4 true (some 34) (.int .i32 (rd a0 (imul .i64 2 z13))) (by kernel_rfl) (yld_loadA (e := 21) (x := (imul .i64 2 z13)) hs 3 rfl (by kernel_rfl) (by kernel_rfl) i0_378 i1_378 .grow) ?_
              refine wpS.take 5 false (some 35) (.int .i32 x17) (by kernel_rfl) (yld fun _ => by kernel_rfl) ?_
              refine wpS.take 6 false (some 36) (.int .i32 (imul .i32 (rd a0 (imul .i64 2 z13)) x17)) (by kernel_rfl) (yld fun _ => by kernel_rfl) ?_
              refine wpS.take 7 false (some 37) (.int .i32 (iadd .i32 z11 (imul .i32 (rd a0 (imul .i64 2 z13)) x17))) (by kernel_rfl) (yld fun _ => by kernel_rfl) ?_
              refine wpS.take 8 false (some 38) (.int .i32 (irem .i32 (iadd .i32 z11 (imul .i32 (rd a0 (imul .i64 2 z13)) x17)) 3329)) (by kernel_rfl) (yld fun _ => by kernel_rfl) ?_
              obtain ⟨x19, hx, h⟩ := of_bind h
              refine wpS.take 9 false (some 7) (.int .i32 x19) (by kernel_rfl) (yld_int hx (fun _ => by kernel_rfl)) ?_
              refine wpS.fin rfl (kr _ _ ?_)
              refine then_n (ks377 _ _ ?_)
              refine wp_regS (l := [0, 1, 2, 3, 4, 5, 6, 7, 8, 9, 10]) (by kernel_rfl) fun KR kr => ?_
              refine wpS.take 0 false (some 39) (.int .i32 z12) (by kernel_rfl) (yld fun _ => by kernel_rfl) ?_
              refine wpS.take 1 false (some 40) (.int .i64 z13) (by kernel_rfl) (yld fun _ => by kernel_rfl) ?_
              refine wpS.take 2 false (some 41) (.int .i64 (imul .i64 2 z13)) (by kernel_rfl) (yld fun _ => by kernel_rfl) ?_
              refine wpS.take 3 false (some 42) (.int .i64 (iadd .i64 (imul .i64 2 z13) 1)) (by kernel_rfl) (yld fun _ => by kernel_rfl) ?_
              obtain ⟨x20, hx, h⟩ := of_bind h
              have hx := of_some hx
              subst hx
              obtain ⟨i0_379, h⟩ := of_chk h
              obtain ⟨i1_379, h⟩ := of_chk h
              refine wpS.take 4 false (some 43) (.pointer (some ⟨b1, 0 + ((iadd .i64 (imul .i64 2 z13) 1) : Int).toNat * 1, none⟩)) (by kernel_rfl) (yld_idx (t := 23) (e := 21) (n := 256) (sz := 1) (k := .i64) (x := (iadd .i64 (imul .i64 2 z13) 1)) (by kernel_rfl) (by kernel_rfl) (by kernel_rfl) i0_379 i1_379) ?_
              refine wpS.take 5 true (some 44) (.int .i32 (rd a0 (iadd .i64 (imul .i64 2 z13) 1))) (by kernel_rfl) (yld_loadA (e := 21) (x := (iadd .i64 (imul .i64 2 z13) 1)) hs 3 rfl (by kernel_rfl) (by kernel_rfl) i0_379 i1_379 .grow) ?_
              refine wpS.take 6 false (some 45) (.int .i32 x17) (by kernel_rfl) (yld fun _ => by kernel_rfl) ?_
              refine wpS.take 7 false (some 46) (.int .i32 (imul .i32 (rd a0 (iadd .i64 (imul .i64 2 z13) 1)) x17)) (by kernel_rfl) (yld fun _ => by kernel_rfl) ?_
              refine wpS.take 8 false (some 47) (.int .i32 (iadd .i32 z12 (imul .i32 (rd a0 (iadd .i64 (imul .i64 2 z13) 1)) x17))) (by kernel_rfl) (yld fun _ => by kernel_rfl) ?_
              refine wpS.take 9 false (some 48) (.int .i32 (irem .i32 (iadd .i32 z12 (imul .i32 (rd a0 (iadd .i64 (imul .i64 2 z13) 1)) x17)) 3329)) (by kernel_rfl) (yld fun _ => by kernel_rfl) ?_
              obtain ⟨x21, hx, h⟩ := of_bind h
              refine wpS.take 10 false (some 8) (.int .i32 x21) (by kernel_rfl) (yld_int hx (fun _ => by kernel_rfl)) ?_
              refine wpS.fin rfl (kr _ _ ?_)
              refine inBlock_n ?_
              refine then_n (ks374 _ _ ?_)
              refine wp_regS (l := [0, 1, 2]) (by kernel_rfl) fun KR kr => ?_
              refine wpS.take 0 false (some 22) (.int .i64 z13) (by kernel_rfl) (yld fun _ => by kernel_rfl) ?_
              refine wpS.take 1 false (some 23) (.int .i64 (iadd .i64 z13 1)) (by kernel_rfl) (yld fun _ => by kernel_rfl) ?_
              obtain ⟨x22, hx, h⟩ := of_bind h
              refine wpS.take 2 false (some 9) (.int .i64 x22) (by kernel_rfl) (yld_int hx (fun _ => by kernel_rfl)) ?_
              refine wpS.fin rfl (kr _ _ ?_)
              exact then_n (kl1 _ _ ⟨n, Nat.lt_succ_self n, x19, x21, x22, h, (hs.conv rfl), exg (by kernel_rfl)⟩)
            · refine wpS.take 1 false (some 21) (.bool false) (by kernel_rfl) (yld_b (df hc) (fun _ => by kernel_rfl)) ?_
              refine wpS.fin rfl (kr _ _ ?_)
              refine then_n (ks373 _ _ ?_)
              refine wp_cond_f (by kernel_rfl) ?_
              refine wp_exit ?_
              refine then_x ?_
              refine then_x ?_
              refine inBlock_hit ?_
              obtain ⟨q0, qr0⟩ := Prod.mk.inj (of_some h)
              have q1 := qr0
              subst q0
              subst q1
              exact exq_n (nn1 _ _ ⟨(hs.conv rfl), exg (by kernel_rfl)⟩)
        · clear hs h hy
          rintro a w ⟨hs, g, rfl⟩
          have h := hk1
          refine then_n (ks360 _ _ ?_)
          refine wp_seq_k fun KS380 ks380 => ?_
          refine wp_regS (l := [0, 1, 2, 3, 4]) (by kernel_rfl) fun KR kr => ?_
          refine wpS.take 0 false (some 49) (.int .i64 z6) (by kernel_rfl) (yld fun _ => by kernel_rfl) ?_
          refine wpS.take 1 false (some 50) (.int .i64 (imul .i64 2 z6)) (by kernel_rfl) (yld fun _ => by kernel_rfl) ?_
          refine wpS.take 2 false (some 51) (.int .i32 y14) (by kernel_rfl) (yld fun _ => by kernel_rfl) ?_
          obtain ⟨x23, hx, h⟩ := of_bind h
          have hx := of_some hx
          subst hx
          obtain ⟨i0_381, h⟩ := of_chk h
          obtain ⟨i1_381, h⟩ := of_chk h
          refine wpS.take 3 false (some 52) (.pointer (some ⟨b5, 0 + ((imul .i64 2 z6) : Int).toNat * 1, none⟩)) (by kernel_rfl) (yld_idx (t := 23) (e := 21) (n := 256) (sz := 1) (k := .i64) (x := (imul .i64 2 z6)) (by kernel_rfl) (by kernel_rfl) (by kernel_rfl) i0_381 i1_381) ?_
          refine wpS.only 4 (op_storeA (t := 21) (x := (imul .i64 2 z6)) (v := y14) (d := none) (by kernel_rfl) hs 0 rfl (by kernel_rfl /-v-/) (by kernel_rfl) i0_381 i1_381 ?_)
          intro w kp hs
          refine ⟨fun _ => trivial, ?_⟩
          refine wpS.fin rfl (kr _ _ ?_)
          refine then_n (ks380 _ _ ?_)
          refine wp_regS (l := [0, 1, 2, 3, 4, 5]) (by kernel_rfl) fun KR kr => ?_
          refine wpS.take 0 false (some 53) (.int .i64 z6) (by kernel_rfl) (yld fun _ => by kernel_rfl) ?_
          refine wpS.take 1 false (some 54) (.int .i64 (imul .i64 2 z6)) (by kernel_rfl) (yld fun _ => by kernel_rfl) ?_
          refine wpS.take 2 false (some 55) (.int .i64 (iadd .i64 (imul .i64 2 z6) 1)) (by kernel_rfl) (yld fun _ => by kernel_rfl) ?_
          refine wpS.take 3 false (some 56) (.int .i32 y15) (by kernel_rfl) (yld fun _ => by kernel_rfl) ?_
          obtain ⟨x24, hx, h⟩ := of_bind h
          have hx := of_some hx
          subst hx
          obtain ⟨i0_382, h⟩ := of_chk h
          obtain ⟨i1_382, h⟩ := of_chk h
          refine wpS.take 4 false (some 57) (.pointer (some ⟨b5, 0 + ((iadd .i64 (imul .i64 2 z6) 1) : Int).toNat * 1, none⟩)) (by kernel_rfl) (yld_idx (t := 23) (e := 21) (n := 256) (sz := 1) (k := .i64) (x := (iadd .i64 (imul .i64 2 z6) 1)) (by kernel_rfl) (by kernel_rfl) (by kernel_rfl) i0_382 i1_382) ?_
          refine wpS.only 5 (op_storeA (t := 21) (x := (iadd .i64 (imul .i64 2 z6) 1)) (v := y15) (d := none) (by kernel_rfl) hs 0 rfl (by kernel_rfl /-v-/) (by kernel_rfl) i0_382 i1_382 ?_)
          intro w kp hs
          refine ⟨fun _ => trivial, ?_⟩
          refine wpS.fin rfl (kr _ _ ?_)
          refine inBlock_n ?_
          refine then_n (ks337 _ _ ?_)
          refine wp_regS (l := [0, 1, 2]) (by kernel_rfl) fun KR kr => ?_
          refine wpS.take 0 false (some 14) (.int .i64 z6) (by kernel_rfl) (yld fun _ => by kernel_rfl) ?_
          refine wpS.take 1 false (some 15) (.int .i64 (iadd .i64 z6 1)) (by kernel_rfl) (yld fun _ => by kernel_rfl) ?_
          obtain ⟨x25, hx, h⟩ := of_bind h
          refine wpS.take 2 false (some 5) (.int .i64 x25) (by kernel_rfl) (yld_int hx (fun _ => by kernel_rfl)) ?_
          refine wpS.fin rfl (kr _ _ ?_)
          exact then_n (kl0 _ _ ⟨n, Nat.lt_succ_self n, x25, (wr (wr z7 (imul .i64 2 z6) y14) (iadd .i64 (imul .i64 2 z6) 1) y15), h, (hs.conv rfl), exg (by kernel_rfl)⟩)
      · refine wpS.take 1 false (some 13) (.bool false) (by kernel_rfl) (yld_b (df hc) (fun _ => by kernel_rfl)) ?_
        refine wpS.fin rfl (kr _ _ ?_)
        refine then_n (ks291 _ _ ?_)
        refine wp_cond_f (by kernel_rfl) ?_
        refine wp_exit ?_
        refine then_x ?_
        refine then_x ?_
        refine inBlock_hit ?_
        have q0 := of_some h
        subst q0
        exact exq_n (nn0 _ _ ⟨(hs.conv rfl), exg (by kernel_rfl)⟩)
  · clear hs h hy
    rintro a w ⟨hs, g, rfl⟩
    have h := hk0
    refine then_n (ks193 _ _ ?_)
    refine wp_seq_k fun KS383 ks383 => ?_
    refine wp_regS (l := [0, 1]) (by kernel_rfl) fun KR kr => ?_
    refine wpS.take 0 true (some 58) (.agg (enc .i32 y8).toArray) (by kernel_rfl) (yld_loadW (e := 23) (n := 256) hs 0 rfl (by kernel_rfl) (by kernel_rfl) (by kernel_rfl) (by exact enc_len _ _) .grow) ?_
    refine wpS.only 1 (op_storeW (t := 23) (v := .agg (enc .i32 y8).toArray) (d := none) (by kernel_rfl) hs 2 rfl (vs := enc .i32 y8) (n := 256) (by kernel_rfl) (by kernel_rfl) (by kernel_rfl) (by simp [enc_len]) (by simp [enc_len]) (by intro u hu; exact enc_one _ _ u hu) ?_)
    intro w kp hs
    refine ⟨fun _ => trivial, ?_⟩
    refine wpS.fin rfl (kr _ _ ?_)
    refine then_n (ks383 _ _ ?_)
    refine wp_ret ?_
    have q0 := of_some h
    subst q0
    exact qq _ _ (post_ret (by kernel_rfl) (run_results [.cell 2 23] [.agg (enc .i32 y8).toArray] (by kernel_rfl) (.cons (res_cellN (n := 256) hs 2 rfl (by kernel_rfl) (by kernel_rfl) (by kernel_rfl) (by exact enc_len _ _)) .nil)) ⟨congrArg Ending.returned (by kernel_rfl), hs.none⟩)

theorem ref25_Back.ok {K : Nat} {a0 : Arr 256} {r0 : Arr 256} (h : ref25_Back.f K a0 = some r0) (w0 : World) : Ret Try.prog 57 #[.agg (enc .i32 a0).toArray] w0 (.agg (enc .i32 r0).toArray) := by
  refine calls_k Try.func57 rfl fun Q qq => ?_
  have hs := St.start w0
  refine wp_conv (a' := ⟨#[.agg (enc .i32 a0).toArray, undef, undef, undef, undef, undef, undef, undef, undef, undef, undef, undef, undef, undef, undef, undef, undef, undef, undef, undef, undef, undef, undef, undef, undef, undef, undef, undef, undef, undef, undef, undef, undef, undef, undef, undef, undef, undef, undef, undef, undef, undef, undef, undef, undef, undef, undef, undef, undef, undef, undef, undef, undef, undef, undef, undef, undef, undef, undef, undef, undef, undef, undef], []⟩) (by kernel_rfl) ?_
  refine wp_seq_k fun KS1 ks1 => ?_
  refine wp_regS (l := [0, 1]) (by kernel_rfl) fun KR kr => ?_
  refine wpS.only 0 (op_box (t := 23) (v := .agg (enc .i32 a0).toArray) (d := (some 1)) (by kernel_rfl) hs (enc .i32 a0) (by kernel_rfl) (by kernel_rfl) ?_)
  intro b1 w gw hs
  refine ⟨fun _ => trivial, ?_⟩
  refine wpS.only 1 (op_alloc (t := 23) (d := (some 2)) (by kernel_rfl) hs (enc .i32 (zeroA 256)) (.agg (enc .i32 (zeroA 256)).toArray) (by kernel_rfl) (by kernel_rfl) (by kernel_rfl) ?_)
  intro b2 w gw hs
  refine ⟨fun _ => trivial, ?_⟩
  refine wpS.fin rfl (kr _ _ ?_)
  refine then_n (ks1 _ _ ?_)
  refine wp_seq_k fun KS2 ks2 => ?_
  refine wp_regS (l := [0, 1, 2]) (by kernel_rfl) fun KR kr => ?_
  obtain ⟨r3, hg, h⟩ := of_bind h
  refine wpS.only 0 (op_call (d := (some 10)) (by kernel_rfl) hs (fun _ => by kernel_rfl) (ref25_powers.ok hg _) ?_)
  intro w gw hs
  refine ⟨fun _ => trivial, ?_⟩
  refine wpS.only 1 (op_alloc (t := 22) (d := (some 3)) (by kernel_rfl) hs (enc .i32 (zeroA 256)) (.agg (enc .i32 (zeroA 256)).toArray) (by kernel_rfl) (by kernel_rfl) (by kernel_rfl) ?_)
  intro b4 w gw hs
  refine ⟨fun _ => trivial, ?_⟩
  refine wpS.only 2 (op_storeW (t := 22) (v := .agg (enc .i32 r3).toArray) (d := none) (by kernel_rfl) hs 0 rfl (vs := enc .i32 r3) (n := 256) (by kernel_rfl) (by kernel_rfl) (by kernel_rfl) (by simp [enc_len]) (by simp [enc_len]) (by intro u hu; exact enc_one _ _ u hu) ?_)
  intro w kp hs
  refine ⟨fun _ => trivial, ?_⟩
  refine wpS.fin rfl (kr _ _ ?_)
  refine then_n (ks2 _ _ ?_)
  refine wp_seq_k fun KS3 ks3 => ?_
  refine wp_regS (l := [0]) (by kernel_rfl) fun KR kr => ?_
  refine wpS.only 0 (op_alloc (t := 23) (d := (some 4)) (by kernel_rfl) hs (enc .i32 (zeroA 256)) (.agg (enc .i32 (zeroA 256)).toArray) (by kernel_rfl) (by kernel_rfl) (by kernel_rfl) ?_)
  intro b5 w gw hs
  refine ⟨fun _ => trivial, ?_⟩
  refine wpS.fin rfl (kr _ _ ?_)
  refine then_n (ks3 _ _ ?_)
  refine wp_seq_k fun KS189 ks189 => ?_
  refine wp_seq_k fun KS190 ks190 => ?_
  refine wp_regS (l := [0]) (by kernel_rfl) fun KR kr => ?_
  refine wpS.take 0 false (some 5) (.int .i64 0) (by kernel_rfl) (yld fun _ => by kernel_rfl) ?_
  refine wpS.fin rfl (kr _ _ ?_)
  refine then_n (ks190 _ _ ?_)
  obtain ⟨y8, hy, hk0⟩ := of_bind h
  refine wp_exq (N := fun a w => St w0 [] [.blk b5 (enc .i32 y8) 23, .blk b4 (enc .i32 r3) 22, .blk b2 (enc .i32 (zeroA 256)) 23, .blk b1 (enc .i32 a0) 23] [] w ∧ ∃ g : Nat → Value, a = ⟨#[.agg (enc .i32 a0).toArray, .pointer (some ⟨b1, 0, none⟩), .pointer (some ⟨b2, 0, none⟩), .pointer (some ⟨b4, 0, none⟩), .pointer (some ⟨b5, 0, none⟩), (g 5), (g 6), (g 7), (g 8), (g 9), .agg (enc .i32 r3).toArray, (g 11), (g 12), (g 13), (g 14), (g 15), (g 16), (g 17), (g 18), (g 19), (g 20), (g 21), (g 22), (g 23), (g 24), (g 25), (g 26), (g 27), (g 28), (g 29), (g 30), (g 31), (g 32), (g 33), (g 34), (g 35), (g 36), (g 37), (g 38), (g 39), (g 40), (g 41), (g 42), (g 43), (g 44), (g 45), (g 46), (g 47), (g 48), (g 49), (g 50), (g 51), (g 52), (g 53), (g 54), (g 55), (g 56), (g 57), (g 58), (g 59), (g 60), (g 61), undef], []⟩) (fun N0 nn0 => ?_) ?_
  · clear hk0
    refine wp_block ?_
    refine wp_loop_k (fun n a w => ∃ z6 z7, ref25_Back.l0 K n a0 r3 z6 z7 = some y8 ∧ St w0 [] [.blk b5 (enc .i32 z7) 23, .blk b4 (enc .i32 r3) 22, .blk b2 (enc .i32 (zeroA 256)) 23, .blk b1 (enc .i32 a0) 23] [] w ∧ ∃ g : Nat → Value, a = ⟨#[.agg (enc .i32 a0).toArray, .pointer (some ⟨b1, 0, none⟩), .pointer (some ⟨b2, 0, none⟩), .pointer (some ⟨b4, 0, none⟩), .pointer (some ⟨b5, 0, none⟩), .int .i64 z6, (g 6), (g 7), (g 8), (g 9), .agg (enc .i32 r3).toArray, (g 11), (g 12), (g 13), (g 14), (g 15), (g 16), (g 17), (g 18), (g 19), (g 20), (g 21), (g 22), (g 23), (g 24), (g 25), (g 26), (g 27), (g 28), (g 29), (g 30), (g 31), (g 32), (g 33), (g 34), (g 35), (g 36), (g 37), (g 38), (g 39), (g 40), (g 41), (g 42), (g 43), (g 44), (g 45), (g 46), (g 47), (g 48), (g 49), (g 50), (g 51), (g 52), (g 53), (g 54), (g 55), (g 56), (g 57), (g 58), (g 59), (g 60), (g 61), undef], []⟩) K ⟨0, (zeroA 256), hy, hs.conv rfl, exg (by kernel_rfl)⟩ ?_
    clear hs h hy
    rintro n a w ⟨z6, z7, h, hs, g, rfl⟩ KL0 kl0
    cases n with
    | zero => exact nomatch (show none = some _ from h)
    | succ n =>
      refine wp_seq_k fun KS284 ks284 => ?_
      refine wp_seq_k fun KS285 ks285 => ?_
      refine wp_regS (l := [0, 1]) (by kernel_rfl) fun KR kr => ?_
      refine wpS.take 0 false (some 11) (.int .i64 z6) (by kernel_rfl) (yld fun _ => by kernel_rfl) ?_
      rcases of_if h with ⟨hc, h⟩ | ⟨hc, h⟩
      · refine wpS.take 1 false (some 12) (.bool true) (by kernel_rfl) (yld_b (dt hc) (fun _ => by kernel_rfl)) ?_
        refine wpS.fin rfl (kr _ _ ?_)
        refine then_n (ks285 _ _ ?_)
        refine wp_cond_t (by kernel_rfl) ?_
        refine wp_skip ?_
        refine then_n (ks284 _ _ ?_)
        refine wp_seq_k fun KS330 ks330 => ?_
        refine wp_block ?_
        refine wp_seq_k fun KS331 ks331 => ?_
        refine wp_regS (l := [0]) (by kernel_rfl) fun KR kr => ?_
        refine wpS.take 0 false (some 6) (.int .i32 0) (by kernel_rfl) (yld fun _ => by kernel_rfl) ?_
        refine wpS.fin rfl (kr _ _ ?_)
        refine then_n (ks331 _ _ ?_)
        refine wp_seq_k fun KS332 ks332 => ?_
        refine wp_regS (l := [0]) (by kernel_rfl) fun KR kr => ?_
        refine wpS.take 0 false (some 7) (.int .i32 0) (by kernel_rfl) (yld fun _ => by kernel_rfl) ?_
        refine wpS.fin rfl (kr _ _ ?_)
        refine then_n (ks332 _ _ ?_)
        refine wp_seq_k fun KS352 ks352 => ?_
        refine wp_seq_k fun KS353 ks353 => ?_
        refine wp_regS (l := [0]) (by kernel_rfl) fun KR kr => ?_
        refine wpS.take 0 false (some 8) (.int .i64 0) (by kernel_rfl) (yld fun _ => by kernel_rfl) ?_
        refine wpS.fin rfl (kr _ _ ?_)
        refine then_n (ks353 _ _ ?_)
        obtain ⟨⟨y12, y13⟩, hy, hk1⟩ := of_bind h
        refine wp_exq (N := fun a w => St w0 [] [.blk b5 (enc .i32 z7) 23, .blk b4 (enc .i32 r3) 22, .blk b2 (enc .i32 (zeroA 256)) 23, .blk b1 (enc .i32 a0) 23] [] w ∧ ∃ g : Nat → Value, a = ⟨#[.agg (enc .i32 a0).toArray, .pointer (some ⟨b1, 0, none⟩), .pointer (some ⟨b2, 0, none⟩), .pointer (some ⟨b4, 0, none⟩), .pointer (some ⟨b5, 0, none⟩), .int .i64 z6, .int .i32 y12, .int .i32 y13, (g 8), (g 9), .agg (enc .i32 r3).toArray, .int .i64 z6, .bool true, (g 13), (g 14), (g 15), (g 16), (g 17), (g 18), (g 19), (g 20), (g 21), (g 22), (g 23), (g 24), (g 25), (g 26), (g 27), (g 28), (g 29), (g 30), (g 31), (g 32), (g 33), (g 34), (g 35), (g 36), (g 37), (g 38), (g 39), (g 40), (g 41), (g 42), (g 43), (g 44), (g 45), (g 46), (g 47), (g 48), (g 49), (g 50), (g 51), (g 52), (g 53), (g 54), (g 55), (g 56), (g 57), (g 58), (g 59), (g 60), (g 61), undef], []⟩) (fun N1 nn1 => ?_) ?_
        · clear hk1
          refine wp_block ?_
          refine wp_loop_k (fun n a w => ∃ z9 z10 z11, ref25_Back.l1 K n a0 r3 z6 z9 z10 z11 = some (y12, y13) ∧ St w0 [] [.blk b5 (enc .i32 z7) 23, .blk b4 (enc .i32 r3) 22, .blk b2 (enc .i32 (zeroA 256)) 23, .blk b1 (enc .i32 a0) 23] [] w ∧ ∃ g : Nat → Value, a = ⟨#[.agg (enc .i32 a0).toArray, .pointer (some ⟨b1, 0, none⟩), .pointer (some ⟨b2, 0, none⟩), .pointer (some ⟨b4, 0, none⟩), .pointer (some ⟨b5, 0, none⟩), .int .i64 z6, .int .i32 z9, .int .i32 z10, .int .i64 z11, (g 9), .agg (enc .i32 r3).toArray, .int .i64 z6, .bool true, (g 13), (g 14), (g 15), (g 16), (g 17), (g 18), (g 19), (g 20), (g 21), (g 22), (g 23), (g 24), (g 25), (g 26), (g 27), (g 28), (g 29), (g 30), (g 31), (g 32), (g 33), (g 34), (g 35), (g 36), (g 37), (g 38), (g 39), (g 40), (g 41), (g 42), (g 43), (g 44), (g 45), (g 46), (g 47), (g 48), (g 49), (g 50), (g 51), (g 52), (g 53), (g 54), (g 55), (g 56), (g 57), (g 58), (g 59), (g 60), (g 61), undef], []⟩) K ⟨0, 0, 0, hy, hs.conv rfl, exg (by kernel_rfl)⟩ ?_
          clear hs h hy
          rintro n a w ⟨z9, z10, z11, h, hs, g, rfl⟩ KL1 kl1
          cases n with
          | zero => exact nomatch (show none = some _ from h)
          | succ n =>
            refine wp_seq_k fun KS364 ks364 => ?_
            refine wp_seq_k fun KS365 ks365 => ?_
            refine wp_regS (l := [0, 1]) (by kernel_rfl) fun KR kr => ?_
            refine wpS.take 0 false (some 15) (.int .i64 z11) (by kernel_rfl) (yld fun _ => by kernel_rfl) ?_
            rcases of_if h with ⟨hc, h⟩ | ⟨hc, h⟩
            · refine wpS.take 1 false (some 16) (.bool true) (by kernel_rfl) (yld_b (dt hc) (fun _ => by kernel_rfl)) ?_
              refine wpS.fin rfl (kr _ _ ?_)
              refine then_n (ks365 _ _ ?_)
              refine wp_cond_t (by kernel_rfl) ?_
              refine wp_skip ?_
              refine then_n (ks364 _ _ ?_)
              refine wp_seq_k fun KS366 ks366 => ?_
              refine wp_block ?_
              refine wp_seq_k fun KS367 ks367 => ?_
              refine wp_regS (l := [0, 1, 2, 3, 4, 5, 6, 7, 8, 9, 10, 11]) (by kernel_rfl) fun KR kr => ?_
              refine wpS.take 0 false (some 19) (.int .i64 z11) (by kernel_rfl) (yld fun _ => by kernel_rfl) ?_
              obtain ⟨r14, hg, h⟩ := of_bind h
              refine wpS.only 1 (op_call (d := (some 20)) (by kernel_rfl) hs (fun _ => by kernel_rfl) (ref25_turned.ok hg _) ?_)
              intro w gw hs
              refine ⟨fun _ => trivial, ?_⟩
              refine wpS.take 2 false (some 21) (.int .i64 (imul .i64 2 r14)) (by kernel_rfl) (yld fun _ => by kernel_rfl) ?_
              refine wpS.take 3 false (some 22) (.int .i64 (iadd .i64 (imul .i64 2 r14) 1)) (by kernel_rfl) (yld fun _ => by kernel_rfl) ?_
              refine wpS.take 4 false (some 23) (.int .i64 z6) (by kernel_rfl) (yld fun _ => by kernel_rfl) ?_
              refine wpS.take 5 false (some 24) (.int .i64 (imul .i64 (iadd .i64 (imul .i64 2 r14) 1) z6)) (by kernel_rfl) (yld fun _ => by kernel_rfl) ?_
              refine wpS.take 6 false (some 25) (.int .i64 (irem .i64 (imul .i64 (iadd .i64 (imul .i64 2 r14) 1) z6) 256)) (by kernel_rfl) (yld fun _ => by kernel_rfl) ?_
              refine wpS.take 7 false (some 26) (.int .i64 (isub .i64 256 (irem .i64 (imul .i64 (iadd .i64 (imul .i64 2 r14) 1) z6) 256))) (by kernel_rfl) (yld fun _ => by kernel_rfl) ?_
              refine wpS.take 8 false (some 27) (.int .i64 (irem .i64 (isub .i64 256 (irem .i64 (imul .i64 (iadd .i64 (imul .i64 2 r14) 1) z6) 256)) 256)) (by kernel_rfl) (yld fun _ => by kernel_rfl) ?_
              obtain ⟨x15, hx, h⟩ := of_bind h
              have hx := of_some hx
              subst hx
              obtain ⟨i0_368, h⟩ := of_chk h
              obtain ⟨i1_368, h⟩ := of_chk h
              refine wpS.take 9 false (some 28) (.pointer (some ⟨b4, 0 + ((irem .i64 (isub .i64 256 (irem .i64 (imul .i64 (iadd .i64 (imul .i64 2 r14) 1) z6) 256)) 256) : Int).toNat * 1, none⟩)) (by kernel_rfl) (yld_idx (t := 22) (e := 21) (n := 256) (sz := 1) (k := .i64) (x := (irem .i64 (isub .i64 256 (irem .i64 (imul .i64 (iadd .i64 (imul .i64 2 r14) 1) z6) 256)) 256)) (by kernel_rfl) (by kernel_rfl) (by kernel_rfl) i0_368 i1_368) ?_
              refine wpS.take 10 true (some 29) (.int .i32 (rd r3 (irem .i64 (isub .i64 256 (irem .i64 (imul .i64 (iadd .i64 (imul .i64 2 r14) 1) z6) 256)) 256))) (by kernel_rfl) (yld_loadA (e := 21) (x := (irem .i64 (isub .i64 256 (irem .i64 (imul .i64 (iadd .i64 (imul .i64 2 r14) 1) z6) 256)) 256)) hs 1 rfl (by kernel_rfl) (by kernel_rfl) i0_368 i1_368 .grow) ?_
              obtain ⟨x16, hx, h⟩ := of_bind h
              refine wpS.take 11 false (some 9) (.int .i32 x16) (by kernel_rfl) (yld_int hx (fun _ => by kernel_rfl)) ?_
              refine wpS.fin rfl (kr _ _ ?_)
              refine then_n (ks367 _ _ ?_)
              refine wp_seq_k fun KS369 ks369 => ?_
              refine wp_regS (l := [0, 1, 2, 3, 4, 5, 6, 7, 8, 9]) (by kernel_rfl) fun KR kr => ?_
              refine wpS.take 0 false (some 30) (.int .i32 z9) (by kernel_rfl) (yld fun _ => by kernel_rfl) ?_
              refine wpS.take 1 false (some 31) (.int .i64 z11) (by kernel_rfl) (yld fun _ => by kernel_rfl) ?_
              refine wpS.take 2 false (some 32) (.int .i64 (imul .i64 2 z11)) (by kernel_rfl) (yld fun _ => by kernel_rfl) ?_
              obtain ⟨x17, hx, h⟩ := of_bind h
              have hx := of_some hx
              subst hx
              obtain ⟨i0_370, h⟩ := of_chk h
              obtain ⟨i1_370, h⟩ := of_chk h
              refine wpS.take 3 false (some 33) (.pointer (some ⟨b1, 0 + ((imul .i64 2 z11) : Int).toNat * 1, none⟩)) (by kernel_rfl) (yld_idx (t := 23) (e := 21) (n := 256) (sz := 1) (k := .i64) (x := (imul .i64 2 z11)) (by kernel_rfl) (by kernel_rfl) (by kernel_rfl) i0_370 i1_370) ?_
              refine wpS.take 4 true (some 34) (.int .i32 (rd a0 (imul .i64 2 z11))) (by kernel_rfl) (yld_loadA (e := 21) (x := (imul .i64 2 z11)) hs 3 rfl (by kernel_rfl) (by kernel_rfl) i0_370 i1_370 .grow) ?_
              refine wpS.take 5 false (some 35) (.int .i32 x16) (by kernel_rfl) (yld fun _ => by kernel_rfl) ?_
              refine wpS.take 6 false (some 36) (.int .i32 (imul .i32 (rd a0 (imul .i64 2 z11)) x16)) (by kernel_rfl) (yld fun _ => by kernel_rfl) ?_
              refine wpS.take 7 false (some 37) (.int .i32 (iadd .i32 z9 (imul .i32 (rd a0 (imul .i64 2 z11)) x16))) (by kernel_rfl) (yld fun _ => by kernel_rfl) ?_
              refine wpS.take 8 false (some 38) (.int .i32 (irem .i32 (iadd .i32 z9 (imul .i32 (rd a0 (imul .i64 2 z11)) x16)) 3329)) (by kernel_rfl) (yld fun _ => by kernel_rfl) ?_
              obtain ⟨x18, hx, h⟩ := of_bind h
              refine wpS.take 9 false (some 6) (.int .i32 x18) (by kernel_rfl) (yld_int hx (fun _ => by kernel_rfl)) ?_
              refine wpS.fin rfl (kr _ _ ?_)
              refine then_n (ks369 _ _ ?_)
              refine wp_regS (l := [0, 1, 2, 3, 4, 5, 6, 7, 8, 9, 10]) (by kernel_rfl) fun KR kr => ?_
              refine wpS.take 0 false (some 39) (.int .i32 z10) (by kernel_rfl) (yld fun _ => by kernel_rfl) ?_
              refine wpS.take 1 false (some 40) (.int .i64 z11) (by kernel_rfl) (yld fun _ => by kernel_rfl) ?_
              refine wpS.take 2 false (some 41) (.int .i64 (imul .i64 2 z11)) (by kernel_rfl) (yld fun _ => by kernel_rfl) ?_
              refine wpS.take 3 false (some 42) (.int .i64 (iadd .i64 (imul .i64 2 z11) 1)) (by kernel_rfl) (yld fun _ => by kernel_rfl) ?_
              obtain ⟨x19, hx, h⟩ := of_bind h
              have hx := of_some hx
              subst hx
              obtain ⟨i0_371, h⟩ := of_chk h
              obtain ⟨i1_371, h⟩ := of_chk h
              refine wpS.take 4 false (some 43) (.pointer (some ⟨b1, 0 + ((iadd .i64 (imul .i64 2 z11) 1) : Int).toNat * 1, none⟩)) (by kernel_rfl) (yld_idx (t := 23) (e := 21) (n := 256) (sz := 1) (k := .i64) (x := (iadd .i64 (imul .i64 2 z11) 1)) (by kernel_rfl) (by kernel_rfl) (by kernel_rfl) i0_371 i1_371) ?_
              refine wpS.take 5 true (some 44) (.int .i32 (rd a0 (iadd .i64 (imul .i64 2 z11) 1))) (by kernel_rfl) (yld_loadA (e := 21) (x := (iadd .i64 (imul .i64 2 z11) 1)) hs 3 rfl (by kernel_rfl) (by kernel_rfl) i0_371 i1_371 .grow) ?_
              refine wpS.take 6 false (some 45) (.int .i32 x16) (by kernel_rfl) (yld fun _ => by kernel_rfl) ?_
              refine wpS.take 7 false (some 46) (.int .i32 (imul .i32 (rd a0 (iadd .i64 (imul .i64 2 z11) 1)) x16)) (by kernel_rfl) (yld fun _ => by kernel_rfl) ?_
              refine wpS.take 8 false (some 47) (.int .i32 (iadd .i32 z10 (imul .i32 (rd a0 (iadd .i64 (imul .i64 2 z11) 1)) x16))) (by kernel_rfl) (yld fun _ => by kernel_rfl) ?_
              refine wpS.take 9 false (some 48) (.int .i32 (irem .i32 (iadd .i32 z10 (imul .i32 (rd a0 (iadd .i64 (imul .i64 2 z11) 1)) x16)) 3329)) (by kernel_rfl) (yld fun _ => by kernel_rfl) ?_
              obtain ⟨x20, hx, h⟩ := of_bind h
              refine wpS.take 10 false (some 7) (.int .i32 x20) (by kernel_rfl) (yld_int hx (fun _ => by kernel_rfl)) ?_
              refine wpS.fin rfl (kr _ _ ?_)
              refine inBlock_n ?_
              refine then_n (ks366 _ _ ?_)
              refine wp_regS (l := [0, 1, 2]) (by kernel_rfl) fun KR kr => ?_
              refine wpS.take 0 false (some 17) (.int .i64 z11) (by kernel_rfl) (yld fun _ => by kernel_rfl) ?_
              refine wpS.take 1 false (some 18) (.int .i64 (iadd .i64 z11 1)) (by kernel_rfl) (yld fun _ => by kernel_rfl) ?_
              obtain ⟨x21, hx, h⟩ := of_bind h
              refine wpS.take 2 false (some 8) (.int .i64 x21) (by kernel_rfl) (yld_int hx (fun _ => by kernel_rfl)) ?_
              refine wpS.fin rfl (kr _ _ ?_)
              exact then_n (kl1 _ _ ⟨n, Nat.lt_succ_self n, x18, x20, x21, h, (hs.conv rfl), exg (by kernel_rfl)⟩)
            · refine wpS.take 1 false (some 16) (.bool false) (by kernel_rfl) (yld_b (df hc) (fun _ => by kernel_rfl)) ?_
              refine wpS.fin rfl (kr _ _ ?_)
              refine then_n (ks365 _ _ ?_)
              refine wp_cond_f (by kernel_rfl) ?_
              refine wp_exit ?_
              refine then_x ?_
              refine then_x ?_
              refine inBlock_hit ?_
              obtain ⟨q0, qr0⟩ := Prod.mk.inj (of_some h)
              have q1 := qr0
              subst q0
              subst q1
              exact exq_n (nn1 _ _ ⟨(hs.conv rfl), exg (by kernel_rfl)⟩)
        · clear hs h hy
          rintro a w ⟨hs, g, rfl⟩
          have h := hk1
          refine then_n (ks352 _ _ ?_)
          refine wp_seq_k fun KS372 ks372 => ?_
          refine wp_regS (l := [0, 1, 2, 3, 4, 5, 6]) (by kernel_rfl) fun KR kr => ?_
          refine wpS.take 0 false (some 49) (.int .i64 z6) (by kernel_rfl) (yld fun _ => by kernel_rfl) ?_
          refine wpS.take 1 false (some 50) (.int .i64 (imul .i64 2 z6)) (by kernel_rfl) (yld fun _ => by kernel_rfl) ?_
          refine wpS.take 2 false (some 51) (.int .i32 y12) (by kernel_rfl) (yld fun _ => by kernel_rfl) ?_
          refine wpS.take 3 false (some 52) (.int .i32 (imul .i32 y12 3303)) (by kernel_rfl) (yld fun _ => by kernel_rfl) ?_
          refine wpS.take 4 false (some 53) (.int .i32 (irem .i32 (imul .i32 y12 3303) 3329)) (by kernel_rfl) (yld fun _ => by kernel_rfl) ?_
          obtain ⟨x22, hx, h⟩ := of_bind h
          have hx := of_some hx
          subst hx
          obtain ⟨i0_373, h⟩ := of_chk h
          obtain ⟨i1_373, h⟩ := of_chk h
          refine wpS.take 5 false (some 54) (.pointer (some ⟨b5, 0 + ((imul .i64 2 z6) : Int).toNat * 1, none⟩)) (by kernel_rfl) (yld_idx (t := 23) (e := 21) (n := 256) (sz := 1) (k := .i64) (x := (imul .i64 2 z6)) (by kernel_rfl) (by kernel_rfl) (by kernel_rfl) i0_373 i1_373) ?_
          obtain ⟨x23, hx, h⟩ := of_bind h
          refine wpS.only 6 (op_storeA (t := 21) (x := (imul .i64 2 z6)) (v := x23) (d := none) (by kernel_rfl) hs 0 rfl (by cases hx; kernel_rfl) (by kernel_rfl) i0_373 i1_373 ?_)
          intro w kp hs
          refine ⟨fun _ => trivial, ?_⟩
          refine wpS.fin rfl (kr _ _ ?_)
          refine then_n (ks372 _ _ ?_)
          refine wp_regS (l := [0, 1, 2, 3, 4, 5, 6, 7]) (by kernel_rfl) fun KR kr => ?_
          refine wpS.take 0 false (some 55) (.int .i64 z6) (by kernel_rfl) (yld fun _ => by kernel_rfl) ?_
          refine wpS.take 1 false (some 56) (.int .i64 (imul .i64 2 z6)) (by kernel_rfl) (yld fun _ => by kernel_rfl) ?_
          refine wpS.take 2 false (some 57) (.int .i64 (iadd .i64 (imul .i64 2 z6) 1)) (by kernel_rfl) (yld fun _ => by kernel_rfl) ?_
          refine wpS.take 3 false (some 58) (.int .i32 y13) (by kernel_rfl) (yld fun _ => by kernel_rfl) ?_
          refine wpS.take 4 false (some 59) (.int .i32 (imul .i32 y13 3303)) (by kernel_rfl) (yld fun _ => by kernel_rfl) ?_
          refine wpS.take 5 false (some 60) (.int .i32 (irem .i32 (imul .i32 y13 3303) 3329)) (by kernel_rfl) (yld fun _ => by kernel_rfl) ?_
          obtain ⟨x24, hx, h⟩ := of_bind h
          have hx := of_some hx
          subst hx
          obtain ⟨i0_374, h⟩ := of_chk h
          obtain ⟨i1_374, h⟩ := of_chk h
          refine wpS.take 6 false (some 61) (.pointer (some ⟨b5, 0 + ((iadd .i64 (imul .i64 2 z6) 1) : Int).toNat * 1, none⟩)) (by kernel_rfl) (yld_idx (t := 23) (e := 21) (n := 256) (sz := 1) (k := .i64) (x := (iadd .i64 (imul .i64 2 z6) 1)) (by kernel_rfl) (by kernel_rfl) (by kernel_rfl) i0_374 i1_374) ?_
          obtain ⟨x25, hx, h⟩ := of_bind h
          refine wpS.only 7 (op_storeA (t := 21) (x := (iadd .i64 (imul .i64 2 z6) 1)) (v := x25) (d := none) (by kernel_rfl) hs 0 rfl (by cases hx; kernel_rfl) (by kernel_rfl) i0_374 i1_374 ?_)
          intro w kp hs
          refine ⟨fun _ => trivial, ?_⟩
          refine wpS.fin rfl (kr _ _ ?_)
          refine inBlock_n ?_
          refine then_n (ks330 _ _ ?_)
          refine wp_regS (l := [0, 1, 2]) (by kernel_rfl) fun KR kr => ?_
          refine wpS.take 0 false (some 13) (.int .i64 z6) (by kernel_rfl) (yld fun _ => by kernel_rfl) ?_
          refine wpS.take 1 false (some 14) (.int .i64 (iadd .i64 z6 1)) (by kernel_rfl) (yld fun _ => by kernel_rfl) ?_
          obtain ⟨x26, hx, h⟩ := of_bind h
          refine wpS.take 2 false (some 5) (.int .i64 x26) (by kernel_rfl) (yld_int hx (fun _ => by kernel_rfl)) ?_
          refine wpS.fin rfl (kr _ _ ?_)
          exact then_n (kl0 _ _ ⟨n, Nat.lt_succ_self n, x26, (wr (wr z7 (imul .i64 2 z6) x23) (iadd .i64 (imul .i64 2 z6) 1) x25), h, (hs.conv rfl), exg (by kernel_rfl)⟩)
      · refine wpS.take 1 false (some 12) (.bool false) (by kernel_rfl) (yld_b (df hc) (fun _ => by kernel_rfl)) ?_
        refine wpS.fin rfl (kr _ _ ?_)
        refine then_n (ks285 _ _ ?_)
        refine wp_cond_f (by kernel_rfl) ?_
        refine wp_exit ?_
        refine then_x ?_
        refine then_x ?_
        refine inBlock_hit ?_
        have q0 := of_some h
        subst q0
        exact exq_n (nn0 _ _ ⟨(hs.conv rfl), exg (by kernel_rfl)⟩)
  · clear hs h hy
    rintro a w ⟨hs, g, rfl⟩
    have h := hk0
    refine then_n (ks189 _ _ ?_)
    refine wp_seq_k fun KS375 ks375 => ?_
    refine wp_regS (l := [0, 1]) (by kernel_rfl) fun KR kr => ?_
    refine wpS.take 0 true (some 62) (.agg (enc .i32 y8).toArray) (by kernel_rfl) (yld_loadW (e := 23) (n := 256) hs 0 rfl (by kernel_rfl) (by kernel_rfl) (by kernel_rfl) (by exact enc_len _ _) .grow) ?_
    refine wpS.only 1 (op_storeW (t := 23) (v := .agg (enc .i32 y8).toArray) (d := none) (by kernel_rfl) hs 2 rfl (vs := enc .i32 y8) (n := 256) (by kernel_rfl) (by kernel_rfl) (by kernel_rfl) (by simp [enc_len]) (by simp [enc_len]) (by intro u hu; exact enc_one _ _ u hu) ?_)
    intro w kp hs
    refine ⟨fun _ => trivial, ?_⟩
    refine wpS.fin rfl (kr _ _ ?_)
    refine then_n (ks375 _ _ ?_)
    refine wp_ret ?_
    have q0 := of_some h
    subst q0
    exact qq _ _ (post_ret (by kernel_rfl) (run_results [.cell 2 23] [.agg (enc .i32 y8).toArray] (by kernel_rfl) (.cons (res_cellN (n := 256) hs 2 rfl (by kernel_rfl) (by kernel_rfl) (by kernel_rfl) (by exact enc_len _ _)) .nil)) ⟨congrArg Ending.returned (by kernel_rfl), hs.none⟩)

theorem ref25_Mul.ok {K : Nat} {a0 : Arr 256} {a1 : Arr 256} {r0 : Arr 256} (h : ref25_Mul.f K a0 a1 = some r0) (w0 : World) : Ret Try.prog 59 #[.agg (enc .i32 a0).toArray, .agg (enc .i32 a1).toArray] w0 (.agg (enc .i32 r0).toArray) := by
  refine calls_k Try.func59 rfl fun Q qq => ?_
  have hs := St.start w0
  refine wp_conv (a' := ⟨#[.agg (enc .i32 a0).toArray, .agg (enc .i32 a1).toArray, undef, undef, undef, undef, undef, undef, undef, undef, undef, undef, undef, undef, undef, undef, undef, undef, undef, undef, undef, undef, undef, undef, undef, undef, undef, undef, undef, undef, undef, undef, undef, undef, undef, undef, undef, undef, undef, undef, undef, undef, undef, undef, undef, undef, undef, undef, undef, undef, undef, undef, undef, undef, undef, undef, undef, undef, undef, undef, undef, undef, undef, undef, undef, undef, undef, undef, undef, undef, undef, undef, undef, undef, undef], []⟩) (by kernel_rfl) ?_
  refine wp_seq_k fun KS1 ks1 => ?_
  refine wp_regS (l := [0, 1, 2]) (by kernel_rfl) fun KR kr => ?_
  refine wpS.only 0 (op_box (t := 23) (v := .agg (enc .i32 a0).toArray) (d := (some 2)) (by kernel_rfl) hs (enc .i32 a0) (by kernel_rfl) (by kernel_rfl) ?_)
  intro b1 w gw hs
  refine ⟨fun _ => trivial, ?_⟩
  refine wpS.only 1 (op_box (t := 23) (v := .agg (enc .i32 a1).toArray) (d := (some 3)) (by kernel_rfl) hs (enc .i32 a1) (by kernel_rfl) (by kernel_rfl) ?_)
  intro b2 w gw hs
  refine ⟨fun _ => trivial, ?_⟩
  refine wpS.only 2 (op_alloc (t := 23) (d := (some 4)) (by kernel_rfl) hs (enc .i32 (zeroA 256)) (.agg (enc .i32 (zeroA 256)).toArray) (by kernel_rfl) (by kernel_rfl) (by kernel_rfl) ?_)
  intro b3 w gw hs
  refine ⟨fun _ => trivial, ?_⟩
  refine wpS.fin rfl (kr _ _ ?_)
  refine then_n (ks1 _ _ ?_)
  refine wp_seq_k fun KS2 ks2 => ?_
  refine wp_regS (l := [0, 1, 2]) (by kernel_rfl) fun KR kr => ?_
  obtain ⟨r4, hg, h⟩ := of_bind h
  refine wpS.only 0 (op_call (d := (some 9)) (by kernel_rfl) hs (fun _ => by kernel_rfl) (ref25_powers.ok hg _) ?_)
  intro w gw hs
  refine ⟨fun _ => trivial, ?_⟩
  refine wpS.only 1 (op_alloc (t := 22) (d := (some 5)) (by kernel_rfl) hs (enc .i32 (zeroA 256)) (.agg (enc .i32 (zeroA 256)).toArray) (by kernel_rfl) (by kernel_rfl) (by kernel_rfl) ?_)
  intro b5 w gw hs
  refine ⟨fun _ => trivial, ?_⟩
  refine wpS.only 2 (op_storeW (t := 22) (v := .agg (enc .i32 r4).toArray) (d := none) (by kernel_rfl) hs 0 rfl (vs := enc .i32 r4) (n := 256) (by kernel_rfl) (by kernel_rfl) (by kernel_rfl) (by simp [enc_len]) (by simp [enc_len]) (by intro u hu; exact enc_one _ _ u hu) ?_)
  intro w kp hs
  refine ⟨fun _ => trivial, ?_⟩
  refine wpS.fin rfl (kr _ _ ?_)
  refine then_n (ks2 _ _ ?_)
  refine wp_seq_k fun KS3 ks3 => ?_
  refine wp_regS (l := [0]) (by kernel_rfl) fun KR kr => ?_
  refine wpS.only 0 (op_alloc (t := 23) (d := (some 6)) (by kernel_rfl) hs (enc .i32 (zeroA 256)) (.agg (enc .i32 (zeroA 256)).toArray) (by kernel_rfl) (by kernel_rfl) (by kernel_rfl) ?_)
  intro b6 w gw hs
  refine ⟨fun _ => trivial, ?_⟩
  refine wpS.fin rfl (kr _ _ ?_)
  refine then_n (ks3 _ _ ?_)
  refine wp_seq_k fun KS59 ks59 => ?_
  refine wp_seq_k fun KS60 ks60 => ?_
  refine wp_regS (l := [0]) (by kernel_rfl) fun KR kr => ?_
  refine wpS.take 0 false (some 7) (.int .i64 0) (by kernel_rfl) (yld fun _ => by kernel_rfl) ?_
  refine wpS.fin rfl (kr _ _ ?_)
  refine then_n (ks60 _ _ ?_)
  obtain ⟨y9, hy, hk0⟩ := of_bind h
  refine wp_exq (N := fun a w => St w0 [] [.blk b6 (enc .i32 y9) 23, .blk b5 (enc .i32 r4) 22, .blk b3 (enc .i32 (zeroA 256)) 23, .blk b2 (enc .i32 a1) 23, .blk b1 (enc .i32 a0) 23] [] w ∧ ∃ g : Nat → Value, a = ⟨#[.agg (enc .i32 a0).toArray, .agg (enc .i32 a1).toArray, .pointer (some ⟨b1, 0, none⟩), .pointer (some ⟨b2, 0, none⟩), .pointer (some ⟨b3, 0, none⟩), .pointer (some ⟨b5, 0, none⟩), .pointer (some ⟨b6, 0, none⟩), (g 7), (g 8), .agg (enc .i32 r4).toArray, (g 10), (g 11), (g 12), (g 13), (g 14), (g 15), (g 16), (g 17), (g 18), (g 19), (g 20), (g 21), (g 22), (g 23), (g 24), (g 25), (g 26), (g 27), (g 28), (g 29), (g 30), (g 31), (g 32), (g 33), (g 34), (g 35), (g 36), (g 37), (g 38), (g 39), (g 40), (g 41), (g 42), (g 43), (g 44), (g 45), (g 46), (g 47), (g 48), (g 49), (g 50), (g 51), (g 52), (g 53), (g 54), (g 55), (g 56), (g 57), (g 58), (g 59), (g 60), (g 61), (g 62), (g 63), (g 64), (g 65), (g 66), (g 67), (g 68), (g 69), (g 70), (g 71), (g 72), (g 73), undef], []⟩) (fun N0 nn0 => ?_) ?_
  · clear hk0
    refine wp_block ?_
    refine wp_loop_k (fun n a w => ∃ z7 z8, ref25_Mul.l0 K n a0 a1 r4 z7 z8 = some y9 ∧ St w0 [] [.blk b6 (enc .i32 z8) 23, .blk b5 (enc .i32 r4) 22, .blk b3 (enc .i32 (zeroA 256)) 23, .blk b2 (enc .i32 a1) 23, .blk b1 (enc .i32 a0) 23] [] w ∧ ∃ g : Nat → Value, a = ⟨#[.agg (enc .i32 a0).toArray, .agg (enc .i32 a1).toArray, .pointer (some ⟨b1, 0, none⟩), .pointer (some ⟨b2, 0, none⟩), .pointer (some ⟨b3, 0, none⟩), .pointer (some ⟨b5, 0, none⟩), .pointer (some ⟨b6, 0, none⟩), .int .i64 z7, (g 8), .agg (enc .i32 r4).toArray, (g 10), (g 11), (g 12), (g 13), (g 14), (g 15), (g 16), (g 17), (g 18), (g 19), (g 20), (g 21), (g 22), (g 23), (g 24), (g 25), (g 26), (g 27), (g 28), (g 29), (g 30), (g 31), (g 32), (g 33), (g 34), (g 35), (g 36), (g 37), (g 38), (g 39), (g 40), (g 41), (g 42), (g 43), (g 44), (g 45), (g 46), (g 47), (g 48), (g 49), (g 50), (g 51), (g 52), (g 53), (g 54), (g 55), (g 56), (g 57), (g 58), (g 59), (g 60), (g 61), (g 62), (g 63), (g 64), (g 65), (g 66), (g 67), (g 68), (g 69), (g 70), (g 71), (g 72), (g 73), undef], []⟩) K ⟨0, (zeroA 256), hy, hs.conv rfl, exg (by kernel_rfl)⟩ ?_
    clear hs h hy
    rintro n a w ⟨z7, z8, h, hs, g, rfl⟩ KL0 kl0
    cases n with
    | zero => exact nomatch (show none = some _ from h)
    | succ n =>
      refine wp_seq_k fun KS89 ks89 => ?_
      refine wp_seq_k fun KS90 ks90 => ?_
      refine wp_regS (l := [0, 1]) (by kernel_rfl) fun KR kr => ?_
      refine wpS.take 0 false (some 10) (.int .i64 z7) (by kernel_rfl) (yld fun _ => by kernel_rfl) ?_
      rcases of_if h with ⟨hc, h⟩ | ⟨hc, h⟩
      · refine wpS.take 1 false (some 11) (.bool true) (by kernel_rfl) (yld_b (dt hc) (fun _ => by kernel_rfl)) ?_
        refine wpS.fin rfl (kr _ _ ?_)
        refine then_n (ks90 _ _ ?_)
        refine wp_cond_t (by kernel_rfl) ?_
        refine wp_skip ?_
        refine then_n (ks89 _ _ ?_)
        refine wp_seq_k fun KS91 ks91 => ?_
        refine wp_block ?_
        refine wp_seq_k fun KS92 ks92 => ?_
        refine wp_regS (l := [0, 1, 2, 3, 4, 5, 6]) (by kernel_rfl) fun KR kr => ?_
        refine wpS.take 0 false (some 14) (.int .i64 z7) (by kernel_rfl) (yld fun _ => by kernel_rfl) ?_
        obtain ⟨r10, hg, h⟩ := of_bind h
        refine wpS.only 1 (op_call (d := (some 15)) (by kernel_rfl) hs (fun _ => by kernel_rfl) (ref25_turned.ok hg _) ?_)
        intro w gw hs
        refine ⟨fun _ => trivial, ?_⟩
        refine wpS.take 2 false (some 16) (.int .i64 (imul .i64 2 r10)) (by kernel_rfl) (yld fun _ => by kernel_rfl) ?_
        refine wpS.take 3 false (some 17) (.int .i64 (iadd .i64 (imul .i64 2 r10) 1)) (by kernel_rfl) (yld fun _ => by kernel_rfl) ?_
        obtain ⟨x11, hx, h⟩ := of_bind h
        have hx := of_some hx
        subst hx
        obtain ⟨i0_93, h⟩ := of_chk h
        obtain ⟨i1_93, h⟩ := of_chk h
        refine wpS.take 4 false (some 18) (.pointer (some ⟨b5, 0 + ((iadd .i64 (imul .i64 2 r10) 1) : Int).toNat * 1, none⟩)) (by kernel_rfl) (yld_idx (t := 22) (e := 21) (n := 256) (sz := 1) (k := .i64) (x := (iadd .i64 (imul .i64 2 r10) 1)) (by kernel_rfl) (by kernel_rfl) (by kernel_rfl) i0_93 i1_93) ?_
        refine wpS.take 5 true (some 19) (.int .i32 (rd r4 (iadd .i64 (imul .i64 2 r10) 1))) (by kernel_rfl) (yld_loadA (e := 21) (x := (iadd .i64 (imul .i64 2 r10) 1)) hs 1 rfl (by kernel_rfl) (by kernel_rfl) i0_93 i1_93 .grow) ?_
        obtain ⟨x12, hx, h⟩ := of_bind h
        refine wpS.take 6 false (some 8) (.int .i32 x12) (by kernel_rfl) (yld_int hx (fun _ => by kernel_rfl)) ?_
        refine wpS.fin rfl (kr _ _ ?_)
        refine then_n (ks92 _ _ ?_)
        refine wp_seq_k fun KS94 ks94 => ?_
        refine wp_regG [28] (fun k => k = b6) 29 (by kernel_rfl) (by kernel_rfl) fun KR kr => ?_
        have hs := hs.drawn1
        refine wpG.takeD 0 false (some 20) (.int .i64 z7) (by kernel_rfl) (by kernel_rfl) (yld fun _ => by kernel_rfl) ?_
        refine wpG.takeD 1 false (some 21) (.int .i64 (imul .i64 2 z7)) (by kernel_rfl) (by kernel_rfl) (yld fun _ => by kernel_rfl) ?_
        refine wpG.takeD 2 false (some 22) (.int .i64 z7) (by kernel_rfl) (by kernel_rfl) (yld fun _ => by kernel_rfl) ?_
        refine wpG.takeD 3 false (some 23) (.int .i64 (imul .i64 2 z7)) (by kernel_rfl) (by kernel_rfl) (yld fun _ => by kernel_rfl) ?_
        obtain ⟨x13, hx, h⟩ := of_bind h
        have hx := of_some hx
        subst hx
        obtain ⟨i0_100, h⟩ := of_chk h
        obtain ⟨i1_100, h⟩ := of_chk h
        refine wpG.takeD 4 false (some 24) (.pointer (some ⟨b1, 0 + ((imul .i64 2 z7) : Int).toNat * 1, none⟩)) (by kernel_rfl) (by kernel_rfl) (yld_idx (t := 23) (e := 21) (n := 256) (sz := 1) (k := .i64) (x := (imul .i64 2 z7)) (by kernel_rfl) (by kernel_rfl) (by kernel_rfl) i0_100 i1_100) ?_
        refine wpG.takeD 5 true (some 25) (.int .i32 (rd a0 (imul .i64 2 z7))) (by kernel_rfl) (by kernel_rfl) (yld_loadA (e := 21) (x := (imul .i64 2 z7)) hs 4 rfl (by kernel_rfl) (by kernel_rfl) i0_100 i1_100 .grow) ?_
        refine wpG.takeD 6 false (some 26) (.int .i64 z7) (by kernel_rfl) (by kernel_rfl) (yld fun _ => by kernel_rfl) ?_
        refine wpG.takeD 7 false (some 27) (.int .i64 (imul .i64 2 z7)) (by kernel_rfl) (by kernel_rfl) (yld fun _ => by kernel_rfl) ?_
        obtain ⟨x14, hx, h⟩ := of_bind h
        have hx := of_some hx
        subst hx
        obtain ⟨i0_101, h⟩ := of_chk h
        obtain ⟨i1_101, h⟩ := of_chk h
        refine wpG.takeD 8 false (some 28) (.pointer (some ⟨b2, 0 + ((imul .i64 2 z7) : Int).toNat * 1, none⟩)) (by kernel_rfl) (by kernel_rfl) (yld_idx (t := 23) (e := 21) (n := 256) (sz := 1) (k := .i64) (x := (imul .i64 2 z7)) (by kernel_rfl) (by kernel_rfl) (by kernel_rfl) i0_101 i1_101) ?_
        refine wpG.takeD 9 true (some 29) (.int .i32 (rd a1 (imul .i64 2 z7))) (by kernel_rfl) (by kernel_rfl) (yld_loadA (e := 21) (x := (imul .i64 2 z7)) hs 3 rfl (by kernel_rfl) (by kernel_rfl) i0_101 i1_101 .grow) ?_
        refine wpG.takeD 10 false (some 30) (.int .i32 (imul .i32 (rd a0 (imul .i64 2 z7)) (rd a1 (imul .i64 2 z7)))) (by kernel_rfl) (by kernel_rfl) (yld fun _ => by kernel_rfl) ?_
        refine wpG.takeD 11 false (some 31) (.int .i64 z7) (by kernel_rfl) (by kernel_rfl) (yld fun _ => by kernel_rfl) ?_
        refine wpG.takeD 12 false (some 32) (.int .i64 (imul .i64 2 z7)) (by kernel_rfl) (by kernel_rfl) (yld fun _ => by kernel_rfl) ?_
        refine wpG.takeD 13 false (some 33) (.int .i64 (iadd .i64 (imul .i64 2 z7) 1)) (by kernel_rfl) (by kernel_rfl) (yld fun _ => by kernel_rfl) ?_
        obtain ⟨x15, hx, h⟩ := of_bind h
        have hx := of_some hx
        subst hx
        obtain ⟨i0_102, h⟩ := of_chk h
        obtain ⟨i1_102, h⟩ := of_chk h
        refine wpG.takeD 14 false (some 34) (.pointer (some ⟨b1, 0 + ((iadd .i64 (imul .i64 2 z7) 1) : Int).toNat * 1, none⟩)) (by kernel_rfl) (by kernel_rfl) (yld_idx (t := 23) (e := 21) (n := 256) (sz := 1) (k := .i64) (x := (iadd .i64 (imul .i64 2 z7) 1)) (by kernel_rfl) (by kernel_rfl) (by kernel_rfl) i0_102 i1_102) ?_
        refine wpG.takeD 15 true (some 35) (.int .i32 (rd a0 (iadd .i64 (imul .i64 2 z7) 1))) (by kernel_rfl) (by kernel_rfl) (yld_loadA (e := 21) (x := (iadd .i64 (imul .i64 2 z7) 1)) hs 4 rfl (by kernel_rfl) (by kernel_rfl) i0_102 i1_102 .grow) ?_
        refine wpG.takeD 16 false (some 36) (.int .i64 z7) (by kernel_rfl) (by kernel_rfl) (yld fun _ => by kernel_rfl) ?_
        refine wpG.takeD 17 false (some 37) (.int .i64 (imul .i64 2 z7)) (by kernel_rfl) (by kernel_rfl) (yld fun _ => by kernel_rfl) ?_
        refine wpG.takeD 18 false (some 38) (.int .i64 (iadd .i64 (imul .i64 2 z7) 1)) (by kernel_rfl) (by kernel_rfl) (yld fun _ => by kernel_rfl) ?_
        obtain ⟨x16, hx, h⟩ := of_bind h
        have hx := of_some hx
        subst hx
        obtain ⟨i0_103, h⟩ := of_chk h
        obtain ⟨i1_103, h⟩ := of_chk h
        refine wpG.takeD 19 false (some 39) (.pointer (some ⟨b2, 0 + ((iadd .i64 (imul .i64 2 z7) 1) : Int).toNat * 1, none⟩)) (by kernel_rfl) (by kernel_rfl) (yld_idx (t := 23) (e := 21) (n := 256) (sz := 1) (k := .i64) (x := (iadd .i64 (imul .i64 2 z7) 1)) (by kernel_rfl) (by kernel_rfl) (by kernel_rfl) i0_103 i1_103) ?_
        refine wpG.takeD 20 true (some 40) (.int .i32 (rd a1 (iadd .i64 (imul .i64 2 z7) 1))) (by kernel_rfl) (by kernel_rfl) (yld_loadA (e := 21) (x := (iadd .i64 (imul .i64 2 z7) 1)) hs 3 rfl (by kernel_rfl) (by kernel_rfl) i0_103 i1_103 .grow) ?_
        refine wpG.takeD 21 false (some 41) (.int .i32 (imul .i32 (rd a0 (iadd .i64 (imul .i64 2 z7) 1)) (rd a1 (iadd .i64 (imul .i64 2 z7) 1)))) (by kernel_rfl) (by kernel_rfl) (yld fun _ => by kernel_rfl) ?_
        refine wpG.takeD 22 false (some 42) (.int .i32 (irem .i32 (imul .i32 (rd a0 (iadd .i64 (imul .i64 2 z7) 1)) (rd a1 (iadd .i64 (imul .i64 2 z7) 1))) 3329)) (by kernel_rfl) (by kernel_rfl) (yld fun _ => by kernel_rfl) ?_
        refine wpG.takeD 23 false (some 43) (.int .i32 x12) (by kernel_rfl) (by kernel_rfl) (yld fun _ => by kernel_rfl) ?_
        refine wpG.takeD 24 false (some 44) (.int .i32 (imul .i32 (irem .i32 (imul .i32 (rd a0 (iadd .i64 (imul .i64 2 z7) 1)) (rd a1 (iadd .i64 (imul .i64 2 z7) 1))) 3329) x12)) (by kernel_rfl) (by kernel_rfl) (yld fun _ => by kernel_rfl) ?_
        refine wpG.takeD 25 false (some 45) (.int .i32 (iadd .i32 (imul .i32 (rd a0 (imul .i64 2 z7)) (rd a1 (imul .i64 2 z7))) (imul .i32 (irem .i32 (imul .i32 (rd a0 (iadd .i64 (imul .i64 2 z7) 1)) (rd a1 (iadd .i64 (imul .i64 2 z7) 1))) 3329) x12))) (by kernel_rfl) (by kernel_rfl) (yld fun _ => by kernel_rfl) ?_
        refine wpG.takeD 26 false (some 46) (.int .i32 (irem .i32 (iadd .i32 (imul .i32 (rd a0 (imul .i64 2 z7)) (rd a1 (imul .i64 2 z7))) (imul .i32 (irem .i32 (imul .i32 (rd a0 (iadd .i64 (imul .i64 2 z7) 1)) (rd a1 (iadd .i64 (imul .i64 2 z7) 1))) 3329) x12)) 3329)) (by kernel_rfl) (by kernel_rfl) (yld fun _ => by kernel_rfl) ?_
        obtain ⟨x17, hx, h⟩ := of_bind h
        have hx := of_some hx
        subst hx
        obtain ⟨i0_104, h⟩ := of_chk h
        obtain ⟨i1_104, h⟩ := of_chk h
        refine wpG.takeD 27 false (some 47) (.pointer (some ⟨b6, 0 + ((imul .i64 2 z7) : Int).toNat * 1, none⟩)) (by kernel_rfl) (by kernel_rfl) (yld_idx (t := 23) (e := 21) (n := 256) (sz := 1) (k := .i64) (x := (imul .i64 2 z7)) (by kernel_rfl) (by kernel_rfl) (by kernel_rfl) i0_104 i1_104) ?_
        obtain ⟨x18, hx, h⟩ := of_bind h
        refine wpG.only 28 (by kernel_rfl) (op_storeA (t := 21) (x := (imul .i64 2 z7)) (v := x18) (d := none) (by kernel_rfl) hs 0 rfl (by cases hx; kernel_rfl) (by kernel_rfl) i0_104 i1_104 ?_)
        intro w kp hs
        refine ⟨⟨fun hf => absurd hf (by decide), kp.mono fun _ h => h⟩, ?_⟩
        refine wpG.fin (by kernel_rfl) rfl (kr _ _ ?_)
        refine then_n (ks94 _ _ ?_)
        refine wp_regG [26] (fun k => k = b6) 27 (by kernel_rfl) (by kernel_rfl) fun KR kr => ?_
        have hs := hs.drawn1
        refine wpG.takeD 0 false (some 48) (.int .i64 z7) (by kernel_rfl) (by kernel_rfl) (yld fun _ => by kernel_rfl) ?_
        refine wpG.takeD 1 false (some 49) (.int .i64 (imul .i64 2 z7)) (by kernel_rfl) (by kernel_rfl) (yld fun _ => by kernel_rfl) ?_
        refine wpG.takeD 2 false (some 50) (.int .i64 (iadd .i64 (imul .i64 2 z7) 1)) (by kernel_rfl) (by kernel_rfl) (yld fun _ => by kernel_rfl) ?_
        refine wpG.takeD 3 false (some 51) (.int .i64 z7) (by kernel_rfl) (by kernel_rfl) (yld fun _ => by kernel_rfl) ?_
        refine wpG.takeD 4 false (some 52) (.int .i64 (imul .i64 2 z7)) (by kernel_rfl) (by kernel_rfl) (yld fun _ => by kernel_rfl) ?_
        obtain ⟨x19, hx, h⟩ := of_bind h
        have hx := of_some hx
        subst hx
        obtain ⟨i0_110, h⟩ := of_chk h
        obtain ⟨i1_110, h⟩ := of_chk h
        refine wpG.takeD 5 false (some 53) (.pointer (some ⟨b1, 0 + ((imul .i64 2 z7) : Int).toNat * 1, none⟩)) (by kernel_rfl) (by kernel_rfl) (yld_idx (t := 23) (e := 21) (n := 256) (sz := 1) (k := .i64) (x := (imul .i64 2 z7)) (by kernel_rfl) (by kernel_rfl) (by kernel_rfl) i0_110 i1_110) ?_
        refine wpG.takeD 6 true (some 54) (.int .i32 (rd a0 (imul .i64 2 z7))) (by kernel_rfl) (by kernel_rfl) (yld_loadA (e := 21) (x := (imul .i64 2 z7)) hs 4 rfl (by kernel_rfl) (by kernel_rfl) i0_110 i1_110 .grow) ?_
        refine wpG.takeD 7 false (some 55) (.int .i64 z7) (by kernel_rfl) (by kernel_rfl) (yld fun _ => by kernel_rfl) ?_
        refine wpG.takeD 8 false (some 56) (.int .i64 (imul .i64 2 z7)) (by kernel_rfl) (by kernel_rfl) (yld fun _ => by kernel_rfl) ?_
        refine wpG.takeD 9 false (some 57) (.int .i64 (iadd .i64 (imul .i64 2 z7) 1)) (by kernel_rfl) (by kernel_rfl) (yld fun _ => by kernel_rfl) ?_
        obtain ⟨x20, hx, h⟩ := of_bind h
        have hx := of_some hx
        subst hx
        obtain ⟨i0_111, h⟩ := of_chk h
        obtain ⟨i1_111, h⟩ := of_chk h
        refine wpG.takeD 10 false (some 58) (.pointer (some ⟨b2, 0 + ((iadd .i64 (imul .i64 2 z7) 1) : Int).toNat * 1, none⟩)) (by kernel_rfl) (by kernel_rfl) (yld_idx (t := 23) (e := 21) (n := 256) (sz := 1) (k := .i64) (x := (iadd .i64 (imul .i64 2 z7) 1)) (by kernel_rfl) (by kernel_rfl) (by kernel_rfl) i0_111 i1_111) ?_
        refine wpG.takeD 11 true (some 59) (.int .i32 (rd a1 (iadd .i64 (imul .i64 2 z7) 1))) (by kernel_rfl) (by kernel_rfl) (yld_loadA (e := 21) (x := (iadd .i64 (imul .i64 2 z7) 1)) hs 3 rfl (by kernel_rfl) (by kernel_rfl) i0_111 i1_111 .grow) ?_
        refine wpG.takeD 12 false (some 60) (.int .i32 (imul .i32 (rd a0 (imul .i64 2 z7)) (rd a1 (iadd .i64 (imul .i64 2 z7) 1)))) (by kernel_rfl) (by kernel_rfl) (yld fun _ => by kernel_rfl) ?_
        refine wpG.takeD 13 false (some 61) (.int .i64 z7) (by kernel_rfl) (by kernel_rfl) (yld fun _ => by kernel_rfl) ?_
        refine wpG.takeD 14 false (some 62) (.int .i64 (imul .i64 2 z7)) (by kernel_rfl) (by kernel_rfl) (yld fun _ => by kernel_rfl) ?_
        refine wpG.takeD 15 false (some 63) (.int .i64 (iadd .i64 (imul .i64 2 z7) 1)) (by kernel_rfl) (by kernel_rfl) (yld fun _ => by kernel_rfl) ?_
        obtain ⟨x21, hx, h⟩ := of_bind h
        have hx := of_some hx
        subst hx
        obtain ⟨i0_112, h⟩ := of_chk h
        obtain ⟨i1_112, h⟩ := of_chk h
        refine wpG.takeD 16 false (some 64) (.pointer (some ⟨b1, 0 + ((iadd .i64 (imul .i64 2 z7) 1) : Int).toNat * 1, none⟩)) (by kernel_rfl) (by kernel_rfl) (yld_idx (t := 23) (e := 21) (n := 256) (sz := 1) (k := .i64) (x := (iadd .i64 (imul .i64 2 z7) 1)) (by kernel_rfl) (by kernel_rfl) (by kernel_rfl) i0_112 i1_112) ?_
        refine wpG.takeD 17 true (some 65) (.int .i32 (rd a0 (iadd .i64 (imul .i64 2 z7) 1))) (by kernel_rfl) (by kernel_rfl) (yld_loadA (e := 21) (x := (iadd .i64 (imul .i64 2 z7) 1)) hs 4 rfl (by kernel_rfl) (by kernel_rfl) i0_112 i1_112 .grow) ?_
        refine wpG.takeD 18 false (some 66) (.int .i64 z7) (by kernel_rfl) (by kernel_rfl) (yld fun _ => by kernel_rfl) ?_
        refine wpG.takeD 19 false (some 67) (.int .i64 (imul .i64 2 z7)) (by kernel_rfl) (by kernel_rfl) (yld fun _ => by kernel_rfl) ?_
        obtain ⟨x22, hx, h⟩ := of_bind h
        have hx := of_some hx
        subst hx
        obtain ⟨i0_113, h⟩ := of_chk h
        obtain ⟨i1_113, h⟩ := of_chk h
        refine wpG.takeD 20 false (some 68) (.pointer (some ⟨b2, 0 + ((imul .i64 2 z7) : Int).toNat * 1, none⟩)) (by kernel_rfl) (by kernel_rfl) (yld_idx (t := 23) (e := 21) (n := 256) (sz := 1) (k := .i64) (x := (imul .i64 2 z7)) (by kernel_rfl) (by kernel_rfl) (by kernel_rfl) i0_113 i1_113) ?_
        refine wpG.takeD 21 true (some 69) (.int .i32 (rd a1 (imul .i64 2 z7))) (by kernel_rfl) (by kernel_rfl) (yld_loadA (e := 21) (x := (imul .i64 2 z7)) hs 3 rfl (by kernel_rfl) (by kernel_rfl) i0_113 i1_113 .grow) ?_
        refine wpG.takeD 22 false (some 70) (.int .i32 (imul .i32 (rd a0 (iadd .i64 (imul .i64 2 z7) 1)) (rd a1 (imul .i64 2 z7)))) (by kernel_rfl) (by kernel_rfl) (yld fun _ => by kernel_rfl) ?_
        refine wpG.takeD 23 false (some 71) (.int .i32 (iadd .i32 (imul .i32 (rd a0 (imul .i64 2 z7)) (rd a1 (iadd .i64 (imul .i64 2 z7) 1))) (imul .i32 (rd a0 (iadd .i64 (imul .i64 2 z7) 1)) (rd a1 (imul .i64 2 z7))))) (by kernel_rfl) (by kernel_rfl) (yld fun _ => by kernel_rfl) ?_
        refine wpG.takeD 24 false (some 72) (.int .i32 (irem .i32 (iadd .i32 (imul .i32 (rd a0 (imul .i64 2 z7)) (rd a1 (iadd .i64 (imul .i64 2 z7) 1))) (imul .i32 (rd a0 (iadd .i64 (imul .i64 2 z7) 1)) (rd a1 (imul .i64 2 z7)))) 3329)) (by kernel_rfl) (by kernel_rfl) (yld fun _ => by kernel_rfl) ?_
        obtain ⟨x23, hx, h⟩ := of_bind h
        have hx := of_some hx
        subst hx
        obtain ⟨i0_114, h⟩ := of_chk h
        obtain ⟨i1_114, h⟩ := of_chk h
        refine wpG.takeD 25 false (some 73) (.pointer (some ⟨b6, 0 + ((iadd .i64 (imul .i64 2 z7) 1) : Int).toNat * 1, none⟩)) (by kernel_rfl) (by kernel_rfl) (yld_idx (t := 23) (e := 21) (n := 256) (sz := 1) (k := .i64) (x := (iadd .i64 (imul .i64 2 z7) 1)) (by kernel_rfl) (by kernel_rfl) (by kernel_rfl) i0_114 i1_114) ?_
        obtain ⟨x24, hx, h⟩ := of_bind h
        refine wpG.only 26 (by kernel_rfl) (op_storeA (t := 21) (x := (iadd .i64 (imul .i64 2 z7) 1)) (v := x24) (d := none) (by kernel_rfl) hs 0 rfl (by cases hx; kernel_rfl) (by kernel_rfl) i0_114 i1_114 ?_)
        intro w kp hs
        refine ⟨⟨fun hf => absurd hf (by decide), kp.mono fun _ h => h⟩, ?_⟩
        refine wpG.fin (by kernel_rfl) rfl (kr _ _ ?_)
        refine inBlock_n ?_
        refine then_n (ks91 _ _ ?_)
        refine wp_regS (l := [0, 1, 2]) (by kernel_rfl) fun KR kr => ?_
        refine wpS.take 0 false (some 12) (.int .i64 z7) (by kernel_rfl) (yld fun _ => by kernel_rfl) ?_
        refine wpS.take 1 false (some 13) (.int .i64 (iadd .i64 z7 1)) (by kernel_rfl) (yld fun _ => by kernel_rfl) ?_
        obtain ⟨x25, hx, h⟩ := of_bind h
        refine wpS.take 2 false (some 7) (.int .i64 x25) (by kernel_rfl) (yld_int hx (fun _ => by kernel_rfl)) ?_
        refine wpS.fin rfl (kr _ _ ?_)
        exact then_n (kl0 _ _ ⟨n, Nat.lt_succ_self n, x25, (wr (wr z8 (imul .i64 2 z7) x18) (iadd .i64 (imul .i64 2 z7) 1) x24), h, (hs.conv rfl), exg (by kernel_rfl)⟩)
      · refine wpS.take 1 false (some 11) (.bool false) (by kernel_rfl) (yld_b (df hc) (fun _ => by kernel_rfl)) ?_
        refine wpS.fin rfl (kr _ _ ?_)
        refine then_n (ks90 _ _ ?_)
        refine wp_cond_f (by kernel_rfl) ?_
        refine wp_exit ?_
        refine then_x ?_
        refine then_x ?_
        refine inBlock_hit ?_
        have q0 := of_some h
        subst q0
        exact exq_n (nn0 _ _ ⟨(hs.conv rfl), exg (by kernel_rfl)⟩)
  · clear hs h hy
    rintro a w ⟨hs, g, rfl⟩
    have h := hk0
    refine then_n (ks59 _ _ ?_)
    refine wp_seq_k fun KS115 ks115 => ?_
    refine wp_regS (l := [0, 1]) (by kernel_rfl) fun KR kr => ?_
    refine wpS.take 0 true (some 74) (.agg (enc .i32 y9).toArray) (by kernel_rfl) (yld_loadW (e := 23) (n := 256) hs 0 rfl (by kernel_rfl) (by kernel_rfl) (by kernel_rfl) (by exact enc_len _ _) .grow) ?_
    refine wpS.only 1 (op_storeW (t := 23) (v := .agg (enc .i32 y9).toArray) (d := none) (by kernel_rfl) hs 2 rfl (vs := enc .i32 y9) (n := 256) (by kernel_rfl) (by kernel_rfl) (by kernel_rfl) (by simp [enc_len]) (by simp [enc_len]) (by intro u hu; exact enc_one _ _ u hu) ?_)
    intro w kp hs
    refine ⟨fun _ => trivial, ?_⟩
    refine wpS.fin rfl (kr _ _ ?_)
    refine then_n (ks115 _ _ ?_)
    refine wp_ret ?_
    have q0 := of_some h
    subst q0
    exact qq _ _ (post_ret (by kernel_rfl) (run_results [.cell 4 23] [.agg (enc .i32 y9).toArray] (by kernel_rfl) (.cons (res_cellN (n := 256) hs 2 rfl (by kernel_rfl) (by kernel_rfl) (by kernel_rfl) (by exact enc_len _ _)) .nil)) ⟨congrArg Ending.returned (by kernel_rfl), hs.none⟩)
end Go.Proofs.Ytijahfdldlmnhaa
