/- Printed by this work's own program: the code of each function below comes to the answer that its plain form tells. -/
import Derived.Test.YtemdbgmldljbpaaDoorMf
import Derived.Test.YtemdbgmldljbpaaDoorProg
import Derived.Test.YtemdbgmldljbpaaDoorZF0
import Derived.Test.YtemdbgmldljbpaaDoorZX1
import Derived.Test.YtemdbgmldljbpaaDoorZX2
import Derived.Test.YtemdbgmldljbpaaDoorZX3
import Derived.Test.YtemdbgmldljbpaaDoorZX4
import Derived.Test.YtemdbgmldljbpaaDoorZX5
import Derived.Test.YtemdbgmldljbpaaDoorZX6
set_option linter.unusedVariables false
set_option linter.unusedSimpArgs false
set_option maxRecDepth 100000
set_option maxHeartbeats 4000000
namespace Go.Proofs.YtemdbgmldljbpaaDoor
open Go.Mx
attribute [local irreducible] wpOp

theorem kq_Widen.ok {K : Nat} {a0 : Arr 256} {a1 : Int} {r0 : Arr 256} (h : kq_Widen.f K a0 a1 = some r0) (w0 : World) : Ret Tryd.prog 64 #[.agg (enc .i32 a0).toArray, .int .i64 a1] w0 (.agg (enc .i32 r0).toArray) := by
 refine calls_k Tryd.func64 rfl fun Q qq => ?_
 have hs := St.start w0
 refine wp_conv (a' := ⟨#[.agg (enc .i32 a0).toArray, .int .i64 a1, undef, undef, undef, undef, undef, undef, undef, undef, undef, undef, undef, undef, undef, undef, undef, undef, undef, undef, undef, undef, undef, undef, undef, undef, undef, undef, undef, undef, undef, undef, undef, undef, undef, undef, undef, undef], []⟩) (by kernel_rfl) ?_
 refine xseq_k fun KS1 ks1 => ?_
 refine xregS [0, 1] fun KR2 kr2 => ?_
 refine wpS.only 0 (op_box (t := 32) (v := .agg (enc .i32 a0).toArray) (d := (some 2)) (by kernel_rfl) hs (enc .i32 a0) (by kernel_rfl) (by kernel_rfl) ?_)
 intro b1 w gw hs
 refine ⟨fun _ => trivial, ?_⟩
 refine wpS.only 1 (op_alloc (t := 32) (d := (some 4)) (by kernel_rfl) hs (enc .i32 (zeroA 256)) (.agg (enc .i32 (zeroA 256)).toArray) (by kernel_rfl) (by kernel_rfl) (by kernel_rfl) ?_)
 intro b2 w gw hs
 refine ⟨fun _ => trivial, ?_⟩
 refine wpS.fin rfl (kr2 _ _ (then_n (ks1 _ _ (xseq_k fun KS3 ks3 => (xseq_k fun KS4 ks4 => ?_)))))
 refine wp_regG [] (fun k => True) 13 (by kernel_rfl) (by kernel_rfl) (by kernel_rfl) fun KR5 kr5 => ?_
 have hs := hs.drawn1
 refine wpG.q 0 7 (.int .i64 a1) ?_
 rcases of_if h with ⟨hc, h⟩ | ⟨hc, h⟩
 ·refine wpG.tD 1 false (some 8) (.bool true) (yld_b (dt hc) (fun _ => by kernel_rfl)) ?_
  refine wpG.q 2 9 (.bool true) ?_
  refine wpG.q 3 10 (undef) ?_
  refine wpG.q 4 11 (undef) ?_
  refine wpG.q 5 12 (.bool true) ?_
  refine wpG.q 6 13 (.bool true) ?_
  refine wpG.q 7 14 (undef) ?_
  refine wpG.q 8 15 (undef) ?_
  refine wpG.q 9 16 (undef) ?_
  refine wpG.q 10 17 (undef) ?_
  refine wpG.q 11 18 (undef) ?_
  refine wpG.q 12 19 (.bool true) ?_
  refine wpG.fin (by kernel_rfl) rfl (kr5 _ _ ?_)
  refine then_n (ks4 _ _ (wp_cond_t (by kernel_rfl) (xseq_k fun KS6 ks6 => (xregS [0, 1] fun KR7 kr7 => ?_))))
  refine wpS.q 0 20 (.agg (enc .i32 (zeroA 256)).toArray) ?_
  refine wpS.only 1 (op_storeW (t := 32) (v := .agg (enc .i32 (zeroA 256)).toArray) (d := none) (by kernel_rfl) hs 0 rfl (vs := enc .i32 (zeroA 256)) (n := 256) (by kernel_rfl) (by kernel_rfl) (by kernel_rfl) (by simp [enc_len]) (by simp [enc_len]) (by intro u hu; exact enc_one _ _ u hu) ?_)
  intro w kp hs
  refine ⟨fun _ => trivial, ?_⟩
  refine wpS.fin rfl (kr7 _ _ (then_n (ks6 _ _ (xret (then_r ?_)))))
  have q0 := of_some h
  subst q0
  exact qq _ _ (post_ret (by kernel_rfl) (run_results [.cell 4 32] [.agg (enc .i32 (zeroA 256)).toArray] (by kernel_rfl) (.cons (res_cellN (n := 256) hs 0 rfl (by kernel_rfl) (by kernel_rfl) (by kernel_rfl) (by exact enc_len _ _)) .nil)) ⟨congrArg Ending.returned (by kernel_rfl), hs.none⟩)
 refine wpG.tD 1 false (some 8) (.bool false) (yld_b (df hc) (fun _ => by kernel_rfl)) ?_
 refine wpG.q 2 9 (.bool false) ?_
 refine wpG.q 3 10 (.int .i64 a1) ?_
 rcases of_if h with ⟨hc, h⟩ | ⟨hc, h⟩
 ·refine wpG.tD 4 false (some 11) (.bool true) (yld_b (dt hc) (fun _ => by kernel_rfl)) ?_
  refine wpG.q 5 12 (.bool true) ?_
  refine wpG.q 6 13 (.bool true) ?_
  refine wpG.q 7 14 (undef) ?_
  refine wpG.q 8 15 (undef) ?_
  refine wpG.q 9 16 (undef) ?_
  refine wpG.q 10 17 (undef) ?_
  refine wpG.q 11 18 (undef) ?_
  refine wpG.q 12 19 (.bool true) ?_
  refine wpG.fin (by kernel_rfl) rfl (kr5 _ _ ?_)
  refine then_n (ks4 _ _ (wp_cond_t (by kernel_rfl) (xseq_k fun KS8 ks8 => (xregS [0, 1] fun KR9 kr9 => ?_))))
  refine wpS.q 0 20 (.agg (enc .i32 (zeroA 256)).toArray) ?_
  refine wpS.only 1 (op_storeW (t := 32) (v := .agg (enc .i32 (zeroA 256)).toArray) (d := none) (by kernel_rfl) hs 0 rfl (vs := enc .i32 (zeroA 256)) (n := 256) (by kernel_rfl) (by kernel_rfl) (by kernel_rfl) (by simp [enc_len]) (by simp [enc_len]) (by intro u hu; exact enc_one _ _ u hu) ?_)
  intro w kp hs
  refine ⟨fun _ => trivial, ?_⟩
  refine wpS.fin rfl (kr9 _ _ (then_n (ks8 _ _ (xret (then_r ?_)))))
  have q0 := of_some h
  subst q0
  exact qq _ _ (post_ret (by kernel_rfl) (run_results [.cell 4 32] [.agg (enc .i32 (zeroA 256)).toArray] (by kernel_rfl) (.cons (res_cellN (n := 256) hs 0 rfl (by kernel_rfl) (by kernel_rfl) (by kernel_rfl) (by exact enc_len _ _)) .nil)) ⟨congrArg Ending.returned (by kernel_rfl), hs.none⟩)
 refine wpG.tD 4 false (some 11) (.bool false) (yld_b (df hc) (fun _ => by kernel_rfl)) ?_
 refine wpG.q 5 12 (.bool false) ?_
 refine wpG.q 6 13 (.bool false) ?_
 refine wpG.tD 7 true (some 14) (.agg (enc .i32 a0).toArray) (yld_loadW (e := 32) (n := 256) hs 1 rfl (by kernel_rfl) (by kernel_rfl) (by kernel_rfl) (by exact enc_len _ _) .grow) ?_
 refine wpG.q 8 15 (.int .i64 a1) ?_
 obtain ⟨h0, h⟩ := of_chk h
 refine wpG.tD 9 false (some 16) (.int .i32 (ishl .i32 1 a1)) (yld_shl (t := 21) (k' := .i64) (by kernel_rfl) h0) ?_
 obtain ⟨r3, hg, h⟩ := of_bind h
 cases r3 with
 | true =>
  have h := of_if_t h
  refine wpG.only 10 (by kernel_rfl) (op_call (d := (some 17)) (by kernel_rfl) hs (fun _ => by kernel_rfl) (kq_below.ok hg _) ?_)
  intro w gw hs
  refine ⟨.of gw, ?_⟩
  refine wpG.q 11 18 (.bool false) ?_
  refine wpG.q 12 19 (.bool false) ?_
  refine wpG.fin (by kernel_rfl) rfl (kr5 _ _ ?_)
  refine then_n (ks4 _ _ (wp_cond_f (by kernel_rfl) (xskip (then_n (ks3 _ _ (xseq_k fun KS10 ks10 => (xseq_k fun KS11 ks11 => (xregS [0, 1] fun KR12 kr12 => ?_))))))))
  refine wpS.tk 0 true (some 21) (.agg (enc .i32 a0).toArray) (yld_loadW (e := 32) (n := 256) hs 1 rfl (by kernel_rfl) (by kernel_rfl) (by kernel_rfl) (by exact enc_len _ _) .grow) ?_
  refine wpS.q 1 22 (.int .i64 0) ?_
  refine wpS.fin rfl (kr12 _ _ (then_n (ks11 _ _ ?_)))
  obtain ⟨y6, hy, hk0⟩ := of_bind h
  refine wp_exq (N := fun a w => St w0 [] [.blk b2 (enc .i32 (zeroA 256)) 32, .blk b1 (enc .i32 y6) 32] [] w ∧ ∃ g14 : Nat → Value, a = ⟨#[.agg (enc .i32 a0).toArray, .int .i64 a1, .pointer (some ⟨b1, 0, none⟩), undef, .pointer (some ⟨b2, 0, none⟩), (g14 5), (g14 6), .int .i64 a1, .bool false, .bool false, .int .i64 a1, .bool false, .bool false, .bool false, .agg (enc .i32 a0).toArray, .int .i64 a1, .int .i32 (ishl .i32 1 a1), .bool true, .bool false, .bool false, undef, .agg (enc .i32 a0).toArray, (g14 22), (g14 23), (g14 24), (g14 25), (g14 26), (g14 27), (g14 28), (g14 29), (g14 30), (g14 31), (g14 32), (g14 33), (g14 34), (g14 35), (g14 36), undef], []⟩) (fun N0 nn0 => ?_) ?_
  ·clear hk0
   refine xblock ?_
   refine wp_loop_k (fun n a w => ∃ z4 z5, kq_Widen.l0 K n a0 a1 z4 z5 = some y6 ∧ St w0 [] [.blk b2 (enc .i32 (zeroA 256)) 32, .blk b1 (enc .i32 z5) 32] [] w ∧ ∃ g13 : Nat → Value, a = ⟨#[.agg (enc .i32 a0).toArray, .int .i64 a1, .pointer (some ⟨b1, 0, none⟩), undef, .pointer (some ⟨b2, 0, none⟩), (g13 5), (g13 6), .int .i64 a1, .bool false, .bool false, .int .i64 a1, .bool false, .bool false, .bool false, .agg (enc .i32 a0).toArray, .int .i64 a1, .int .i32 (ishl .i32 1 a1), .bool true, .bool false, .bool false, undef, .agg (enc .i32 a0).toArray, .int .i64 z4, (g13 23), (g13 24), (g13 25), (g13 26), (g13 27), (g13 28), (g13 29), (g13 30), (g13 31), (g13 32), (g13 33), (g13 34), (g13 35), (g13 36), undef], []⟩) K ⟨0, a0, hy, hs.conv rfl, exg (by kernel_rfl)⟩ ?_
   clear hs h hy
   rintro n a w ⟨z4, z5, h, hs, g13, rfl⟩ KL0 kl0
   cases n with
   | zero => exact nomatch (show none = some _ from h)
   | succ n =>
    refine xseq_k fun KS15 ks15 => ?_
    refine xregS [0] fun KR16 kr16 => ?_
    rcases of_if h with ⟨hc, h⟩ | ⟨hc, h⟩
    ·refine wpS.tk 0 false (some 23) (.bool true) (yld_b (dt hc) (fun _ => by kernel_rfl)) ?_
     refine wpS.fin rfl (kr16 _ _ (then_n (ks15 _ _ (xseq_k fun KS17 ks17 => (wp_cond_t (by kernel_rfl) (xskip (then_n (ks17 _ _ (xseq_k fun KS18 ks18 => (xblock (xseq_k fun KS19 ks19 => (xregS [0, 1, 2, 3] fun KR20 kr20 => ?_))))))))))))
     refine wpS.q 0 24 (.int .i64 z4) ?_
     obtain ⟨h0, h⟩ := of_chk h
     obtain ⟨h1, h⟩ := of_chk h
     refine wpS.tk 1 false (some 25) (.int .i32 (rd a0 z4)) (yld_at (t := 32) (e := 21) (k' := .i64) (by kernel_rfl) (by kernel_rfl) (by kernel_rfl) (by kernel_rfl) h0 h1) ?_
     refine wpS.q 2 5 (.int .i64 z4) ?_
     obtain ⟨x7, hx, h⟩ := of_bind h
     refine wpS.tk 3 false (some 6) (.int .i32 x7) (yld_int hx (fun _ => by kernel_rfl)) ?_
     refine wpS.fin rfl (kr20 _ _ (then_n (ks19 _ _ (xregS [0, 1, 2, 3, 4, 5, 6, 7, 8, 9, 10] fun KR21 kr21 => ?_))))
     refine wpS.qs [(0, 26, .int .i64 z4), (1, 27, .int .i32 x7), (2, 28, .int .i32 (imul .i32 x7 3329)), (3, 29, .int .i64 a1), (4, 30, .int .i64 (isub .i64 a1 1))] ?_
     obtain ⟨h0, h⟩ := of_chk h
     refine wpS.tk 5 false (some 31) (.int .i32 (ishl .i32 1 (isub .i64 a1 1))) (yld_shl (t := 21) (k' := .i64) (by kernel_rfl) h0) ?_
     refine wpS.qs [(6, 32, .int .i32 (iadd .i32 (imul .i32 x7 3329) (ishl .i32 1 (isub .i64 a1 1)))), (7, 33, .int .i64 a1)] ?_
     obtain ⟨h0, h⟩ := of_chk h
     refine wpS.tk 8 false (some 34) (.int .i32 (ishr .i32 (iadd .i32 (imul .i32 x7 3329) (ishl .i32 1 (isub .i64 a1 1))) a1)) (yld_shr (t := 21) (k' := .i64) (by kernel_rfl) h0) ?_
     obtain ⟨i0_22, h⟩ := of_chk h
     obtain ⟨i1_22, h⟩ := of_chk h
     refine wpS.tk 9 false (some 35) (.pointer (some ⟨b1, 0 + (z4 : Int).toNat * 1, none⟩)) (yld_idx (t := 32) (e := 21) (n := 256) (sz := 1) (k := .i64) (x := z4) (by kernel_rfl) (by kernel_rfl) (by kernel_rfl) i0_22 i1_22) ?_
     obtain ⟨x8, hx, h⟩ := of_bind h
     refine wpS.only 10 (op_storeA (t := 21) (x := z4) (v := x8) (d := none) (by kernel_rfl) hs 1 rfl (by cases hx; kernel_rfl) (by kernel_rfl) i0_22 i1_22 ?_)
     intro w kp hs
     refine ⟨fun _ => trivial, ?_⟩
     refine wpS.fin rfl (kr21 _ _ (inBlock_n (then_n (ks18 _ _ (xregS [0, 1] fun KR23 kr23 => ?_)))))
     refine wpS.qs [(0, 36, .int .i64 (iadd .i64 z4 1)), (1, 22, .int .i64 (iadd .i64 z4 1))] ?_
     refine wpS.fin rfl (kr23 _ _ ?_)
     exact then_n (kl0 _ _ ⟨n, Nat.lt_succ_self n, (iadd .i64 z4 1), (wr z5 z4 x8), h, (hs.conv rfl), exg (by kernel_rfl)⟩)
    refine wpS.tk 0 false (some 23) (.bool false) (yld_b (df hc) (fun _ => by kernel_rfl)) ?_
    refine wpS.fin rfl (kr16 _ _ (then_n (ks15 _ _ (xseq_k fun KS24 ks24 => (wp_cond_f (by kernel_rfl) (xexit (then_x (then_x (inBlock_hit ?_)))))))))
    have q0 := of_some h
    subst q0
    exact exq_n (nn0 _ _ ⟨(hs.conv rfl), exg (by kernel_rfl)⟩)
  clear hs h hy
  rintro a w ⟨hs, g14, rfl⟩
  have h := hk0
  refine then_n (ks10 _ _ (xseq_k fun KS25 ks25 => (xregS [0, 1] fun KR26 kr26 => ?_)))
  refine wpS.tk 0 true (some 37) (.agg (enc .i32 y6).toArray) (yld_loadW (e := 32) (n := 256) hs 1 rfl (by kernel_rfl) (by kernel_rfl) (by kernel_rfl) (by exact enc_len _ _) .grow) ?_
  refine wpS.only 1 (op_storeW (t := 32) (v := .agg (enc .i32 y6).toArray) (d := none) (by kernel_rfl) hs 0 rfl (vs := enc .i32 y6) (n := 256) (by kernel_rfl) (by kernel_rfl) (by kernel_rfl) (by simp [enc_len]) (by simp [enc_len]) (by intro u hu; exact enc_one _ _ u hu) ?_)
  intro w kp hs
  refine ⟨fun _ => trivial, ?_⟩
  refine wpS.fin rfl (kr26 _ _ (then_n (ks25 _ _ (xret ?_))))
  have q0 := of_some h
  subst q0
  exact qq _ _ (post_ret (by kernel_rfl) (run_results [.cell 4 32] [.agg (enc .i32 y6).toArray] (by kernel_rfl) (.cons (res_cellN (n := 256) hs 0 rfl (by kernel_rfl) (by kernel_rfl) (by kernel_rfl) (by exact enc_len _ _)) .nil)) ⟨congrArg Ending.returned (by kernel_rfl), hs.none⟩)
 | false =>
  have h := of_if_f h
  refine wpG.only 10 (by kernel_rfl) (op_call (d := (some 17)) (by kernel_rfl) hs (fun _ => by kernel_rfl) (kq_below.ok hg _) ?_)
  intro w gw hs
  refine ⟨.of gw, ?_⟩
  refine wpG.q 11 18 (.bool true) ?_
  refine wpG.q 12 19 (.bool true) ?_
  refine wpG.fin (by kernel_rfl) rfl (kr5 _ _ ?_)
  refine then_n (ks4 _ _ (wp_cond_t (by kernel_rfl) (xseq_k fun KS27 ks27 => (xregS [0, 1] fun KR28 kr28 => ?_))))
  refine wpS.q 0 20 (.agg (enc .i32 (zeroA 256)).toArray) ?_
  refine wpS.only 1 (op_storeW (t := 32) (v := .agg (enc .i32 (zeroA 256)).toArray) (d := none) (by kernel_rfl) hs 0 rfl (vs := enc .i32 (zeroA 256)) (n := 256) (by kernel_rfl) (by kernel_rfl) (by kernel_rfl) (by simp [enc_len]) (by simp [enc_len]) (by intro u hu; exact enc_one _ _ u hu) ?_)
  intro w kp hs
  refine ⟨fun _ => trivial, ?_⟩
  refine wpS.fin rfl (kr28 _ _ (then_n (ks27 _ _ (xret (then_r ?_)))))
  have q0 := of_some h
  subst q0
  exact qq _ _ (post_ret (by kernel_rfl) (run_results [.cell 4 32] [.agg (enc .i32 (zeroA 256)).toArray] (by kernel_rfl) (.cons (res_cellN (n := 256) hs 0 rfl (by kernel_rfl) (by kernel_rfl) (by kernel_rfl) (by exact enc_len _ _)) .nil)) ⟨congrArg Ending.returned (by kernel_rfl), hs.none⟩)

theorem kpke_spread.ok {K : Nat} {a0 : List Int} {r0 : Arr 256} {a0_A : Option Addr} {a0_n : Nat} {a0_c : Nat} (h : kpke_spread.f K a0 = some r0) (w0 : World) (hp0 : RowL (CI .u8) w0 a0_A a0_n a0_c a0) : Ret Tryd.prog 58 #[.slice a0_A a0_n a0_c] w0 (.agg (enc .i32 r0).toArray) := by
 refine calls_k Tryd.func58 rfl fun Q qq => ?_
 have hs := St.startR (all_cons (RowP.ent hp0) all_nil)
 refine wp_conv (a' := ⟨#[.slice a0_A a0_n a0_c, undef, undef, undef, undef, undef, undef, undef, undef, undef, undef, undef], []⟩) (by kernel_rfl) ?_
 refine xseq_k fun KS1 ks1 => ?_
 refine xregS [0] fun KR2 kr2 => ?_
 refine wpS.only 0 (op_alloc (t := 32) (d := (some 2)) (by kernel_rfl) hs (enc .i32 (zeroA 256)) (.agg (enc .i32 (zeroA 256)).toArray) (by kernel_rfl) (by kernel_rfl) (by kernel_rfl) ?_)
 intro b1 w gw hs
 refine ⟨fun _ => trivial, ?_⟩
 refine wpS.fin rfl (kr2 _ _ (then_n (ks1 _ _ (xseq_k fun KS3 ks3 => (xregS [0, 1, 2, 3, 4, 5, 6, 7] fun KR4 kr4 => ?_)))))
 refine wpS.q 0 6 (.slice a0_A a0_n a0_c) ?_
 obtain ⟨⟨r2, r3⟩, hg, h⟩ := of_bind h
 refine wpS.only 1 (op_call (d := (some 7)) (by kernel_rfl) hs (fun _ => by kernel_rfl) (kq_Unpack.ok hg _ (hs.rowR 0 rfl)) ?_)
 intro w gw hs
 refine ⟨fun _ => trivial, ?_⟩
 refine wpS.qs [(2, 5, .tuple #[.agg (enc .i32 r2).toArray, .bool r3]), (3, 8, .agg (enc .i32 r2).toArray), (4, 9, .bool r3)] ?_
 refine wpS.only 5 (op_alloc (t := 32) (d := (some 3)) (by kernel_rfl) hs (enc .i32 (zeroA 256)) (.agg (enc .i32 (zeroA 256)).toArray) (by kernel_rfl) (by kernel_rfl) (by kernel_rfl) ?_)
 intro b4 w gw hs
 refine ⟨fun _ => trivial, ?_⟩
 refine wpS.only 6 (op_storeW (t := 32) (v := .agg (enc .i32 r2).toArray) (d := none) (by kernel_rfl) hs 0 rfl (vs := enc .i32 r2) (n := 256) (by kernel_rfl) (by kernel_rfl) (by kernel_rfl) (by simp [enc_len]) (by simp [enc_len]) (by intro u hu; exact enc_one _ _ u hu) ?_)
 intro w kp hs
 refine ⟨fun _ => trivial, ?_⟩
 refine wpS.q 7 4 (.bool r3) ?_
 refine wpS.fin rfl (kr4 _ _ (then_n (ks3 _ _ (xseq_k fun KS5 ks5 => (xregS [0, 1, 2] fun KR6 kr6 => ?_)))))
 refine wpS.tk 0 true (some 10) (.agg (enc .i32 r2).toArray) (yld_loadW (e := 32) (n := 256) hs 0 rfl (by kernel_rfl) (by kernel_rfl) (by kernel_rfl) (by exact enc_len _ _) .grow) ?_
 obtain ⟨r5, hg, h⟩ := of_bind h
 refine wpS.only 1 (op_call (d := (some 11)) (by kernel_rfl) hs (fun _ => by kernel_rfl) (kq_Widen.ok hg _) ?_)
 intro w gw hs
 refine ⟨fun _ => trivial, ?_⟩
 refine wpS.only 2 (op_storeW (t := 32) (v := .agg (enc .i32 r5).toArray) (d := none) (by kernel_rfl) hs 1 rfl (vs := enc .i32 r5) (n := 256) (by kernel_rfl) (by kernel_rfl) (by kernel_rfl) (by simp [enc_len]) (by simp [enc_len]) (by intro u hu; exact enc_one _ _ u hu) ?_)
 intro w kp hs
 refine ⟨fun _ => trivial, ?_⟩
 refine wpS.fin rfl (kr6 _ _ (then_n (ks5 _ _ (xret ?_))))
 have q0 := of_some h
 subst q0
 exact qq _ _ (post_ret (by kernel_rfl) (run_results [.cell 2 32] [.agg (enc .i32 r5).toArray] (by kernel_rfl) (.cons (res_cellN (n := 256) hs 1 rfl (by kernel_rfl) (by kernel_rfl) (by kernel_rfl) (by exact enc_len _ _)) .nil)) ⟨congrArg Ending.returned (by kernel_rfl), hs.none⟩)

theorem kpke_expanded_s.ok {K : Nat} {ca0 : Int} {ca1 : Int} {ca2 : Int} {ca3 : Int} {ca4 : Int} {ca5 : List Int} {y1 : List (List (Arr 256))} {y2 : Int} {ca5_A : Option Addr} {ca5_n : Nat} {ca5_c : Nat} (h : kpke_expanded_s.f K ca0 ca1 ca2 ca3 ca4 ca5 = some (y1, y2)) {w0 w : World} {X : List Nat} {Lt Rt : List Ent} (hs : St w0 X Lt (.rowL (CI .u8) ca5_A ca5_n ca5_c ca5 :: .rowL (CA .u64 24 (by decide)) (some ⟨0, 0, none⟩) 1 1 ([tab_0]) :: .rowL (CA .i64 24 (by decide)) (some ⟨1, 0, none⟩) 1 1 ([tab_1]) :: .rowL (CA .i64 24 (by decide)) (some ⟨2, 0, none⟩) 1 1 ([tab_2]) :: Rt) w) : Calls Tryd.prog 43 #[.agg #[.int .i64 ca0, .int .i64 ca1, .int .i64 ca2, .int .i64 ca3, .int .i64 ca4], .slice ca5_A ca5_n ca5_c, .bool true] w fun e w' => ∃ (y1_A : Option Addr) (y1_n : Nat) (y1_c : Nat) (y1_H : List HS), e = .returned (.tuple #[.slice y1_A y1_n y1_c, .int .i64 y2]) ∧ St w0 X (.ownL CS y1_A y1_n y1_c y1_H 78 :: Lt) (.inn (CA .i32 256 (by decide)) y1_H y1 :: .rowL (CI .u8) ca5_A ca5_n ca5_c ca5 :: .rowL (CA .u64 24 (by decide)) (some ⟨0, 0, none⟩) 1 1 ([tab_0]) :: .rowL (CA .i64 24 (by decide)) (some ⟨1, 0, none⟩) 1 1 ([tab_1]) :: .rowL (CA .i64 24 (by decide)) (some ⟨2, 0, none⟩) 1 1 ([tab_2]) :: Rt) w' := by
 refine calls_k Tryd.func43 rfl fun Q qq => ?_
 refine wp_conv (a' := ⟨#[.agg #[.int .i64 ca0, .int .i64 ca1, .int .i64 ca2, .int .i64 ca3, .int .i64 ca4], .slice ca5_A ca5_n ca5_c, .bool true, undef, undef, undef, undef, undef, undef, undef, undef, undef, undef, undef, undef, undef, undef, undef, undef, undef, undef, undef, undef, undef, undef, undef, undef, undef, undef, undef, undef, undef, undef, undef, undef, undef, undef, undef, undef, undef, undef, undef, undef, undef, undef, undef, undef, undef, undef, undef, undef, undef, undef, undef, undef, undef, undef, undef], []⟩) (by kernel_rfl) ?_
 refine xseq_k fun KS1 ks1 => ?_
 refine xregS [0, 1, 2] fun KR2 kr2 => ?_
 refine wpS.only 0 (op_box (t := 23) (v := .agg #[.int .i64 ca0, .int .i64 ca1, .int .i64 ca2, .int .i64 ca3, .int .i64 ca4]) (d := (some 3)) (by kernel_rfl) hs ([.int .i64 ca0, .int .i64 ca1, .int .i64 ca2, .int .i64 ca3, .int .i64 ca4]) (by kernel_rfl) (by kernel_rfl) ?_)
 intro b3 w gw hs
 refine ⟨fun _ => trivial, ?_⟩
 refine wpS.qs [(1, 6, .slice none 0 0), (2, 7, .int .i64 0)] ?_
 refine wpS.fin rfl (kr2 _ _ (then_n (ks1 _ _ (xseq_k fun KS3 ks3 => (xregS [0, 1, 2, 3] fun KR4 kr4 => ?_)))))
 refine wpS.q 0 15 (.pointer (some ⟨b3, 0, none⟩)) ?_
 refine wpS.tk 1 true (some 16) (.int .i64 ca0) (yld_load1 (e := 3) (o := 0) hs 0 rfl (by kernel_rfl) (by kernel_rfl) (by rfl) .grow) ?_
 obtain ⟨h0, h⟩ := of_chk h
 obtain ⟨h1, h⟩ := of_chk h
 refine wpS.only 2 (op_makeT (C := CS) (t := 74) (e := 78) (bytes := 24) (B := 5864062014805) (kl := .i64) (kc := .i64) (x := ca0) (d := (some 17)) (by kernel_rfl) hs (by kernel_rfl) (by kernel_rfl) (by kernel_rfl) (by kernel_rfl) (by kernel_rfl) h0 h1 (by decide) (by decide) ?_)
 intro s4_A s4_n s4_c w gw hs
 refine ⟨fun _ => trivial, ?_⟩
 have hs := hs.addInns0 (CA .i32 256 (by decide)) 32 (ca0 : Int).toNat
 refine wpS.q 3 8 (.slice s4_A s4_n s4_c) ?_
 refine wpS.fin rfl (kr4 _ _ (then_n (ks3 _ _ (xseq_k fun KS5 ks5 => (xseq_k fun KS6 ks6 => (xregS [0, 1, 2] fun KR7 kr7 => ?_))))))
 refine wpS.q 0 18 (.slice s4_A s4_n s4_c) ?_
 refine wpS.tk 1 false (some 19) (.int .i64 ((List.replicate (ca0 : Int).toNat ([] : List (Arr 256))).length : Int)) (yld_lenNN (⟨hs.rowL 1 rfl, hs.innsLen 0 rfl⟩ : NNP _ _ _ _ _ _) (fun _ => by kernel_rfl)) ?_
 refine wpS.q 2 20 (.int .i64 0) ?_
 refine wpS.fin rfl (kr7 _ _ (then_n (ks6 _ _ ?_)))
 obtain ⟨t0, hy, hk0⟩ := of_bind h
 refine wp_exq (N := fun a w => ∃ y7, ∃ (y7_H : List HS), t0 = .inl y7 ∧ St w0 X (.inns (CA .i32 256 (by decide)) 32 y7_H y7 :: .ownL CS s4_A s4_n s4_c y7_H 78 :: .blk b3 ([.int .i64 ca0, .int .i64 ca1, .int .i64 ca2, .int .i64 ca3, .int .i64 ca4]) 23 :: Lt) (.rowL (CI .u8) ca5_A ca5_n ca5_c ca5 :: .rowL (CA .u64 24 (by decide)) (some ⟨0, 0, none⟩) 1 1 ([tab_0]) :: .rowL (CA .i64 24 (by decide)) (some ⟨1, 0, none⟩) 1 1 ([tab_1]) :: .rowL (CA .i64 24 (by decide)) (some ⟨2, 0, none⟩) 1 1 ([tab_2]) :: Rt) w ∧ ∃ g9 : Nat → Value, a = ⟨#[.agg #[.int .i64 ca0, .int .i64 ca1, .int .i64 ca2, .int .i64 ca3, .int .i64 ca4], .slice ca5_A ca5_n ca5_c, .bool true, .pointer (some ⟨b3, 0, none⟩), undef, undef, (g9 6), (g9 7), .slice s4_A s4_n s4_c, (g9 9), (g9 10), (g9 11), (g9 12), (g9 13), (g9 14), .pointer (some ⟨b3, 0, none⟩), .int .i64 ca0, .slice s4_A s4_n s4_c, .slice s4_A s4_n s4_c, .int .i64 ((List.replicate (ca0 : Int).toNat ([] : List (Arr 256))).length : Int), (g9 20), (g9 21), (g9 22), (g9 23), (g9 24), (g9 25), (g9 26), (g9 27), (g9 28), (g9 29), (g9 30), (g9 31), (g9 32), (g9 33), (g9 34), (g9 35), (g9 36), (g9 37), (g9 38), (g9 39), (g9 40), (g9 41), (g9 42), (g9 43), (g9 44), (g9 45), (g9 46), (g9 47), (g9 48), (g9 49), (g9 50), (g9 51), (g9 52), (g9 53), (g9 54), (g9 55), (g9 56), undef], []⟩) (fun N0 nn0 => ?_) ?_
 ·refine xblock ?_
  refine wp_loop_k (fun n a w => ∃ z5 z6, ∃ (z6_H : List HS), kpke_expanded_s.l0 K n ca0 ca5 z5 z6 = some t0 ∧ St w0 X (.inns (CA .i32 256 (by decide)) 32 z6_H z6 :: .ownL CS s4_A s4_n s4_c z6_H 78 :: .blk b3 ([.int .i64 ca0, .int .i64 ca1, .int .i64 ca2, .int .i64 ca3, .int .i64 ca4]) 23 :: Lt) (.rowL (CI .u8) ca5_A ca5_n ca5_c ca5 :: .rowL (CA .u64 24 (by decide)) (some ⟨0, 0, none⟩) 1 1 ([tab_0]) :: .rowL (CA .i64 24 (by decide)) (some ⟨1, 0, none⟩) 1 1 ([tab_1]) :: .rowL (CA .i64 24 (by decide)) (some ⟨2, 0, none⟩) 1 1 ([tab_2]) :: Rt) w ∧ ∃ g8 : Nat → Value, a = ⟨#[.agg #[.int .i64 ca0, .int .i64 ca1, .int .i64 ca2, .int .i64 ca3, .int .i64 ca4], .slice ca5_A ca5_n ca5_c, .bool true, .pointer (some ⟨b3, 0, none⟩), undef, undef, (g8 6), (g8 7), .slice s4_A s4_n s4_c, (g8 9), (g8 10), (g8 11), (g8 12), (g8 13), (g8 14), .pointer (some ⟨b3, 0, none⟩), .int .i64 ca0, .slice s4_A s4_n s4_c, .slice s4_A s4_n s4_c, .int .i64 ((List.replicate (ca0 : Int).toNat ([] : List (Arr 256))).length : Int), .int .i64 z5, (g8 21), (g8 22), (g8 23), (g8 24), (g8 25), (g8 26), (g8 27), (g8 28), (g8 29), (g8 30), (g8 31), (g8 32), (g8 33), (g8 34), (g8 35), (g8 36), (g8 37), (g8 38), (g8 39), (g8 40), (g8 41), (g8 42), (g8 43), (g8 44), (g8 45), (g8 46), (g8 47), (g8 48), (g8 49), (g8 50), (g8 51), (g8 52), (g8 53), (g8 54), (g8 55), (g8 56), undef], []⟩) K ⟨0, (List.replicate (ca0 : Int).toNat ([] : List (Arr 256))), (List.replicate (ca0 : Int).toNat (Cod.zero CS)), hy, hs.conv rfl, exg (by kernel_rfl)⟩ ?_
  clear hs h hy
  rintro n a w ⟨z5, z6, z6_H, h, hs, g8, rfl⟩ KL0 kl0
  cases n with
  | zero => exact nomatch (show none = some _ from h)
  | succ n =>
   refine xseq_k fun KS10 ks10 => ?_
   refine xregS [0] fun KR11 kr11 => ?_
   rcases of_if h with ⟨hc, h⟩ | ⟨hc, h⟩
   ·refine wpS.tk 0 false (some 21) (.bool true) (yld_b (dt hc) (fun _ => by kernel_rfl)) ?_
    refine wpS.fin rfl (kr11 _ _ (then_n (ks10 _ _ (xseq_k fun KS12 ks12 => (wp_cond_t (by kernel_rfl) (xskip (then_n (ks12 _ _ (xseq_k fun KS13 ks13 => (xblock (xseq_k fun KS14 ks14 => (xregS [0, 1] fun KR15 kr15 => ?_))))))))))))
    refine wpS.qs [(0, 22, .int .i64 z5), (1, 9, .int .i64 z5)] ?_
    refine wpS.fin rfl (kr15 _ _ (then_n (ks14 _ _ (xseq_k fun KS16 ks16 => (xregS [0, 1, 2] fun KR17 kr17 => ?_)))))
    refine wpS.q 0 23 (.pointer (some ⟨b3, 0, none⟩)) ?_
    refine wpS.tk 1 true (some 24) (.int .i64 ca0) (yld_load1 (e := 3) (o := 0) hs 2 rfl (by kernel_rfl) (by kernel_rfl) (by rfl) .grow) ?_
    refine wpS.q 2 25 (.int .i64 0) ?_
    refine wpS.fin rfl (kr17 _ _ (then_n (ks16 _ _ ?_)))
    obtain ⟨t1, hy, hk1⟩ := of_bind h
    refine wp_exq (N := fun a w => ∃ y10, ∃ (y10_H : List HS), t1 = .inl y10 ∧ St w0 X (.inns (CA .i32 256 (by decide)) 32 y10_H y10 :: .ownL CS s4_A s4_n s4_c y10_H 78 :: .blk b3 ([.int .i64 ca0, .int .i64 ca1, .int .i64 ca2, .int .i64 ca3, .int .i64 ca4]) 23 :: Lt) (.rowL (CI .u8) ca5_A ca5_n ca5_c ca5 :: .rowL (CA .u64 24 (by decide)) (some ⟨0, 0, none⟩) 1 1 ([tab_0]) :: .rowL (CA .i64 24 (by decide)) (some ⟨1, 0, none⟩) 1 1 ([tab_1]) :: .rowL (CA .i64 24 (by decide)) (some ⟨2, 0, none⟩) 1 1 ([tab_2]) :: Rt) w ∧ ∃ g19 : Nat → Value, a = ⟨#[.agg #[.int .i64 ca0, .int .i64 ca1, .int .i64 ca2, .int .i64 ca3, .int .i64 ca4], .slice ca5_A ca5_n ca5_c, .bool true, .pointer (some ⟨b3, 0, none⟩), undef, undef, (g19 6), (g19 7), .slice s4_A s4_n s4_c, .int .i64 z5, (g19 10), (g19 11), (g19 12), (g19 13), (g19 14), .pointer (some ⟨b3, 0, none⟩), .int .i64 ca0, .slice s4_A s4_n s4_c, .slice s4_A s4_n s4_c, .int .i64 ((List.replicate (ca0 : Int).toNat ([] : List (Arr 256))).length : Int), .int .i64 z5, .bool true, .int .i64 z5, .pointer (some ⟨b3, 0, none⟩), .int .i64 ca0, (g19 25), (g19 26), (g19 27), (g19 28), (g19 29), (g19 30), (g19 31), (g19 32), (g19 33), (g19 34), (g19 35), (g19 36), (g19 37), (g19 38), (g19 39), (g19 40), (g19 41), (g19 42), (g19 43), (g19 44), (g19 45), (g19 46), (g19 47), (g19 48), (g19 49), (g19 50), (g19 51), (g19 52), (g19 53), (g19 54), (g19 55), (g8 56), undef], []⟩) (fun N1 nn1 => ?_) ?_
    ·refine xblock ?_
     refine wp_loop_k (fun n a w => ∃ z8 z9, ∃ (z9_H : List HS), kpke_expanded_s.l1 K n ca0 ca5 z5 z8 z9 = some t1 ∧ St w0 X (.inns (CA .i32 256 (by decide)) 32 z9_H z9 :: .ownL CS s4_A s4_n s4_c z9_H 78 :: .blk b3 ([.int .i64 ca0, .int .i64 ca1, .int .i64 ca2, .int .i64 ca3, .int .i64 ca4]) 23 :: Lt) (.rowL (CI .u8) ca5_A ca5_n ca5_c ca5 :: .rowL (CA .u64 24 (by decide)) (some ⟨0, 0, none⟩) 1 1 ([tab_0]) :: .rowL (CA .i64 24 (by decide)) (some ⟨1, 0, none⟩) 1 1 ([tab_1]) :: .rowL (CA .i64 24 (by decide)) (some ⟨2, 0, none⟩) 1 1 ([tab_2]) :: Rt) w ∧ ∃ g18 : Nat → Value, a = ⟨#[.agg #[.int .i64 ca0, .int .i64 ca1, .int .i64 ca2, .int .i64 ca3, .int .i64 ca4], .slice ca5_A ca5_n ca5_c, .bool true, .pointer (some ⟨b3, 0, none⟩), undef, undef, (g18 6), (g18 7), .slice s4_A s4_n s4_c, .int .i64 z5, (g18 10), (g18 11), (g18 12), (g18 13), (g18 14), .pointer (some ⟨b3, 0, none⟩), .int .i64 ca0, .slice s4_A s4_n s4_c, .slice s4_A s4_n s4_c, .int .i64 ((List.replicate (ca0 : Int).toNat ([] : List (Arr 256))).length : Int), .int .i64 z5, .bool true, .int .i64 z5, .pointer (some ⟨b3, 0, none⟩), .int .i64 ca0, .int .i64 z8, (g18 26), (g18 27), (g18 28), (g18 29), (g18 30), (g18 31), (g18 32), (g18 33), (g18 34), (g18 35), (g18 36), (g18 37), (g18 38), (g18 39), (g18 40), (g18 41), (g18 42), (g18 43), (g18 44), (g18 45), (g18 46), (g18 47), (g18 48), (g18 49), (g18 50), (g18 51), (g18 52), (g18 53), (g18 54), (g18 55), (g8 56), undef], []⟩) K ⟨0, z6, z6_H, hy, hs.conv rfl, exg (by kernel_rfl)⟩ ?_
     clear hs h hy
     rintro n a w ⟨z8, z9, z9_H, h, hs, g18, rfl⟩ KL1 kl1
     cases n with
     | zero => exact nomatch (show none = some _ from h)
     | succ n =>
      refine xseq_k fun KS20 ks20 => ?_
      refine xregS [0] fun KR21 kr21 => ?_
      rcases of_if h with ⟨hc, h⟩ | ⟨hc, h⟩
      ·refine wpS.tk 0 false (some 26) (.bool true) (yld_b (dt hc) (fun _ => by kernel_rfl)) ?_
       refine wpS.fin rfl (kr21 _ _ (then_n (ks20 _ _ (xseq_k fun KS22 ks22 => (wp_cond_t (by kernel_rfl) (xskip (then_n (ks22 _ _ (xseq_k fun KS23 ks23 => (xblock (xseq_k fun KS24 ks24 => (xregS [0, 1] fun KR25 kr25 => ?_))))))))))))
       refine wpS.qs [(0, 27, .int .i64 z8), (1, 10, .int .i64 z8)] ?_
       refine wpS.fin rfl (kr25 _ _ (then_n (ks24 _ _ (xseq_k fun KS26 ks26 => (xregS [0, 1, 2, 3, 4, 5] fun KR27 kr27 => ?_)))))
       refine wpS.qs [(0, 28, .int .i64 z5), (1, 29, .int .u8 (iconv .u8 z5)), (2, 30, .int .i64 z8), (3, 31, .int .u8 (iconv .u8 z8))] ?_
       obtain ⟨x11, hx, h⟩ := of_bind h
       refine wpS.tk 4 false (some 11) (.int .u8 x11) (yld_int hx (fun _ => by kernel_rfl)) ?_
       obtain ⟨x12, hx, h⟩ := of_bind h
       refine wpS.tk 5 false (some 12) (.int .u8 x12) (yld_int hx (fun _ => by kernel_rfl)) ?_
       refine wpS.fin rfl (kr27 _ _ (then_n (ks26 _ _ (xseq_k fun KS28 ks28 => (xseq_k fun KS29 ks29 => (xregS [0] fun KR30 kr30 => ?_))))))
       refine wpS.q 0 32 (.bool true) ?_
       refine wpS.fin rfl (kr30 _ _ (then_n (ks29 _ _ (wp_cond_t (by kernel_rfl) (xregS [0, 1, 2, 3] fun KR31 kr31 => ?_)))))
       refine wpS.qs [(0, 33, .int .u8 x12), (1, 34, .int .u8 x11), (2, 11, .int .u8 x12), (3, 12, .int .u8 x11)] ?_
       refine wpS.fin rfl (kr31 _ _ (then_n (ks28 _ _ (xseq_k fun KS32 ks32 => (xregS [0, 1, 2, 3, 4, 5, 6, 7, 8, 9] fun KR33 kr33 => ?_)))))
       refine wpS.qs [(0, 36, .slice ca5_A ca5_n ca5_c), (1, 37, .int .u8 x12), (2, 38, .int .u8 x11)] ?_
       obtain ⟨⟨r13, r14⟩, hg, h⟩ := of_bind h
       refine wpS.only 3 (op_call (d := (some 39)) (by kernel_rfl) hs (fun _ => by kernel_rfl) (kpke_Parts.ok hg _ (hs.rowR 0 rfl) (hs.rowR 1 rfl) (hs.rowR 2 rfl) (hs.rowR 3 rfl)) ?_)
       intro w gw hs
       refine ⟨fun _ => trivial, ?_⟩
       refine wpS.qs [(4, 35, .tuple #[.agg (enc .i32 r13).toArray, .int .i64 r14]), (5, 40, .agg (enc .i32 r13).toArray), (6, 41, .int .i64 r14)] ?_
       refine wpS.only 7 (op_alloc (t := 32) (d := (some 13)) (by kernel_rfl) hs (enc .i32 (zeroA 256)) (.agg (enc .i32 (zeroA 256)).toArray) (by kernel_rfl) (by kernel_rfl) (by kernel_rfl) ?_)
       intro b15 w gw hs
       refine ⟨fun _ => trivial, ?_⟩
       refine wpS.only 8 (op_storeW (t := 32) (v := .agg (enc .i32 r13).toArray) (d := none) (by kernel_rfl) hs 0 rfl (vs := enc .i32 r13) (n := 256) (by kernel_rfl) (by kernel_rfl) (by kernel_rfl) (by simp [enc_len]) (by simp [enc_len]) (by intro u hu; exact enc_one _ _ u hu) ?_)
       intro w kp hs
       refine ⟨fun _ => trivial, ?_⟩
       refine wpS.q 9 14 (.int .i64 r14) ?_
       refine wpS.fin rfl (kr33 _ _ (then_n (ks32 _ _ (xseq_k fun KS34 ks34 => (xseq_k fun KS35 ks35 => (xregS [0, 1] fun KR36 kr36 => ?_))))))
       refine wpS.q 0 42 (.int .i64 r14) ?_
       rcases of_if h with ⟨hc, h⟩ | ⟨hc, h⟩
       ·refine wpS.tk 1 false (some 43) (.bool false) (yld_b (nf hc) (fun _ => by kernel_rfl)) ?_
        refine wpS.fin rfl (kr36 _ _ (then_n (ks35 _ _ (wp_cond_f (by kernel_rfl) (xskip (then_n (ks34 _ _ ?_)))))))
        refine wp_regG [8, 10] (fun k => True) 11 (by kernel_rfl) (by kernel_rfl) (by kernel_rfl) fun KR37 kr37 => ?_
        have hs := hs.drawn1
        refine wpG.q 0 45 (.slice s4_A s4_n s4_c) ?_
        refine wpG.q 1 46 (.int .i64 z5) ?_
        refine wpG.q 2 47 (.slice s4_A s4_n s4_c) ?_
        refine wpG.q 3 48 (.int .i64 z5) ?_
        obtain ⟨h0, h⟩ := of_chk h
        obtain ⟨h1, h⟩ := of_chk h
        have i0_38 := h0
        have i1_38 := h1
        refine wpG.tD 4 false (some 49) (.pointer (adr s4_A ((z5 : Int).toNat * Cod.size CS))) (yld_idxNN (t := 74) (e := 78) (k := .i64) (x := z5) (⟨hs.rowL 2 rfl, hs.innsLen 1 rfl⟩ : NNP _ _ _ _ _ _) (by kernel_rfl) (by kernel_rfl) (by kernel_rfl) h0 h1) ?_
        obtain ⟨s16_A, hA⟩ : ∃ A, A = (rdL CS z9_H z5).1 := ⟨_, rfl⟩
        obtain ⟨s16_n, hn⟩ : ∃ n, n = (rdL CS z9_H z5).2.1 := ⟨_, rfl⟩
        obtain ⟨s16_c, hc⟩ : ∃ c, c = (rdL CS z9_H z5).2.2 := ⟨_, rfl⟩
        refine wpG.tD 5 true (some 50) (.slice s16_A s16_n s16_c) (by subst hA hn hc; exact yld_loadNN (e := 78) (x := z5) (⟨hs.rowL 2 rfl, hs.innsLen 1 rfl⟩ : NNP _ _ _ _ _ _) (by kernel_rfl) (by kernel_rfl) i0_38 i1_38) ?_
        have hs := hs.front 1 rfl
        try dsimp only [List.eraseIdx] at hs
        obtain ⟨hl39, hs⟩ := hs.openI i0_38 i1_38 hA hn hc
        refine wpG.take [6, 7, 8, 9, 10] 6 true (some 51) (.agg (enc .i32 r13).toArray) (by kernel_rfl) (by kernel_rfl) (yld_loadW (e := 32) (n := 256) hs 2 rfl (by kernel_rfl) (by kernel_rfl) (by kernel_rfl) (by exact enc_len _ _) .grow) ?_
        refine wpG.only 7 (by kernel_rfl) (op_litL (C := (CA .i32 256 (by decide))) (t := 78) (e := 32) (len := 1) (parts := #[(0, .agg (enc .i32 r13).toArray)]) (l := [r13]) (d := (some 52)) (by kernel_rfl) hs (by kernel_rfl) rfl (by kernel_rfl) (by kernel_rfl) (z := .agg (enc .i32 (zeroA 256)).toArray) (by kernel_rfl) rfl (by decide) (by decide) ?_)
        intro s17_A s17_n s17_c w gw hs
        refine ⟨.of gw, ?_⟩
        obtain ⟨h0, h⟩ := of_chk h
        refine wpG.only 8 (by kernel_rfl) (op_appendT (C := (CA .i32 256 (by decide))) (t := 78) (ty := 78) (e := 32) (bytes := 1024) (B := 137438953472) (d := (some 53)) (by kernel_rfl) hs 1 rfl (hs.rowL 0 rfl) (by kernel_rfl) (by kernel_rfl) (by kernel_rfl) (by kernel_rfl) (by kernel_rfl) h0 (by decide) (by decide) ?_)
        intro s18_A s18_n s18_c w hs
        refine ⟨⟨fun hf => absurd hf (by decide), .all _ _⟩, ?_⟩
        obtain ⟨h0, h⟩ := of_chk h
        obtain ⟨h1, h⟩ := of_chk h
        have i0_40 := h0
        have i1_40 := h1
        refine wpG.tD 9 false (some 54) (.pointer (adr s4_A ((z5 : Int).toNat * Cod.size CS))) (yld_idxNN (t := 74) (e := 78) (k := .i64) (x := z5) (⟨hs.rowL 4 rfl, hl39⟩ : NNP _ _ _ _ _ _) (by kernel_rfl) (by kernel_rfl) (by kernel_rfl) h0 h1) ?_
        refine wpG.only 10 (by kernel_rfl) (op_storeL (C := CS) (t := 78) (x := z5) (v := ((s18_A, s18_n, s18_c) : HS)) (d := none) (by kernel_rfl) hs 4 rfl (by kernel_rfl) (by kernel_rfl) i0_40 (by rw [hl39]; exact i1_40) ?_)
        intro w hs
        refine ⟨⟨fun hf => absurd hf (by decide), .all _ _⟩, ?_⟩
        have hs := hs.front 2 rfl
        have hs := hs.front 2 rfl
        try dsimp only [List.eraseIdx] at hs
        have hs := hs.closeI (x := z5) hl39 i0_38 i1_38
        refine wpG.fin (by kernel_rfl) rfl (kr37 _ _ ?_)
        refine inBlock_n (then_n (ks23 _ _ (xregS [0, 1] fun KR41 kr41 => ?_)))
        refine wpS.qs [(0, 55, .int .i64 (iadd .i64 z8 1)), (1, 25, .int .i64 (iadd .i64 z8 1))] ?_
        refine wpS.fin rfl (kr41 _ _ ?_)
        exact then_n (kl1 _ _ ⟨n, Nat.lt_succ_self n, (iadd .i64 z8 1), (wrL z9 z5 ((rdLL z9 z5) ++ ([r13] : List (Arr 256)))), (wrL z9_H z5 ((s18_A, s18_n, s18_c) : HS)), h, (hs.drop (.cons_cons _ (.cons _ (.cons _ (.cons_cons _ (.cons_cons _ (.refl _))))))), exg (by kernel_rfl)⟩)
       refine wpS.tk 1 false (some 43) (.bool true) (yld_b (nt hc) (fun _ => by kernel_rfl)) ?_
       refine wpS.fin rfl (kr36 _ _ (then_n (ks35 _ _ (wp_cond_t (by kernel_rfl) (xseq_k fun KS42 ks42 => (xregS [0, 1, 2] fun KR43 kr43 => ?_))))))
       refine wpS.qs [(0, 44, .int .i64 r14), (1, 6, .slice none 0 0), (2, 7, .int .i64 r14)] ?_
       refine wpS.fin rfl (kr43 _ _ (then_n (ks42 _ _ (xret (then_r (inBlock_r (then_r (then_r (inBlock_r (exq_r (inBlock_r (then_r (then_r (inBlock_r (exq_r (then_r ?_))))))))))))))))
       have q0 := of_some h
       subst q0
       have q0 := of_some hk1
       subst q0
       obtain ⟨q0, qr0⟩ := Prod.mk.inj (of_some hk0)
       have q1 := qr0
       subst q0
       subst q1
       have hs := hs.front 1 rfl
       try dsimp only [List.eraseIdx] at hs
       have hs := hs.innsInn
       have hs := (hs.addNilL CS 78).addInn0 (CA .i32 256 (by decide))
       exact qq _ _ (post_ret (by kernel_rfl) (run_results [.tmp 6, .tmp 7] [.slice none 0 0, .int .i64 r14] (by kernel_rfl) (.cons (res_tmp (by kernel_rfl)) (.cons (res_tmp (by kernel_rfl)) .nil))) ⟨none, 0, 0, [], rfl, ((hs.drop (.cons_cons _ (.cons _ (.cons _ (.cons _ (.refl _)))))).pickR (pick_cons 0 rfl (pick_cons 2 rfl (pick_cons 3 rfl (pick_cons 4 rfl (pick_cons 5 rfl (fun _ he => .tail _ (.tail _ (.tail _ (.tail _ (.tail _ (.tail _ (he)))))))))))))⟩)
      refine wpS.tk 0 false (some 26) (.bool false) (yld_b (df hc) (fun _ => by kernel_rfl)) ?_
      refine wpS.fin rfl (kr21 _ _ (then_n (ks20 _ _ (xseq_k fun KS44 ks44 => (wp_cond_f (by kernel_rfl) (xexit (then_x (then_x (inBlock_hit ?_)))))))))
      have q0 := of_some h
      subst q0
      exact exq_n (nn1 _ _ ⟨z9, z9_H, rfl, (hs.conv rfl), exg (by kernel_rfl)⟩)
    clear hs h hy
    rintro a w ⟨y10, y10_H, rfl, hs, g19, rfl⟩
    have h := hk1
    refine inBlock_n (then_n (ks13 _ _ (xregS [0, 1] fun KR45 kr45 => ?_)))
    refine wpS.qs [(0, 56, .int .i64 (iadd .i64 z5 1)), (1, 20, .int .i64 (iadd .i64 z5 1))] ?_
    refine wpS.fin rfl (kr45 _ _ ?_)
    exact then_n (kl0 _ _ ⟨n, Nat.lt_succ_self n, (iadd .i64 z5 1), y10, y10_H, h, (hs.conv rfl), exg (by kernel_rfl)⟩)
   refine wpS.tk 0 false (some 21) (.bool false) (yld_b (df hc) (fun _ => by kernel_rfl)) ?_
   refine wpS.fin rfl (kr11 _ _ (then_n (ks10 _ _ (xseq_k fun KS46 ks46 => (wp_cond_f (by kernel_rfl) (xexit (then_x (then_x (inBlock_hit ?_)))))))))
   have q0 := of_some h
   subst q0
   exact exq_n (nn0 _ _ ⟨z6, z6_H, rfl, (hs.conv rfl), exg (by kernel_rfl)⟩)
 clear hs h hy
 rintro a w ⟨y7, y7_H, rfl, hs, g9, rfl⟩
 have h := hk0
 refine then_n (ks5 _ _ (xseq_k fun KS47 ks47 => (xregS [0, 1, 2] fun KR48 kr48 => ?_)))
 refine wpS.qs [(0, 57, .slice s4_A s4_n s4_c), (1, 6, .slice s4_A s4_n s4_c), (2, 7, .int .i64 0)] ?_
 refine wpS.fin rfl (kr48 _ _ (then_n (ks47 _ _ (xret ?_))))
 obtain ⟨q0, qr0⟩ := Prod.mk.inj (of_some h)
 have q1 := qr0
 subst q0
 subst q1
 have hs := hs.innsInn
 exact qq _ _ (post_ret (by kernel_rfl) (run_results [.tmp 6, .tmp 7] [.slice s4_A s4_n s4_c, .int .i64 0] (by kernel_rfl) (.cons (res_tmp (by kernel_rfl)) (.cons (res_tmp (by kernel_rfl)) .nil))) ⟨s4_A, s4_n, s4_c, y7_H, rfl, (hs.drop (.cons_cons _ (.cons _ (.refl _))))⟩)

theorem kpke_Encrypt.ok {K : Nat} {a0_0 : Int} {a0_1 : Int} {a0_2 : Int} {a0_3 : Int} {a0_4 : Int} {a1 : List Int} {a2 : List Int} {a3 : List Int} {r0 : List Int} {r1 : Int} {a1_A : Option Addr} {a1_n : Nat} {a1_c : Nat} {a2_A : Option Addr} {a2_n : Nat} {a2_c : Nat} {a3_A : Option Addr} {a3_n : Nat} {a3_c : Nat} (h : kpke_Encrypt.f K a0_0 a0_1 a0_2 a0_3 a0_4 a1 a2 a3 = some (r0, r1)) (w0 : World) (hp1 : RowL (CI .u8) w0 a1_A a1_n a1_c a1) (hp2 : RowL (CI .u8) w0 a2_A a2_n a2_c a2) (hp3 : RowL (CI .u8) w0 a3_A a3_n a3_c a3) (hg0 : RowL (CA .u64 24 (by decide)) w0 (some ⟨0, 0, none⟩) 1 1 [tab_0]) (hg1 : RowL (CA .i64 24 (by decide)) w0 (some ⟨1, 0, none⟩) 1 1 [tab_1]) (hg2 : RowL (CA .i64 24 (by decide)) w0 (some ⟨2, 0, none⟩) 1 1 [tab_2]) : Calls Tryd.prog 21 #[.agg #[.int .i64 a0_0, .int .i64 a0_1, .int .i64 a0_2, .int .i64 a0_3, .int .i64 a0_4], .slice a1_A a1_n a1_c, .slice a2_A a2_n a2_c, .slice a3_A a3_n a3_c] w0 fun e w' => ∃ h : (Option Addr × Nat × Nat), e = .returned (.tuple #[.slice h.1 h.2.1 h.2.2, .int .i64 r1]) ∧ St w0 [] [.ownL (CI .u8) h.1 h.2.1 h.2.2 r0 5] [] w' := by
 refine calls_k Tryd.func21 rfl fun Q qq => ?_
 have hs := St.startR (all_cons (RowP.ent hp1) (all_cons (RowP.ent hp2) (all_cons (RowP.ent hp3) (all_cons (RowP.ent hg0) (all_cons (RowP.ent hg1) (all_cons (RowP.ent hg2) all_nil))))))
 refine wp_conv (a' := ⟨#[.agg #[.int .i64 a0_0, .int .i64 a0_1, .int .i64 a0_2, .int .i64 a0_3, .int .i64 a0_4], .slice a1_A a1_n a1_c, .slice a2_A a2_n a2_c, .slice a3_A a3_n a3_c, undef, undef, undef, undef, undef, undef, undef, undef, undef, undef, undef, undef, undef, undef, undef, undef, undef, undef, undef, undef, undef, undef, undef, undef, undef, undef, undef, undef, undef, undef, undef, undef, undef, undef, undef, undef, undef, undef, undef, undef, undef, undef, undef, undef, undef, undef, undef, undef, undef, undef, undef, undef, undef, undef, undef, undef, undef, undef, undef, undef, undef, undef, undef, undef, undef, undef, undef, undef, undef, undef, undef, undef, undef, undef, undef, undef, undef, undef, undef, undef, undef, undef, undef, undef, undef, undef, undef, undef, undef, undef, undef, undef, undef, undef, undef, undef, undef, undef, undef, undef, undef, undef, undef, undef, undef, undef, undef, undef, undef, undef, undef, undef, undef, undef, undef, undef, undef, undef, undef, undef, undef, undef, undef, undef, undef, undef, undef, undef, undef, undef, undef], []⟩) (by kernel_rfl) ?_
 refine xseq_k fun KS1 ks1 => ?_
 refine xregS [0, 1, 2] fun KR2 kr2 => ?_
 refine wpS.only 0 (op_box (t := 23) (v := .agg #[.int .i64 a0_0, .int .i64 a0_1, .int .i64 a0_2, .int .i64 a0_3, .int .i64 a0_4]) (d := (some 4)) (by kernel_rfl) hs ([.int .i64 a0_0, .int .i64 a0_1, .int .i64 a0_2, .int .i64 a0_3, .int .i64 a0_4]) (by kernel_rfl) (by kernel_rfl) ?_)
 intro b1 w gw hs
 refine ⟨fun _ => trivial, ?_⟩
 refine wpS.qs [(1, 8, .slice none 0 0), (2, 9, .int .i64 0)] ?_
 refine wpS.fin rfl (kr2 _ _ (then_n (ks1 _ _ (xseq_k fun KS3 ks3 => (xregS [0, 1, 2, 3, 4, 5, 6, 7, 8] fun KR4 kr4 => ?_)))))
 refine wpS.tk 0 true (some 23) (.agg #[.int .i64 a0_0, .int .i64 a0_1, .int .i64 a0_2, .int .i64 a0_3, .int .i64 a0_4]) (yld_loadW (e := 23) (n := 5) hs 0 rfl (by kernel_rfl) (by kernel_rfl) (by kernel_rfl) (by simp [enc_len]) .grow) ?_
 obtain ⟨⟨r2, r3, r4⟩, hg, h⟩ := of_bind h
 refine wpS.only 1 (op_call (d := (some 24)) (by kernel_rfl) hs (fun _ => by kernel_rfl) (kpke_Sizes.ok hg _) ?_)
 intro w gw hs
 refine ⟨fun _ => trivial, ?_⟩
 refine wpS.qs [(2, 22, .tuple #[.int .i64 r2, .int .i64 r3, .int .i64 r4]), (3, 25, .int .i64 r2), (4, 26, .int .i64 r3), (5, 27, .int .i64 r4), (6, 10, .int .i64 r2), (7, 11, .int .i64 r3), (8, 12, .int .i64 r4)] ?_
 refine wpS.fin rfl (kr4 _ _ (then_n (ks3 _ _ (xseq_k fun KS5 ks5 => (xblock (xseq_k fun KS6 ks6 => (xregS [0, 1, 2] fun KR7 kr7 => ?_)))))))
 refine wpS.q 0 29 (.int .i64 r2) ?_
 rcases of_if h with ⟨hc, h⟩ | ⟨hc, h⟩
 ·refine wpS.tk 1 false (some 30) (.bool true) (yld_b (et hc) (fun _ => by kernel_rfl)) ?_
  refine wpS.q 2 28 (.bool true) ?_
  refine wpS.fin rfl (kr7 _ _ (then_n (ks6 _ _ (wp_cond_t (by kernel_rfl) (xseq_k fun KS8 ks8 => (xregS [0, 1] fun KR9 kr9 => ?_))))))
  refine wpS.qs [(0, 8, .slice none 0 0), (1, 9, .int .i64 9)] ?_
  refine wpS.fin rfl (kr9 _ _ (then_n (ks8 _ _ (xret (inBlock_r (then_r ?_))))))
  obtain ⟨q0, qr0⟩ := Prod.mk.inj (of_some h)
  have q1 := qr0
  subst q0
  subst q1
  have hs := hs.addNilL (CI .u8) 5
  exact qq _ _ (post_ret (by kernel_rfl) (run_results [.tmp 8, .tmp 9] [.slice none 0 0, .int .i64 9] (by kernel_rfl) (.cons (res_tmp (by kernel_rfl)) (.cons (res_tmp (by kernel_rfl)) .nil))) ⟨⟨none, 0, 0⟩, congrArg Ending.returned (by kernel_rfl), ((hs.drop (.cons_cons _ (.cons _ .slnil))).pickR pick_nil)⟩)
 refine wpS.tk 1 false (some 30) (.bool false) (yld_b (ef hc) (fun _ => by kernel_rfl)) ?_
 refine wpS.q 2 28 (.bool false) ?_
 refine wpS.fin rfl (kr7 _ _ (then_n (ks6 _ _ (wp_cond_f (by kernel_rfl) (xseq_k fun KS10 ks10 => (xregS [0, 1, 2, 3, 4] fun KR11 kr11 => ?_))))))
 refine wpS.q 0 32 (.slice a1_A a1_n a1_c) ?_
 refine wpS.tk 1 false (some 33) (.int .i64 (a1.length : Int)) (yld_lenL (hs.rowR 0 rfl) (fun _ => by kernel_rfl)) ?_
 refine wpS.q 2 34 (.int .i64 r2) ?_
 rcases of_if h with ⟨hc, h⟩ | ⟨hc, h⟩
 ·refine wpS.tk 3 false (some 35) (.bool false) (yld_b (nf hc) (fun _ => by kernel_rfl)) ?_
  refine wpS.q 4 31 (.bool false) ?_
  refine wpS.fin rfl (kr11 _ _ (then_n (ks10 _ _ (wp_cond_f (by kernel_rfl) (xskip (inBlock_n (then_n (ks5 _ _ (xseq_k fun KS12 ks12 => (xregS [0, 1, 2, 3, 4, 5, 6, 7, 8] fun KR13 kr13 => ?_))))))))))
  refine wpS.qs [(0, 37, .slice a1_A a1_n a1_c), (1, 38, .pointer (some ⟨b1, 0, none⟩))] ?_
  refine wpS.tk 2 true (some 39) (.int .i64 a0_0) (yld_load1 (e := 3) (o := 0) hs 0 rfl (by kernel_rfl) (by kernel_rfl) (by rfl) .grow) ?_
  obtain ⟨⟨r5, r6⟩, hg, h⟩ := of_bind h
  refine wpS.only 3 (op_callH (d := (some 40)) (by kernel_rfl) hs (fun _ => by kernel_rfl) (kpke_read.ok hg _ (hs.rowR 0 rfl)) ?_)
  rintro ⟨r5_A, r5_n, r5_c⟩ w gw hs
  have hs := hs.conv (L' := [.ownL (CA .i32 256 (by decide)) r5_A r5_n r5_c r5 32, .blk b1 ([.int .i64 a0_0, .int .i64 a0_1, .int .i64 a0_2, .int .i64 a0_3, .int .i64 a0_4]) 23]) rfl
  refine ⟨fun _ => trivial, ?_⟩
  refine wpS.qs [(4, 36, .tuple #[.slice r5_A r5_n r5_c, .bool r6]), (5, 41, .slice r5_A r5_n r5_c)] ?_
  cases r6 with
  | true =>
   have h := of_if_t h
   refine wpS.qs [(6, 42, .bool true), (7, 13, .slice r5_A r5_n r5_c), (8, 14, .bool true)] ?_
   refine wpS.fin rfl (kr13 _ _ (then_n (ks12 _ _ (xseq_k fun KS14 ks14 => (xblock (xseq_k fun KS15 ks15 => (xregS [0, 1, 2] fun KR16 kr16 => ?_)))))))
   refine wpS.qs [(0, 44, .bool true), (1, 45, .bool false), (2, 43, .bool false)] ?_
   refine wpS.fin rfl (kr16 _ _ (then_n (ks15 _ _ (wp_cond_f (by kernel_rfl) (xseq_k fun KS17 ks17 => (xregS [0, 1, 2, 3, 4, 5, 6, 7, 8] fun KR18 kr18 => ?_))))))
   refine wpS.q 0 47 (.slice a2_A a2_n a2_c) ?_
   refine wpS.tk 1 false (some 48) (.int .i64 (a2.length : Int)) (yld_lenL (hs.rowR 1 rfl) (fun _ => by kernel_rfl)) ?_
   rcases of_if h with ⟨hc, h⟩ | ⟨hc, h⟩
   ·refine wpS.tk 2 false (some 49) (.bool false) (yld_b (nf hc) (fun _ => by kernel_rfl)) ?_
    refine wpS.qs [(3, 50, .bool false), (4, 51, .slice a3_A a3_n a3_c)] ?_
    refine wpS.tk 5 false (some 52) (.int .i64 (a3.length : Int)) (yld_lenL (hs.rowR 2 rfl) (fun _ => by kernel_rfl)) ?_
    rcases of_if h with ⟨hc, h⟩ | ⟨hc, h⟩
    ·refine wpS.tk 6 false (some 53) (.bool false) (yld_b (nf hc) (fun _ => by kernel_rfl)) ?_
     refine wpS.qs [(7, 54, .bool false), (8, 46, .bool false)] ?_
     refine wpS.fin rfl (kr18 _ _ (then_n (ks17 _ _ (wp_cond_f (by kernel_rfl) (xskip (inBlock_n (then_n (ks14 _ _ (xseq_k fun KS19 ks19 => ?_)))))))))
     refine wp_regG [5] (fun k => True) 11 (by kernel_rfl) (by kernel_rfl) (by kernel_rfl) fun KR20 kr20 => ?_
     have hs := hs.drawn1
     refine wpG.tD 0 true (some 56) (.agg #[.int .i64 a0_0, .int .i64 a0_1, .int .i64 a0_2, .int .i64 a0_3, .int .i64 a0_4]) (yld_loadW (e := 23) (n := 5) hs 1 rfl (by kernel_rfl) (by kernel_rfl) (by kernel_rfl) (by simp [enc_len]) .grow) ?_
     refine wpG.q 1 57 (.slice a1_A a1_n a1_c) ?_
     refine wpG.q 2 58 (.int .i64 r2) ?_
     refine wpG.q 3 59 (.int .i64 (isub .i64 r2 32)) ?_
     obtain ⟨h0, h⟩ := of_chk h
     obtain ⟨h1, h⟩ := of_chk h
     obtain ⟨h2, h⟩ := of_chk h
     obtain ⟨s7_A, hA⟩ : ∃ A, A = if a1_c = ((isub .i64 r2 32) : Int).toNat then a1_A else adr a1_A (((isub .i64 r2 32) : Int).toNat * Cod.size (CI .u8)) := ⟨_, rfl⟩
     obtain ⟨s7_n, hn⟩ : ∃ n, n = ((a1.length : Int) : Int).toNat - ((isub .i64 r2 32) : Int).toNat := ⟨_, rfl⟩
     obtain ⟨s7_c, hc⟩ : ∃ c, c = a1_c - ((isub .i64 r2 32) : Int).toNat := ⟨_, rfl⟩
     refine wpG.tD 4 false (some 60) (.slice s7_A s7_n s7_c) (yld_sub (C := (CI .u8)) (t := 24) (e := 5) (low := some (.int .i64 (isub .i64 r2 32))) (high := none) (lo := (isub .i64 r2 32)) (hi := (a1.length : Int)) (hs.rowR 0 rfl) (by kernel_rfl) (by kernel_rfl) (by kernel_rfl) (.inr ⟨_, rfl⟩) (.inl ⟨rfl, rfl⟩) h0 h1 h2 hA hn hc) ?_
     have hs := hs.addSub (C := (CI .u8)) 0 rfl h0 h1 h2 hA hn hc
     have hs := hs.pickR (pick_cons 0 rfl (pick_cons 4 rfl (pick_cons 5 rfl (pick_cons 6 rfl (pick_cons 1 rfl (pick_cons 2 rfl (pick_cons 3 rfl pick_nil)))))))
     obtain ⟨⟨r8, r9⟩, hg, h⟩ := of_bind h
     refine wpG.only 5 (by kernel_rfl) (wpOp_call (d := (some 61)) (by kernel_rfl) (fun _ => by kernel_rfl) (kpke_expanded_s.ok hg hs) ?_)
     rintro e w ⟨y10_A, y10_n, y10_c, y10_H, rfl, hs⟩
     refine ⟨_, rfl, ?_⟩
     refine ⟨⟨fun hf => absurd hf (by decide), .all _ _⟩, ?_⟩
     refine wpG.q 6 55 (.tuple #[.slice y10_A y10_n y10_c, .int .i64 r9]) ?_
     refine wpG.q 7 62 (.slice y10_A y10_n y10_c) ?_
     refine wpG.q 8 63 (.int .i64 r9) ?_
     refine wpG.q 9 15 (.slice y10_A y10_n y10_c) ?_
     refine wpG.q 10 16 (.int .i64 r9) ?_
     refine wpG.fin (by kernel_rfl) rfl (kr20 _ _ ?_)
     refine then_n (ks19 _ _ (xseq_k fun KS21 ks21 => (xseq_k fun KS22 ks22 => (xregS [0, 1] fun KR23 kr23 => ?_))))
     refine wpS.q 0 64 (.int .i64 r9) ?_
     rcases of_if h with ⟨hc, h⟩ | ⟨hc, h⟩
     ·refine wpS.tk 1 false (some 65) (.bool false) (yld_b (nf hc) (fun _ => by kernel_rfl)) ?_
      refine wpS.fin rfl (kr23 _ _ (then_n (ks22 _ _ (wp_cond_f (by kernel_rfl) (xskip (then_n (ks21 _ _ (xseq_k fun KS24 ks24 => (xregS [0, 1, 2, 3, 4, 5, 6, 7] fun KR25 kr25 => ?_)))))))))
      refine wpS.q 0 67 (.pointer (some ⟨b1, 0, none⟩)) ?_
      refine wpS.tk 1 true (some 68) (.int .i64 a0_0) (yld_load1 (e := 3) (o := 0) hs 2 rfl (by kernel_rfl) (by kernel_rfl) (by rfl) .grow) ?_
      refine wpS.q 2 69 (.pointer (some ⟨b1, 1, none⟩)) ?_
      refine wpS.tk 3 true (some 70) (.int .i64 a0_1) (yld_load1 (e := 3) (o := 1) hs 2 rfl (by kernel_rfl) (by kernel_rfl) (by rfl) .grow) ?_
      refine wpS.q 4 71 (.slice a3_A a3_n a3_c) ?_
      obtain ⟨r14, hg, h⟩ := of_bind h
      refine wpS.only 5 (op_callH (d := (some 72)) (by kernel_rfl) hs (fun _ => by kernel_rfl) (kpke_noises.ok hg _ (hs.rowR 7 rfl) (hs.rowR 2 rfl) (hs.rowR 3 rfl) (hs.rowR 4 rfl)) ?_)
      rintro ⟨r14_A, r14_n, r14_c⟩ w gw hs
      have hs := hs.conv (L' := [.ownL (CA .i32 256 (by decide)) r14_A r14_n r14_c r14 32, .ownL CS y10_A y10_n y10_c y10_H 78, .ownL (CA .i32 256 (by decide)) r5_A r5_n r5_c r5 32, .blk b1 ([.int .i64 a0_0, .int .i64 a0_1, .int .i64 a0_2, .int .i64 a0_3, .int .i64 a0_4]) 23]) rfl
      refine ⟨fun _ => trivial, ?_⟩
      obtain ⟨r15, hg, h⟩ := of_bind h
      refine wpS.only 6 (op_callH (d := (some 73)) (by kernel_rfl) hs (fun _ => by kernel_rfl) (kpke_vector_parts.ok hg _ (hs.rowL 0 rfl)) ?_)
      rintro ⟨r15_A, r15_n, r15_c⟩ w gw hs
      have hs := hs.conv (L' := [.ownL (CA .i32 256 (by decide)) r15_A r15_n r15_c r15 32, .ownL (CA .i32 256 (by decide)) r14_A r14_n r14_c r14 32, .ownL CS y10_A y10_n y10_c y10_H 78, .ownL (CA .i32 256 (by decide)) r5_A r5_n r5_c r5 32, .blk b1 ([.int .i64 a0_0, .int .i64 a0_1, .int .i64 a0_2, .int .i64 a0_3, .int .i64 a0_4]) 23]) rfl
      refine ⟨fun _ => trivial, ?_⟩
      refine wpS.q 7 17 (.slice r15_A r15_n r15_c) ?_
      refine wpS.fin rfl (kr25 _ _ (then_n (ks24 _ _ (xseq_k fun KS26 ks26 => (xregS [0, 1, 2, 3, 4, 5, 6, 7, 8] fun KR27 kr27 => ?_)))))
      refine wpS.q 0 74 (.pointer (some ⟨b1, 0, none⟩)) ?_
      refine wpS.tk 1 true (some 75) (.int .i64 a0_0) (yld_load1 (e := 3) (o := 0) hs 4 rfl (by kernel_rfl) (by kernel_rfl) (by rfl) .grow) ?_
      refine wpS.q 2 76 (.pointer (some ⟨b1, 2, none⟩)) ?_
      refine wpS.tk 3 true (some 77) (.int .i64 a0_2) (yld_load1 (e := 3) (o := 2) hs 4 rfl (by kernel_rfl) (by kernel_rfl) (by rfl) .grow) ?_
      refine wpS.qs [(4, 78, .slice a3_A a3_n a3_c), (5, 79, .pointer (some ⟨b1, 0, none⟩))] ?_
      refine wpS.tk 6 true (some 80) (.int .i64 a0_0) (yld_load1 (e := 3) (o := 0) hs 4 rfl (by kernel_rfl) (by kernel_rfl) (by rfl) .grow) ?_
      obtain ⟨r16, hg, h⟩ := of_bind h
      refine wpS.only 7 (op_callH (d := (some 81)) (by kernel_rfl) hs (fun _ => by kernel_rfl) (kpke_noises.ok hg _ (hs.rowR 7 rfl) (hs.rowR 2 rfl) (hs.rowR 3 rfl) (hs.rowR 4 rfl)) ?_)
      rintro ⟨r16_A, r16_n, r16_c⟩ w gw hs
      have hs := hs.conv (L' := [.ownL (CA .i32 256 (by decide)) r16_A r16_n r16_c r16 32, .ownL (CA .i32 256 (by decide)) r15_A r15_n r15_c r15 32, .ownL (CA .i32 256 (by decide)) r14_A r14_n r14_c r14 32, .ownL CS y10_A y10_n y10_c y10_H 78, .ownL (CA .i32 256 (by decide)) r5_A r5_n r5_c r5 32, .blk b1 ([.int .i64 a0_0, .int .i64 a0_1, .int .i64 a0_2, .int .i64 a0_3, .int .i64 a0_4]) 23]) rfl
      refine ⟨fun _ => trivial, ?_⟩
      refine wpS.q 8 18 (.slice r16_A r16_n r16_c) ?_
      refine wpS.fin rfl (kr27 _ _ (then_n (ks26 _ _ (xseq_k fun KS28 ks28 => (xseq_k fun KS29 ks29 => (xregS [0, 1, 2] fun KR30 kr30 => ?_))))))
      refine wpS.q 0 82 (.slice y10_A y10_n y10_c) ?_
      refine wpS.tk 1 false (some 83) (.int .i64 (r8.length : Int)) (yld_lenLL (LLP.mk (hs.rowL 3 rfl) (hs.innR 0 rfl)) (fun _ => by kernel_rfl)) ?_
      refine wpS.q 2 84 (.int .i64 0) ?_
      refine wpS.fin rfl (kr30 _ _ (then_n (ks29 _ _ ?_)))
      obtain ⟨y19, hy, hk0⟩ := of_bind h
      refine wp_exq (N := fun a w => St w0 [] [.ownL (CA .i32 256 (by decide)) r16_A r16_n r16_c y19 32, .ownL (CA .i32 256 (by decide)) r15_A r15_n r15_c r15 32, .ownL (CA .i32 256 (by decide)) r14_A r14_n r14_c r14 32, .ownL CS y10_A y10_n y10_c y10_H 78, .ownL (CA .i32 256 (by decide)) r5_A r5_n r5_c r5 32, .blk b1 ([.int .i64 a0_0, .int .i64 a0_1, .int .i64 a0_2, .int .i64 a0_3, .int .i64 a0_4]) 23] [.inn (CA .i32 256 (by decide)) y10_H r8, .rowL (CI .u8) s7_A s7_n s7_c (subL a1 (isub .i64 r2 32) (a1.length : Int)), .rowL (CA .u64 24 (by decide)) (some ⟨0, 0, none⟩) 1 1 ([tab_0]), .rowL (CA .i64 24 (by decide)) (some ⟨1, 0, none⟩) 1 1 ([tab_1]), .rowL (CA .i64 24 (by decide)) (some ⟨2, 0, none⟩) 1 1 ([tab_2]), .rowL (CI .u8) a1_A a1_n a1_c a1, .rowL (CI .u8) a2_A a2_n a2_c a2, .rowL (CI .u8) a3_A a3_n a3_c a3] w ∧ ∃ g32 : Nat → Value, a = ⟨#[.agg #[.int .i64 a0_0, .int .i64 a0_1, .int .i64 a0_2, .int .i64 a0_3, .int .i64 a0_4], .slice a1_A a1_n a1_c, .slice a2_A a2_n a2_c, .slice a3_A a3_n a3_c, .pointer (some ⟨b1, 0, none⟩), undef, undef, undef, .slice none 0 0, .int .i64 0, .int .i64 r2, .int .i64 r3, .int .i64 r4, .slice r5_A r5_n r5_c, .bool true, .slice y10_A y10_n y10_c, .int .i64 r9, .slice r15_A r15_n r15_c, .slice r16_A r16_n r16_c, (g32 19), (g32 20), undef, .tuple #[.int .i64 r2, .int .i64 r3, .int .i64 r4], .agg #[.int .i64 a0_0, .int .i64 a0_1, .int .i64 a0_2, .int .i64 a0_3, .int .i64 a0_4], .tuple #[.int .i64 r2, .int .i64 r3, .int .i64 r4], .int .i64 r2, .int .i64 r3, .int .i64 r4, .bool false, .int .i64 r2, .bool false, .bool false, .slice a1_A a1_n a1_c, .int .i64 (a1.length : Int), .int .i64 r2, .bool false, .tuple #[.slice r5_A r5_n r5_c, .bool true], .slice a1_A a1_n a1_c, .pointer (some ⟨b1, 0, none⟩), .int .i64 a0_0, .tuple #[.slice r5_A r5_n r5_c, .bool true], .slice r5_A r5_n r5_c, .bool true, .bool false, .bool true, .bool false, .bool false, .slice a2_A a2_n a2_c, .int .i64 (a2.length : Int), .bool false, .bool false, .slice a3_A a3_n a3_c, .int .i64 (a3.length : Int), .bool false, .bool false, .tuple #[.slice y10_A y10_n y10_c, .int .i64 r9], .agg #[.int .i64 a0_0, .int .i64 a0_1, .int .i64 a0_2, .int .i64 a0_3, .int .i64 a0_4], .slice a1_A a1_n a1_c, .int .i64 r2, .int .i64 (isub .i64 r2 32), .slice s7_A s7_n s7_c, .tuple #[.slice y10_A y10_n y10_c, .int .i64 r9], .slice y10_A y10_n y10_c, .int .i64 r9, .int .i64 r9, .bool false, undef, .pointer (some ⟨b1, 0, none⟩), .int .i64 a0_0, .pointer (some ⟨b1, 1, none⟩), .int .i64 a0_1, .slice a3_A a3_n a3_c, .slice r14_A r14_n r14_c, .slice r15_A r15_n r15_c, .pointer (some ⟨b1, 0, none⟩), .int .i64 a0_0, .pointer (some ⟨b1, 2, none⟩), .int .i64 a0_2, .slice a3_A a3_n a3_c, .pointer (some ⟨b1, 0, none⟩), .int .i64 a0_0, .slice r16_A r16_n r16_c, .slice y10_A y10_n y10_c, .int .i64 (r8.length : Int), (g32 84), (g32 85), (g32 86), (g32 87), (g32 88), (g32 89), (g32 90), (g32 91), (g32 92), (g32 93), (g32 94), (g32 95), (g32 96), (g32 97), (g32 98), (g32 99), (g32 100), (g32 101), (g32 102), (g32 103), (g32 104), undef, undef, undef, undef, undef, undef, undef, undef, undef, undef, undef, undef, undef, undef, undef, undef, undef, undef, undef, undef, undef, undef, undef, undef, undef, undef, undef, undef, undef, undef], []⟩) (fun N0 nn0 => ?_) ?_
      ·clear hk0
       refine xblock ?_
       refine wp_loop_k (fun n a w => ∃ z17 z18, kpke_Encrypt.l0 K n a0_3 r8 r15 z17 z18 = some y19 ∧ St w0 [] [.ownL (CA .i32 256 (by decide)) r16_A r16_n r16_c z18 32, .ownL (CA .i32 256 (by decide)) r15_A r15_n r15_c r15 32, .ownL (CA .i32 256 (by decide)) r14_A r14_n r14_c r14 32, .ownL CS y10_A y10_n y10_c y10_H 78, .ownL (CA .i32 256 (by decide)) r5_A r5_n r5_c r5 32, .blk b1 ([.int .i64 a0_0, .int .i64 a0_1, .int .i64 a0_2, .int .i64 a0_3, .int .i64 a0_4]) 23] [.inn (CA .i32 256 (by decide)) y10_H r8, .rowL (CI .u8) s7_A s7_n s7_c (subL a1 (isub .i64 r2 32) (a1.length : Int)), .rowL (CA .u64 24 (by decide)) (some ⟨0, 0, none⟩) 1 1 ([tab_0]), .rowL (CA .i64 24 (by decide)) (some ⟨1, 0, none⟩) 1 1 ([tab_1]), .rowL (CA .i64 24 (by decide)) (some ⟨2, 0, none⟩) 1 1 ([tab_2]), .rowL (CI .u8) a1_A a1_n a1_c a1, .rowL (CI .u8) a2_A a2_n a2_c a2, .rowL (CI .u8) a3_A a3_n a3_c a3] w ∧ ∃ g31 : Nat → Value, a = ⟨#[.agg #[.int .i64 a0_0, .int .i64 a0_1, .int .i64 a0_2, .int .i64 a0_3, .int .i64 a0_4], .slice a1_A a1_n a1_c, .slice a2_A a2_n a2_c, .slice a3_A a3_n a3_c, .pointer (some ⟨b1, 0, none⟩), undef, undef, undef, .slice none 0 0, .int .i64 0, .int .i64 r2, .int .i64 r3, .int .i64 r4, .slice r5_A r5_n r5_c, .bool true, .slice y10_A y10_n y10_c, .int .i64 r9, .slice r15_A r15_n r15_c, .slice r16_A r16_n r16_c, (g31 19), (g31 20), undef, .tuple #[.int .i64 r2, .int .i64 r3, .int .i64 r4], .agg #[.int .i64 a0_0, .int .i64 a0_1, .int .i64 a0_2, .int .i64 a0_3, .int .i64 a0_4], .tuple #[.int .i64 r2, .int .i64 r3, .int .i64 r4], .int .i64 r2, .int .i64 r3, .int .i64 r4, .bool false, .int .i64 r2, .bool false, .bool false, .slice a1_A a1_n a1_c, .int .i64 (a1.length : Int), .int .i64 r2, .bool false, .tuple #[.slice r5_A r5_n r5_c, .bool true], .slice a1_A a1_n a1_c, .pointer (some ⟨b1, 0, none⟩), .int .i64 a0_0, .tuple #[.slice r5_A r5_n r5_c, .bool true], .slice r5_A r5_n r5_c, .bool true, .bool false, .bool true, .bool false, .bool false, .slice a2_A a2_n a2_c, .int .i64 (a2.length : Int), .bool false, .bool false, .slice a3_A a3_n a3_c, .int .i64 (a3.length : Int), .bool false, .bool false, .tuple #[.slice y10_A y10_n y10_c, .int .i64 r9], .agg #[.int .i64 a0_0, .int .i64 a0_1, .int .i64 a0_2, .int .i64 a0_3, .int .i64 a0_4], .slice a1_A a1_n a1_c, .int .i64 r2, .int .i64 (isub .i64 r2 32), .slice s7_A s7_n s7_c, .tuple #[.slice y10_A y10_n y10_c, .int .i64 r9], .slice y10_A y10_n y10_c, .int .i64 r9, .int .i64 r9, .bool false, undef, .pointer (some ⟨b1, 0, none⟩), .int .i64 a0_0, .pointer (some ⟨b1, 1, none⟩), .int .i64 a0_1, .slice a3_A a3_n a3_c, .slice r14_A r14_n r14_c, .slice r15_A r15_n r15_c, .pointer (some ⟨b1, 0, none⟩), .int .i64 a0_0, .pointer (some ⟨b1, 2, none⟩), .int .i64 a0_2, .slice a3_A a3_n a3_c, .pointer (some ⟨b1, 0, none⟩), .int .i64 a0_0, .slice r16_A r16_n r16_c, .slice y10_A y10_n y10_c, .int .i64 (r8.length : Int), .int .i64 z17, (g31 85), (g31 86), (g31 87), (g31 88), (g31 89), (g31 90), (g31 91), (g31 92), (g31 93), (g31 94), (g31 95), (g31 96), (g31 97), (g31 98), (g31 99), (g31 100), (g31 101), (g31 102), (g31 103), (g31 104), undef, undef, undef, undef, undef, undef, undef, undef, undef, undef, undef, undef, undef, undef, undef, undef, undef, undef, undef, undef, undef, undef, undef, undef, undef, undef, undef, undef, undef, undef], []⟩) K ⟨0, r16, hy, hs.conv rfl, exg (by kernel_rfl)⟩ ?_
       clear hs h hy
       rintro n a w ⟨z17, z18, h, hs, g31, rfl⟩ KL0 kl0
       cases n with
       | zero => exact nomatch (show none = some _ from h)
       | succ n =>
        refine xseq_k fun KS33 ks33 => ?_
        refine xregS [0] fun KR34 kr34 => ?_
        rcases of_if h with ⟨hc, h⟩ | ⟨hc, h⟩
        ·refine wpS.tk 0 false (some 85) (.bool true) (yld_b (dt hc) (fun _ => by kernel_rfl)) ?_
         refine wpS.fin rfl (kr34 _ _ (then_n (ks33 _ _ (xseq_k fun KS35 ks35 => (wp_cond_t (by kernel_rfl) (xskip (then_n (ks35 _ _ (xseq_k fun KS36 ks36 => (xblock (xseq_k fun KS37 ks37 => (xregS [0, 1, 2, 3, 4] fun KR38 kr38 => ?_))))))))))))
         refine wpS.q 0 86 (.int .i64 z17) ?_
         obtain ⟨h0, h⟩ := of_chk h
         obtain ⟨h1, h⟩ := of_chk h
         have i0_39 := h0
         have i1_39 := h1
         refine wpS.tk 1 false (some 87) (.pointer (adr y10_A ((z17 : Int).toNat * Cod.size CS))) (yld_idxLL (C := (CA .i32 256 (by decide))) (t := 74) (e := 78) (k := .i64) (x := z17) (LLP.mk (hs.rowL 3 rfl) (hs.innR 0 rfl)) (by kernel_rfl) (by kernel_rfl) (by kernel_rfl) h0 h1) ?_
         obtain ⟨s20_A, hA⟩ : ∃ A, A = (rdL CS y10_H z17).1 := ⟨_, rfl⟩
         obtain ⟨s20_n, hn⟩ : ∃ n, n = (rdL CS y10_H z17).2.1 := ⟨_, rfl⟩
         obtain ⟨s20_c, hc⟩ : ∃ c, c = (rdL CS y10_H z17).2.2 := ⟨_, rfl⟩
         refine wpS.tk 2 true (some 88) (.slice s20_A s20_n s20_c) (by subst hA hn hc; exact yld_loadLL (C := (CA .i32 256 (by decide))) (e := 78) (x := z17) (LLP.mk (hs.rowL 3 rfl) (hs.innR 0 rfl)) (by kernel_rfl) (by kernel_rfl) i0_39 i1_39) ?_
         have hs := hs.addInnI (C := (CA .i32 256 (by decide))) 0 rfl i0_39 i1_39 hA hn hc
         refine wpS.qs [(3, 19, .int .i64 z17), (4, 20, .slice s20_A s20_n s20_c)] ?_
         refine wpS.fin rfl (kr38 _ _ (then_n (ks37 _ _ ?_)))
         refine wp_regG [15] (fun k => True) 16 (by kernel_rfl) (by kernel_rfl) (by kernel_rfl) fun KR40 kr40 => ?_
         have hs := hs.drawn1
         refine wpG.q 0 89 (.slice r16_A r16_n r16_c) ?_
         refine wpG.q 1 90 (.int .i64 z17) ?_
         refine wpG.q 2 91 (.slice r16_A r16_n r16_c) ?_
         refine wpG.q 3 92 (.int .i64 z17) ?_
         obtain ⟨h0, h⟩ := of_chk h
         obtain ⟨h1, h⟩ := of_chk h
         have i0_41 := h0
         have i1_41 := h1
         refine wpG.tD 4 false (some 93) (.pointer (adr r16_A ((z17 : Int).toNat * Cod.size (CA .i32 256 (by decide))))) (yld_idxL (C := (CA .i32 256 (by decide))) (t := 78) (e := 32) (k := .i64) (x := z17) (hs.rowL 0 rfl) (by kernel_rfl) (by kernel_rfl) (by kernel_rfl) h0 h1) ?_
         refine wpG.tD 5 true (some 94) (.agg (enc .i32 (rdL (CA .i32 256 (by decide)) z18 z17)).toArray) (yld_loadLA (C := (CA .i32 256 (by decide))) (e := 32) (x := z17) (hs.rowL 0 rfl) (by kernel_rfl) rfl (by kernel_rfl) (by kernel_rfl) i0_41 i1_41) ?_
         refine wpG.q 6 95 (.slice s20_A s20_n s20_c) ?_
         refine wpG.q 7 96 (.slice r15_A r15_n r15_c) ?_
         refine wpG.q 11 100 (.pointer (some ⟨b1, 3, none⟩)) ?_
         refine wpG.tD 12 true (some 101) (.int .i64 a0_3) (yld_load1 (e := 3) (o := 3) hs 5 rfl (by kernel_rfl) (by kernel_rfl) (by rfl) .grow) ?_
         obtain ⟨r21, hg, h⟩ := of_bind h
         refine wpG.only 8 (by kernel_rfl) (op_call (d := (some 97)) (by kernel_rfl) hs (fun _ => by kernel_rfl) (kpke_vector_dot.ok hg _ (hs.rowR 0 rfl) (hs.rowL 1 rfl)) ?_)
         intro w gw hs
         refine ⟨.of gw, ?_⟩
         obtain ⟨r22, hg, h⟩ := of_bind h
         refine wpG.only 9 (by kernel_rfl) (op_call (d := (some 98)) (by kernel_rfl) hs (fun _ => by kernel_rfl) (kq_Back.ok hg _) ?_)
         intro w gw hs
         refine ⟨.of gw, ?_⟩
         obtain ⟨r23, hg, h⟩ := of_bind h
         refine wpG.only 10 (by kernel_rfl) (op_call (d := (some 99)) (by kernel_rfl) hs (fun _ => by kernel_rfl) (kq_Add.ok hg _) ?_)
         intro w gw hs
         refine ⟨.of gw, ?_⟩
         obtain ⟨r24, hg, h⟩ := of_bind h
         refine wpG.only 13 (by kernel_rfl) (op_call (d := (some 102)) (by kernel_rfl) hs (fun _ => by kernel_rfl) (kq_Squeeze.ok hg _) ?_)
         intro w gw hs
         refine ⟨.of gw, ?_⟩
         obtain ⟨h0, h⟩ := of_chk h
         obtain ⟨h1, h⟩ := of_chk h
         have i0_42 := h0
         have i1_42 := h1
         refine wpG.tD 14 false (some 103) (.pointer (adr r16_A ((z17 : Int).toNat * Cod.size (CA .i32 256 (by decide))))) (yld_idxL (C := (CA .i32 256 (by decide))) (t := 78) (e := 32) (k := .i64) (x := z17) (hs.rowL 0 rfl) (by kernel_rfl) (by kernel_rfl) (by kernel_rfl) h0 h1) ?_
         refine wpG.only 15 (by kernel_rfl) (op_storeL (C := (CA .i32 256 (by decide))) (t := 32) (x := z17) (v := r24) (d := none) (by kernel_rfl) hs 0 rfl (by kernel_rfl) (by kernel_rfl) i0_42 i1_42 ?_)
         intro w hs
         refine ⟨⟨fun hf => absurd hf (by decide), .all _ _⟩, ?_⟩
         refine wpG.fin (by kernel_rfl) rfl (kr40 _ _ ?_)
         refine inBlock_n (then_n (ks36 _ _ (xregS [0, 1] fun KR43 kr43 => ?_)))
         refine wpS.qs [(0, 104, .int .i64 (iadd .i64 z17 1)), (1, 84, .int .i64 (iadd .i64 z17 1))] ?_
         refine wpS.fin rfl (kr43 _ _ ?_)
         exact then_n (kl0 _ _ ⟨n, Nat.lt_succ_self n, (iadd .i64 z17 1), (wrL z18 z17 r24), h, (hs.pickR (pick_cons 1 rfl (pick_cons 2 rfl (pick_cons 3 rfl (pick_cons 4 rfl (pick_cons 5 rfl (pick_cons 6 rfl (pick_cons 7 rfl (pick_cons 8 rfl pick_nil))))))))), exg (by kernel_rfl)⟩)
        refine wpS.tk 0 false (some 85) (.bool false) (yld_b (df hc) (fun _ => by kernel_rfl)) ?_
        refine wpS.fin rfl (kr34 _ _ (then_n (ks33 _ _ (xseq_k fun KS44 ks44 => (wp_cond_f (by kernel_rfl) (xexit (then_x (then_x (inBlock_hit ?_)))))))))
        have q0 := of_some h
        subst q0
        exact exq_n (nn0 _ _ ⟨(hs.conv rfl), exg (by kernel_rfl)⟩)
      clear hs h hy
      rintro a w ⟨hs, g32, rfl⟩
      have h := hk0
      refine then_n (ks28 _ _ (xseq_k fun KS45 ks45 => ?_))
      obtain ⟨y26, hj, h⟩ := of_bind h
      refine wp_join (N := fun a w => ∃ (b25 : Nat), St w0 [] [.blk b25 (enc .i32 y26) 32, .ownL (CA .i32 256 (by decide)) r16_A r16_n r16_c y19 32, .ownL (CA .i32 256 (by decide)) r15_A r15_n r15_c r15 32, .ownL (CA .i32 256 (by decide)) r14_A r14_n r14_c r14 32, .ownL CS y10_A y10_n y10_c y10_H 78, .ownL (CA .i32 256 (by decide)) r5_A r5_n r5_c r5 32, .blk b1 ([.int .i64 a0_0, .int .i64 a0_1, .int .i64 a0_2, .int .i64 a0_3, .int .i64 a0_4]) 23] [.inn (CA .i32 256 (by decide)) y10_H r8, .rowL (CI .u8) s7_A s7_n s7_c (subL a1 (isub .i64 r2 32) (a1.length : Int)), .rowL (CA .u64 24 (by decide)) (some ⟨0, 0, none⟩) 1 1 ([tab_0]), .rowL (CA .i64 24 (by decide)) (some ⟨1, 0, none⟩) 1 1 ([tab_1]), .rowL (CA .i64 24 (by decide)) (some ⟨2, 0, none⟩) 1 1 ([tab_2]), .rowL (CI .u8) a1_A a1_n a1_c a1, .rowL (CI .u8) a2_A a2_n a2_c a2, .rowL (CI .u8) a3_A a3_n a3_c a3] w ∧ ∃ g46 : Nat → Value, a = ⟨#[.agg #[.int .i64 a0_0, .int .i64 a0_1, .int .i64 a0_2, .int .i64 a0_3, .int .i64 a0_4], .slice a1_A a1_n a1_c, .slice a2_A a2_n a2_c, .slice a3_A a3_n a3_c, .pointer (some ⟨b1, 0, none⟩), undef, undef, undef, .slice none 0 0, .int .i64 0, .int .i64 r2, .int .i64 r3, .int .i64 r4, .slice r5_A r5_n r5_c, .bool true, .slice y10_A y10_n y10_c, .int .i64 r9, .slice r15_A r15_n r15_c, .slice r16_A r16_n r16_c, (g32 19), (g32 20), .pointer (some ⟨b25, 0, none⟩), .tuple #[.int .i64 r2, .int .i64 r3, .int .i64 r4], .agg #[.int .i64 a0_0, .int .i64 a0_1, .int .i64 a0_2, .int .i64 a0_3, .int .i64 a0_4], .tuple #[.int .i64 r2, .int .i64 r3, .int .i64 r4], .int .i64 r2, .int .i64 r3, .int .i64 r4, .bool false, .int .i64 r2, .bool false, .bool false, .slice a1_A a1_n a1_c, .int .i64 (a1.length : Int), .int .i64 r2, .bool false, .tuple #[.slice r5_A r5_n r5_c, .bool true], .slice a1_A a1_n a1_c, .pointer (some ⟨b1, 0, none⟩), .int .i64 a0_0, .tuple #[.slice r5_A r5_n r5_c, .bool true], .slice r5_A r5_n r5_c, .bool true, .bool false, .bool true, .bool false, .bool false, .slice a2_A a2_n a2_c, .int .i64 (a2.length : Int), .bool false, .bool false, .slice a3_A a3_n a3_c, .int .i64 (a3.length : Int), .bool false, .bool false, .tuple #[.slice y10_A y10_n y10_c, .int .i64 r9], .agg #[.int .i64 a0_0, .int .i64 a0_1, .int .i64 a0_2, .int .i64 a0_3, .int .i64 a0_4], .slice a1_A a1_n a1_c, .int .i64 r2, .int .i64 (isub .i64 r2 32), .slice s7_A s7_n s7_c, .tuple #[.slice y10_A y10_n y10_c, .int .i64 r9], .slice y10_A y10_n y10_c, .int .i64 r9, .int .i64 r9, .bool false, undef, .pointer (some ⟨b1, 0, none⟩), .int .i64 a0_0, .pointer (some ⟨b1, 1, none⟩), .int .i64 a0_1, .slice a3_A a3_n a3_c, .slice r14_A r14_n r14_c, .slice r15_A r15_n r15_c, .pointer (some ⟨b1, 0, none⟩), .int .i64 a0_0, .pointer (some ⟨b1, 2, none⟩), .int .i64 a0_2, .slice a3_A a3_n a3_c, .pointer (some ⟨b1, 0, none⟩), .int .i64 a0_0, .slice r16_A r16_n r16_c, .slice y10_A y10_n y10_c, .int .i64 (r8.length : Int), (g32 84), (g32 85), (g32 86), (g32 87), (g32 88), (g32 89), (g32 90), (g32 91), (g32 92), (g32 93), (g32 94), (g32 95), (g32 96), (g32 97), (g32 98), (g32 99), (g32 100), (g32 101), (g32 102), (g32 103), (g32 104), (g46 105), (g46 106), (g46 107), (g46 108), (g46 109), (g46 110), (g46 111), (g46 112), (g46 113), (g46 114), (g46 115), (g46 116), (g46 117), undef, undef, undef, undef, undef, undef, undef, undef, undef, undef, undef, undef, undef, undef, undef, undef, undef], []⟩) (fun N nj => ?_) ?_
      ·clear h
       have h := hj
       refine wp_regG [14] (fun k => True) 15 (by kernel_rfl) (by kernel_rfl) (by kernel_rfl) fun KR47 kr47 => ?_
       have hs := hs.drawn1
       refine wpG.q 0 105 (.slice r5_A r5_n r5_c) ?_
       refine wpG.q 1 106 (.slice r15_A r15_n r15_c) ?_
       refine wpG.q 4 109 (.pointer (some ⟨b1, 2, none⟩)) ?_
       refine wpG.tD 5 true (some 110) (.int .i64 a0_2) (yld_load1 (e := 3) (o := 2) hs 5 rfl (by kernel_rfl) (by kernel_rfl) (by rfl) .grow) ?_
       refine wpG.q 6 111 (.slice a3_A a3_n a3_c) ?_
       refine wpG.q 7 112 (.pointer (some ⟨b1, 0, none⟩)) ?_
       refine wpG.tD 8 true (some 113) (.int .i64 a0_0) (yld_load1 (e := 3) (o := 0) hs 5 rfl (by kernel_rfl) (by kernel_rfl) (by rfl) .grow) ?_
       refine wpG.q 9 114 (.int .i64 (imul .i64 2 a0_0)) ?_
       refine wpG.q 10 115 (.int .u8 (iconv .u8 (imul .i64 2 a0_0))) ?_
       refine wpG.many [2, 13] (by kernel_rfl) (by decide) (forall_cons ?_ (forall_cons ?_ forall_nil))
       ·obtain ⟨r27, hg, h⟩ := of_bind h
        refine (op_call (d := (some 107)) (by kernel_rfl) hs (fun _ => by kernel_rfl) (kpke_vector_dot.ok hg _ (hs.rowL 4 rfl) (hs.rowL 1 rfl)) ?_)
        intro w gw hs
        refine ⟨.of gw, ?_⟩
        refine wpG.many [3, 13] (by kernel_rfl) (by decide) (forall_cons ?_ (forall_cons ?_ forall_nil))
        ·obtain ⟨r28, hg, h⟩ := of_bind h
         refine (op_call (d := (some 108)) (by kernel_rfl) hs (fun _ => by kernel_rfl) (kq_Back.ok hg _) ?_)
         intro w gw hs
         refine ⟨.of gw, ?_⟩
         refine wpG.many [11, 13] (by kernel_rfl) (by decide) (forall_cons ?_ (forall_cons ?_ forall_nil))
         ·obtain ⟨r29, hg, h⟩ := of_bind h
          refine (op_call (d := (some 116)) (by kernel_rfl) hs (fun _ => by kernel_rfl) (kpke_Noise.ok hg _ (hs.rowR 7 rfl) (hs.rowR 2 rfl) (hs.rowR 3 rfl) (hs.rowR 4 rfl)) ?_)
          intro w gw hs
          refine ⟨.of gw, ?_⟩
          refine wpG.many [12, 13] (by kernel_rfl) (by decide) (forall_cons ?_ (forall_cons ?_ forall_nil))
          ·obtain ⟨r30, hg, h⟩ := of_bind h
           refine (op_call (d := (some 117)) (by kernel_rfl) hs (fun _ => by kernel_rfl) (kq_Add.ok hg _) ?_)
           intro w gw hs
           refine ⟨.of gw, ?_⟩
           refine wpG.only 13 (by kernel_rfl) (op_alloc (t := 32) (d := (some 21)) (by kernel_rfl) hs (enc .i32 (zeroA 256)) (.agg (enc .i32 (zeroA 256)).toArray) (by kernel_rfl) (by kernel_rfl) (by kernel_rfl) ?_)
           intro b31 w gw hs
           refine ⟨.of gw, ?_⟩
           refine wpG.only 14 (by kernel_rfl) (op_storeW (t := 32) (v := .agg (enc .i32 r30).toArray) (d := none) (by kernel_rfl) hs 0 rfl (vs := enc .i32 r30) (n := 256) (by kernel_rfl) (by kernel_rfl) (by kernel_rfl) (by simp [enc_len]) (by simp [enc_len]) (by intro u hu; exact enc_one _ _ u hu) ?_)
           intro w kp hs
           refine ⟨⟨fun hf => absurd hf (by decide), .all _ _⟩, ?_⟩
           refine wpG.fin (by kernel_rfl) rfl (kr47 _ _ ?_)
           have q0 := of_some h
           subst q0
           exact nj _ _ ⟨b31, (hs.conv rfl), exg (by kernel_rfl)⟩
          refine (op_alloc (t := 32) (d := (some 21)) (by kernel_rfl) hs (enc .i32 (zeroA 256)) (.agg (enc .i32 (zeroA 256)).toArray) (by kernel_rfl) (by kernel_rfl) (by kernel_rfl) ?_)
          intro b32 w gw hs
          refine ⟨.of gw, ?_⟩
          obtain ⟨r33, hg, h⟩ := of_bind h
          refine wpG.only 12 (by kernel_rfl) (op_call (d := (some 117)) (by kernel_rfl) hs (fun _ => by kernel_rfl) (kq_Add.ok hg _) ?_)
          intro w gw hs
          refine ⟨.of gw, ?_⟩
          refine wpG.only 14 (by kernel_rfl) (op_storeW (t := 32) (v := .agg (enc .i32 r33).toArray) (d := none) (by kernel_rfl) hs 0 rfl (vs := enc .i32 r33) (n := 256) (by kernel_rfl) (by kernel_rfl) (by kernel_rfl) (by simp [enc_len]) (by simp [enc_len]) (by intro u hu; exact enc_one _ _ u hu) ?_)
          intro w kp hs
          refine ⟨⟨fun hf => absurd hf (by decide), .all _ _⟩, ?_⟩
          refine wpG.fin (by kernel_rfl) rfl (kr47 _ _ ?_)
          have q0 := of_some h
          subst q0
          exact nj _ _ ⟨b32, (hs.conv rfl), exg (by kernel_rfl)⟩
         refine (op_alloc (t := 32) (d := (some 21)) (by kernel_rfl) hs (enc .i32 (zeroA 256)) (.agg (enc .i32 (zeroA 256)).toArray) (by kernel_rfl) (by kernel_rfl) (by kernel_rfl) ?_)
         intro b34 w gw hs
         refine ⟨.of gw, ?_⟩
         obtain ⟨r35, hg, h⟩ := of_bind h
         refine wpG.only 11 (by kernel_rfl) (op_call (d := (some 116)) (by kernel_rfl) hs (fun _ => by kernel_rfl) (kpke_Noise.ok hg _ (hs.rowR 7 rfl) (hs.rowR 2 rfl) (hs.rowR 3 rfl) (hs.rowR 4 rfl)) ?_)
         intro w gw hs
         refine ⟨.of gw, ?_⟩
         obtain ⟨r36, hg, h⟩ := of_bind h
         refine wpG.only 12 (by kernel_rfl) (op_call (d := (some 117)) (by kernel_rfl) hs (fun _ => by kernel_rfl) (kq_Add.ok hg _) ?_)
         intro w gw hs
         refine ⟨.of gw, ?_⟩
         refine wpG.only 14 (by kernel_rfl) (op_storeW (t := 32) (v := .agg (enc .i32 r36).toArray) (d := none) (by kernel_rfl) hs 0 rfl (vs := enc .i32 r36) (n := 256) (by kernel_rfl) (by kernel_rfl) (by kernel_rfl) (by simp [enc_len]) (by simp [enc_len]) (by intro u hu; exact enc_one _ _ u hu) ?_)
         intro w kp hs
         refine ⟨⟨fun hf => absurd hf (by decide), .all _ _⟩, ?_⟩
         refine wpG.fin (by kernel_rfl) rfl (kr47 _ _ ?_)
         have q0 := of_some h
         subst q0
         exact nj _ _ ⟨b34, (hs.conv rfl), exg (by kernel_rfl)⟩
        refine (op_alloc (t := 32) (d := (some 21)) (by kernel_rfl) hs (enc .i32 (zeroA 256)) (.agg (enc .i32 (zeroA 256)).toArray) (by kernel_rfl) (by kernel_rfl) (by kernel_rfl) ?_)
        intro b37 w gw hs
        refine ⟨.of gw, ?_⟩
        obtain ⟨r38, hg, h⟩ := of_bind h
        refine wpG.only 3 (by kernel_rfl) (op_call (d := (some 108)) (by kernel_rfl) hs (fun _ => by kernel_rfl) (kq_Back.ok hg _) ?_)
        intro w gw hs
        refine ⟨.of gw, ?_⟩
        obtain ⟨r39, hg, h⟩ := of_bind h
        refine wpG.only 11 (by kernel_rfl) (op_call (d := (some 116)) (by kernel_rfl) hs (fun _ => by kernel_rfl) (kpke_Noise.ok hg _ (hs.rowR 7 rfl) (hs.rowR 2 rfl) (hs.rowR 3 rfl) (hs.rowR 4 rfl)) ?_)
        intro w gw hs
        refine ⟨.of gw, ?_⟩
        obtain ⟨r40, hg, h⟩ := of_bind h
        refine wpG.only 12 (by kernel_rfl) (op_call (d := (some 117)) (by kernel_rfl) hs (fun _ => by kernel_rfl) (kq_Add.ok hg _) ?_)
        intro w gw hs
        refine ⟨.of gw, ?_⟩
        refine wpG.only 14 (by kernel_rfl) (op_storeW (t := 32) (v := .agg (enc .i32 r40).toArray) (d := none) (by kernel_rfl) hs 0 rfl (vs := enc .i32 r40) (n := 256) (by kernel_rfl) (by kernel_rfl) (by kernel_rfl) (by simp [enc_len]) (by simp [enc_len]) (by intro u hu; exact enc_one _ _ u hu) ?_)
        intro w kp hs
        refine ⟨⟨fun hf => absurd hf (by decide), .all _ _⟩, ?_⟩
        refine wpG.fin (by kernel_rfl) rfl (kr47 _ _ ?_)
        have q0 := of_some h
        subst q0
        exact nj _ _ ⟨b37, (hs.conv rfl), exg (by kernel_rfl)⟩
       refine (op_alloc (t := 32) (d := (some 21)) (by kernel_rfl) hs (enc .i32 (zeroA 256)) (.agg (enc .i32 (zeroA 256)).toArray) (by kernel_rfl) (by kernel_rfl) (by kernel_rfl) ?_)
       intro b41 w gw hs
       refine ⟨.of gw, ?_⟩
       obtain ⟨r42, hg, h⟩ := of_bind h
       refine wpG.only 2 (by kernel_rfl) (op_call (d := (some 107)) (by kernel_rfl) hs (fun _ => by kernel_rfl) (kpke_vector_dot.ok hg _ (hs.rowL 5 rfl) (hs.rowL 2 rfl)) ?_)
       intro w gw hs
       refine ⟨.of gw, ?_⟩
       obtain ⟨r43, hg, h⟩ := of_bind h
       refine wpG.only 3 (by kernel_rfl) (op_call (d := (some 108)) (by kernel_rfl) hs (fun _ => by kernel_rfl) (kq_Back.ok hg _) ?_)
       intro w gw hs
       refine ⟨.of gw, ?_⟩
       obtain ⟨r44, hg, h⟩ := of_bind h
       refine wpG.only 11 (by kernel_rfl) (op_call (d := (some 116)) (by kernel_rfl) hs (fun _ => by kernel_rfl) (kpke_Noise.ok hg _ (hs.rowR 7 rfl) (hs.rowR 2 rfl) (hs.rowR 3 rfl) (hs.rowR 4 rfl)) ?_)
       intro w gw hs
       refine ⟨.of gw, ?_⟩
       obtain ⟨r45, hg, h⟩ := of_bind h
       refine wpG.only 12 (by kernel_rfl) (op_call (d := (some 117)) (by kernel_rfl) hs (fun _ => by kernel_rfl) (kq_Add.ok hg _) ?_)
       intro w gw hs
       refine ⟨.of gw, ?_⟩
       refine wpG.only 14 (by kernel_rfl) (op_storeW (t := 32) (v := .agg (enc .i32 r45).toArray) (d := none) (by kernel_rfl) hs 0 rfl (vs := enc .i32 r45) (n := 256) (by kernel_rfl) (by kernel_rfl) (by kernel_rfl) (by simp [enc_len]) (by simp [enc_len]) (by intro u hu; exact enc_one _ _ u hu) ?_)
       intro w kp hs
       refine ⟨⟨fun hf => absurd hf (by decide), .all _ _⟩, ?_⟩
       refine wpG.fin (by kernel_rfl) rfl (kr47 _ _ ?_)
       have q0 := of_some h
       subst q0
       exact nj _ _ ⟨b41, (hs.conv rfl), exg (by kernel_rfl)⟩
      clear hj hs
      rintro a w ⟨b25, hs, g46, rfl⟩
      refine then_n (ks45 _ _ (xseq_k fun KS48 ks48 => ?_))
      refine wp_regG [7] (fun k => True) 8 (by kernel_rfl) (by kernel_rfl) (by kernel_rfl) fun KR49 kr49 => ?_
      have hs := hs.drawn1
      refine wpG.tD 0 true (some 118) (.agg (enc .i32 y26).toArray) (yld_loadW (e := 32) (n := 256) hs 0 rfl (by kernel_rfl) (by kernel_rfl) (by kernel_rfl) (by exact enc_len _ _) .grow) ?_
      refine wpG.q 1 119 (.slice a2_A a2_n a2_c) ?_
      refine wpG.q 4 122 (.pointer (some ⟨b1, 4, none⟩)) ?_
      refine wpG.tD 5 true (some 123) (.int .i64 a0_4) (yld_load1 (e := 3) (o := 4) hs 6 rfl (by kernel_rfl) (by kernel_rfl) (by rfl) .grow) ?_
      obtain ⟨r46, hg, h⟩ := of_bind h
      refine wpG.only 2 (by kernel_rfl) (op_call (d := (some 120)) (by kernel_rfl) hs (fun _ => by kernel_rfl) (kpke_spread.ok hg _ (hs.rowR 6 rfl)) ?_)
      intro w gw hs
      refine ⟨.of gw, ?_⟩
      obtain ⟨r47, hg, h⟩ := of_bind h
      refine wpG.only 3 (by kernel_rfl) (op_call (d := (some 121)) (by kernel_rfl) hs (fun _ => by kernel_rfl) (kq_Add.ok hg _) ?_)
      intro w gw hs
      refine ⟨.of gw, ?_⟩
      obtain ⟨r48, hg, h⟩ := of_bind h
      refine wpG.only 6 (by kernel_rfl) (op_call (d := (some 124)) (by kernel_rfl) hs (fun _ => by kernel_rfl) (kq_Squeeze.ok hg _) ?_)
      intro w gw hs
      refine ⟨.of gw, ?_⟩
      refine wpG.only 7 (by kernel_rfl) (op_storeW (t := 32) (v := .agg (enc .i32 r48).toArray) (d := none) (by kernel_rfl) hs 0 rfl (vs := enc .i32 r48) (n := 256) (by kernel_rfl) (by kernel_rfl) (by kernel_rfl) (by simp [enc_len]) (by simp [enc_len]) (by intro u hu; exact enc_one _ _ u hu) ?_)
      intro w kp hs
      refine ⟨⟨fun hf => absurd hf (by decide), .all _ _⟩, ?_⟩
      refine wpG.fin (by kernel_rfl) rfl (kr49 _ _ ?_)
      refine then_n (ks48 _ _ (xseq_k fun KS50 ks50 => ?_))
      refine wp_regG [] (fun k => True) 12 (by kernel_rfl) (by kernel_rfl) (by kernel_rfl) fun KR51 kr51 => ?_
      have hs := hs.drawn1
      refine wpG.q 0 125 (.slice r16_A r16_n r16_c) ?_
      refine wpG.q 1 126 (.pointer (some ⟨b1, 3, none⟩)) ?_
      refine wpG.tD 2 true (some 127) (.int .i64 a0_3) (yld_load1 (e := 3) (o := 3) hs 6 rfl (by kernel_rfl) (by kernel_rfl) (by rfl) .grow) ?_
      refine wpG.tD 4 true (some 129) (.agg (enc .i32 r48).toArray) (yld_loadW (e := 32) (n := 256) hs 0 rfl (by kernel_rfl) (by kernel_rfl) (by kernel_rfl) (by exact enc_len _ _) .grow) ?_
      refine wpG.q 5 130 (.pointer (some ⟨b1, 4, none⟩)) ?_
      refine wpG.tD 6 true (some 131) (.int .i64 a0_4) (yld_load1 (e := 3) (o := 4) hs 6 rfl (by kernel_rfl) (by kernel_rfl) (by rfl) .grow) ?_
      obtain ⟨r49, hg, h⟩ := of_bind h
      refine wpG.only 3 (by kernel_rfl) (op_callH (d := (some 128)) (by kernel_rfl) hs (fun _ => by kernel_rfl) (kpke_vector_packed.ok hg _ (hs.rowL 1 rfl)) ?_)
      rintro ⟨r49_A, r49_n, r49_c⟩ w gw hs
      have hs := hs.conv (L' := [.ownL (CI .u8) r49_A r49_n r49_c r49 5, .blk b25 (enc .i32 r48) 32, .ownL (CA .i32 256 (by decide)) r16_A r16_n r16_c y19 32, .ownL (CA .i32 256 (by decide)) r15_A r15_n r15_c r15 32, .ownL (CA .i32 256 (by decide)) r14_A r14_n r14_c r14 32, .ownL CS y10_A y10_n y10_c y10_H 78, .ownL (CA .i32 256 (by decide)) r5_A r5_n r5_c r5 32, .blk b1 ([.int .i64 a0_0, .int .i64 a0_1, .int .i64 a0_2, .int .i64 a0_3, .int .i64 a0_4]) 23]) rfl
      refine ⟨.of gw, ?_⟩
      obtain ⟨r50, hg, h⟩ := of_bind h
      refine wpG.only 7 (by kernel_rfl) (op_callH (d := (some 132)) (by kernel_rfl) hs (fun _ => by kernel_rfl) (kq_Pack.ok hg _) ?_)
      rintro ⟨r50_A, r50_n, r50_c⟩ w gw hs
      have hs := hs.conv (L' := [.ownL (CI .u8) r50_A r50_n r50_c r50 5, .ownL (CI .u8) r49_A r49_n r49_c r49 5, .blk b25 (enc .i32 r48) 32, .ownL (CA .i32 256 (by decide)) r16_A r16_n r16_c y19 32, .ownL (CA .i32 256 (by decide)) r15_A r15_n r15_c r15 32, .ownL (CA .i32 256 (by decide)) r14_A r14_n r14_c r14 32, .ownL CS y10_A y10_n y10_c y10_H 78, .ownL (CA .i32 256 (by decide)) r5_A r5_n r5_c r5 32, .blk b1 ([.int .i64 a0_0, .int .i64 a0_1, .int .i64 a0_2, .int .i64 a0_3, .int .i64 a0_4]) 23]) rfl
      refine ⟨.of gw, ?_⟩
      refine wpG.only 8 (by kernel_rfl) (op_lit (C := CS) (t := 59) (e := 24) (len := 2) (parts := #[(0, .slice r49_A r49_n r49_c), (1, .slice r50_A r50_n r50_c)]) (l := ([(r49_A, r49_n, r49_c), (r50_A, r50_n, r50_c)] : List HS)) (d := (some 133)) (by kernel_rfl) hs (by kernel_rfl) (by kernel_rfl) (by kernel_rfl) (z := .slice none 0 0) (by kernel_rfl) rfl (by decide) (by decide) (by kernel_rfl) ?_)
      intro s51_A s51_n s51_c w gw hs
      refine ⟨.of gw, ?_⟩
      obtain ⟨r52, hg, h⟩ := of_bind h
      refine wpG.only 9 (by kernel_rfl) (op_callH (d := (some 134)) (by kernel_rfl) hs (fun _ => by kernel_rfl) (bits_Join.ok hg _ (LLP.mk (hs.rowL 0 rfl) (inn_cons (hs.rowL 2 rfl) (inn_cons (hs.rowL 1 rfl) inn_nil)))) ?_)
      rintro ⟨r52_A, r52_n, r52_c⟩ w gw hs
      have hs := hs.conv (L' := [.ownL (CI .u8) r52_A r52_n r52_c r52 5, .ownL CS s51_A s51_n s51_c ([(r49_A, r49_n, r49_c), (r50_A, r50_n, r50_c)] : List HS) 24, .ownL (CI .u8) r50_A r50_n r50_c r50 5, .ownL (CI .u8) r49_A r49_n r49_c r49 5, .blk b25 (enc .i32 r48) 32, .ownL (CA .i32 256 (by decide)) r16_A r16_n r16_c y19 32, .ownL (CA .i32 256 (by decide)) r15_A r15_n r15_c r15 32, .ownL (CA .i32 256 (by decide)) r14_A r14_n r14_c r14 32, .ownL CS y10_A y10_n y10_c y10_H 78, .ownL (CA .i32 256 (by decide)) r5_A r5_n r5_c r5 32, .blk b1 ([.int .i64 a0_0, .int .i64 a0_1, .int .i64 a0_2, .int .i64 a0_3, .int .i64 a0_4]) 23]) rfl
      refine ⟨.of gw, ?_⟩
      refine wpG.q 10 8 (.slice r52_A r52_n r52_c) ?_
      refine wpG.q 11 9 (.int .i64 0) ?_
      refine wpG.fin (by kernel_rfl) rfl (kr51 _ _ ?_)
      refine then_n (ks50 _ _ (xret ?_))
      obtain ⟨q0, qr0⟩ := Prod.mk.inj (of_some h)
      have q1 := qr0
      subst q0
      subst q1
      exact qq _ _ (post_ret (by kernel_rfl) (run_results [.tmp 8, .tmp 9] [.slice r52_A r52_n r52_c, .int .i64 0] (by kernel_rfl) (.cons (res_tmp (by kernel_rfl)) (.cons (res_tmp (by kernel_rfl)) .nil))) ⟨⟨r52_A, r52_n, r52_c⟩, congrArg Ending.returned (by kernel_rfl), ((hs.drop (.cons_cons _ (.cons _ (.cons _ (.cons _ (.cons _ (.cons _ (.cons _ (.cons _ (.cons _ (.cons _ (.cons _ .slnil)))))))))))).pickR pick_nil)⟩)
     refine wpS.tk 1 false (some 65) (.bool true) (yld_b (nt hc) (fun _ => by kernel_rfl)) ?_
     refine wpS.fin rfl (kr23 _ _ (then_n (ks22 _ _ (wp_cond_t (by kernel_rfl) (xseq_k fun KS52 ks52 => (xregS [0, 1, 2] fun KR53 kr53 => ?_))))))
     refine wpS.qs [(0, 66, .int .i64 r9), (1, 8, .slice none 0 0), (2, 9, .int .i64 r9)] ?_
     refine wpS.fin rfl (kr53 _ _ (then_n (ks52 _ _ (xret (then_r ?_)))))
     obtain ⟨q0, qr0⟩ := Prod.mk.inj (of_some h)
     have q1 := qr0
     subst q0
     subst q1
     have hs := hs.addNilL (CI .u8) 5
     exact qq _ _ (post_ret (by kernel_rfl) (run_results [.tmp 8, .tmp 9] [.slice none 0 0, .int .i64 r9] (by kernel_rfl) (.cons (res_tmp (by kernel_rfl)) (.cons (res_tmp (by kernel_rfl)) .nil))) ⟨⟨none, 0, 0⟩, congrArg Ending.returned (by kernel_rfl), ((hs.drop (.cons_cons _ (.cons _ (.cons _ (.cons _ .slnil))))).pickR pick_nil)⟩)
    refine wpS.tk 6 false (some 53) (.bool true) (yld_b (nt hc) (fun _ => by kernel_rfl)) ?_
    refine wpS.qs [(7, 54, .bool true), (8, 46, .bool true)] ?_
    refine wpS.fin rfl (kr18 _ _ (then_n (ks17 _ _ (wp_cond_t (by kernel_rfl) (xseq_k fun KS54 ks54 => (xregS [0, 1] fun KR55 kr55 => ?_))))))
    refine wpS.qs [(0, 8, .slice none 0 0), (1, 9, .int .i64 14)] ?_
    refine wpS.fin rfl (kr55 _ _ (then_n (ks54 _ _ (xret (inBlock_r (then_r ?_))))))
    obtain ⟨q0, qr0⟩ := Prod.mk.inj (of_some h)
    have q1 := qr0
    subst q0
    subst q1
    have hs := hs.addNilL (CI .u8) 5
    exact qq _ _ (post_ret (by kernel_rfl) (run_results [.tmp 8, .tmp 9] [.slice none 0 0, .int .i64 14] (by kernel_rfl) (.cons (res_tmp (by kernel_rfl)) (.cons (res_tmp (by kernel_rfl)) .nil))) ⟨⟨none, 0, 0⟩, congrArg Ending.returned (by kernel_rfl), ((hs.drop (.cons_cons _ (.cons _ (.cons _ .slnil)))).pickR pick_nil)⟩)
   refine wpS.tk 2 false (some 49) (.bool true) (yld_b (nt hc) (fun _ => by kernel_rfl)) ?_
   refine wpS.qs [(3, 50, .bool true), (4, 51, undef), (5, 52, undef), (6, 53, undef), (7, 54, .bool true), (8, 46, .bool true)] ?_
   refine wpS.fin rfl (kr18 _ _ (then_n (ks17 _ _ (wp_cond_t (by kernel_rfl) (xseq_k fun KS56 ks56 => (xregS [0, 1] fun KR57 kr57 => ?_))))))
   refine wpS.qs [(0, 8, .slice none 0 0), (1, 9, .int .i64 14)] ?_
   refine wpS.fin rfl (kr57 _ _ (then_n (ks56 _ _ (xret (inBlock_r (then_r ?_))))))
   obtain ⟨q0, qr0⟩ := Prod.mk.inj (of_some h)
   have q1 := qr0
   subst q0
   subst q1
   have hs := hs.addNilL (CI .u8) 5
   exact qq _ _ (post_ret (by kernel_rfl) (run_results [.tmp 8, .tmp 9] [.slice none 0 0, .int .i64 14] (by kernel_rfl) (.cons (res_tmp (by kernel_rfl)) (.cons (res_tmp (by kernel_rfl)) .nil))) ⟨⟨none, 0, 0⟩, congrArg Ending.returned (by kernel_rfl), ((hs.drop (.cons_cons _ (.cons _ (.cons _ .slnil)))).pickR pick_nil)⟩)
  | false =>
   have h := of_if_f h
   refine wpS.qs [(6, 42, .bool false), (7, 13, .slice r5_A r5_n r5_c), (8, 14, .bool false)] ?_
   refine wpS.fin rfl (kr13 _ _ (then_n (ks12 _ _ (xseq_k fun KS58 ks58 => (xblock (xseq_k fun KS59 ks59 => (xregS [0, 1, 2] fun KR60 kr60 => ?_)))))))
   refine wpS.qs [(0, 44, .bool false), (1, 45, .bool true), (2, 43, .bool true)] ?_
   refine wpS.fin rfl (kr60 _ _ (then_n (ks59 _ _ (wp_cond_t (by kernel_rfl) (xseq_k fun KS61 ks61 => (xregS [0, 1] fun KR62 kr62 => ?_))))))
   refine wpS.qs [(0, 8, .slice none 0 0), (1, 9, .int .i64 10)] ?_
   refine wpS.fin rfl (kr62 _ _ (then_n (ks61 _ _ (xret (inBlock_r (then_r ?_))))))
   obtain ⟨q0, qr0⟩ := Prod.mk.inj (of_some h)
   have q1 := qr0
   subst q0
   subst q1
   have hs := hs.addNilL (CI .u8) 5
   exact qq _ _ (post_ret (by kernel_rfl) (run_results [.tmp 8, .tmp 9] [.slice none 0 0, .int .i64 10] (by kernel_rfl) (.cons (res_tmp (by kernel_rfl)) (.cons (res_tmp (by kernel_rfl)) .nil))) ⟨⟨none, 0, 0⟩, congrArg Ending.returned (by kernel_rfl), ((hs.drop (.cons_cons _ (.cons _ (.cons _ .slnil)))).pickR pick_nil)⟩)
 refine wpS.tk 3 false (some 35) (.bool true) (yld_b (nt hc) (fun _ => by kernel_rfl)) ?_
 refine wpS.q 4 31 (.bool true) ?_
 refine wpS.fin rfl (kr11 _ _ (then_n (ks10 _ _ (wp_cond_t (by kernel_rfl) (xseq_k fun KS63 ks63 => (xregS [0, 1] fun KR64 kr64 => ?_))))))
 refine wpS.qs [(0, 8, .slice none 0 0), (1, 9, .int .i64 10)] ?_
 refine wpS.fin rfl (kr64 _ _ (then_n (ks63 _ _ (xret (inBlock_r (then_r ?_))))))
 obtain ⟨q0, qr0⟩ := Prod.mk.inj (of_some h)
 have q1 := qr0
 subst q0
 subst q1
 have hs := hs.addNilL (CI .u8) 5
 exact qq _ _ (post_ret (by kernel_rfl) (run_results [.tmp 8, .tmp 9] [.slice none 0 0, .int .i64 10] (by kernel_rfl) (.cons (res_tmp (by kernel_rfl)) (.cons (res_tmp (by kernel_rfl)) .nil))) ⟨⟨none, 0, 0⟩, congrArg Ending.returned (by kernel_rfl), ((hs.drop (.cons_cons _ (.cons _ .slnil))).pickR pick_nil)⟩)
end Go.Proofs.YtemdbgmldljbpaaDoor
