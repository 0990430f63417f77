/- Printed by this work's own program: the code of each function below comes to the answer that its plain form tells. -/
import Derived.Test.YtemdbgmldljbpaaDoorMd
import Derived.Test.YtemdbgmldljbpaaDoorProg
import Derived.Test.YtemdbgmldljbpaaDoorYF0
import Derived.Test.YtemdbgmldljbpaaDoorYX0
import Derived.Test.YtemdbgmldljbpaaDoorYX1
import Derived.Test.YtemdbgmldljbpaaDoorYX2
import Derived.Test.YtemdbgmldljbpaaDoorYX3
import Derived.Test.YtemdbgmldljbpaaDoorYX4
import Derived.Test.YtemdbgmldljbpaaDoorYX5
set_option linter.unusedVariables false
set_option linter.unusedSimpArgs false
set_option maxRecDepth 100000
set_option maxHeartbeats 4000000
namespace Go.Proofs.YtemdbgmldljbpaaDoor
open Go.Mx
attribute [local irreducible] wpOp

theorem kq_Widen.ok {K : Nat} {a0 : Arr 256} {a1 : Int} {r0 : Arr 256} (h : kq_Widen.f K a0 a1 = some r0) (w0 : World) : Ret Tryd.prog 64 #[.agg (enc .i32 a0).toArray, .int .i64 a1] w0 (.agg (enc .i32 r0).toArray) := by
 refine calls_k Tryd.func64 rfl fun Q qq => ?_
 have hs := St.start w0
 refine wp_conv (a' := ⟨#[.agg (enc .i32 a0).toArray, .int .i64 a1, undef, undef, undef, undef, undef, undef, undef, undef, undef, undef, undef, undef, undef, undef, undef, undef, undef, undef, undef, undef, undef, undef, undef, undef, undef, undef, undef, undef, undef, undef, undef, undef, undef, undef, undef, undef], []⟩) (by kernel_rfl) ?_
 refine xseq_k fun KS1 ks1 => ?_
 refine xregS [0, 1] fun KR2 kr2 => ?_
 refine wpS.only 0 (op_box (t := 32) (v := .agg (enc .i32 a0).toArray) (d := (some 2)) (by kernel_rfl) hs (enc .i32 a0) (by kernel_rfl) (by kernel_rfl) ?_)
 intro b1 w gw hs
 refine ⟨fun _ => trivial, ?_⟩
 refine wpS.only 1 (op_alloc (t := 32) (d := (some 4)) (by kernel_rfl) hs (enc .i32 (zeroA 256)) (.agg (enc .i32 (zeroA 256)).toArray) (by kernel_rfl) (by kernel_rfl) (by kernel_rfl) ?_)
 intro b2 w gw hs
 refine ⟨fun _ => trivial, ?_⟩
 refine wpS.fin rfl (kr2 _ _ (then_n (ks1 _ _ (xseq_k fun KS3 ks3 => (xseq_k fun KS4 ks4 => ?_)))))
 refine wp_regG [] (fun k => True) 13 (by kernel_rfl) (by kernel_rfl) (by kernel_rfl) fun KR5 kr5 => ?_
 have hs := hs.drawn1
 refine wpG.q 0 7 (.int .i64 a1) ?_
 rcases of_if h with ⟨hc, h⟩ | ⟨hc, h⟩
 ·refine wpG.tD 1 false (some 8) (.bool true) (yld_b (dt hc) (fun _ => by kernel_rfl)) ?_
  refine wpG.q 2 9 (.bool true) ?_
  refine wpG.q 3 10 (undef) ?_
  refine wpG.q 4 11 (undef) ?_
  refine wpG.q 5 12 (.bool true) ?_
  refine wpG.q 6 13 (.bool true) ?_
  refine wpG.q 7 14 (undef) ?_
  refine wpG.q 8 15 (undef) ?_
  refine wpG.q 9 16 (undef) ?_
  refine wpG.q 10 17 (undef) ?_
  refine wpG.q 11 18 (undef) ?_
  refine wpG.q 12 19 (.bool true) ?_
  refine wpG.fin (by kernel_rfl) rfl (kr5 _ _ ?_)
  refine then_n (ks4 _ _ (wp_cond_t (by kernel_rfl) (xseq_k fun KS6 ks6 => (xregS [0, 1] fun KR7 kr7 => ?_))))
  refine wpS.q 0 20 (.agg (enc .i32 (zeroA 256)).toArray) ?_
  refine wpS.only 1 (op_storeW (t := 32) (v := .agg (enc .i32 (zeroA 256)).toArray) (d := none) (by kernel_rfl) hs 0 rfl (vs := enc .i32 (zeroA 256)) (n := 256) (by kernel_rfl) (by kernel_rfl) (by kernel_rfl) (by simp [enc_len]) (by simp [enc_len]) (by intro u hu; exact enc_one _ _ u hu) ?_)
  intro w kp hs
  refine ⟨fun _ => trivial, ?_⟩
  refine wpS.fin rfl (kr7 _ _ (then_n (ks6 _ _ (xret (then_r ?_)))))
  have q0 := of_some h
  subst q0
  exact qq _ _ (post_ret (by kernel_rfl) (run_results [.cell 4 32] [.agg (enc .i32 (zeroA 256)).toArray] (by kernel_rfl) (.cons (res_cellN (n := 256) hs 0 rfl (by kernel_rfl) (by kernel_rfl) (by kernel_rfl) (by exact enc_len _ _)) .nil)) ⟨congrArg Ending.returned (by kernel_rfl), hs.none⟩)
 refine wpG.tD 1 false (some 8) (.bool false) (yld_b (df hc) (fun _ => by kernel_rfl)) ?_
 refine wpG.q 2 9 (.bool false) ?_
 refine wpG.q 3 10 (.int .i64 a1) ?_
 rcases of_if h with ⟨hc, h⟩ | ⟨hc, h⟩
 ·refine wpG.tD 4 false (some 11) (.bool true) (yld_b (dt hc) (fun _ => by kernel_rfl)) ?_
  refine wpG.q 5 12 (.bool true) ?_
  refine wpG.q 6 13 (.bool true) ?_
  refine wpG.q 7 14 (undef) ?_
  refine wpG.q 8 15 (undef) ?_
  refine wpG.q 9 16 (undef) ?_
  refine wpG.q 10 17 (undef) ?_
  refine wpG.q 11 18 (undef) ?_
  refine wpG.q 12 19 (.bool true) ?_
  refine wpG.fin (by kernel_rfl) rfl (kr5 _ _ ?_)
  refine then_n (ks4 _ _ (wp_cond_t (by kernel_rfl) (xseq_k fun KS8 ks8 => (xregS [0, 1] fun KR9 kr9 => ?_))))
  refine wpS.q 0 20 (.agg (enc .i32 (zeroA 256)).toArray) ?_
  refine wpS.only 1 (op_storeW (t := 32) (v := .agg (enc .i32 (zeroA 256)).toArray) (d := none) (by kernel_rfl) hs 0 rfl (vs := enc .i32 (zeroA 256)) (n := 256) (by kernel_rfl) (by kernel_rfl) (by kernel_rfl) (by simp [enc_len]) (by simp [enc_len]) (by intro u hu; exact enc_one _ _ u hu) ?_)
  intro w kp hs
  refine ⟨fun _ => trivial, ?_⟩
  refine wpS.fin rfl (kr9 _ _ (then_n (ks8 _ _ (xret (then_r ?_)))))
  have q0 := of_some h
  subst q0
  exact qq _ _ (post_ret (by kernel_rfl) (run_results [.cell 4 32] [.agg (enc .i32 (zeroA 256)).toArray] (by kernel_rfl) (.cons (res_cellN (n := 256) hs 0 rfl (by kernel_rfl) (by kernel_rfl) (by kernel_rfl) (by exact enc_len _ _)) .nil)) ⟨congrArg Ending.returned (by kernel_rfl), hs.none⟩)
 refine wpG.tD 4 false (some 11) (.bool false) (yld_b (df hc) (fun _ => by kernel_rfl)) ?_
 refine wpG.q 5 12 (.bool false) ?_
 refine wpG.q 6 13 (.bool false) ?_
 refine wpG.tD 7 true (some 14) (.agg (enc .i32 a0).toArray) (yld_loadW (e := 32) (n := 256) hs 1 rfl (by kernel_rfl) (by kernel_rfl) (by kernel_rfl) (by exact enc_len _ _) .grow) ?_
 refine wpG.q 8 15 (.int .i64 a1) ?_
 obtain ⟨h0, h⟩ := of_chk h
 refine wpG.tD 9 false (some 16) (.int .i32 (ishl .i32 1 a1)) (yld_shl (t := 21) (k' := .i64) (by kernel_rfl) h0) ?_
 obtain ⟨r3, hg, h⟩ := of_bind h
 cases r3 with
 | true =>
  have h := of_if_t h
  refine wpG.only 10 (by kernel_rfl) (op_call (d := (some 17)) (by kernel_rfl) hs (fun _ => by kernel_rfl) (kq_below.ok hg _) ?_)
  intro w gw hs
  refine ⟨.of gw, ?_⟩
  refine wpG.q 11 18 (.bool false) ?_
  refine wpG.q 12 19 (.bool false) ?_
  refine wpG.fin (by kernel_rfl) rfl (kr5 _ _ ?_)
  refine then_n (ks4 _ _ (wp_cond_f (by kernel_rfl) (xskip (then_n (ks3 _ _ (xseq_k fun KS10 ks10 => (xseq_k fun KS11 ks11 => (xregS [0, 1] fun KR12 kr12 => ?_))))))))
  refine wpS.tk 0 true (some 21) (.agg (enc .i32 a0).toArray) (yld_loadW (e := 32) (n := 256) hs 1 rfl (by kernel_rfl) (by kernel_rfl) (by kernel_rfl) (by exact enc_len _ _) .grow) ?_
  refine wpS.q 1 22 (.int .i64 0) ?_
  refine wpS.fin rfl (kr12 _ _ (then_n (ks11 _ _ ?_)))
  obtain ⟨y6, hy, hk0⟩ := of_bind h
  refine wp_exq (N := fun a w => St w0 [] [.blk b2 (enc .i32 (zeroA 256)) 32, .blk b1 (enc .i32 y6) 32] [] w ∧ ∃ g14 : Nat → Value, a = ⟨#[.agg (enc .i32 a0).toArray, .int .i64 a1, .pointer (some ⟨b1, 0, none⟩), undef, .pointer (some ⟨b2, 0, none⟩), (g14 5), (g14 6), .int .i64 a1, .bool false, .bool false, .int .i64 a1, .bool false, .bool false, .bool false, .agg (enc .i32 a0).toArray, .int .i64 a1, .int .i32 (ishl .i32 1 a1), .bool true, .bool false, .bool false, undef, .agg (enc .i32 a0).toArray, (g14 22), (g14 23), (g14 24), (g14 25), (g14 26), (g14 27), (g14 28), (g14 29), (g14 30), (g14 31), (g14 32), (g14 33), (g14 34), (g14 35), (g14 36), undef], []⟩) (fun N0 nn0 => ?_) ?_
  ·clear hk0
   refine xblock ?_
   refine wp_loop_k (fun n a w => ∃ z4 z5, kq_Widen.l0 K n a0 a1 z4 z5 = some y6 ∧ St w0 [] [.blk b2 (enc .i32 (zeroA 256)) 32, .blk b1 (enc .i32 z5) 32] [] w ∧ ∃ g13 : Nat → Value, a = ⟨#[.agg (enc .i32 a0).toArray, .int .i64 a1, .pointer (some ⟨b1, 0, none⟩), undef, .pointer (some ⟨b2, 0, none⟩), (g13 5), (g13 6), .int .i64 a1, .bool false, .bool false, .int .i64 a1, .bool false, .bool false, .bool false, .agg (enc .i32 a0).toArray, .int .i64 a1, .int .i32 (ishl .i32 1 a1), .bool true, .bool false, .bool false, undef, .agg (enc .i32 a0).toArray, .int .i64 z4, (g13 23), (g13 24), (g13 25), (g13 26), (g13 27), (g13 28), (g13 29), (g13 30), (g13 31), (g13 32), (g13 33), (g13 34), (g13 35), (g13 36), undef], []⟩) K ⟨0, a0, hy, hs.conv rfl, exg (by kernel_rfl)⟩ ?_
   clear hs h hy
   rintro n a w ⟨z4, z5, h, hs, g13, rfl⟩ KL0 kl0
   cases n with
   | zero => exact nomatch (show none = some _ from h)
   | succ n =>
    refine xseq_k fun KS15 ks15 => ?_
    refine xregS [0] fun KR16 kr16 => ?_
    rcases of_if h with ⟨hc, h⟩ | ⟨hc, h⟩
    ·refine wpS.tk 0 false (some 23) (.bool true) (yld_b (dt hc) (fun _ => by kernel_rfl)) ?_
     refine wpS.fin rfl (kr16 _ _ (then_n (ks15 _ _ (xseq_k fun KS17 ks17 => (wp_cond_t (by kernel_rfl) (xskip (then_n (ks17 _ _ (xseq_k fun KS18 ks18 => (xblock (xseq_k fun KS19 ks19 => (xregS [0, 1, 2, 3] fun KR20 kr20 => ?_))))))))))))
     refine wpS.q 0 24 (.int .i64 z4) ?_
     obtain ⟨h0, h⟩ := of_chk h
     obtain ⟨h1, h⟩ := of_chk h
     refine wpS.tk 1 false (some 25) (.int .i32 (rd a0 z4)) (yld_at (t := 32) (e := 21) (k' := .i64) (by kernel_rfl) (by kernel_rfl) (by kernel_rfl) (by kernel_rfl) h0 h1) ?_
     refine wpS.q 2 5 (.int .i64 z4) ?_
     obtain ⟨x7, hx, h⟩ := of_bind h
     refine wpS.tk 3 false (some 6) (.int .i32 x7) (yld_int hx (fun _ => by kernel_rfl)) ?_
     refine wpS.fin rfl (kr20 _ _ (then_n (ks19 _ _ (xregS [0, 1, 2, 3, 4, 5, 6, 7, 8, 9, 10] fun KR21 kr21 => ?_))))
     refine wpS.qs [(0, 26, .int .i64 z4), (1, 27, .int .i32 x7), (2, 28, .int .i32 (imul .i32 x7 3329)), (3, 29, .int .i64 a1), (4, 30, .int .i64 (isub .i64 a1 1))] ?_
     obtain ⟨h0, h⟩ := of_chk h
     refine wpS.tk 5 false (some 31) (.int .i32 (ishl .i32 1 (isub .i64 a1 1))) (yld_shl (t := 21) (k' := .i64) (by kernel_rfl) h0) ?_
     refine wpS.qs [(6, 32, .int .i32 (iadd .i32 (imul .i32 x7 3329) (ishl .i32 1 (isub .i64 a1 1)))), (7, 33, .int .i64 a1)] ?_
     obtain ⟨h0, h⟩ := of_chk h
     refine wpS.tk 8 false (some 34) (.int .i32 (ishr .i32 (iadd .i32 (imul .i32 x7 3329) (ishl .i32 1 (isub .i64 a1 1))) a1)) (yld_shr (t := 21) (k' := .i64) (by kernel_rfl) h0) ?_
     obtain ⟨i0_22, h⟩ := of_chk h
     obtain ⟨i1_22, h⟩ := of_chk h
     refine wpS.tk 9 false (some 35) (.pointer (some ⟨b1, 0 + (z4 : Int).toNat * 1, none⟩)) (yld_idx (t := 32) (e := 21) (n := 256) (sz := 1) (k := .i64) (x := z4) (by kernel_rfl) (by kernel_rfl) (by kernel_rfl) i0_22 i1_22) ?_
     obtain ⟨x8, hx, h⟩ := of_bind h
     refine wpS.only 10 (op_storeA (t := 21) (x := z4) (v := x8) (d := none) (by kernel_rfl) hs 1 rfl (by cases hx; kernel_rfl) (by kernel_rfl) i0_22 i1_22 ?_)
     intro w kp hs
     refine ⟨fun _ => trivial, ?_⟩
     refine wpS.fin rfl (kr21 _ _ (inBlock_n (then_n (ks18 _ _ (xregS [0, 1] fun KR23 kr23 => ?_)))))
     refine wpS.qs [(0, 36, .int .i64 (iadd .i64 z4 1)), (1, 22, .int .i64 (iadd .i64 z4 1))] ?_
     refine wpS.fin rfl (kr23 _ _ ?_)
     exact then_n (kl0 _ _ ⟨n, Nat.lt_succ_self n, (iadd .i64 z4 1), (wr z5 z4 x8), h, (hs.conv rfl), exg (by kernel_rfl)⟩)
    refine wpS.tk 0 false (some 23) (.bool false) (yld_b (df hc) (fun _ => by kernel_rfl)) ?_
    refine wpS.fin rfl (kr16 _ _ (then_n (ks15 _ _ (xseq_k fun KS24 ks24 => (wp_cond_f (by kernel_rfl) (xexit (then_x (then_x (inBlock_hit ?_)))))))))
    have q0 := of_some h
    subst q0
    exact exq_n (nn0 _ _ ⟨(hs.conv rfl), exg (by kernel_rfl)⟩)
  clear hs h hy
  rintro a w ⟨hs, g14, rfl⟩
  have h := hk0
  refine then_n (ks10 _ _ (xseq_k fun KS25 ks25 => (xregS [0, 1] fun KR26 kr26 => ?_)))
  refine wpS.tk 0 true (some 37) (.agg (enc .i32 y6).toArray) (yld_loadW (e := 32) (n := 256) hs 1 rfl (by kernel_rfl) (by kernel_rfl) (by kernel_rfl) (by exact enc_len _ _) .grow) ?_
  refine wpS.only 1 (op_storeW (t := 32) (v := .agg (enc .i32 y6).toArray) (d := none) (by kernel_rfl) hs 0 rfl (vs := enc .i32 y6) (n := 256) (by kernel_rfl) (by kernel_rfl) (by kernel_rfl) (by simp [enc_len]) (by simp [enc_len]) (by intro u hu; exact enc_one _ _ u hu) ?_)
  intro w kp hs
  refine ⟨fun _ => trivial, ?_⟩
  refine wpS.fin rfl (kr26 _ _ (then_n (ks25 _ _ (xret ?_))))
  have q0 := of_some h
  subst q0
  exact qq _ _ (post_ret (by kernel_rfl) (run_results [.cell 4 32] [.agg (enc .i32 y6).toArray] (by kernel_rfl) (.cons (res_cellN (n := 256) hs 0 rfl (by kernel_rfl) (by kernel_rfl) (by kernel_rfl) (by exact enc_len _ _)) .nil)) ⟨congrArg Ending.returned (by kernel_rfl), hs.none⟩)
 | false =>
  have h := of_if_f h
  refine wpG.only 10 (by kernel_rfl) (op_call (d := (some 17)) (by kernel_rfl) hs (fun _ => by kernel_rfl) (kq_below.ok hg _) ?_)
  intro w gw hs
  refine ⟨.of gw, ?_⟩
  refine wpG.q 11 18 (.bool true) ?_
  refine wpG.q 12 19 (.bool true) ?_
  refine wpG.fin (by kernel_rfl) rfl (kr5 _ _ ?_)
  refine then_n (ks4 _ _ (wp_cond_t (by kernel_rfl) (xseq_k fun KS27 ks27 => (xregS [0, 1] fun KR28 kr28 => ?_))))
  refine wpS.q 0 20 (.agg (enc .i32 (zeroA 256)).toArray) ?_
  refine wpS.only 1 (op_storeW (t := 32) (v := .agg (enc .i32 (zeroA 256)).toArray) (d := none) (by kernel_rfl) hs 0 rfl (vs := enc .i32 (zeroA 256)) (n := 256) (by kernel_rfl) (by kernel_rfl) (by kernel_rfl) (by simp [enc_len]) (by simp [enc_len]) (by intro u hu; exact enc_one _ _ u hu) ?_)
  intro w kp hs
  refine ⟨fun _ => trivial, ?_⟩
  refine wpS.fin rfl (kr28 _ _ (then_n (ks27 _ _ (xret (then_r ?_)))))
  have q0 := of_some h
  subst q0
  exact qq _ _ (post_ret (by kernel_rfl) (run_results [.cell 4 32] [.agg (enc .i32 (zeroA 256)).toArray] (by kernel_rfl) (.cons (res_cellN (n := 256) hs 0 rfl (by kernel_rfl) (by kernel_rfl) (by kernel_rfl) (by exact enc_len _ _)) .nil)) ⟨congrArg Ending.returned (by kernel_rfl), hs.none⟩)

theorem kpke_spread.ok {K : Nat} {a0 : List Int} {r0 : Arr 256} {a0_A : Option Addr} {a0_n : Nat} {a0_c : Nat} (h : kpke_spread.f K a0 = some r0) (w0 : World) (hp0 : RowL (CI .u8) w0 a0_A a0_n a0_c a0) : Ret Tryd.prog 58 #[.slice a0_A a0_n a0_c] w0 (.agg (enc .i32 r0).toArray) := by
 refine calls_k Tryd.func58 rfl fun Q qq => ?_
 have hs := St.startR (all_cons (RowP.ent hp0) all_nil)
 refine wp_conv (a' := ⟨#[.slice a0_A a0_n a0_c, undef, undef, undef, undef, undef, undef, undef, undef, undef, undef, undef], []⟩) (by kernel_rfl) ?_
 refine xseq_k fun KS1 ks1 => ?_
 refine xregS [0] fun KR2 kr2 => ?_
 refine wpS.only 0 (op_alloc (t := 32) (d := (some 2)) (by kernel_rfl) hs (enc .i32 (zeroA 256)) (.agg (enc .i32 (zeroA 256)).toArray) (by kernel_rfl) (by kernel_rfl) (by kernel_rfl) ?_)
 intro b1 w gw hs
 refine ⟨fun _ => trivial, ?_⟩
 refine wpS.fin rfl (kr2 _ _ (then_n (ks1 _ _ (xseq_k fun KS3 ks3 => (xregS [0, 1, 2, 3, 4, 5, 6, 7] fun KR4 kr4 => ?_)))))
 refine wpS.q 0 6 (.slice a0_A a0_n a0_c) ?_
 obtain ⟨⟨r2, r3⟩, hg, h⟩ := of_bind h
 refine wpS.only 1 (op_call (d := (some 7)) (by kernel_rfl) hs (fun _ => by kernel_rfl) (kq_Unpack.ok hg _ (hs.rowR 0 rfl)) ?_)
 intro w gw hs
 refine ⟨fun _ => trivial, ?_⟩
 refine wpS.qs [(2, 5, .tuple #[.agg (enc .i32 r2).toArray, .bool r3]), (3, 8, .agg (enc .i32 r2).toArray), (4, 9, .bool r3)] ?_
 refine wpS.only 5 (op_alloc (t := 32) (d := (some 3)) (by kernel_rfl) hs (enc .i32 (zeroA 256)) (.agg (enc .i32 (zeroA 256)).toArray) (by kernel_rfl) (by kernel_rfl) (by kernel_rfl) ?_)
 intro b4 w gw hs
 refine ⟨fun _ => trivial, ?_⟩
 refine wpS.only 6 (op_storeW (t := 32) (v := .agg (enc .i32 r2).toArray) (d := none) (by kernel_rfl) hs 0 rfl (vs := enc .i32 r2) (n := 256) (by kernel_rfl) (by kernel_rfl) (by kernel_rfl) (by simp [enc_len]) (by simp [enc_len]) (by intro u hu; exact enc_one _ _ u hu) ?_)
 intro w kp hs
 refine ⟨fun _ => trivial, ?_⟩
 refine wpS.q 7 4 (.bool r3) ?_
 refine wpS.fin rfl (kr4 _ _ (then_n (ks3 _ _ (xseq_k fun KS5 ks5 => (xregS [0, 1, 2] fun KR6 kr6 => ?_)))))
 refine wpS.tk 0 true (some 10) (.agg (enc .i32 r2).toArray) (yld_loadW (e := 32) (n := 256) hs 0 rfl (by kernel_rfl) (by kernel_rfl) (by kernel_rfl) (by exact enc_len _ _) .grow) ?_
 obtain ⟨r5, hg, h⟩ := of_bind h
 refine wpS.only 1 (op_call (d := (some 11)) (by kernel_rfl) hs (fun _ => by kernel_rfl) (kq_Widen.ok hg _) ?_)
 intro w gw hs
 refine ⟨fun _ => trivial, ?_⟩
 refine wpS.only 2 (op_storeW (t := 32) (v := .agg (enc .i32 r5).toArray) (d := none) (by kernel_rfl) hs 1 rfl (vs := enc .i32 r5) (n := 256) (by kernel_rfl) (by kernel_rfl) (by kernel_rfl) (by simp [enc_len]) (by simp [enc_len]) (by intro u hu; exact enc_one _ _ u hu) ?_)
 intro w kp hs
 refine ⟨fun _ => trivial, ?_⟩
 refine wpS.fin rfl (kr6 _ _ (then_n (ks5 _ _ (xret ?_))))
 have q0 := of_some h
 subst q0
 exact qq _ _ (post_ret (by kernel_rfl) (run_results [.cell 2 32] [.agg (enc .i32 r5).toArray] (by kernel_rfl) (.cons (res_cellN (n := 256) hs 1 rfl (by kernel_rfl) (by kernel_rfl) (by kernel_rfl) (by exact enc_len _ _)) .nil)) ⟨congrArg Ending.returned (by kernel_rfl), hs.none⟩)

theorem kpke_Encrypt.ok {K : Nat} {a0_0 : Int} {a0_1 : Int} {a0_2 : Int} {a0_3 : Int} {a0_4 : Int} {a1 : List Int} {a2 : List Int} {a3 : List Int} {r0 : List Int} {r1 : Int} {a1_A : Option Addr} {a1_n : Nat} {a1_c : Nat} {a2_A : Option Addr} {a2_n : Nat} {a2_c : Nat} {a3_A : Option Addr} {a3_n : Nat} {a3_c : Nat} (h : kpke_Encrypt.f K a0_0 a0_1 a0_2 a0_3 a0_4 a1 a2 a3 = some (r0, r1)) (w0 : World) (hp1 : RowL (CI .u8) w0 a1_A a1_n a1_c a1) (hp2 : RowL (CI .u8) w0 a2_A a2_n a2_c a2) (hp3 : RowL (CI .u8) w0 a3_A a3_n a3_c a3) (hg0 : RowL (CA .u64 24 (by decide)) w0 (some ⟨0, 0, none⟩) 1 1 [tab_0]) (hg1 : RowL (CA .i64 24 (by decide)) w0 (some ⟨1, 0, none⟩) 1 1 [tab_1]) (hg2 : RowL (CA .i64 24 (by decide)) w0 (some ⟨2, 0, none⟩) 1 1 [tab_2]) : Calls Tryd.prog 21 #[.agg #[.int .i64 a0_0, .int .i64 a0_1, .int .i64 a0_2, .int .i64 a0_3, .int .i64 a0_4], .slice a1_A a1_n a1_c, .slice a2_A a2_n a2_c, .slice a3_A a3_n a3_c] w0 fun e w' => ∃ h : (Option Addr × Nat × Nat), e = .returned (.tuple #[.slice h.1 h.2.1 h.2.2, .int .i64 r1]) ∧ St w0 [] [.ownL (CI .u8) h.1 h.2.1 h.2.2 r0 5] [] w' := by
 refine calls_k Tryd.func21 rfl fun Q qq => ?_
 have hs := St.startR (all_cons (RowP.ent hp1) (all_cons (RowP.ent hp2) (all_cons (RowP.ent hp3) (all_cons (RowP.ent hg0) (all_cons (RowP.ent hg1) (all_cons (RowP.ent hg2) all_nil))))))
 refine wp_conv (a' := ⟨#[.agg #[.int .i64 a0_0, .int .i64 a0_1, .int .i64 a0_2, .int .i64 a0_3, .int .i64 a0_4], .slice a1_A a1_n a1_c, .slice a2_A a2_n a2_c, .slice a3_A a3_n a3_c, undef, undef, undef, undef, undef, undef, undef, undef, undef, undef, undef, undef, undef, undef, undef, undef, undef, undef, undef, undef, undef, undef, undef, undef, undef, undef, undef, undef, undef, undef, undef, undef, undef, undef, undef, undef, undef, undef, undef, undef, undef, undef, undef, undef, undef, undef, undef, undef, undef, undef, undef, undef, undef, undef, undef, undef, undef, undef, undef, undef, undef, undef, undef, undef, undef, undef, undef, undef, undef, undef, undef, undef, undef, undef, undef, undef, undef, undef, undef, undef, undef, undef, undef, undef, undef, undef, undef, undef, undef, undef, undef, undef, undef, undef, undef, undef, undef, undef, undef, undef, undef, undef, undef, undef, undef, undef, undef, undef, undef, undef, undef, undef, undef, undef, undef, undef, undef, undef, undef, undef, undef, undef, undef, undef, undef, undef, undef, undef, undef, undef, undef], []⟩) (by kernel_rfl) ?_
 refine xseq_k fun KS1 ks1 => ?_
 refine xregS [0, 1, 2] fun KR2 kr2 => ?_
 refine wpS.only 0 (op_box (t := 23) (v := .agg #[.int .i64 a0_0, .int .i64 a0_1, .int .i64 a0_2, .int .i64 a0_3, .int .i64 a0_4]) (d := (some 4)) (by kernel_rfl) hs ([.int .i64 a0_0, .int .i64 a0_1, .int .i64 a0_2, .int .i64 a0_3, .int .i64 a0_4]) (by kernel_rfl) (by kernel_rfl) ?_)
 intro b1 w gw hs
 refine ⟨fun _ => trivial, ?_⟩
 refine wpS.qs [(1, 8, .slice none 0 0), (2, 9, .int .i64 0)] ?_
 refine wpS.fin rfl (kr2 _ _ (then_n (ks1 _ _ (xseq_k fun KS3 ks3 => (xregS [0, 1, 2, 3, 4, 5, 6, 7, 8] fun KR4 kr4 => ?_)))))
 refine wpS.tk 0 true (some 23) (.agg #[.int .i64 a0_0, .int .i64 a0_1, .int .i64 a0_2, .int .i64 a0_3, .int .i64 a0_4]) (yld_loadW (e := 23) (n := 5) hs 0 rfl (by kernel_rfl) (by kernel_rfl) (by kernel_rfl) (by simp [enc_len]) .grow) ?_
 obtain ⟨⟨r2, r3, r4⟩, hg, h⟩ := of_bind h
 refine wpS.only 1 (op_call (d := (some 24)) (by kernel_rfl) hs (fun _ => by kernel_rfl) (kpke_Sizes.ok hg _) ?_)
 intro w gw hs
 refine ⟨fun _ => trivial, ?_⟩
 refine wpS.qs [(2, 22, .tuple #[.int .i64 r2, .int .i64 r3, .int .i64 r4]), (3, 25, .int .i64 r2), (4, 26, .int .i64 r3), (5, 27, .int .i64 r4), (6, 10, .int .i64 r2), (7, 11, .int .i64 r3), (8, 12, .int .i64 r4)] ?_
 refine wpS.fin rfl (kr4 _ _ (then_n (ks3 _ _ (xseq_k fun KS5 ks5 => (xblock (xseq_k fun KS6 ks6 => (xregS [0, 1, 2] fun KR7 kr7 => ?_)))))))
 refine wpS.q 0 29 (.int .i64 r2) ?_
 rcases of_if h with ⟨hc, h⟩ | ⟨hc, h⟩
 ·refine wpS.tk 1 false (some 30) (.bool true) (yld_b (et hc) (fun _ => by kernel_rfl)) ?_
  refine wpS.q 2 28 (.bool true) ?_
  refine wpS.fin rfl (kr7 _ _ (then_n (ks6 _ _ (wp_cond_t (by kernel_rfl) (xseq_k fun KS8 ks8 => (xregS [0, 1] fun KR9 kr9 => ?_))))))
  refine wpS.qs [(0, 8, .slice none 0 0), (1, 9, .int .i64 9)] ?_
  refine wpS.fin rfl (kr9 _ _ (then_n (ks8 _ _ (xret (inBlock_r (then_r ?_))))))
  obtain ⟨q0, qr0⟩ := Prod.mk.inj (of_some h)
  have q1 := qr0
  subst q0
  subst q1
  have hs := hs.addNilL (CI .u8) 5
  exact qq _ _ (post_ret (by kernel_rfl) (run_results [.tmp 8, .tmp 9] [.slice none 0 0, .int .i64 9] (by kernel_rfl) (.cons (res_tmp (by kernel_rfl)) (.cons (res_tmp (by kernel_rfl)) .nil))) ⟨⟨none, 0, 0⟩, congrArg Ending.returned (by kernel_rfl), ((hs.drop (.cons_cons _ (.cons _ .slnil))).pickR pick_nil)⟩)
 refine wpS.tk 1 false (some 30) (.bool false) (yld_b (ef hc) (fun _ => by kernel_rfl)) ?_
 refine wpS.q 2 28 (.bool false) ?_
 refine wpS.fin rfl (kr7 _ _ (then_n (ks6 _ _ (wp_cond_f (by kernel_rfl) (xseq_k fun KS10 ks10 => (xregS [0, 1, 2, 3, 4] fun KR11 kr11 => ?_))))))
 refine wpS.q 0 32 (.slice a1_A a1_n a1_c) ?_
 refine wpS.tk 1 false (some 33) (.int .i64 (a1.length : Int)) (yld_lenL (hs.rowR 0 rfl) (fun _ => by kernel_rfl)) ?_
 refine wpS.q 2 34 (.int .i64 r2) ?_
 rcases of_if h with ⟨hc, h⟩ | ⟨hc, h⟩
 ·refine wpS.tk 3 false (some 35) (.bool false) (yld_b (nf hc) (fun _ => by kernel_rfl)) ?_
  refine wpS.q 4 31 (.bool false) ?_
  refine wpS.fin rfl (kr11 _ _ (then_n (ks10 _ _ (wp_cond_f (by kernel_rfl) (xskip (inBlock_n (then_n (ks5 _ _ (xseq_k fun KS12 ks12 => (xregS [0, 1, 2, 3, 4, 5, 6, 7, 8] fun KR13 kr13 => ?_))))))))))
  refine wpS.qs [(0, 37, .slice a1_A a1_n a1_c), (1, 38, .pointer (some ⟨b1, 0, none⟩))] ?_
  refine wpS.tk 2 true (some 39) (.int .i64 a0_0) (yld_load1 (e := 3) (o := 0) hs 0 rfl (by kernel_rfl) (by kernel_rfl) (by rfl) .grow) ?_
  obtain ⟨⟨r5, r6⟩, hg, h⟩ := of_bind h
  refine wpS.only 3 (op_callH (d := (some 40)) (by kernel_rfl) hs (fun _ => by kernel_rfl) (kpke_read.ok hg _ (hs.rowR 0 rfl)) ?_)
  rintro ⟨r5_A, r5_n, r5_c⟩ w gw hs
  have hs := hs.conv (L' := [.ownL (CA .i32 256 (by decide)) r5_A r5_n r5_c r5 32, .blk b1 ([.int .i64 a0_0, .int .i64 a0_1, .int .i64 a0_2, .int .i64 a0_3, .int .i64 a0_4]) 23]) rfl
  refine ⟨fun _ => trivial, ?_⟩
  refine wpS.qs [(4, 36, .tuple #[.slice r5_A r5_n r5_c, .bool r6]), (5, 41, .slice r5_A r5_n r5_c)] ?_
  cases r6 with
  | true =>
   have h := of_if_t h
   refine wpS.qs [(6, 42, .bool true), (7, 13, .slice r5_A r5_n r5_c), (8, 14, .bool true)] ?_
   refine wpS.fin rfl (kr13 _ _ (then_n (ks12 _ _ (xseq_k fun KS14 ks14 => (xblock (xseq_k fun KS15 ks15 => (xregS [0, 1, 2] fun KR16 kr16 => ?_)))))))
   refine wpS.qs [(0, 44, .bool true), (1, 45, .bool false), (2, 43, .bool false)] ?_
   refine wpS.fin rfl (kr16 _ _ (then_n (ks15 _ _ (wp_cond_f (by kernel_rfl) (xseq_k fun KS17 ks17 => (xregS [0, 1, 2, 3, 4, 5, 6, 7, 8] fun KR18 kr18 => ?_))))))
   refine wpS.q 0 47 (.slice a2_A a2_n a2_c) ?_
   refine wpS.tk 1 false (some 48) (.int .i64 (a2.length : Int)) (yld_lenL (hs.rowR 1 rfl) (fun _ => by kernel_rfl)) ?_
   rcases of_if h with ⟨hc, h⟩ | ⟨hc, h⟩
   ·refine wpS.tk 2 false (some 49) (.bool false) (yld_b (nf hc) (fun _ => by kernel_rfl)) ?_
    refine wpS.qs [(3, 50, .bool false), (4, 51, .slice a3_A a3_n a3_c)] ?_
    refine wpS.tk 5 false (some 52) (.int .i64 (a3.length : Int)) (yld_lenL (hs.rowR 2 rfl) (fun _ => by kernel_rfl)) ?_
    rcases of_if h with ⟨hc, h⟩ | ⟨hc, h⟩
    ·refine wpS.tk 6 false (some 53) (.bool false) (yld_b (nf hc) (fun _ => by kernel_rfl)) ?_
     refine wpS.qs [(7, 54, .bool false), (8, 46, .bool false)] ?_
     refine wpS.fin rfl (kr18 _ _ (then_n (ks17 _ _ (wp_cond_f (by kernel_rfl) (xskip (inBlock_n (then_n (ks14 _ _ (xseq_k fun KS19 ks19 => ?_)))))))))
     refine wp_regG [5] (fun k => True) 11 (by kernel_rfl) (by kernel_rfl) (by kernel_rfl) fun KR20 kr20 => ?_
     have hs := hs.drawn1
     refine wpG.tD 0 true (some 56) (.agg #[.int .i64 a0_0, .int .i64 a0_1, .int .i64 a0_2, .int .i64 a0_3, .int .i64 a0_4]) (yld_loadW (e := 23) (n := 5) hs 1 rfl (by kernel_rfl) (by kernel_rfl) (by kernel_rfl) (by simp [enc_len]) .grow) ?_
     refine wpG.q 1 57 (.slice a1_A a1_n a1_c) ?_
     refine wpG.q 2 58 (.int .i64 r2) ?_
     refine wpG.q 3 59 (.int .i64 (isub .i64 r2 32)) ?_
     obtain ⟨h0, h⟩ := of_chk h
     obtain ⟨h1, h⟩ := of_chk h
     obtain ⟨h2, h⟩ := of_chk h
     obtain ⟨s7_A, hA⟩ : ∃ A, A = if a1_c = ((isub .i64 r2 32) : Int).toNat then a1_A else adr a1_A (((isub .i64 r2 32) : Int).toNat * Cod.size (CI .u8)) := ⟨_, rfl⟩
     obtain ⟨s7_n, hn⟩ : ∃ n, n = ((a1.length : Int) : Int).toNat - ((isub .i64 r2 32) : Int).toNat := ⟨_, rfl⟩
     obtain ⟨s7_c, hc⟩ : ∃ c, c = a1_c - ((isub .i64 r2 32) : Int).toNat := ⟨_, rfl⟩
     refine wpG.tD 4 false (some 60) (.slice s7_A s7_n s7_c) (yld_sub (C := (CI .u8)) (t := 24) (e := 5) (low := some (.int .i64 (isub .i64 r2 32))) (high := none) (lo := (isub .i64 r2 32)) (hi := (a1.length : Int)) (hs.rowR 0 rfl) (by kernel_rfl) (by kernel_rfl) (by kernel_rfl) (.inr ⟨_, rfl⟩) (.inl ⟨rfl, rfl⟩) h0 h1 h2 hA hn hc) ?_
     have hs := hs.addSub (C := (CI .u8)) 0 rfl h0 h1 h2 hA hn hc
     exact nomatch (show none = some _ from h)
    refine wpS.tk 6 false (some 53) (.bool true) (yld_b (nt hc) (fun _ => by kernel_rfl)) ?_
    refine wpS.qs [(7, 54, .bool true), (8, 46, .bool true)] ?_
    refine wpS.fin rfl (kr18 _ _ (then_n (ks17 _ _ (wp_cond_t (by kernel_rfl) (xseq_k fun KS22 ks22 => (xregS [0, 1] fun KR23 kr23 => ?_))))))
    refine wpS.qs [(0, 8, .slice none 0 0), (1, 9, .int .i64 14)] ?_
    refine wpS.fin rfl (kr23 _ _ (then_n (ks22 _ _ (xret (inBlock_r (then_r ?_))))))
    obtain ⟨q0, qr0⟩ := Prod.mk.inj (of_some h)
    have q1 := qr0
    subst q0
    subst q1
    have hs := hs.addNilL (CI .u8) 5
    exact qq _ _ (post_ret (by kernel_rfl) (run_results [.tmp 8, .tmp 9] [.slice none 0 0, .int .i64 14] (by kernel_rfl) (.cons (res_tmp (by kernel_rfl)) (.cons (res_tmp (by kernel_rfl)) .nil))) ⟨⟨none, 0, 0⟩, congrArg Ending.returned (by kernel_rfl), ((hs.drop (.cons_cons _ (.cons _ (.cons _ .slnil)))).pickR pick_nil)⟩)
   refine wpS.tk 2 false (some 49) (.bool true) (yld_b (nt hc) (fun _ => by kernel_rfl)) ?_
   refine wpS.qs [(3, 50, .bool true), (4, 51, undef), (5, 52, undef), (6, 53, undef), (7, 54, .bool true), (8, 46, .bool true)] ?_
   refine wpS.fin rfl (kr18 _ _ (then_n (ks17 _ _ (wp_cond_t (by kernel_rfl) (xseq_k fun KS24 ks24 => (xregS [0, 1] fun KR25 kr25 => ?_))))))
   refine wpS.qs [(0, 8, .slice none 0 0), (1, 9, .int .i64 14)] ?_
   refine wpS.fin rfl (kr25 _ _ (then_n (ks24 _ _ (xret (inBlock_r (then_r ?_))))))
   obtain ⟨q0, qr0⟩ := Prod.mk.inj (of_some h)
   have q1 := qr0
   subst q0
   subst q1
   have hs := hs.addNilL (CI .u8) 5
   exact qq _ _ (post_ret (by kernel_rfl) (run_results [.tmp 8, .tmp 9] [.slice none 0 0, .int .i64 14] (by kernel_rfl) (.cons (res_tmp (by kernel_rfl)) (.cons (res_tmp (by kernel_rfl)) .nil))) ⟨⟨none, 0, 0⟩, congrArg Ending.returned (by kernel_rfl), ((hs.drop (.cons_cons _ (.cons _ (.cons _ .slnil)))).pickR pick_nil)⟩)
  | false =>
   have h := of_if_f h
   refine wpS.qs [(6, 42, .bool false), (7, 13, .slice r5_A r5_n r5_c), (8, 14, .bool false)] ?_
   refine wpS.fin rfl (kr13 _ _ (then_n (ks12 _ _ (xseq_k fun KS26 ks26 => (xblock (xseq_k fun KS27 ks27 => (xregS [0, 1, 2] fun KR28 kr28 => ?_)))))))
   refine wpS.qs [(0, 44, .bool false), (1, 45, .bool true), (2, 43, .bool true)] ?_
   refine wpS.fin rfl (kr28 _ _ (then_n (ks27 _ _ (wp_cond_t (by kernel_rfl) (xseq_k fun KS29 ks29 => (xregS [0, 1] fun KR30 kr30 => ?_))))))
   refine wpS.qs [(0, 8, .slice none 0 0), (1, 9, .int .i64 10)] ?_
   refine wpS.fin rfl (kr30 _ _ (then_n (ks29 _ _ (xret (inBlock_r (then_r ?_))))))
   obtain ⟨q0, qr0⟩ := Prod.mk.inj (of_some h)
   have q1 := qr0
   subst q0
   subst q1
   have hs := hs.addNilL (CI .u8) 5
   exact qq _ _ (post_ret (by kernel_rfl) (run_results [.tmp 8, .tmp 9] [.slice none 0 0, .int .i64 10] (by kernel_rfl) (.cons (res_tmp (by kernel_rfl)) (.cons (res_tmp (by kernel_rfl)) .nil))) ⟨⟨none, 0, 0⟩, congrArg Ending.returned (by kernel_rfl), ((hs.drop (.cons_cons _ (.cons _ (.cons _ .slnil)))).pickR pick_nil)⟩)
 refine wpS.tk 3 false (some 35) (.bool true) (yld_b (nt hc) (fun _ => by kernel_rfl)) ?_
 refine wpS.q 4 31 (.bool true) ?_
 refine wpS.fin rfl (kr11 _ _ (then_n (ks10 _ _ (wp_cond_t (by kernel_rfl) (xseq_k fun KS31 ks31 => (xregS [0, 1] fun KR32 kr32 => ?_))))))
 refine wpS.qs [(0, 8, .slice none 0 0), (1, 9, .int .i64 10)] ?_
 refine wpS.fin rfl (kr32 _ _ (then_n (ks31 _ _ (xret (inBlock_r (then_r ?_))))))
 obtain ⟨q0, qr0⟩ := Prod.mk.inj (of_some h)
 have q1 := qr0
 subst q0
 subst q1
 have hs := hs.addNilL (CI .u8) 5
 exact qq _ _ (post_ret (by kernel_rfl) (run_results [.tmp 8, .tmp 9] [.slice none 0 0, .int .i64 10] (by kernel_rfl) (.cons (res_tmp (by kernel_rfl)) (.cons (res_tmp (by kernel_rfl)) .nil))) ⟨⟨none, 0, 0⟩, congrArg Ending.returned (by kernel_rfl), ((hs.drop (.cons_cons _ (.cons _ .slnil))).pickR pick_nil)⟩)

theorem law26_awake.ok {K : Nat} {r0 : Bool} (h : law26_awake.f K = some r0) (w0 : World) (hg0 : RowL (CA .u64 24 (by decide)) w0 (some ⟨0, 0, none⟩) 1 1 [tab_0]) (hg1 : RowL (CA .i64 24 (by decide)) w0 (some ⟨1, 0, none⟩) 1 1 [tab_1]) (hg2 : RowL (CA .i64 24 (by decide)) w0 (some ⟨2, 0, none⟩) 1 1 [tab_2]) : Ret Tryd.prog 9 #[] w0 (.bool r0) := by
 refine calls_k Tryd.func9 rfl fun Q qq => ?_
 have hs := St.startR (all_cons (RowP.ent hg0) (all_cons (RowP.ent hg1) (all_cons (RowP.ent hg2) all_nil)))
 refine wp_conv (a' := ⟨#[undef, undef, undef, undef, undef, undef, undef, undef, undef, undef, undef, undef, undef, undef, undef, undef, undef, undef, undef, undef, undef, undef, undef, undef, undef, undef, undef, undef, undef, undef, undef, undef, undef, undef, undef, undef, undef, undef, undef, undef], []⟩) (by kernel_rfl) ?_
 refine xseq_k fun KS1 ks1 => ?_
 refine xregS [0] fun KR2 kr2 => ?_
 refine wpS.q 0 0 (.bool false) ?_
 refine wpS.fin rfl (kr2 _ _ (then_n (ks1 _ _ (xseq_k fun KS3 ks3 => (xregS [0, 1, 2, 3, 4, 5, 6] fun KR4 kr4 => ?_)))))
 obtain ⟨⟨r1_0, r1_1, r1_2, r1_3, r1_4, r2⟩, hg, h⟩ := of_bind h
 refine wpS.only 0 (op_call (d := (some 9)) (by kernel_rfl) hs (fun _ => by kernel_rfl) (kpke_Set.ok hg _) ?_)
 intro w gw hs
 refine ⟨fun _ => trivial, ?_⟩
 refine wpS.qs [(1, 8, .tuple #[.agg #[.int .i64 r1_0, .int .i64 r1_1, .int .i64 r1_2, .int .i64 r1_3, .int .i64 r1_4], .bool r2]), (2, 10, .agg #[.int .i64 r1_0, .int .i64 r1_1, .int .i64 r1_2, .int .i64 r1_3, .int .i64 r1_4])] ?_
 cases r2 with
 | true =>
  have h := of_if_t h
  refine wpS.q 3 11 (.bool true) ?_
  refine wpS.only 4 (op_alloc (t := 23) (d := (some 1)) (by kernel_rfl) hs ([.int .i64 0, .int .i64 0, .int .i64 0, .int .i64 0, .int .i64 0]) (.agg #[.int .i64 0, .int .i64 0, .int .i64 0, .int .i64 0, .int .i64 0]) (by kernel_rfl) (by kernel_rfl) (by kernel_rfl) ?_)
  intro b3 w gw hs
  refine ⟨fun _ => trivial, ?_⟩
  refine wpS.only 5 (op_storeW (t := 23) (v := .agg #[.int .i64 r1_0, .int .i64 r1_1, .int .i64 r1_2, .int .i64 r1_3, .int .i64 r1_4]) (d := none) (by kernel_rfl) hs 0 rfl (vs := [.int .i64 r1_0, .int .i64 r1_1, .int .i64 r1_2, .int .i64 r1_3, .int .i64 r1_4]) (n := 5) (by kernel_rfl) (by kernel_rfl) (by kernel_rfl) (by simp [enc_len]) (by simp [enc_len]) (by simp [Value.oneCell']) ?_)
  intro w kp hs
  refine ⟨fun _ => trivial, ?_⟩
  refine wpS.q 6 2 (.bool true) ?_
  refine wpS.fin rfl (kr4 _ _ (then_n (ks3 _ _ (xseq_k fun KS5 ks5 => (xregS [0, 1, 2, 3, 4, 5, 6, 7, 8] fun KR6 kr6 => ?_)))))
  refine wpS.tk 0 true (some 13) (.agg #[.int .i64 r1_0, .int .i64 r1_1, .int .i64 r1_2, .int .i64 r1_3, .int .i64 r1_4]) (yld_loadW (e := 23) (n := 5) hs 0 rfl (by kernel_rfl) (by kernel_rfl) (by kernel_rfl) (by simp [enc_len]) .grow) ?_
  obtain ⟨⟨r4, r5, r6⟩, hg, h⟩ := of_bind h
  refine wpS.only 1 (op_call (d := (some 14)) (by kernel_rfl) hs (fun _ => by kernel_rfl) (kpke_Sizes.ok hg _) ?_)
  intro w gw hs
  refine ⟨fun _ => trivial, ?_⟩
  refine wpS.qs [(2, 12, .tuple #[.int .i64 r4, .int .i64 r5, .int .i64 r6]), (3, 15, .int .i64 r4), (4, 16, .int .i64 r5), (5, 17, .int .i64 r6), (6, 3, .int .i64 r4), (7, 4, .int .i64 r5), (8, 5, .int .i64 r6)] ?_
  refine wpS.fin rfl (kr6 _ _ (then_n (ks5 _ _ (xseq_k fun KS7 ks7 => (xregS [0, 1, 2, 3, 4, 5, 6] fun KR8 kr8 => ?_)))))
  refine wpS.tk 0 true (some 19) (.agg #[.int .i64 r1_0, .int .i64 r1_1, .int .i64 r1_2, .int .i64 r1_3, .int .i64 r1_4]) (yld_loadW (e := 23) (n := 5) hs 0 rfl (by kernel_rfl) (by kernel_rfl) (by kernel_rfl) (by simp [enc_len]) .grow) ?_
  obtain ⟨⟨r7, r8⟩, hg, h⟩ := of_bind h
  refine wpS.only 1 (op_callH (d := (some 20)) (by kernel_rfl) hs (fun _ => by kernel_rfl) (kpke_Encrypt.ok hg _ (RowL.nil _) (RowL.nil _) (RowL.nil _) (hs.rowR 0 rfl) (hs.rowR 1 rfl) (hs.rowR 2 rfl)) ?_)
  rintro ⟨r7_A, r7_n, r7_c⟩ w gw hs
  have hs := hs.conv (L' := [.ownL (CI .u8) r7_A r7_n r7_c r7 5, .blk b3 ([.int .i64 r1_0, .int .i64 r1_1, .int .i64 r1_2, .int .i64 r1_3, .int .i64 r1_4]) 23]) rfl
  refine ⟨fun _ => trivial, ?_⟩
  refine wpS.qs [(2, 18, .tuple #[.slice r7_A r7_n r7_c, .int .i64 r8]), (3, 21, .slice r7_A r7_n r7_c), (4, 22, .int .i64 r8), (5, 6, .slice r7_A r7_n r7_c), (6, 7, .int .i64 r8)] ?_
  refine wpS.fin rfl (kr8 _ _ (then_n (ks7 _ _ (xseq_k fun KS9 ks9 => (xregS [0, 1, 2, 3, 4, 5, 6, 7, 8, 9, 10, 11, 12, 13, 14, 15, 16, 17] fun KR10 kr10 => ?_)))))
  refine wpS.qs [(0, 23, .bool true), (1, 24, .bool true), (2, 25, .int .i64 r4)] ?_
  rcases of_if h with ⟨hc, h⟩ | ⟨hc, h⟩
  ·refine wpS.tk 3 false (some 26) (.bool true) (yld_b (et hc) (fun _ => by kernel_rfl)) ?_
   refine wpS.qs [(4, 27, .bool true), (5, 28, .bool true), (6, 29, .int .i64 r5)] ?_
   rcases of_if h with ⟨hc, h⟩ | ⟨hc, h⟩
   ·refine wpS.tk 7 false (some 30) (.bool true) (yld_b (et hc) (fun _ => by kernel_rfl)) ?_
    refine wpS.qs [(8, 31, .bool true), (9, 32, .bool true), (10, 33, .int .i64 r6)] ?_
    rcases of_if h with ⟨hc, h⟩ | ⟨hc, h⟩
    ·refine wpS.tk 11 false (some 34) (.bool true) (yld_b (et hc) (fun _ => by kernel_rfl)) ?_
     refine wpS.qs [(12, 35, .bool true), (13, 36, .bool true), (14, 37, .int .i64 r8), (15, 38, .bool (r8 == 10)), (16, 39, .bool (r8 == 10)), (17, 0, .bool (r8 == 10))] ?_
     refine wpS.fin rfl (kr10 _ _ (then_n (ks9 _ _ (xret ?_))))
     have q0 := of_some h
     subst q0
     exact qq _ _ (post_ret (by kernel_rfl) (run_results [.tmp 0] [.bool (r8 == 10)] (by kernel_rfl) (.cons (res_tmp (by kernel_rfl)) .nil)) ⟨congrArg Ending.returned (by kernel_rfl), hs.none⟩)
    refine wpS.tk 11 false (some 34) (.bool false) (yld_b (ef hc) (fun _ => by kernel_rfl)) ?_
    refine wpS.qs [(12, 35, .bool false), (13, 36, .bool false), (14, 37, undef), (15, 38, undef), (16, 39, .bool false), (17, 0, .bool false)] ?_
    refine wpS.fin rfl (kr10 _ _ (then_n (ks9 _ _ (xret ?_))))
    have q0 := of_some h
    subst q0
    exact qq _ _ (post_ret (by kernel_rfl) (run_results [.tmp 0] [.bool false] (by kernel_rfl) (.cons (res_tmp (by kernel_rfl)) .nil)) ⟨congrArg Ending.returned (by kernel_rfl), hs.none⟩)
   refine wpS.tk 7 false (some 30) (.bool false) (yld_b (ef hc) (fun _ => by kernel_rfl)) ?_
   refine wpS.qs [(8, 31, .bool false), (9, 32, .bool false), (10, 33, undef), (11, 34, undef), (12, 35, .bool false), (13, 36, .bool false), (14, 37, undef), (15, 38, undef), (16, 39, .bool false), (17, 0, .bool false)] ?_
   refine wpS.fin rfl (kr10 _ _ (then_n (ks9 _ _ (xret ?_))))
   have q0 := of_some h
   subst q0
   exact qq _ _ (post_ret (by kernel_rfl) (run_results [.tmp 0] [.bool false] (by kernel_rfl) (.cons (res_tmp (by kernel_rfl)) .nil)) ⟨congrArg Ending.returned (by kernel_rfl), hs.none⟩)
  refine wpS.tk 3 false (some 26) (.bool false) (yld_b (ef hc) (fun _ => by kernel_rfl)) ?_
  refine wpS.qs [(4, 27, .bool false), (5, 28, .bool false), (6, 29, undef), (7, 30, undef), (8, 31, .bool false), (9, 32, .bool false), (10, 33, undef), (11, 34, undef), (12, 35, .bool false), (13, 36, .bool false), (14, 37, undef), (15, 38, undef), (16, 39, .bool false), (17, 0, .bool false)] ?_
  refine wpS.fin rfl (kr10 _ _ (then_n (ks9 _ _ (xret ?_))))
  have q0 := of_some h
  subst q0
  exact qq _ _ (post_ret (by kernel_rfl) (run_results [.tmp 0] [.bool false] (by kernel_rfl) (.cons (res_tmp (by kernel_rfl)) .nil)) ⟨congrArg Ending.returned (by kernel_rfl), hs.none⟩)
 | false =>
  have h := of_if_f h
  refine wpS.q 3 11 (.bool false) ?_
  refine wpS.only 4 (op_alloc (t := 23) (d := (some 1)) (by kernel_rfl) hs ([.int .i64 0, .int .i64 0, .int .i64 0, .int .i64 0, .int .i64 0]) (.agg #[.int .i64 0, .int .i64 0, .int .i64 0, .int .i64 0, .int .i64 0]) (by kernel_rfl) (by kernel_rfl) (by kernel_rfl) ?_)
  intro b9 w gw hs
  refine ⟨fun _ => trivial, ?_⟩
  refine wpS.only 5 (op_storeW (t := 23) (v := .agg #[.int .i64 r1_0, .int .i64 r1_1, .int .i64 r1_2, .int .i64 r1_3, .int .i64 r1_4]) (d := none) (by kernel_rfl) hs 0 rfl (vs := [.int .i64 r1_0, .int .i64 r1_1, .int .i64 r1_2, .int .i64 r1_3, .int .i64 r1_4]) (n := 5) (by kernel_rfl) (by kernel_rfl) (by kernel_rfl) (by simp [enc_len]) (by simp [enc_len]) (by simp [Value.oneCell']) ?_)
  intro w kp hs
  refine ⟨fun _ => trivial, ?_⟩
  refine wpS.q 6 2 (.bool false) ?_
  refine wpS.fin rfl (kr4 _ _ (then_n (ks3 _ _ (xseq_k fun KS11 ks11 => (xregS [0, 1, 2, 3, 4, 5, 6, 7, 8] fun KR12 kr12 => ?_)))))
  refine wpS.tk 0 true (some 13) (.agg #[.int .i64 r1_0, .int .i64 r1_1, .int .i64 r1_2, .int .i64 r1_3, .int .i64 r1_4]) (yld_loadW (e := 23) (n := 5) hs 0 rfl (by kernel_rfl) (by kernel_rfl) (by kernel_rfl) (by simp [enc_len]) .grow) ?_
  obtain ⟨⟨r10, r11, r12⟩, hg, h⟩ := of_bind h
  refine wpS.only 1 (op_call (d := (some 14)) (by kernel_rfl) hs (fun _ => by kernel_rfl) (kpke_Sizes.ok hg _) ?_)
  intro w gw hs
  refine ⟨fun _ => trivial, ?_⟩
  refine wpS.qs [(2, 12, .tuple #[.int .i64 r10, .int .i64 r11, .int .i64 r12]), (3, 15, .int .i64 r10), (4, 16, .int .i64 r11), (5, 17, .int .i64 r12), (6, 3, .int .i64 r10), (7, 4, .int .i64 r11), (8, 5, .int .i64 r12)] ?_
  refine wpS.fin rfl (kr12 _ _ (then_n (ks11 _ _ (xseq_k fun KS13 ks13 => (xregS [0, 1, 2, 3, 4, 5, 6] fun KR14 kr14 => ?_)))))
  refine wpS.tk 0 true (some 19) (.agg #[.int .i64 r1_0, .int .i64 r1_1, .int .i64 r1_2, .int .i64 r1_3, .int .i64 r1_4]) (yld_loadW (e := 23) (n := 5) hs 0 rfl (by kernel_rfl) (by kernel_rfl) (by kernel_rfl) (by simp [enc_len]) .grow) ?_
  obtain ⟨⟨r13, r14⟩, hg, h⟩ := of_bind h
  refine wpS.only 1 (op_callH (d := (some 20)) (by kernel_rfl) hs (fun _ => by kernel_rfl) (kpke_Encrypt.ok hg _ (RowL.nil _) (RowL.nil _) (RowL.nil _) (hs.rowR 0 rfl) (hs.rowR 1 rfl) (hs.rowR 2 rfl)) ?_)
  rintro ⟨r13_A, r13_n, r13_c⟩ w gw hs
  have hs := hs.conv (L' := [.ownL (CI .u8) r13_A r13_n r13_c r13 5, .blk b9 ([.int .i64 r1_0, .int .i64 r1_1, .int .i64 r1_2, .int .i64 r1_3, .int .i64 r1_4]) 23]) rfl
  refine ⟨fun _ => trivial, ?_⟩
  refine wpS.qs [(2, 18, .tuple #[.slice r13_A r13_n r13_c, .int .i64 r14]), (3, 21, .slice r13_A r13_n r13_c), (4, 22, .int .i64 r14), (5, 6, .slice r13_A r13_n r13_c), (6, 7, .int .i64 r14)] ?_
  refine wpS.fin rfl (kr14 _ _ (then_n (ks13 _ _ (xseq_k fun KS15 ks15 => (xregS [0, 1, 2, 3, 4, 5, 6, 7, 8, 9, 10, 11, 12, 13, 14, 15, 16, 17] fun KR16 kr16 => ?_)))))
  refine wpS.qs [(0, 23, .bool false), (1, 24, .bool false), (2, 25, undef), (3, 26, undef), (4, 27, .bool false), (5, 28, .bool false), (6, 29, undef), (7, 30, undef), (8, 31, .bool false), (9, 32, .bool false), (10, 33, undef), (11, 34, undef), (12, 35, .bool false), (13, 36, .bool false), (14, 37, undef), (15, 38, undef), (16, 39, .bool false), (17, 0, .bool false)] ?_
  refine wpS.fin rfl (kr16 _ _ (then_n (ks15 _ _ (xret ?_))))
  have q0 := of_some h
  subst q0
  exact qq _ _ (post_ret (by kernel_rfl) (run_results [.tmp 0] [.bool false] (by kernel_rfl) (.cons (res_tmp (by kernel_rfl)) .nil)) ⟨congrArg Ending.returned (by kernel_rfl), hs.none⟩)

theorem ref26_Set.ok {K : Nat} {a0 : Int} {r0_0 : Int} {r0_1 : Int} {r0_2 : Int} {r0_3 : Int} {r0_4 : Int} {r1 : Bool} (h : ref26_Set.f K a0 = some (r0_0, r0_1, r0_2, r0_3, r0_4, r1)) (w0 : World) : Ret Tryd.prog 11 #[.int .i64 a0] w0 (.tuple #[.agg #[.int .i64 r0_0, .int .i64 r0_1, .int .i64 r0_2, .int .i64 r0_3, .int .i64 r0_4], .bool r1]) := by
 refine calls_k Tryd.func11 rfl fun Q qq => ?_
 have hs := St.start w0
 refine wp_conv (a' := ⟨#[.int .i64 a0, undef, undef, undef, undef, undef, undef, undef, undef, undef, undef, undef, undef, undef, undef], []⟩) (by kernel_rfl) ?_
 refine xseq_k fun KS1 ks1 => ?_
 refine xregS [0, 1] fun KR2 kr2 => ?_
 refine wpS.only 0 (op_alloc (t := 23) (d := (some 2)) (by kernel_rfl) hs ([.int .i64 0, .int .i64 0, .int .i64 0, .int .i64 0, .int .i64 0]) (.agg #[.int .i64 0, .int .i64 0, .int .i64 0, .int .i64 0, .int .i64 0]) (by kernel_rfl) (by kernel_rfl) (by kernel_rfl) ?_)
 intro b1 w gw hs
 refine ⟨fun _ => trivial, ?_⟩
 refine wpS.q 1 3 (.bool false) ?_
 refine wpS.fin rfl (kr2 _ _ (then_n (ks1 _ _ (xseq_k fun KS3 ks3 => (xseq_k fun KS4 ks4 => (xregS [0] fun KR5 kr5 => ?_))))))
 refine wpS.q 0 4 (.int .i64 a0) ?_
 refine wpS.fin rfl (kr5 _ _ (then_n (ks4 _ _ (xblock (xseq_k fun KS6 ks6 => (xregS [0, 1] fun KR7 kr7 => ?_))))))
 rcases of_if h with ⟨hc, h⟩ | ⟨hc, h⟩
 ·refine wpS.tk 0 false (some 6) (.bool true) (yld_b (et hc) (fun _ => by kernel_rfl)) ?_
  refine wpS.q 1 5 (.bool true) ?_
  refine wpS.fin rfl (kr7 _ _ (then_n (ks6 _ _ (wp_cond_t (by kernel_rfl) (xseq_k fun KS8 ks8 => (xregS [0, 1, 2] fun KR9 kr9 => ?_))))))
  refine wpS.q 0 7 (.agg #[.int .i64 2, .int .i64 3, .int .i64 2, .int .i64 10, .int .i64 4]) ?_
  refine wpS.only 1 (op_storeW (t := 23) (v := .agg #[.int .i64 2, .int .i64 3, .int .i64 2, .int .i64 10, .int .i64 4]) (d := none) (by kernel_rfl) hs 0 rfl (vs := [.int .i64 2, .int .i64 3, .int .i64 2, .int .i64 10, .int .i64 4]) (n := 5) (by kernel_rfl) (by kernel_rfl) (by kernel_rfl) (by simp [enc_len]) (by simp [enc_len]) (by simp [Value.oneCell']) ?_)
  intro w kp hs
  refine ⟨fun _ => trivial, ?_⟩
  refine wpS.q 2 3 (.bool true) ?_
  refine wpS.fin rfl (kr9 _ _ (then_n (ks8 _ _ (xret (inBlock_r (then_r ?_))))))
  obtain ⟨q0, qr0⟩ := Prod.mk.inj (of_some h)
  obtain ⟨q1, qr1⟩ := Prod.mk.inj (qr0)
  obtain ⟨q2, qr2⟩ := Prod.mk.inj (qr1)
  obtain ⟨q3, qr3⟩ := Prod.mk.inj (qr2)
  obtain ⟨q4, qr4⟩ := Prod.mk.inj (qr3)
  have q5 := qr4
  subst q0
  subst q1
  subst q2
  subst q3
  subst q4
  subst q5
  exact qq _ _ (post_ret (by kernel_rfl) (run_results [.cell 2 23, .tmp 3] [.agg #[.int .i64 2, .int .i64 3, .int .i64 2, .int .i64 10, .int .i64 4], .bool true] (by kernel_rfl) (.cons (res_cellN (n := 5) hs 0 rfl (by kernel_rfl) (by kernel_rfl) (by kernel_rfl) (by simp [enc_len])) (.cons (res_tmp (by kernel_rfl)) .nil))) ⟨congrArg Ending.returned (by kernel_rfl), hs.none⟩)
 refine wpS.tk 0 false (some 6) (.bool false) (yld_b (ef hc) (fun _ => by kernel_rfl)) ?_
 refine wpS.q 1 5 (.bool false) ?_
 refine wpS.fin rfl (kr7 _ _ (then_n (ks6 _ _ (wp_cond_f (by kernel_rfl) (xseq_k fun KS10 ks10 => (xregS [0, 1] fun KR11 kr11 => ?_))))))
 rcases of_if h with ⟨hc, h⟩ | ⟨hc, h⟩
 ·refine wpS.tk 0 false (some 9) (.bool true) (yld_b (et hc) (fun _ => by kernel_rfl)) ?_
  refine wpS.q 1 8 (.bool true) ?_
  refine wpS.fin rfl (kr11 _ _ (then_n (ks10 _ _ (wp_cond_t (by kernel_rfl) (xseq_k fun KS12 ks12 => (xregS [0, 1, 2] fun KR13 kr13 => ?_))))))
  refine wpS.q 0 10 (.agg #[.int .i64 3, .int .i64 2, .int .i64 2, .int .i64 10, .int .i64 4]) ?_
  refine wpS.only 1 (op_storeW (t := 23) (v := .agg #[.int .i64 3, .int .i64 2, .int .i64 2, .int .i64 10, .int .i64 4]) (d := none) (by kernel_rfl) hs 0 rfl (vs := [.int .i64 3, .int .i64 2, .int .i64 2, .int .i64 10, .int .i64 4]) (n := 5) (by kernel_rfl) (by kernel_rfl) (by kernel_rfl) (by simp [enc_len]) (by simp [enc_len]) (by simp [Value.oneCell']) ?_)
  intro w kp hs
  refine ⟨fun _ => trivial, ?_⟩
  refine wpS.q 2 3 (.bool true) ?_
  refine wpS.fin rfl (kr13 _ _ (then_n (ks12 _ _ (xret (inBlock_r (then_r ?_))))))
  obtain ⟨q0, qr0⟩ := Prod.mk.inj (of_some h)
  obtain ⟨q1, qr1⟩ := Prod.mk.inj (qr0)
  obtain ⟨q2, qr2⟩ := Prod.mk.inj (qr1)
  obtain ⟨q3, qr3⟩ := Prod.mk.inj (qr2)
  obtain ⟨q4, qr4⟩ := Prod.mk.inj (qr3)
  have q5 := qr4
  subst q0
  subst q1
  subst q2
  subst q3
  subst q4
  subst q5
  exact qq _ _ (post_ret (by kernel_rfl) (run_results [.cell 2 23, .tmp 3] [.agg #[.int .i64 3, .int .i64 2, .int .i64 2, .int .i64 10, .int .i64 4], .bool true] (by kernel_rfl) (.cons (res_cellN (n := 5) hs 0 rfl (by kernel_rfl) (by kernel_rfl) (by kernel_rfl) (by simp [enc_len])) (.cons (res_tmp (by kernel_rfl)) .nil))) ⟨congrArg Ending.returned (by kernel_rfl), hs.none⟩)
 refine wpS.tk 0 false (some 9) (.bool false) (yld_b (ef hc) (fun _ => by kernel_rfl)) ?_
 refine wpS.q 1 8 (.bool false) ?_
 refine wpS.fin rfl (kr11 _ _ (then_n (ks10 _ _ (wp_cond_f (by kernel_rfl) (xseq_k fun KS14 ks14 => (xregS [0, 1] fun KR15 kr15 => ?_))))))
 rcases of_if h with ⟨hc, h⟩ | ⟨hc, h⟩
 ·refine wpS.tk 0 false (some 12) (.bool true) (yld_b (et hc) (fun _ => by kernel_rfl)) ?_
  refine wpS.q 1 11 (.bool true) ?_
  refine wpS.fin rfl (kr15 _ _ (then_n (ks14 _ _ (wp_cond_t (by kernel_rfl) (xseq_k fun KS16 ks16 => (xregS [0, 1, 2] fun KR17 kr17 => ?_))))))
  refine wpS.q 0 13 (.agg #[.int .i64 4, .int .i64 2, .int .i64 2, .int .i64 11, .int .i64 5]) ?_
  refine wpS.only 1 (op_storeW (t := 23) (v := .agg #[.int .i64 4, .int .i64 2, .int .i64 2, .int .i64 11, .int .i64 5]) (d := none) (by kernel_rfl) hs 0 rfl (vs := [.int .i64 4, .int .i64 2, .int .i64 2, .int .i64 11, .int .i64 5]) (n := 5) (by kernel_rfl) (by kernel_rfl) (by kernel_rfl) (by simp [enc_len]) (by simp [enc_len]) (by simp [Value.oneCell']) ?_)
  intro w kp hs
  refine ⟨fun _ => trivial, ?_⟩
  refine wpS.q 2 3 (.bool true) ?_
  refine wpS.fin rfl (kr17 _ _ (then_n (ks16 _ _ (xret (inBlock_r (then_r ?_))))))
  obtain ⟨q0, qr0⟩ := Prod.mk.inj (of_some h)
  obtain ⟨q1, qr1⟩ := Prod.mk.inj (qr0)
  obtain ⟨q2, qr2⟩ := Prod.mk.inj (qr1)
  obtain ⟨q3, qr3⟩ := Prod.mk.inj (qr2)
  obtain ⟨q4, qr4⟩ := Prod.mk.inj (qr3)
  have q5 := qr4
  subst q0
  subst q1
  subst q2
  subst q3
  subst q4
  subst q5
  exact qq _ _ (post_ret (by kernel_rfl) (run_results [.cell 2 23, .tmp 3] [.agg #[.int .i64 4, .int .i64 2, .int .i64 2, .int .i64 11, .int .i64 5], .bool true] (by kernel_rfl) (.cons (res_cellN (n := 5) hs 0 rfl (by kernel_rfl) (by kernel_rfl) (by kernel_rfl) (by simp [enc_len])) (.cons (res_tmp (by kernel_rfl)) .nil))) ⟨congrArg Ending.returned (by kernel_rfl), hs.none⟩)
 refine wpS.tk 0 false (some 12) (.bool false) (yld_b (ef hc) (fun _ => by kernel_rfl)) ?_
 refine wpS.q 1 11 (.bool false) ?_
 refine wpS.fin rfl (kr15 _ _ (then_n (ks14 _ _ (wp_cond_f (by kernel_rfl) (xskip (inBlock_n (then_n (ks3 _ _ (xseq_k fun KS18 ks18 => (xregS [0, 1, 2] fun KR19 kr19 => ?_))))))))))
 refine wpS.q 0 14 (.agg #[.int .i64 0, .int .i64 0, .int .i64 0, .int .i64 0, .int .i64 0]) ?_
 refine wpS.only 1 (op_storeW (t := 23) (v := .agg #[.int .i64 0, .int .i64 0, .int .i64 0, .int .i64 0, .int .i64 0]) (d := none) (by kernel_rfl) hs 0 rfl (vs := [.int .i64 0, .int .i64 0, .int .i64 0, .int .i64 0, .int .i64 0]) (n := 5) (by kernel_rfl) (by kernel_rfl) (by kernel_rfl) (by simp [enc_len]) (by simp [enc_len]) (by simp [Value.oneCell']) ?_)
 intro w kp hs
 refine ⟨fun _ => trivial, ?_⟩
 refine wpS.q 2 3 (.bool false) ?_
 refine wpS.fin rfl (kr19 _ _ (then_n (ks18 _ _ (xret ?_))))
 obtain ⟨q0, qr0⟩ := Prod.mk.inj (of_some h)
 obtain ⟨q1, qr1⟩ := Prod.mk.inj (qr0)
 obtain ⟨q2, qr2⟩ := Prod.mk.inj (qr1)
 obtain ⟨q3, qr3⟩ := Prod.mk.inj (qr2)
 obtain ⟨q4, qr4⟩ := Prod.mk.inj (qr3)
 have q5 := qr4
 subst q0
 subst q1
 subst q2
 subst q3
 subst q4
 subst q5
 exact qq _ _ (post_ret (by kernel_rfl) (run_results [.cell 2 23, .tmp 3] [.agg #[.int .i64 0, .int .i64 0, .int .i64 0, .int .i64 0, .int .i64 0], .bool false] (by kernel_rfl) (.cons (res_cellN (n := 5) hs 0 rfl (by kernel_rfl) (by kernel_rfl) (by kernel_rfl) (by simp [enc_len])) (.cons (res_tmp (by kernel_rfl)) .nil))) ⟨congrArg Ending.returned (by kernel_rfl), hs.none⟩)

theorem ref26_Known.ok {K : Nat} {a0_0 : Int} {a0_1 : Int} {a0_2 : Int} {a0_3 : Int} {a0_4 : Int} {r0 : Bool} (h : ref26_Known.f K a0_0 a0_1 a0_2 a0_3 a0_4 = some r0) (w0 : World) : Ret Tryd.prog 34 #[.agg #[.int .i64 a0_0, .int .i64 a0_1, .int .i64 a0_2, .int .i64 a0_3, .int .i64 a0_4]] w0 (.bool r0) := by
 refine calls_k Tryd.func34 rfl fun Q qq => ?_
 have hs := St.start w0
 refine wp_conv (a' := ⟨#[.agg #[.int .i64 a0_0, .int .i64 a0_1, .int .i64 a0_2, .int .i64 a0_3, .int .i64 a0_4], undef, undef, undef, undef, undef, undef, undef, undef, undef, undef, undef, undef, undef, undef, undef, undef, undef, undef, undef, undef, undef, undef, undef, undef, undef, undef, undef, undef, undef, undef, undef, undef, undef], []⟩) (by kernel_rfl) ?_
 refine xseq_k fun KS1 ks1 => ?_
 refine xregS [0, 1] fun KR2 kr2 => ?_
 refine wpS.only 0 (op_box (t := 23) (v := .agg #[.int .i64 a0_0, .int .i64 a0_1, .int .i64 a0_2, .int .i64 a0_3, .int .i64 a0_4]) (d := (some 1)) (by kernel_rfl) hs ([.int .i64 a0_0, .int .i64 a0_1, .int .i64 a0_2, .int .i64 a0_3, .int .i64 a0_4]) (by kernel_rfl) (by kernel_rfl) ?_)
 intro b1 w gw hs
 refine ⟨fun _ => trivial, ?_⟩
 refine wpS.q 1 2 (.bool false) ?_
 refine wpS.fin rfl (kr2 _ _ (then_n (ks1 _ _ (xseq_k fun KS3 ks3 => (xregS [0, 1, 2, 3, 4, 5, 6] fun KR4 kr4 => ?_)))))
 obtain ⟨⟨r2_0, r2_1, r2_2, r2_3, r2_4, r3⟩, hg, h⟩ := of_bind h
 refine wpS.only 0 (op_call (d := (some 10)) (by kernel_rfl) hs (fun _ => by kernel_rfl) (ref26_Set.ok hg _) ?_)
 intro w gw hs
 refine ⟨fun _ => trivial, ?_⟩
 refine wpS.qs [(1, 9, .tuple #[.agg #[.int .i64 r2_0, .int .i64 r2_1, .int .i64 r2_2, .int .i64 r2_3, .int .i64 r2_4], .bool r3]), (2, 11, .agg #[.int .i64 r2_0, .int .i64 r2_1, .int .i64 r2_2, .int .i64 r2_3, .int .i64 r2_4]), (3, 12, .bool r3)] ?_
 refine wpS.only 4 (op_alloc (t := 23) (d := (some 3)) (by kernel_rfl) hs ([.int .i64 0, .int .i64 0, .int .i64 0, .int .i64 0, .int .i64 0]) (.agg #[.int .i64 0, .int .i64 0, .int .i64 0, .int .i64 0, .int .i64 0]) (by kernel_rfl) (by kernel_rfl) (by kernel_rfl) ?_)
 intro b4 w gw hs
 refine ⟨fun _ => trivial, ?_⟩
 refine wpS.only 5 (op_storeW (t := 23) (v := .agg #[.int .i64 r2_0, .int .i64 r2_1, .int .i64 r2_2, .int .i64 r2_3, .int .i64 r2_4]) (d := none) (by kernel_rfl) hs 0 rfl (vs := [.int .i64 r2_0, .int .i64 r2_1, .int .i64 r2_2, .int .i64 r2_3, .int .i64 r2_4]) (n := 5) (by kernel_rfl) (by kernel_rfl) (by kernel_rfl) (by simp [enc_len]) (by simp [enc_len]) (by simp [Value.oneCell']) ?_)
 intro w kp hs
 refine ⟨fun _ => trivial, ?_⟩
 refine wpS.q 6 4 (.bool r3) ?_
 refine wpS.fin rfl (kr4 _ _ (then_n (ks3 _ _ (xseq_k fun KS5 ks5 => (xregS [0, 1, 2, 3, 4, 5, 6] fun KR6 kr6 => ?_)))))
 obtain ⟨⟨r5_0, r5_1, r5_2, r5_3, r5_4, r6⟩, hg, h⟩ := of_bind h
 refine wpS.only 0 (op_call (d := (some 14)) (by kernel_rfl) hs (fun _ => by kernel_rfl) (ref26_Set.ok hg _) ?_)
 intro w gw hs
 refine ⟨fun _ => trivial, ?_⟩
 refine wpS.qs [(1, 13, .tuple #[.agg #[.int .i64 r5_0, .int .i64 r5_1, .int .i64 r5_2, .int .i64 r5_3, .int .i64 r5_4], .bool r6]), (2, 15, .agg #[.int .i64 r5_0, .int .i64 r5_1, .int .i64 r5_2, .int .i64 r5_3, .int .i64 r5_4]), (3, 16, .bool r6)] ?_
 refine wpS.only 4 (op_alloc (t := 23) (d := (some 5)) (by kernel_rfl) hs ([.int .i64 0, .int .i64 0, .int .i64 0, .int .i64 0, .int .i64 0]) (.agg #[.int .i64 0, .int .i64 0, .int .i64 0, .int .i64 0, .int .i64 0]) (by kernel_rfl) (by kernel_rfl) (by kernel_rfl) ?_)
 intro b7 w gw hs
 refine ⟨fun _ => trivial, ?_⟩
 refine wpS.only 5 (op_storeW (t := 23) (v := .agg #[.int .i64 r5_0, .int .i64 r5_1, .int .i64 r5_2, .int .i64 r5_3, .int .i64 r5_4]) (d := none) (by kernel_rfl) hs 0 rfl (vs := [.int .i64 r5_0, .int .i64 r5_1, .int .i64 r5_2, .int .i64 r5_3, .int .i64 r5_4]) (n := 5) (by kernel_rfl) (by kernel_rfl) (by kernel_rfl) (by simp [enc_len]) (by simp [enc_len]) (by simp [Value.oneCell']) ?_)
 intro w kp hs
 refine ⟨fun _ => trivial, ?_⟩
 refine wpS.q 6 6 (.bool r6) ?_
 refine wpS.fin rfl (kr6 _ _ (then_n (ks5 _ _ (xseq_k fun KS7 ks7 => (xregS [0, 1, 2, 3, 4, 5, 6] fun KR8 kr8 => ?_)))))
 obtain ⟨⟨r8_0, r8_1, r8_2, r8_3, r8_4, r9⟩, hg, h⟩ := of_bind h
 refine wpS.only 0 (op_call (d := (some 18)) (by kernel_rfl) hs (fun _ => by kernel_rfl) (ref26_Set.ok hg _) ?_)
 intro w gw hs
 refine ⟨fun _ => trivial, ?_⟩
 refine wpS.qs [(1, 17, .tuple #[.agg #[.int .i64 r8_0, .int .i64 r8_1, .int .i64 r8_2, .int .i64 r8_3, .int .i64 r8_4], .bool r9]), (2, 19, .agg #[.int .i64 r8_0, .int .i64 r8_1, .int .i64 r8_2, .int .i64 r8_3, .int .i64 r8_4]), (3, 20, .bool r9)] ?_
 refine wpS.only 4 (op_alloc (t := 23) (d := (some 7)) (by kernel_rfl) hs ([.int .i64 0, .int .i64 0, .int .i64 0, .int .i64 0, .int .i64 0]) (.agg #[.int .i64 0, .int .i64 0, .int .i64 0, .int .i64 0, .int .i64 0]) (by kernel_rfl) (by kernel_rfl) (by kernel_rfl) ?_)
 intro b10 w gw hs
 refine ⟨fun _ => trivial, ?_⟩
 refine wpS.only 5 (op_storeW (t := 23) (v := .agg #[.int .i64 r8_0, .int .i64 r8_1, .int .i64 r8_2, .int .i64 r8_3, .int .i64 r8_4]) (d := none) (by kernel_rfl) hs 0 rfl (vs := [.int .i64 r8_0, .int .i64 r8_1, .int .i64 r8_2, .int .i64 r8_3, .int .i64 r8_4]) (n := 5) (by kernel_rfl) (by kernel_rfl) (by kernel_rfl) (by simp [enc_len]) (by simp [enc_len]) (by simp [Value.oneCell']) ?_)
 intro w kp hs
 refine ⟨fun _ => trivial, ?_⟩
 refine wpS.q 6 8 (.bool r9) ?_
 refine wpS.fin rfl (kr8 _ _ (then_n (ks7 _ _ (xseq_k fun KS9 ks9 => (xregS [0, 1, 2, 3, 4, 5, 6, 7, 8, 9, 10, 11, 12, 13] fun KR10 kr10 => ?_)))))
 refine wpS.tk 0 true (some 21) (.agg #[.int .i64 a0_0, .int .i64 a0_1, .int .i64 a0_2, .int .i64 a0_3, .int .i64 a0_4]) (yld_loadW (e := 23) (n := 5) hs 3 rfl (by kernel_rfl) (by kernel_rfl) (by kernel_rfl) (by simp [enc_len]) .grow) ?_
 refine wpS.tk 1 true (some 22) (.agg #[.int .i64 r2_0, .int .i64 r2_1, .int .i64 r2_2, .int .i64 r2_3, .int .i64 r2_4]) (yld_loadW (e := 23) (n := 5) hs 2 rfl (by kernel_rfl) (by kernel_rfl) (by kernel_rfl) (by simp [enc_len]) .grow) ?_
 rcases of_ifb h with ⟨hc, h⟩ | ⟨hc, h⟩
 ·refine wpS.tk 2 false (some 23) (.bool true) (yld_bb hc (yld_eqS (fs := [Field.mk "K" 3 0 false "" "" 0, Field.mk "Eta1" 3 1 false "" "" 8, Field.mk "Eta2" 3 2 false "" "" 16, Field.mk "Du" 3 3 false "" "" 24, Field.mk "Dv" 3 4 false "" "" 32]) (xs := [.int .i64 a0_0, .int .i64 a0_1, .int .i64 a0_2, .int .i64 a0_3, .int .i64 a0_4]) (ys := [.int .i64 r2_0, .int .i64 r2_1, .int .i64 r2_2, .int .i64 r2_3, .int .i64 r2_4]) (t := 23) (.tmp 21) (.tmp 22) (by kernel_rfl) (by kernel_rfl) (by kernel_rfl) (by kernel_rfl) (.cons rfl (fun w => Go.Mx.run_part1 (by kernel_rfl) rfl) (fun w => Go.Mx.run_part1 (by kernel_rfl) rfl) (fun w => Go.Mx.run_equalIn_int (by kernel_rfl)) (.cons rfl (fun w => Go.Mx.run_part1 (by kernel_rfl) rfl) (fun w => Go.Mx.run_part1 (by kernel_rfl) rfl) (fun w => Go.Mx.run_equalIn_int (by kernel_rfl)) (.cons rfl (fun w => Go.Mx.run_part1 (by kernel_rfl) rfl) (fun w => Go.Mx.run_part1 (by kernel_rfl) rfl) (fun w => Go.Mx.run_equalIn_int (by kernel_rfl)) (.cons rfl (fun w => Go.Mx.run_part1 (by kernel_rfl) rfl) (fun w => Go.Mx.run_part1 (by kernel_rfl) rfl) (fun w => Go.Mx.run_equalIn_int (by kernel_rfl)) (.cons rfl (fun w => Go.Mx.run_part1 (by kernel_rfl) rfl) (fun w => Go.Mx.run_part1 (by kernel_rfl) rfl) (fun w => Go.Mx.run_equalIn_int (by kernel_rfl)) .nil))))))) ?_
  refine wpS.qs [(3, 24, .bool true), (4, 25, undef), (5, 26, undef), (6, 27, undef), (7, 28, .bool true), (8, 29, .bool true), (9, 30, undef), (10, 31, undef), (11, 32, undef), (12, 33, .bool true), (13, 2, .bool true)] ?_
  refine wpS.fin rfl (kr10 _ _ (then_n (ks9 _ _ (xret ?_))))
  have q0 := of_some h
  subst q0
  exact qq _ _ (post_ret (by kernel_rfl) (run_results [.tmp 2] [.bool true] (by kernel_rfl) (.cons (res_tmp (by kernel_rfl)) .nil)) ⟨congrArg Ending.returned (by kernel_rfl), hs.none⟩)
 refine wpS.tk 2 false (some 23) (.bool false) (yld_bb hc (yld_eqS (fs := [Field.mk "K" 3 0 false "" "" 0, Field.mk "Eta1" 3 1 false "" "" 8, Field.mk "Eta2" 3 2 false "" "" 16, Field.mk "Du" 3 3 false "" "" 24, Field.mk "Dv" 3 4 false "" "" 32]) (xs := [.int .i64 a0_0, .int .i64 a0_1, .int .i64 a0_2, .int .i64 a0_3, .int .i64 a0_4]) (ys := [.int .i64 r2_0, .int .i64 r2_1, .int .i64 r2_2, .int .i64 r2_3, .int .i64 r2_4]) (t := 23) (.tmp 21) (.tmp 22) (by kernel_rfl) (by kernel_rfl) (by kernel_rfl) (by kernel_rfl) (.cons rfl (fun w => Go.Mx.run_part1 (by kernel_rfl) rfl) (fun w => Go.Mx.run_part1 (by kernel_rfl) rfl) (fun w => Go.Mx.run_equalIn_int (by kernel_rfl)) (.cons rfl (fun w => Go.Mx.run_part1 (by kernel_rfl) rfl) (fun w => Go.Mx.run_part1 (by kernel_rfl) rfl) (fun w => Go.Mx.run_equalIn_int (by kernel_rfl)) (.cons rfl (fun w => Go.Mx.run_part1 (by kernel_rfl) rfl) (fun w => Go.Mx.run_part1 (by kernel_rfl) rfl) (fun w => Go.Mx.run_equalIn_int (by kernel_rfl)) (.cons rfl (fun w => Go.Mx.run_part1 (by kernel_rfl) rfl) (fun w => Go.Mx.run_part1 (by kernel_rfl) rfl) (fun w => Go.Mx.run_equalIn_int (by kernel_rfl)) (.cons rfl (fun w => Go.Mx.run_part1 (by kernel_rfl) rfl) (fun w => Go.Mx.run_part1 (by kernel_rfl) rfl) (fun w => Go.Mx.run_equalIn_int (by kernel_rfl)) .nil))))))) ?_
 refine wpS.q 3 24 (.bool false) ?_
 refine wpS.tk 4 true (some 25) (.agg #[.int .i64 a0_0, .int .i64 a0_1, .int .i64 a0_2, .int .i64 a0_3, .int .i64 a0_4]) (yld_loadW (e := 23) (n := 5) hs 3 rfl (by kernel_rfl) (by kernel_rfl) (by kernel_rfl) (by simp [enc_len]) .grow) ?_
 refine wpS.tk 5 true (some 26) (.agg #[.int .i64 r5_0, .int .i64 r5_1, .int .i64 r5_2, .int .i64 r5_3, .int .i64 r5_4]) (yld_loadW (e := 23) (n := 5) hs 1 rfl (by kernel_rfl) (by kernel_rfl) (by kernel_rfl) (by simp [enc_len]) .grow) ?_
 rcases of_ifb h with ⟨hc, h⟩ | ⟨hc, h⟩
 ·refine wpS.tk 6 false (some 27) (.bool true) (yld_bb hc (yld_eqS (fs := [Field.mk "K" 3 0 false "" "" 0, Field.mk "Eta1" 3 1 false "" "" 8, Field.mk "Eta2" 3 2 false "" "" 16, Field.mk "Du" 3 3 false "" "" 24, Field.mk "Dv" 3 4 false "" "" 32]) (xs := [.int .i64 a0_0, .int .i64 a0_1, .int .i64 a0_2, .int .i64 a0_3, .int .i64 a0_4]) (ys := [.int .i64 r5_0, .int .i64 r5_1, .int .i64 r5_2, .int .i64 r5_3, .int .i64 r5_4]) (t := 23) (.tmp 25) (.tmp 26) (by kernel_rfl) (by kernel_rfl) (by kernel_rfl) (by kernel_rfl) (.cons rfl (fun w => Go.Mx.run_part1 (by kernel_rfl) rfl) (fun w => Go.Mx.run_part1 (by kernel_rfl) rfl) (fun w => Go.Mx.run_equalIn_int (by kernel_rfl)) (.cons rfl (fun w => Go.Mx.run_part1 (by kernel_rfl) rfl) (fun w => Go.Mx.run_part1 (by kernel_rfl) rfl) (fun w => Go.Mx.run_equalIn_int (by kernel_rfl)) (.cons rfl (fun w => Go.Mx.run_part1 (by kernel_rfl) rfl) (fun w => Go.Mx.run_part1 (by kernel_rfl) rfl) (fun w => Go.Mx.run_equalIn_int (by kernel_rfl)) (.cons rfl (fun w => Go.Mx.run_part1 (by kernel_rfl) rfl) (fun w => Go.Mx.run_part1 (by kernel_rfl) rfl) (fun w => Go.Mx.run_equalIn_int (by kernel_rfl)) (.cons rfl (fun w => Go.Mx.run_part1 (by kernel_rfl) rfl) (fun w => Go.Mx.run_part1 (by kernel_rfl) rfl) (fun w => Go.Mx.run_equalIn_int (by kernel_rfl)) .nil))))))) ?_
  refine wpS.qs [(7, 28, .bool true), (8, 29, .bool true), (9, 30, undef), (10, 31, undef), (11, 32, undef), (12, 33, .bool true), (13, 2, .bool true)] ?_
  refine wpS.fin rfl (kr10 _ _ (then_n (ks9 _ _ (xret ?_))))
  have q0 := of_some h
  subst q0
  exact qq _ _ (post_ret (by kernel_rfl) (run_results [.tmp 2] [.bool true] (by kernel_rfl) (.cons (res_tmp (by kernel_rfl)) .nil)) ⟨congrArg Ending.returned (by kernel_rfl), hs.none⟩)
 refine wpS.tk 6 false (some 27) (.bool false) (yld_bb hc (yld_eqS (fs := [Field.mk "K" 3 0 false "" "" 0, Field.mk "Eta1" 3 1 false "" "" 8, Field.mk "Eta2" 3 2 false "" "" 16, Field.mk "Du" 3 3 false "" "" 24, Field.mk "Dv" 3 4 false "" "" 32]) (xs := [.int .i64 a0_0, .int .i64 a0_1, .int .i64 a0_2, .int .i64 a0_3, .int .i64 a0_4]) (ys := [.int .i64 r5_0, .int .i64 r5_1, .int .i64 r5_2, .int .i64 r5_3, .int .i64 r5_4]) (t := 23) (.tmp 25) (.tmp 26) (by kernel_rfl) (by kernel_rfl) (by kernel_rfl) (by kernel_rfl) (.cons rfl (fun w => Go.Mx.run_part1 (by kernel_rfl) rfl) (fun w => Go.Mx.run_part1 (by kernel_rfl) rfl) (fun w => Go.Mx.run_equalIn_int (by kernel_rfl)) (.cons rfl (fun w => Go.Mx.run_part1 (by kernel_rfl) rfl) (fun w => Go.Mx.run_part1 (by kernel_rfl) rfl) (fun w => Go.Mx.run_equalIn_int (by kernel_rfl)) (.cons rfl (fun w => Go.Mx.run_part1 (by kernel_rfl) rfl) (fun w => Go.Mx.run_part1 (by kernel_rfl) rfl) (fun w => Go.Mx.run_equalIn_int (by kernel_rfl)) (.cons rfl (fun w => Go.Mx.run_part1 (by kernel_rfl) rfl) (fun w => Go.Mx.run_part1 (by kernel_rfl) rfl) (fun w => Go.Mx.run_equalIn_int (by kernel_rfl)) (.cons rfl (fun w => Go.Mx.run_part1 (by kernel_rfl) rfl) (fun w => Go.Mx.run_part1 (by kernel_rfl) rfl) (fun w => Go.Mx.run_equalIn_int (by kernel_rfl)) .nil))))))) ?_
 refine wpS.qs [(7, 28, .bool false), (8, 29, .bool false)] ?_
 refine wpS.tk 9 true (some 30) (.agg #[.int .i64 a0_0, .int .i64 a0_1, .int .i64 a0_2, .int .i64 a0_3, .int .i64 a0_4]) (yld_loadW (e := 23) (n := 5) hs 3 rfl (by kernel_rfl) (by kernel_rfl) (by kernel_rfl) (by simp [enc_len]) .grow) ?_
 refine wpS.tk 10 true (some 31) (.agg #[.int .i64 r8_0, .int .i64 r8_1, .int .i64 r8_2, .int .i64 r8_3, .int .i64 r8_4]) (yld_loadW (e := 23) (n := 5) hs 0 rfl (by kernel_rfl) (by kernel_rfl) (by kernel_rfl) (by simp [enc_len]) .grow) ?_
 refine wpS.tk 11 false (some 32) (.bool ((a0_0 == r8_0) && ((a0_1 == r8_1) && ((a0_2 == r8_2) && ((a0_3 == r8_3) && ((a0_4 == r8_4) && true)))))) (yld_eqS (fs := [Field.mk "K" 3 0 false "" "" 0, Field.mk "Eta1" 3 1 false "" "" 8, Field.mk "Eta2" 3 2 false "" "" 16, Field.mk "Du" 3 3 false "" "" 24, Field.mk "Dv" 3 4 false "" "" 32]) (xs := [.int .i64 a0_0, .int .i64 a0_1, .int .i64 a0_2, .int .i64 a0_3, .int .i64 a0_4]) (ys := [.int .i64 r8_0, .int .i64 r8_1, .int .i64 r8_2, .int .i64 r8_3, .int .i64 r8_4]) (t := 23) (.tmp 30) (.tmp 31) (by kernel_rfl) (by kernel_rfl) (by kernel_rfl) (by kernel_rfl) (.cons rfl (fun w => Go.Mx.run_part1 (by kernel_rfl) rfl) (fun w => Go.Mx.run_part1 (by kernel_rfl) rfl) (fun w => Go.Mx.run_equalIn_int (by kernel_rfl)) (.cons rfl (fun w => Go.Mx.run_part1 (by kernel_rfl) rfl) (fun w => Go.Mx.run_part1 (by kernel_rfl) rfl) (fun w => Go.Mx.run_equalIn_int (by kernel_rfl)) (.cons rfl (fun w => Go.Mx.run_part1 (by kernel_rfl) rfl) (fun w => Go.Mx.run_part1 (by kernel_rfl) rfl) (fun w => Go.Mx.run_equalIn_int (by kernel_rfl)) (.cons rfl (fun w => Go.Mx.run_part1 (by kernel_rfl) rfl) (fun w => Go.Mx.run_part1 (by kernel_rfl) rfl) (fun w => Go.Mx.run_equalIn_int (by kernel_rfl)) (.cons rfl (fun w => Go.Mx.run_part1 (by kernel_rfl) rfl) (fun w => Go.Mx.run_part1 (by kernel_rfl) rfl) (fun w => Go.Mx.run_equalIn_int (by kernel_rfl)) .nil)))))) ?_
 refine wpS.qs [(12, 33, .bool ((a0_0 == r8_0) && ((a0_1 == r8_1) && ((a0_2 == r8_2) && ((a0_3 == r8_3) && ((a0_4 == r8_4) && true)))))), (13, 2, .bool ((a0_0 == r8_0) && ((a0_1 == r8_1) && ((a0_2 == r8_2) && ((a0_3 == r8_3) && ((a0_4 == r8_4) && true))))))] ?_
 refine wpS.fin rfl (kr10 _ _ (then_n (ks9 _ _ (xret ?_))))
 have q0 := of_some h
 subst q0
 exact qq _ _ (post_ret (by kernel_rfl) (run_results [.tmp 2] [.bool ((a0_0 == r8_0) && ((a0_1 == r8_1) && ((a0_2 == r8_2) && ((a0_3 == r8_3) && ((a0_4 == r8_4) && true)))))] (by kernel_rfl) (.cons (res_tmp (by kernel_rfl)) .nil)) ⟨congrArg Ending.returned (by kernel_rfl), hs.none⟩)

theorem ref26_Sizes.ok {K : Nat} {a0_0 : Int} {a0_1 : Int} {a0_2 : Int} {a0_3 : Int} {a0_4 : Int} {r0 : Int} {r1 : Int} {r2 : Int} (h : ref26_Sizes.f K a0_0 a0_1 a0_2 a0_3 a0_4 = some (r0, r1, r2)) (w0 : World) : Ret Tryd.prog 13 #[.agg #[.int .i64 a0_0, .int .i64 a0_1, .int .i64 a0_2, .int .i64 a0_3, .int .i64 a0_4]] w0 (.tuple #[.int .i64 r0, .int .i64 r1, .int .i64 r2]) := by
 refine calls_k Tryd.func13 rfl fun Q qq => ?_
 have hs := St.start w0
 refine wp_conv (a' := ⟨#[.agg #[.int .i64 a0_0, .int .i64 a0_1, .int .i64 a0_2, .int .i64 a0_3, .int .i64 a0_4], undef, undef, undef, undef, undef, undef, undef, undef, undef, undef, undef, undef, undef, undef, undef, undef, undef, undef, undef, undef, undef, undef, undef], []⟩) (by kernel_rfl) ?_
 refine xseq_k fun KS1 ks1 => ?_
 refine xregS [0, 1, 2, 3] fun KR2 kr2 => ?_
 refine wpS.only 0 (op_box (t := 23) (v := .agg #[.int .i64 a0_0, .int .i64 a0_1, .int .i64 a0_2, .int .i64 a0_3, .int .i64 a0_4]) (d := (some 1)) (by kernel_rfl) hs ([.int .i64 a0_0, .int .i64 a0_1, .int .i64 a0_2, .int .i64 a0_3, .int .i64 a0_4]) (by kernel_rfl) (by kernel_rfl) ?_)
 intro b1 w gw hs
 refine ⟨fun _ => trivial, ?_⟩
 refine wpS.qs [(1, 2, .int .i64 0), (2, 3, .int .i64 0), (3, 4, .int .i64 0)] ?_
 refine wpS.fin rfl (kr2 _ _ (then_n (ks1 _ _ (xseq_k fun KS3 ks3 => (xseq_k fun KS4 ks4 => (xregS [0, 1, 2] fun KR5 kr5 => ?_))))))
 refine wpS.tk 0 true (some 5) (.agg #[.int .i64 a0_0, .int .i64 a0_1, .int .i64 a0_2, .int .i64 a0_3, .int .i64 a0_4]) (yld_loadW (e := 23) (n := 5) hs 0 rfl (by kernel_rfl) (by kernel_rfl) (by kernel_rfl) (by simp [enc_len]) .grow) ?_
 obtain ⟨r2, hg, h⟩ := of_bind h
 cases r2 with
 | true =>
  have h := of_if_t h
  refine wpS.only 1 (op_call (d := (some 6)) (by kernel_rfl) hs (fun _ => by kernel_rfl) (ref26_Known.ok hg _) ?_)
  intro w gw hs
  refine ⟨fun _ => trivial, ?_⟩
  refine wpS.q 2 7 (.bool false) ?_
  refine wpS.fin rfl (kr5 _ _ (then_n (ks4 _ _ (wp_cond_f (by kernel_rfl) (xskip (then_n (ks3 _ _ (xseq_k fun KS6 ks6 => ?_))))))))
  refine wp_regG [] (fun k => True) 19 (by kernel_rfl) (by kernel_rfl) (by kernel_rfl) fun KR7 kr7 => ?_
  have hs := hs.drawn1
  refine wpG.q 0 8 (.pointer (some ⟨b1, 0, none⟩)) ?_
  refine wpG.tD 1 true (some 9) (.int .i64 a0_0) (yld_load1 (e := 3) (o := 0) hs 0 rfl (by kernel_rfl) (by kernel_rfl) (by rfl) .grow) ?_
  refine wpG.q 2 10 (.int .i64 (imul .i64 384 a0_0)) ?_
  refine wpG.q 3 11 (.int .i64 (iadd .i64 (imul .i64 384 a0_0) 32)) ?_
  refine wpG.q 4 12 (.pointer (some ⟨b1, 0, none⟩)) ?_
  refine wpG.tD 5 true (some 13) (.int .i64 a0_0) (yld_load1 (e := 3) (o := 0) hs 0 rfl (by kernel_rfl) (by kernel_rfl) (by rfl) .grow) ?_
  refine wpG.q 6 14 (.int .i64 (imul .i64 384 a0_0)) ?_
  refine wpG.q 7 15 (.pointer (some ⟨b1, 3, none⟩)) ?_
  refine wpG.tD 8 true (some 16) (.int .i64 a0_3) (yld_load1 (e := 3) (o := 3) hs 0 rfl (by kernel_rfl) (by kernel_rfl) (by rfl) .grow) ?_
  refine wpG.q 9 17 (.pointer (some ⟨b1, 0, none⟩)) ?_
  refine wpG.tD 10 true (some 18) (.int .i64 a0_0) (yld_load1 (e := 3) (o := 0) hs 0 rfl (by kernel_rfl) (by kernel_rfl) (by rfl) .grow) ?_
  refine wpG.q 11 19 (.int .i64 (imul .i64 a0_3 a0_0)) ?_
  refine wpG.q 12 20 (.pointer (some ⟨b1, 4, none⟩)) ?_
  refine wpG.tD 13 true (some 21) (.int .i64 a0_4) (yld_load1 (e := 3) (o := 4) hs 0 rfl (by kernel_rfl) (by kernel_rfl) (by rfl) .grow) ?_
  refine wpG.q 14 22 (.int .i64 (iadd .i64 (imul .i64 a0_3 a0_0) a0_4)) ?_
  refine wpG.q 15 23 (.int .i64 (imul .i64 32 (iadd .i64 (imul .i64 a0_3 a0_0) a0_4))) ?_
  obtain ⟨x3, hx, h⟩ := of_bind h
  refine wpG.tD 16 false (some 2) (.int .i64 x3) (yld_int hx (fun _ => by kernel_rfl)) ?_
  obtain ⟨x4, hx, h⟩ := of_bind h
  refine wpG.tD 17 false (some 3) (.int .i64 x4) (yld_int hx (fun _ => by kernel_rfl)) ?_
  obtain ⟨x5, hx, h⟩ := of_bind h
  refine wpG.tD 18 false (some 4) (.int .i64 x5) (yld_int hx (fun _ => by kernel_rfl)) ?_
  refine wpG.fin (by kernel_rfl) rfl (kr7 _ _ ?_)
  refine then_n (ks6 _ _ (xret ?_))
  obtain ⟨q0, qr0⟩ := Prod.mk.inj (of_some h)
  obtain ⟨q1, qr1⟩ := Prod.mk.inj (qr0)
  have q2 := qr1
  subst q0
  subst q1
  subst q2
  exact qq _ _ (post_ret (by kernel_rfl) (run_results [.tmp 2, .tmp 3, .tmp 4] [.int .i64 x3, .int .i64 x4, .int .i64 x5] (by kernel_rfl) (.cons (res_tmp (by kernel_rfl)) (.cons (res_tmp (by kernel_rfl)) (.cons (res_tmp (by kernel_rfl)) .nil)))) ⟨congrArg Ending.returned (by kernel_rfl), hs.none⟩)
 | false =>
  have h := of_if_f h
  refine wpS.only 1 (op_call (d := (some 6)) (by kernel_rfl) hs (fun _ => by kernel_rfl) (ref26_Known.ok hg _) ?_)
  intro w gw hs
  refine ⟨fun _ => trivial, ?_⟩
  refine wpS.q 2 7 (.bool true) ?_
  refine wpS.fin rfl (kr5 _ _ (then_n (ks4 _ _ (wp_cond_t (by kernel_rfl) (xseq_k fun KS8 ks8 => (xregS [0, 1, 2] fun KR9 kr9 => ?_))))))
  refine wpS.qs [(0, 2, .int .i64 0), (1, 3, .int .i64 0), (2, 4, .int .i64 0)] ?_
  refine wpS.fin rfl (kr9 _ _ (then_n (ks8 _ _ (xret (then_r ?_)))))
  obtain ⟨q0, qr0⟩ := Prod.mk.inj (of_some h)
  obtain ⟨q1, qr1⟩ := Prod.mk.inj (qr0)
  have q2 := qr1
  subst q0
  subst q1
  subst q2
  exact qq _ _ (post_ret (by kernel_rfl) (run_results [.tmp 2, .tmp 3, .tmp 4] [.int .i64 0, .int .i64 0, .int .i64 0] (by kernel_rfl) (.cons (res_tmp (by kernel_rfl)) (.cons (res_tmp (by kernel_rfl)) (.cons (res_tmp (by kernel_rfl)) .nil)))) ⟨congrArg Ending.returned (by kernel_rfl), hs.none⟩)

theorem ref01_Join.ok {K : Nat} {a0 : List (List Int)} {r0 : List Int} {a0_A : Option Addr} {a0_n : Nat} {a0_c : Nat} {a0_H : List HS} (h : ref01_Join.f K a0 = some r0) (w0 : World) (hp0 : LLP (CI .u8) w0 a0_A a0_n a0_c a0_H a0) : Calls Tryd.prog 37 #[.slice a0_A a0_n a0_c] w0 fun e w' => ∃ h : (Option Addr × Nat × Nat), e = .returned (.slice h.1 h.2.1 h.2.2) ∧ St w0 [] [.ownL (CI .u8) h.1 h.2.1 h.2.2 r0 5] [] w' := by
 refine calls_k Tryd.func37 rfl fun Q qq => ?_
 have hs := St.startR (all_cons (LLP.ent hp0) all_nil)
 refine wp_conv (a' := ⟨#[.slice a0_A a0_n a0_c, undef, undef, undef, undef, undef, undef, undef, undef, undef, undef, undef, undef, undef, undef, undef, undef, undef], []⟩) (by kernel_rfl) ?_
 refine xseq_k fun KS1 ks1 => ?_
 refine xregS [0] fun KR2 kr2 => ?_
 refine wpS.q 0 2 (.slice none 0 0) ?_
 refine wpS.fin rfl (kr2 _ _ (then_n (ks1 _ _ (xseq_k fun KS3 ks3 => (xregS [0] fun KR4 kr4 => ?_)))))
 refine wpS.q 0 3 (.slice none 0 0) ?_
 refine wpS.fin rfl (kr4 _ _ (then_n (ks3 _ _ (xseq_k fun KS5 ks5 => (xseq_k fun KS6 ks6 => (xregS [0] fun KR7 kr7 => ?_))))))
 refine wpS.q 0 4 (.int .i64 0) ?_
 refine wpS.fin rfl (kr7 _ _ (then_n (ks6 _ _ ?_)))
 have hs := hs.addNilL (CI .u8) 5
 obtain ⟨y3, hy, hk0⟩ := of_bind h
 refine wp_exq (N := fun a w => ∃ (y3_A : Option Addr) (y3_n : Nat) (y3_c : Nat), St w0 [] [.ownL (CI .u8) y3_A y3_n y3_c y3 5] [.rowLL (CI .u8) a0_A a0_n a0_c a0_H a0] w ∧ ∃ g9 : Nat → Value, a = ⟨#[.slice a0_A a0_n a0_c, undef, .slice none 0 0, .slice y3_A y3_n y3_c, (g9 4), (g9 5), (g9 6), (g9 7), (g9 8), (g9 9), (g9 10), (g9 11), (g9 12), (g9 13), (g9 14), (g9 15), (g9 16), undef], []⟩) (fun N0 nn0 => ?_) ?_
 ·clear hk0
  refine xblock ?_
  refine wp_loop_k (fun n a w => ∃ z1 z2, ∃ (z2_A : Option Addr) (z2_n : Nat) (z2_c : Nat), ref01_Join.l0 K n a0 z1 z2 = some y3 ∧ St w0 [] [.ownL (CI .u8) z2_A z2_n z2_c z2 5] [.rowLL (CI .u8) a0_A a0_n a0_c a0_H a0] w ∧ ∃ g8 : Nat → Value, a = ⟨#[.slice a0_A a0_n a0_c, undef, .slice none 0 0, .slice z2_A z2_n z2_c, .int .i64 z1, (g8 5), (g8 6), (g8 7), (g8 8), (g8 9), (g8 10), (g8 11), (g8 12), (g8 13), (g8 14), (g8 15), (g8 16), undef], []⟩) K ⟨0, ([] : List Int), none, 0, 0, hy, hs.conv rfl, exg (by kernel_rfl)⟩ ?_
  clear hs h hy
  rintro n a w ⟨z1, z2, z2_A, z2_n, z2_c, h, hs, g8, rfl⟩ KL0 kl0
  cases n with
  | zero => exact nomatch (show none = some _ from h)
  | succ n =>
   refine xseq_k fun KS10 ks10 => ?_
   refine xseq_k fun KS11 ks11 => ?_
   refine xregS [0, 1, 2, 3] fun KR12 kr12 => ?_
   refine wpS.qs [(0, 5, .int .i64 z1), (1, 6, .slice a0_A a0_n a0_c)] ?_
   refine wpS.tk 2 false (some 7) (.int .i64 (a0.length : Int)) (yld_lenLL (hs.rowLL 0 rfl) (fun _ => by kernel_rfl)) ?_
   rcases of_if h with ⟨hc, h⟩ | ⟨hc, h⟩
   ·refine wpS.tk 3 false (some 8) (.bool true) (yld_b (dt hc) (fun _ => by kernel_rfl)) ?_
    refine wpS.fin rfl (kr12 _ _ (then_n (ks11 _ _ (wp_cond_t (by kernel_rfl) (xskip (then_n (ks10 _ _ (xseq_k fun KS13 ks13 => (xblock (xregS [0, 1, 2, 3, 4, 5, 6] fun KR14 kr14 => ?_))))))))))
    refine wpS.qs [(0, 11, .slice z2_A z2_n z2_c), (1, 12, .slice a0_A a0_n a0_c), (2, 13, .int .i64 z1)] ?_
    obtain ⟨h0, h⟩ := of_chk h
    obtain ⟨h1, h⟩ := of_chk h
    have i0_15 := h0
    have i1_15 := h1
    refine wpS.tk 3 false (some 14) (.pointer (adr a0_A ((z1 : Int).toNat * Cod.size (CI .u8)))) (yld_idxLL (C := (CI .u8)) (t := 59) (e := 24) (k := .i64) (x := z1) (hs.rowLL 0 rfl) (by kernel_rfl) (by kernel_rfl) (by kernel_rfl) h0 h1) ?_
    obtain ⟨s4_A, hA⟩ : ∃ A, A = (rdL CS a0_H z1).1 := ⟨_, rfl⟩
    obtain ⟨s4_n, hn⟩ : ∃ n, n = (rdL CS a0_H z1).2.1 := ⟨_, rfl⟩
    obtain ⟨s4_c, hc⟩ : ∃ c, c = (rdL CS a0_H z1).2.2 := ⟨_, rfl⟩
    refine wpS.tk 4 true (some 15) (.slice s4_A s4_n s4_c) (by subst hA hn hc; exact yld_loadLL (C := (CI .u8)) (e := 24) (x := z1) (hs.rowLL 0 rfl) (by kernel_rfl) (by kernel_rfl) i0_15 i1_15) ?_
    have hs := hs.addInn (C := (CI .u8)) 0 rfl i0_15 i1_15 hA hn hc
    obtain ⟨h0, h⟩ := of_chk h
    refine wpS.only 5 (op_appendT (C := (CI .u8)) (t := 24) (ty := 24) (e := 5) (bytes := 1) (B := 140737488355328) (d := (some 16)) (by kernel_rfl) hs 0 rfl (hs.rowR 0 rfl) (by kernel_rfl) (by kernel_rfl) (by kernel_rfl) (by kernel_rfl) (by kernel_rfl) h0 (by decide) (by decide) ?_)
    intro s5_A s5_n s5_c w hs
    refine ⟨fun _ => trivial, ?_⟩
    refine wpS.q 6 3 (.slice s5_A s5_n s5_c) ?_
    refine wpS.fin rfl (kr14 _ _ (inBlock_n (then_n (ks13 _ _ (xregS [0, 1, 2] fun KR16 kr16 => ?_)))))
    refine wpS.qs [(0, 9, .int .i64 z1), (1, 10, .int .i64 (iadd .i64 z1 1))] ?_
    obtain ⟨x6, hx, h⟩ := of_bind h
    refine wpS.tk 2 false (some 4) (.int .i64 x6) (yld_int hx (fun _ => by kernel_rfl)) ?_
    refine wpS.fin rfl (kr16 _ _ ?_)
    exact then_n (kl0 _ _ ⟨n, Nat.lt_succ_self n, x6, (z2 ++ (rdLL a0 z1)), s5_A, s5_n, s5_c, h, (hs.pickR (pick_cons 1 rfl pick_nil)), exg (by kernel_rfl)⟩)
   refine wpS.tk 3 false (some 8) (.bool false) (yld_b (df hc) (fun _ => by kernel_rfl)) ?_
   refine wpS.fin rfl (kr12 _ _ (then_n (ks11 _ _ (wp_cond_f (by kernel_rfl) (xexit (then_x (then_x (inBlock_hit ?_))))))))
   have q0 := of_some h
   subst q0
   exact exq_n (nn0 _ _ ⟨z2_A, z2_n, z2_c, (hs.conv rfl), exg (by kernel_rfl)⟩)
 clear hs h hy
 rintro a w ⟨y3_A, y3_n, y3_c, hs, g9, rfl⟩
 have h := hk0
 refine then_n (ks5 _ _ (xseq_k fun KS17 ks17 => (xregS [0, 1] fun KR18 kr18 => ?_)))
 refine wpS.qs [(0, 17, .slice y3_A y3_n y3_c), (1, 2, .slice y3_A y3_n y3_c)] ?_
 refine wpS.fin rfl (kr18 _ _ (then_n (ks17 _ _ (xret ?_))))
 have q0 := of_some h
 subst q0
 exact qq _ _ (post_ret (by kernel_rfl) (run_results [.tmp 2] [.slice y3_A y3_n y3_c] (by kernel_rfl) (.cons (res_tmp (by kernel_rfl)) .nil)) ⟨⟨y3_A, y3_n, y3_c⟩, congrArg Ending.returned (by kernel_rfl), (hs.pickR pick_nil)⟩)

theorem ref08_Rate.ok {K : Nat} {a0 : Int} {r0 : Int} (h : ref08_Rate.f K a0 = some r0) (w0 : World) : Ret Tryd.prog 106 #[.int .i64 a0] w0 (.int .i64 r0) := by
 refine calls_k Tryd.func106 rfl fun Q qq => ?_
 have hs := St.start w0
 refine wp_conv (a' := ⟨#[.int .i64 a0, undef, undef, undef, undef, undef, undef, undef, undef, undef, undef], []⟩) (by kernel_rfl) ?_
 refine xseq_k fun KS1 ks1 => ?_
 refine xregS [0] fun KR2 kr2 => ?_
 refine wpS.q 0 2 (.int .i64 0) ?_
 refine wpS.fin rfl (kr2 _ _ (then_n (ks1 _ _ (xseq_k fun KS3 ks3 => (xseq_k fun KS4 ks4 => (xregS [0] fun KR5 kr5 => ?_))))))
 refine wpS.q 0 3 (.int .i64 a0) ?_
 refine wpS.fin rfl (kr5 _ _ (then_n (ks4 _ _ (xblock (xseq_k fun KS6 ks6 => (xseq_k fun KS7 ks7 => (xregS [0, 1] fun KR8 kr8 => ?_)))))))
 rcases of_if h with ⟨hc, h⟩ | ⟨hc, h⟩
 ·refine wpS.tk 0 false (some 5) (.bool true) (yld_b (et hc) (fun _ => by kernel_rfl)) ?_
  refine wpS.q 1 4 (.bool true) ?_
  refine wpS.fin rfl (kr8 _ _ (then_n (ks7 _ _ (wp_cond_t (by kernel_rfl) (xskip (then_n (ks6 _ _ (wp_cond_t (by kernel_rfl) (xseq_k fun KS9 ks9 => (xregS [0] fun KR10 kr10 => ?_))))))))))
  refine wpS.q 0 2 (.int .i64 136) ?_
  refine wpS.fin rfl (kr10 _ _ (then_n (ks9 _ _ (xret (inBlock_r (then_r ?_))))))
  have q0 := of_some h
  subst q0
  exact qq _ _ (post_ret (by kernel_rfl) (run_results [.tmp 2] [.int .i64 136] (by kernel_rfl) (.cons (res_tmp (by kernel_rfl)) .nil)) ⟨congrArg Ending.returned (by kernel_rfl), hs.none⟩)
 refine wpS.tk 0 false (some 5) (.bool false) (yld_b (ef hc) (fun _ => by kernel_rfl)) ?_
 refine wpS.q 1 4 (.bool false) ?_
 refine wpS.fin rfl (kr8 _ _ (then_n (ks7 _ _ (wp_cond_f (by kernel_rfl) (xregS [0, 1] fun KR11 kr11 => ?_)))))
 rcases of_if h with ⟨hc, h⟩ | ⟨hc, h⟩
 ·refine wpS.tk 0 false (some 6) (.bool true) (yld_b (et hc) (fun _ => by kernel_rfl)) ?_
  refine wpS.q 1 4 (.bool true) ?_
  refine wpS.fin rfl (kr11 _ _ (then_n (ks6 _ _ (wp_cond_t (by kernel_rfl) (xseq_k fun KS12 ks12 => (xregS [0] fun KR13 kr13 => ?_))))))
  refine wpS.q 0 2 (.int .i64 136) ?_
  refine wpS.fin rfl (kr13 _ _ (then_n (ks12 _ _ (xret (inBlock_r (then_r ?_))))))
  have q0 := of_some h
  subst q0
  exact qq _ _ (post_ret (by kernel_rfl) (run_results [.tmp 2] [.int .i64 136] (by kernel_rfl) (.cons (res_tmp (by kernel_rfl)) .nil)) ⟨congrArg Ending.returned (by kernel_rfl), hs.none⟩)
 refine wpS.tk 0 false (some 6) (.bool false) (yld_b (ef hc) (fun _ => by kernel_rfl)) ?_
 refine wpS.q 1 4 (.bool false) ?_
 refine wpS.fin rfl (kr11 _ _ (then_n (ks6 _ _ (wp_cond_f (by kernel_rfl) (xseq_k fun KS14 ks14 => (xregS [0, 1] fun KR15 kr15 => ?_))))))
 rcases of_if h with ⟨hc, h⟩ | ⟨hc, h⟩
 ·refine wpS.tk 0 false (some 8) (.bool true) (yld_b (et hc) (fun _ => by kernel_rfl)) ?_
  refine wpS.q 1 7 (.bool true) ?_
  refine wpS.fin rfl (kr15 _ _ (then_n (ks14 _ _ (wp_cond_t (by kernel_rfl) (xseq_k fun KS16 ks16 => (xregS [0] fun KR17 kr17 => ?_))))))
  refine wpS.q 0 2 (.int .i64 72) ?_
  refine wpS.fin rfl (kr17 _ _ (then_n (ks16 _ _ (xret (inBlock_r (then_r ?_))))))
  have q0 := of_some h
  subst q0
  exact qq _ _ (post_ret (by kernel_rfl) (run_results [.tmp 2] [.int .i64 72] (by kernel_rfl) (.cons (res_tmp (by kernel_rfl)) .nil)) ⟨congrArg Ending.returned (by kernel_rfl), hs.none⟩)
 refine wpS.tk 0 false (some 8) (.bool false) (yld_b (ef hc) (fun _ => by kernel_rfl)) ?_
 refine wpS.q 1 7 (.bool false) ?_
 refine wpS.fin rfl (kr15 _ _ (then_n (ks14 _ _ (wp_cond_f (by kernel_rfl) (xseq_k fun KS18 ks18 => (xregS [0, 1] fun KR19 kr19 => ?_))))))
 rcases of_if h with ⟨hc, h⟩ | ⟨hc, h⟩
 ·refine wpS.tk 0 false (some 10) (.bool true) (yld_b (et hc) (fun _ => by kernel_rfl)) ?_
  refine wpS.q 1 9 (.bool true) ?_
  refine wpS.fin rfl (kr19 _ _ (then_n (ks18 _ _ (wp_cond_t (by kernel_rfl) (xseq_k fun KS20 ks20 => (xregS [0] fun KR21 kr21 => ?_))))))
  refine wpS.q 0 2 (.int .i64 168) ?_
  refine wpS.fin rfl (kr21 _ _ (then_n (ks20 _ _ (xret (inBlock_r (then_r ?_))))))
  have q0 := of_some h
  subst q0
  exact qq _ _ (post_ret (by kernel_rfl) (run_results [.tmp 2] [.int .i64 168] (by kernel_rfl) (.cons (res_tmp (by kernel_rfl)) .nil)) ⟨congrArg Ending.returned (by kernel_rfl), hs.none⟩)
 refine wpS.tk 0 false (some 10) (.bool false) (yld_b (ef hc) (fun _ => by kernel_rfl)) ?_
 refine wpS.q 1 9 (.bool false) ?_
 refine wpS.fin rfl (kr19 _ _ (then_n (ks18 _ _ (wp_cond_f (by kernel_rfl) (xskip (inBlock_n (then_n (ks3 _ _ (xseq_k fun KS22 ks22 => (xregS [0] fun KR23 kr23 => ?_))))))))))
 refine wpS.q 0 2 (.int .i64 0) ?_
 refine wpS.fin rfl (kr23 _ _ (then_n (ks22 _ _ (xret ?_))))
 have q0 := of_some h
 subst q0
 exact qq _ _ (post_ret (by kernel_rfl) (run_results [.tmp 2] [.int .i64 0] (by kernel_rfl) (.cons (res_tmp (by kernel_rfl)) .nil)) ⟨congrArg Ending.returned (by kernel_rfl), hs.none⟩)

theorem ref08_New.ok {K : Nat} {a0 : Int} {r0_0 : Int} {r0_1 : Arr 25} {r0_2 : Int} {r0_3 : Bool} {r1 : Int} (h : ref08_New.f K a0 = some (r0_0, r0_1, r0_2, r0_3, r1)) (w0 : World) : Ret Tryd.prog 84 #[.int .i64 a0] w0 (.tuple #[.agg (([.int .i64 r0_0] : List Value) ++ enc .u64 r0_1 ++ ([.int .i64 r0_2, .bool r0_3] : List Value)).toArray, .int .i64 r1]) := by
 refine calls_k Tryd.func84 rfl fun Q qq => ?_
 have hs := St.start w0
 refine wp_conv (a' := ⟨#[.int .i64 a0, undef, undef, undef, undef, undef, undef, undef, undef, undef], []⟩) (by kernel_rfl) ?_
 refine xseq_k fun KS1 ks1 => ?_
 refine xregS [0, 1] fun KR2 kr2 => ?_
 refine wpS.only 0 (op_alloc (t := 115) (d := (some 2)) (by kernel_rfl) hs (([.int .i64 0] : List Value) ++ enc .u64 (zeroA 25) ++ ([.int .i64 0, .bool false] : List Value)) (.agg (([.int .i64 0] : List Value) ++ enc .u64 (zeroA 25) ++ ([.int .i64 0, .bool false] : List Value)).toArray) (by kernel_rfl) (by kernel_rfl) (by kernel_rfl) ?_)
 intro b1 w gw hs
 refine ⟨fun _ => trivial, ?_⟩
 refine wpS.q 1 3 (.int .i64 0) ?_
 refine wpS.fin rfl (kr2 _ _ (then_n (ks1 _ _ (xseq_k fun KS3 ks3 => (xseq_k fun KS4 ks4 => (xregS [0, 1, 2] fun KR5 kr5 => ?_))))))
 refine wpS.q 0 4 (.int .i64 a0) ?_
 obtain ⟨r2, hg, h⟩ := of_bind h
 refine wpS.only 1 (op_call (d := (some 5)) (by kernel_rfl) hs (fun _ => by kernel_rfl) (ref08_Rate.ok hg _) ?_)
 intro w gw hs
 refine ⟨fun _ => trivial, ?_⟩
 rcases of_if h with ⟨hc, h⟩ | ⟨hc, h⟩
 ·refine wpS.tk 2 false (some 6) (.bool true) (yld_b (et hc) (fun _ => by kernel_rfl)) ?_
  refine wpS.fin rfl (kr5 _ _ (then_n (ks4 _ _ (wp_cond_t (by kernel_rfl) (xseq_k fun KS6 ks6 => (xregS [0, 1, 2] fun KR7 kr7 => ?_))))))
  refine wpS.q 0 7 (.agg (([.int .i64 0] : List Value) ++ enc .u64 (zeroA 25) ++ ([.int .i64 0, .bool false] : List Value)).toArray) ?_
  refine wpS.only 1 (op_storeW (t := 115) (v := .agg (([.int .i64 0] : List Value) ++ enc .u64 (zeroA 25) ++ ([.int .i64 0, .bool false] : List Value)).toArray) (d := none) (by kernel_rfl) hs 0 rfl (vs := ([.int .i64 0] : List Value) ++ enc .u64 (zeroA 25) ++ ([.int .i64 0, .bool false] : List Value)) (n := 28) (by kernel_rfl) (by kernel_rfl) (by kernel_rfl) (by simp [enc_len]) (by simp [enc_len]) (one_app (one_app (by simp [Value.oneCell']) (fun u hu => enc_one _ _ u hu)) (by simp [Value.oneCell'])) ?_)
  intro w kp hs
  refine ⟨fun _ => trivial, ?_⟩
  refine wpS.q 2 3 (.int .i64 9) ?_
  refine wpS.fin rfl (kr7 _ _ (then_n (ks6 _ _ (xret (then_r ?_)))))
  obtain ⟨q0, qr0⟩ := Prod.mk.inj (of_some h)
  obtain ⟨q1, qr1⟩ := Prod.mk.inj (qr0)
  obtain ⟨q2, qr2⟩ := Prod.mk.inj (qr1)
  obtain ⟨q3, qr3⟩ := Prod.mk.inj (qr2)
  have q4 := qr3
  subst q0
  subst q1
  subst q2
  subst q3
  subst q4
  exact qq _ _ (post_ret (by kernel_rfl) (run_results [.cell 2 115, .tmp 3] [.agg (([.int .i64 0] : List Value) ++ enc .u64 (zeroA 25) ++ ([.int .i64 0, .bool false] : List Value)).toArray, .int .i64 9] (by kernel_rfl) (.cons (res_cellN (n := 28) hs 0 rfl (by kernel_rfl) (by kernel_rfl) (by kernel_rfl) (by simp [enc_len])) (.cons (res_tmp (by kernel_rfl)) .nil))) ⟨congrArg Ending.returned (by kernel_rfl), hs.none⟩)
 refine wpS.tk 2 false (some 6) (.bool false) (yld_b (ef hc) (fun _ => by kernel_rfl)) ?_
 refine wpS.fin rfl (kr5 _ _ (then_n (ks4 _ _ (wp_cond_f (by kernel_rfl) (xskip (then_n (ks3 _ _ (xseq_k fun KS8 ks8 => (xregS [0, 1, 2, 3] fun KR9 kr9 => ?_)))))))))
 refine wpS.qs [(0, 8, .int .i64 a0), (1, 9, .agg (([.int .i64 a0] : List Value) ++ enc .u64 (zeroA 25) ++ ([.int .i64 0, .bool false] : List Value)).toArray)] ?_
 refine wpS.only 2 (op_storeW (t := 115) (v := .agg (([.int .i64 a0] : List Value) ++ enc .u64 (zeroA 25) ++ ([.int .i64 0, .bool false] : List Value)).toArray) (d := none) (by kernel_rfl) hs 0 rfl (vs := ([.int .i64 a0] : List Value) ++ enc .u64 (zeroA 25) ++ ([.int .i64 0, .bool false] : List Value)) (n := 28) (by kernel_rfl) (by kernel_rfl) (by kernel_rfl) (by simp [enc_len]) (by simp [enc_len]) (one_app (one_app (by simp [Value.oneCell']) (fun u hu => enc_one _ _ u hu)) (by simp [Value.oneCell'])) ?_)
 intro w kp hs
 refine ⟨fun _ => trivial, ?_⟩
 refine wpS.q 3 3 (.int .i64 0) ?_
 refine wpS.fin rfl (kr9 _ _ (then_n (ks8 _ _ (xret ?_))))
 obtain ⟨q0, qr0⟩ := Prod.mk.inj (of_some h)
 obtain ⟨q1, qr1⟩ := Prod.mk.inj (qr0)
 obtain ⟨q2, qr2⟩ := Prod.mk.inj (qr1)
 obtain ⟨q3, qr3⟩ := Prod.mk.inj (qr2)
 have q4 := qr3
 subst q0
 subst q1
 subst q2
 subst q3
 subst q4
 exact qq _ _ (post_ret (by kernel_rfl) (run_results [.cell 2 115, .tmp 3] [.agg (([.int .i64 a0] : List Value) ++ enc .u64 (zeroA 25) ++ ([.int .i64 0, .bool false] : List Value)).toArray, .int .i64 0] (by kernel_rfl) (.cons (res_cellN (n := 28) hs 0 rfl (by kernel_rfl) (by kernel_rfl) (by kernel_rfl) (by simp [enc_len])) (.cons (res_tmp (by kernel_rfl)) .nil))) ⟨congrArg Ending.returned (by kernel_rfl), hs.none⟩)
end Go.Proofs.YtemdbgmldljbpaaDoor
