/- Printed by this work's own program: the code of each function below comes to the answer that its plain form tells. -/
import Derived.Test.YtemdbgmldljbpaaDoorMf
import Derived.Test.YtemdbgmldljbpaaDoorProg
import Derived.Test.YtemdbgmldljbpaaDoorZF0
set_option linter.unusedVariables false
set_option linter.unusedSimpArgs false
set_option maxRecDepth 100000
set_option maxHeartbeats 4000000
namespace Go.Proofs.YtemdbgmldljbpaaDoor
open Go.Mx
attribute [local irreducible] wpOp

theorem kpke_Set.ok {K : Nat} {a0 : Int} {r0_0 : Int} {r0_1 : Int} {r0_2 : Int} {r0_3 : Int} {r0_4 : Int} {r1 : Bool} (h : kpke_Set.f K a0 = some (r0_0, r0_1, r0_2, r0_3, r0_4, r1)) (w0 : World) : Ret Tryd.prog 10 #[.int .i64 a0] w0 (.tuple #[.agg #[.int .i64 r0_0, .int .i64 r0_1, .int .i64 r0_2, .int .i64 r0_3, .int .i64 r0_4], .bool r1]) := by
 refine calls_k Tryd.func10 rfl fun Q qq => ?_
 have hs := St.start w0
 refine wp_conv (a' := ⟨#[.int .i64 a0, undef, undef, undef, undef, undef, undef, undef, undef, undef, undef, undef, undef, undef, undef], []⟩) (by kernel_rfl) ?_
 refine xseq_k fun KS1 ks1 => ?_
 refine xregS [0, 1] fun KR2 kr2 => ?_
 refine wpS.only 0 (op_alloc (t := 23) (d := (some 2)) (by kernel_rfl) hs ([.int .i64 0, .int .i64 0, .int .i64 0, .int .i64 0, .int .i64 0]) (.agg #[.int .i64 0, .int .i64 0, .int .i64 0, .int .i64 0, .int .i64 0]) (by kernel_rfl) (by kernel_rfl) (by kernel_rfl) ?_)
 intro b1 w gw hs
 refine ⟨fun _ => trivial, ?_⟩
 refine wpS.q 1 3 (.bool false) ?_
 refine wpS.fin rfl (kr2 _ _ (then_n (ks1 _ _ (xseq_k fun KS3 ks3 => (xseq_k fun KS4 ks4 => (xregS [0] fun KR5 kr5 => ?_))))))
 refine wpS.q 0 4 (.int .i64 a0) ?_
 refine wpS.fin rfl (kr5 _ _ (then_n (ks4 _ _ (xblock (xseq_k fun KS6 ks6 => (xregS [0, 1] fun KR7 kr7 => ?_))))))
 rcases of_if h with ⟨hc, h⟩ | ⟨hc, h⟩
 ·refine wpS.tk 0 false (some 6) (.bool true) (yld_b (et hc) (fun _ => by kernel_rfl)) ?_
  refine wpS.q 1 5 (.bool true) ?_
  refine wpS.fin rfl (kr7 _ _ (then_n (ks6 _ _ (wp_cond_t (by kernel_rfl) (xseq_k fun KS8 ks8 => (xregS [0, 1, 2] fun KR9 kr9 => ?_))))))
  refine wpS.q 0 7 (.agg #[.int .i64 2, .int .i64 3, .int .i64 2, .int .i64 10, .int .i64 4]) ?_
  refine wpS.only 1 (op_storeW (t := 23) (v := .agg #[.int .i64 2, .int .i64 3, .int .i64 2, .int .i64 10, .int .i64 4]) (d := none) (by kernel_rfl) hs 0 rfl (vs := [.int .i64 2, .int .i64 3, .int .i64 2, .int .i64 10, .int .i64 4]) (n := 5) (by kernel_rfl) (by kernel_rfl) (by kernel_rfl) (by simp [enc_len]) (by simp [enc_len]) (by simp [Value.oneCell']) ?_)
  intro w kp hs
  refine ⟨fun _ => trivial, ?_⟩
  refine wpS.q 2 3 (.bool true) ?_
  refine wpS.fin rfl (kr9 _ _ (then_n (ks8 _ _ (xret (inBlock_r (then_r ?_))))))
  obtain ⟨q0, qr0⟩ := Prod.mk.inj (of_some h)
  obtain ⟨q1, qr1⟩ := Prod.mk.inj (qr0)
  obtain ⟨q2, qr2⟩ := Prod.mk.inj (qr1)
  obtain ⟨q3, qr3⟩ := Prod.mk.inj (qr2)
  obtain ⟨q4, qr4⟩ := Prod.mk.inj (qr3)
  have q5 := qr4
  subst q0
  subst q1
  subst q2
  subst q3
  subst q4
  subst q5
  exact qq _ _ (post_ret (by kernel_rfl) (run_results [.cell 2 23, .tmp 3] [.agg #[.int .i64 2, .int .i64 3, .int .i64 2, .int .i64 10, .int .i64 4], .bool true] (by kernel_rfl) (.cons (res_cellN (n := 5) hs 0 rfl (by kernel_rfl) (by kernel_rfl) (by kernel_rfl) (by simp [enc_len])) (.cons (res_tmp (by kernel_rfl)) .nil))) ⟨congrArg Ending.returned (by kernel_rfl), hs.none⟩)
 refine wpS.tk 0 false (some 6) (.bool false) (yld_b (ef hc) (fun _ => by kernel_rfl)) ?_
 refine wpS.q 1 5 (.bool false) ?_
 refine wpS.fin rfl (kr7 _ _ (then_n (ks6 _ _ (wp_cond_f (by kernel_rfl) (xseq_k fun KS10 ks10 => (xregS [0, 1] fun KR11 kr11 => ?_))))))
 rcases of_if h with ⟨hc, h⟩ | ⟨hc, h⟩
 ·refine wpS.tk 0 false (some 9) (.bool true) (yld_b (et hc) (fun _ => by kernel_rfl)) ?_
  refine wpS.q 1 8 (.bool true) ?_
  refine wpS.fin rfl (kr11 _ _ (then_n (ks10 _ _ (wp_cond_t (by kernel_rfl) (xseq_k fun KS12 ks12 => (xregS [0, 1, 2] fun KR13 kr13 => ?_))))))
  refine wpS.q 0 10 (.agg #[.int .i64 3, .int .i64 2, .int .i64 2, .int .i64 10, .int .i64 4]) ?_
  refine wpS.only 1 (op_storeW (t := 23) (v := .agg #[.int .i64 3, .int .i64 2, .int .i64 2, .int .i64 10, .int .i64 4]) (d := none) (by kernel_rfl) hs 0 rfl (vs := [.int .i64 3, .int .i64 2, .int .i64 2, .int .i64 10, .int .i64 4]) (n := 5) (by kernel_rfl) (by kernel_rfl) (by kernel_rfl) (by simp [enc_len]) (by simp [enc_len]) (by simp [Value.oneCell']) ?_)
  intro w kp hs
  refine ⟨fun _ => trivial, ?_⟩
  refine wpS.q 2 3 (.bool true) ?_
  refine wpS.fin rfl (kr13 _ _ (then_n (ks12 _ _ (xret (inBlock_r (then_r ?_))))))
  obtain ⟨q0, qr0⟩ := Prod.mk.inj (of_some h)
  obtain ⟨q1, qr1⟩ := Prod.mk.inj (qr0)
  obtain ⟨q2, qr2⟩ := Prod.mk.inj (qr1)
  obtain ⟨q3, qr3⟩ := Prod.mk.inj (qr2)
  obtain ⟨q4, qr4⟩ := Prod.mk.inj (qr3)
  have q5 := qr4
  subst q0
  subst q1
  subst q2
  subst q3
  subst q4
  subst q5
  exact qq _ _ (post_ret (by kernel_rfl) (run_results [.cell 2 23, .tmp 3] [.agg #[.int .i64 3, .int .i64 2, .int .i64 2, .int .i64 10, .int .i64 4], .bool true] (by kernel_rfl) (.cons (res_cellN (n := 5) hs 0 rfl (by kernel_rfl) (by kernel_rfl) (by kernel_rfl) (by simp [enc_len])) (.cons (res_tmp (by kernel_rfl)) .nil))) ⟨congrArg Ending.returned (by kernel_rfl), hs.none⟩)
 refine wpS.tk 0 false (some 9) (.bool false) (yld_b (ef hc) (fun _ => by kernel_rfl)) ?_
 refine wpS.q 1 8 (.bool false) ?_
 refine wpS.fin rfl (kr11 _ _ (then_n (ks10 _ _ (wp_cond_f (by kernel_rfl) (xseq_k fun KS14 ks14 => (xregS [0, 1] fun KR15 kr15 => ?_))))))
 rcases of_if h with ⟨hc, h⟩ | ⟨hc, h⟩
 ·refine wpS.tk 0 false (some 12) (.bool true) (yld_b (et hc) (fun _ => by kernel_rfl)) ?_
  refine wpS.q 1 11 (.bool true) ?_
  refine wpS.fin rfl (kr15 _ _ (then_n (ks14 _ _ (wp_cond_t (by kernel_rfl) (xseq_k fun KS16 ks16 => (xregS [0, 1, 2] fun KR17 kr17 => ?_))))))
  refine wpS.q 0 13 (.agg #[.int .i64 4, .int .i64 2, .int .i64 2, .int .i64 11, .int .i64 5]) ?_
  refine wpS.only 1 (op_storeW (t := 23) (v := .agg #[.int .i64 4, .int .i64 2, .int .i64 2, .int .i64 11, .int .i64 5]) (d := none) (by kernel_rfl) hs 0 rfl (vs := [.int .i64 4, .int .i64 2, .int .i64 2, .int .i64 11, .int .i64 5]) (n := 5) (by kernel_rfl) (by kernel_rfl) (by kernel_rfl) (by simp [enc_len]) (by simp [enc_len]) (by simp [Value.oneCell']) ?_)
  intro w kp hs
  refine ⟨fun _ => trivial, ?_⟩
  refine wpS.q 2 3 (.bool true) ?_
  refine wpS.fin rfl (kr17 _ _ (then_n (ks16 _ _ (xret (inBlock_r (then_r ?_))))))
  obtain ⟨q0, qr0⟩ := Prod.mk.inj (of_some h)
  obtain ⟨q1, qr1⟩ := Prod.mk.inj (qr0)
  obtain ⟨q2, qr2⟩ := Prod.mk.inj (qr1)
  obtain ⟨q3, qr3⟩ := Prod.mk.inj (qr2)
  obtain ⟨q4, qr4⟩ := Prod.mk.inj (qr3)
  have q5 := qr4
  subst q0
  subst q1
  subst q2
  subst q3
  subst q4
  subst q5
  exact qq _ _ (post_ret (by kernel_rfl) (run_results [.cell 2 23, .tmp 3] [.agg #[.int .i64 4, .int .i64 2, .int .i64 2, .int .i64 11, .int .i64 5], .bool true] (by kernel_rfl) (.cons (res_cellN (n := 5) hs 0 rfl (by kernel_rfl) (by kernel_rfl) (by kernel_rfl) (by simp [enc_len])) (.cons (res_tmp (by kernel_rfl)) .nil))) ⟨congrArg Ending.returned (by kernel_rfl), hs.none⟩)
 refine wpS.tk 0 false (some 12) (.bool false) (yld_b (ef hc) (fun _ => by kernel_rfl)) ?_
 refine wpS.q 1 11 (.bool false) ?_
 refine wpS.fin rfl (kr15 _ _ (then_n (ks14 _ _ (wp_cond_f (by kernel_rfl) (xskip (inBlock_n (then_n (ks3 _ _ (xseq_k fun KS18 ks18 => (xregS [0, 1, 2] fun KR19 kr19 => ?_))))))))))
 refine wpS.q 0 14 (.agg #[.int .i64 0, .int .i64 0, .int .i64 0, .int .i64 0, .int .i64 0]) ?_
 refine wpS.only 1 (op_storeW (t := 23) (v := .agg #[.int .i64 0, .int .i64 0, .int .i64 0, .int .i64 0, .int .i64 0]) (d := none) (by kernel_rfl) hs 0 rfl (vs := [.int .i64 0, .int .i64 0, .int .i64 0, .int .i64 0, .int .i64 0]) (n := 5) (by kernel_rfl) (by kernel_rfl) (by kernel_rfl) (by simp [enc_len]) (by simp [enc_len]) (by simp [Value.oneCell']) ?_)
 intro w kp hs
 refine ⟨fun _ => trivial, ?_⟩
 refine wpS.q 2 3 (.bool false) ?_
 refine wpS.fin rfl (kr19 _ _ (then_n (ks18 _ _ (xret ?_))))
 obtain ⟨q0, qr0⟩ := Prod.mk.inj (of_some h)
 obtain ⟨q1, qr1⟩ := Prod.mk.inj (qr0)
 obtain ⟨q2, qr2⟩ := Prod.mk.inj (qr1)
 obtain ⟨q3, qr3⟩ := Prod.mk.inj (qr2)
 obtain ⟨q4, qr4⟩ := Prod.mk.inj (qr3)
 have q5 := qr4
 subst q0
 subst q1
 subst q2
 subst q3
 subst q4
 subst q5
 exact qq _ _ (post_ret (by kernel_rfl) (run_results [.cell 2 23, .tmp 3] [.agg #[.int .i64 0, .int .i64 0, .int .i64 0, .int .i64 0, .int .i64 0], .bool false] (by kernel_rfl) (.cons (res_cellN (n := 5) hs 0 rfl (by kernel_rfl) (by kernel_rfl) (by kernel_rfl) (by simp [enc_len])) (.cons (res_tmp (by kernel_rfl)) .nil))) ⟨congrArg Ending.returned (by kernel_rfl), hs.none⟩)

theorem kpke_known.ok {K : Nat} {a0_0 : Int} {a0_1 : Int} {a0_2 : Int} {a0_3 : Int} {a0_4 : Int} {r0 : Bool} (h : kpke_known.f K a0_0 a0_1 a0_2 a0_3 a0_4 = some r0) (w0 : World) : Ret Tryd.prog 33 #[.agg #[.int .i64 a0_0, .int .i64 a0_1, .int .i64 a0_2, .int .i64 a0_3, .int .i64 a0_4]] w0 (.bool r0) := by
 refine calls_k Tryd.func33 rfl fun Q qq => ?_
 have hs := St.start w0
 refine wp_conv (a' := ⟨#[.agg #[.int .i64 a0_0, .int .i64 a0_1, .int .i64 a0_2, .int .i64 a0_3, .int .i64 a0_4], undef, undef, undef, undef, undef, undef, undef, undef, undef, undef, undef, undef, undef, undef, undef, undef, undef], []⟩) (by kernel_rfl) ?_
 refine xseq_k fun KS1 ks1 => ?_
 refine xregS [0, 1] fun KR2 kr2 => ?_
 refine wpS.only 0 (op_box (t := 23) (v := .agg #[.int .i64 a0_0, .int .i64 a0_1, .int .i64 a0_2, .int .i64 a0_3, .int .i64 a0_4]) (d := (some 1)) (by kernel_rfl) hs ([.int .i64 a0_0, .int .i64 a0_1, .int .i64 a0_2, .int .i64 a0_3, .int .i64 a0_4]) (by kernel_rfl) (by kernel_rfl) ?_)
 intro b1 w gw hs
 refine ⟨fun _ => trivial, ?_⟩
 refine wpS.q 1 2 (.bool false) ?_
 refine wpS.fin rfl (kr2 _ _ (then_n (ks1 _ _ (xseq_k fun KS3 ks3 => (xregS [0, 1, 2, 3, 4, 5, 6, 7, 8, 9] fun KR4 kr4 => ?_)))))
 refine wpS.q 0 6 (.pointer (some ⟨b1, 0, none⟩)) ?_
 refine wpS.tk 1 true (some 7) (.int .i64 a0_0) (yld_load1 (e := 3) (o := 0) hs 0 rfl (by kernel_rfl) (by kernel_rfl) (by rfl) .grow) ?_
 refine wpS.q 2 8 (.int .i64 (imul .i64 256 a0_0)) ?_
 obtain ⟨⟨r2_0, r2_1, r2_2, r2_3, r2_4, r3⟩, hg, h⟩ := of_bind h
 refine wpS.only 3 (op_call (d := (some 9)) (by kernel_rfl) hs (fun _ => by kernel_rfl) (kpke_Set.ok hg _) ?_)
 intro w gw hs
 refine ⟨fun _ => trivial, ?_⟩
 refine wpS.qs [(4, 5, .tuple #[.agg #[.int .i64 r2_0, .int .i64 r2_1, .int .i64 r2_2, .int .i64 r2_3, .int .i64 r2_4], .bool r3]), (5, 10, .agg #[.int .i64 r2_0, .int .i64 r2_1, .int .i64 r2_2, .int .i64 r2_3, .int .i64 r2_4])] ?_
 cases r3 with
 | true =>
  have h := of_if_t h
  refine wpS.q 6 11 (.bool true) ?_
  refine wpS.only 7 (op_alloc (t := 23) (d := (some 3)) (by kernel_rfl) hs ([.int .i64 0, .int .i64 0, .int .i64 0, .int .i64 0, .int .i64 0]) (.agg #[.int .i64 0, .int .i64 0, .int .i64 0, .int .i64 0, .int .i64 0]) (by kernel_rfl) (by kernel_rfl) (by kernel_rfl) ?_)
  intro b4 w gw hs
  refine ⟨fun _ => trivial, ?_⟩
  refine wpS.only 8 (op_storeW (t := 23) (v := .agg #[.int .i64 r2_0, .int .i64 r2_1, .int .i64 r2_2, .int .i64 r2_3, .int .i64 r2_4]) (d := none) (by kernel_rfl) hs 0 rfl (vs := [.int .i64 r2_0, .int .i64 r2_1, .int .i64 r2_2, .int .i64 r2_3, .int .i64 r2_4]) (n := 5) (by kernel_rfl) (by kernel_rfl) (by kernel_rfl) (by simp [enc_len]) (by simp [enc_len]) (by simp [Value.oneCell']) ?_)
  intro w kp hs
  refine ⟨fun _ => trivial, ?_⟩
  refine wpS.q 9 4 (.bool true) ?_
  refine wpS.fin rfl (kr4 _ _ (then_n (ks3 _ _ (xseq_k fun KS5 ks5 => (xregS [0, 1, 2, 3, 4, 5, 6] fun KR6 kr6 => ?_)))))
  refine wpS.qs [(0, 12, .bool true), (1, 13, .bool true)] ?_
  refine wpS.tk 2 true (some 14) (.agg #[.int .i64 r2_0, .int .i64 r2_1, .int .i64 r2_2, .int .i64 r2_3, .int .i64 r2_4]) (yld_loadW (e := 23) (n := 5) hs 0 rfl (by kernel_rfl) (by kernel_rfl) (by kernel_rfl) (by simp [enc_len]) .grow) ?_
  refine wpS.tk 3 true (some 15) (.agg #[.int .i64 a0_0, .int .i64 a0_1, .int .i64 a0_2, .int .i64 a0_3, .int .i64 a0_4]) (yld_loadW (e := 23) (n := 5) hs 1 rfl (by kernel_rfl) (by kernel_rfl) (by kernel_rfl) (by simp [enc_len]) .grow) ?_
  refine wpS.tk 4 false (some 16) (.bool ((r2_0 == a0_0) && ((r2_1 == a0_1) && ((r2_2 == a0_2) && ((r2_3 == a0_3) && ((r2_4 == a0_4) && true)))))) (yld_eqS (fs := [Field.mk "K" 3 0 false "" "" 0, Field.mk "Eta1" 3 1 false "" "" 8, Field.mk "Eta2" 3 2 false "" "" 16, Field.mk "Du" 3 3 false "" "" 24, Field.mk "Dv" 3 4 false "" "" 32]) (xs := [.int .i64 r2_0, .int .i64 r2_1, .int .i64 r2_2, .int .i64 r2_3, .int .i64 r2_4]) (ys := [.int .i64 a0_0, .int .i64 a0_1, .int .i64 a0_2, .int .i64 a0_3, .int .i64 a0_4]) (t := 23) (.tmp 14) (.tmp 15) (by kernel_rfl) (by kernel_rfl) (by kernel_rfl) (by kernel_rfl) (.cons rfl (fun w => Go.Mx.run_part1 (by kernel_rfl) rfl) (fun w => Go.Mx.run_part1 (by kernel_rfl) rfl) (fun w => Go.Mx.run_equalIn_int (by kernel_rfl)) (.cons rfl (fun w => Go.Mx.run_part1 (by kernel_rfl) rfl) (fun w => Go.Mx.run_part1 (by kernel_rfl) rfl) (fun w => Go.Mx.run_equalIn_int (by kernel_rfl)) (.cons rfl (fun w => Go.Mx.run_part1 (by kernel_rfl) rfl) (fun w => Go.Mx.run_part1 (by kernel_rfl) rfl) (fun w => Go.Mx.run_equalIn_int (by kernel_rfl)) (.cons rfl (fun w => Go.Mx.run_part1 (by kernel_rfl) rfl) (fun w => Go.Mx.run_part1 (by kernel_rfl) rfl) (fun w => Go.Mx.run_equalIn_int (by kernel_rfl)) (.cons rfl (fun w => Go.Mx.run_part1 (by kernel_rfl) rfl) (fun w => Go.Mx.run_part1 (by kernel_rfl) rfl) (fun w => Go.Mx.run_equalIn_int (by kernel_rfl)) .nil)))))) ?_
  refine wpS.qs [(5, 17, .bool ((r2_0 == a0_0) && ((r2_1 == a0_1) && ((r2_2 == a0_2) && ((r2_3 == a0_3) && ((r2_4 == a0_4) && true)))))), (6, 2, .bool ((r2_0 == a0_0) && ((r2_1 == a0_1) && ((r2_2 == a0_2) && ((r2_3 == a0_3) && ((r2_4 == a0_4) && true))))))] ?_
  refine wpS.fin rfl (kr6 _ _ (then_n (ks5 _ _ (xret ?_))))
  have q0 := of_some h
  subst q0
  exact qq _ _ (post_ret (by kernel_rfl) (run_results [.tmp 2] [.bool ((r2_0 == a0_0) && ((r2_1 == a0_1) && ((r2_2 == a0_2) && ((r2_3 == a0_3) && ((r2_4 == a0_4) && true)))))] (by kernel_rfl) (.cons (res_tmp (by kernel_rfl)) .nil)) ⟨congrArg Ending.returned (by kernel_rfl), hs.none⟩)
 | false =>
  have h := of_if_f h
  refine wpS.q 6 11 (.bool false) ?_
  refine wpS.only 7 (op_alloc (t := 23) (d := (some 3)) (by kernel_rfl) hs ([.int .i64 0, .int .i64 0, .int .i64 0, .int .i64 0, .int .i64 0]) (.agg #[.int .i64 0, .int .i64 0, .int .i64 0, .int .i64 0, .int .i64 0]) (by kernel_rfl) (by kernel_rfl) (by kernel_rfl) ?_)
  intro b5 w gw hs
  refine ⟨fun _ => trivial, ?_⟩
  refine wpS.only 8 (op_storeW (t := 23) (v := .agg #[.int .i64 r2_0, .int .i64 r2_1, .int .i64 r2_2, .int .i64 r2_3, .int .i64 r2_4]) (d := none) (by kernel_rfl) hs 0 rfl (vs := [.int .i64 r2_0, .int .i64 r2_1, .int .i64 r2_2, .int .i64 r2_3, .int .i64 r2_4]) (n := 5) (by kernel_rfl) (by kernel_rfl) (by kernel_rfl) (by simp [enc_len]) (by simp [enc_len]) (by simp [Value.oneCell']) ?_)
  intro w kp hs
  refine ⟨fun _ => trivial, ?_⟩
  refine wpS.q 9 4 (.bool false) ?_
  refine wpS.fin rfl (kr4 _ _ (then_n (ks3 _ _ (xseq_k fun KS7 ks7 => (xregS [0, 1, 2, 3, 4, 5, 6] fun KR8 kr8 => ?_)))))
  refine wpS.qs [(0, 12, .bool false), (1, 13, .bool false), (2, 14, undef), (3, 15, undef), (4, 16, undef), (5, 17, .bool false), (6, 2, .bool false)] ?_
  refine wpS.fin rfl (kr8 _ _ (then_n (ks7 _ _ (xret ?_))))
  have q0 := of_some h
  subst q0
  exact qq _ _ (post_ret (by kernel_rfl) (run_results [.tmp 2] [.bool false] (by kernel_rfl) (.cons (res_tmp (by kernel_rfl)) .nil)) ⟨congrArg Ending.returned (by kernel_rfl), hs.none⟩)

theorem kpke_Sizes.ok {K : Nat} {a0_0 : Int} {a0_1 : Int} {a0_2 : Int} {a0_3 : Int} {a0_4 : Int} {r0 : Int} {r1 : Int} {r2 : Int} (h : kpke_Sizes.f K a0_0 a0_1 a0_2 a0_3 a0_4 = some (r0, r1, r2)) (w0 : World) : Ret Tryd.prog 12 #[.agg #[.int .i64 a0_0, .int .i64 a0_1, .int .i64 a0_2, .int .i64 a0_3, .int .i64 a0_4]] w0 (.tuple #[.int .i64 r0, .int .i64 r1, .int .i64 r2]) := by
 refine calls_k Tryd.func12 rfl fun Q qq => ?_
 have hs := St.start w0
 refine wp_conv (a' := ⟨#[.agg #[.int .i64 a0_0, .int .i64 a0_1, .int .i64 a0_2, .int .i64 a0_3, .int .i64 a0_4], undef, undef, undef, undef, undef, undef, undef, undef, undef, undef, undef, undef, undef, undef, undef, undef, undef, undef, undef, undef, undef, undef, undef, undef, undef, undef, undef, undef, undef], []⟩) (by kernel_rfl) ?_
 refine xseq_k fun KS1 ks1 => ?_
 refine xregS [0, 1, 2, 3] fun KR2 kr2 => ?_
 refine wpS.only 0 (op_box (t := 23) (v := .agg #[.int .i64 a0_0, .int .i64 a0_1, .int .i64 a0_2, .int .i64 a0_3, .int .i64 a0_4]) (d := (some 1)) (by kernel_rfl) hs ([.int .i64 a0_0, .int .i64 a0_1, .int .i64 a0_2, .int .i64 a0_3, .int .i64 a0_4]) (by kernel_rfl) (by kernel_rfl) ?_)
 intro b1 w gw hs
 refine ⟨fun _ => trivial, ?_⟩
 refine wpS.qs [(1, 2, .int .i64 0), (2, 3, .int .i64 0), (3, 4, .int .i64 0)] ?_
 refine wpS.fin rfl (kr2 _ _ (then_n (ks1 _ _ (xseq_k fun KS3 ks3 => (xseq_k fun KS4 ks4 => (xregS [0, 1, 2] fun KR5 kr5 => ?_))))))
 refine wpS.tk 0 true (some 6) (.agg #[.int .i64 a0_0, .int .i64 a0_1, .int .i64 a0_2, .int .i64 a0_3, .int .i64 a0_4]) (yld_loadW (e := 23) (n := 5) hs 0 rfl (by kernel_rfl) (by kernel_rfl) (by kernel_rfl) (by simp [enc_len]) .grow) ?_
 obtain ⟨r2, hg, h⟩ := of_bind h
 cases r2 with
 | true =>
  have h := of_if_t h
  refine wpS.only 1 (op_call (d := (some 7)) (by kernel_rfl) hs (fun _ => by kernel_rfl) (kpke_known.ok hg _) ?_)
  intro w gw hs
  refine ⟨fun _ => trivial, ?_⟩
  refine wpS.q 2 8 (.bool false) ?_
  refine wpS.fin rfl (kr5 _ _ (then_n (ks4 _ _ (wp_cond_f (by kernel_rfl) (xskip (then_n (ks3 _ _ (xseq_k fun KS6 ks6 => (xregS [0] fun KR7 kr7 => ?_)))))))))
  refine wpS.q 0 5 (.int .i64 32) ?_
  refine wpS.fin rfl (kr7 _ _ (then_n (ks6 _ _ (xseq_k fun KS8 ks8 => ?_))))
  refine wp_regG [] (fun k => True) 24 (by kernel_rfl) (by kernel_rfl) (by kernel_rfl) fun KR9 kr9 => ?_
  have hs := hs.drawn1
  refine wpG.q 0 9 (.int .i64 32) ?_
  refine wpG.q 1 10 (.int .i64 384) ?_
  refine wpG.q 2 11 (.pointer (some ⟨b1, 0, none⟩)) ?_
  refine wpG.tD 3 true (some 12) (.int .i64 a0_0) (yld_load1 (e := 3) (o := 0) hs 0 rfl (by kernel_rfl) (by kernel_rfl) (by rfl) .grow) ?_
  refine wpG.q 4 13 (.int .i64 (imul .i64 384 a0_0)) ?_
  refine wpG.q 5 14 (.int .i64 (iadd .i64 (imul .i64 384 a0_0) 32)) ?_
  refine wpG.q 6 15 (.int .i64 32) ?_
  refine wpG.q 7 16 (.int .i64 384) ?_
  refine wpG.q 8 17 (.pointer (some ⟨b1, 0, none⟩)) ?_
  refine wpG.tD 9 true (some 18) (.int .i64 a0_0) (yld_load1 (e := 3) (o := 0) hs 0 rfl (by kernel_rfl) (by kernel_rfl) (by rfl) .grow) ?_
  refine wpG.q 10 19 (.int .i64 (imul .i64 384 a0_0)) ?_
  refine wpG.q 11 20 (.int .i64 32) ?_
  refine wpG.q 12 21 (.pointer (some ⟨b1, 3, none⟩)) ?_
  refine wpG.tD 13 true (some 22) (.int .i64 a0_3) (yld_load1 (e := 3) (o := 3) hs 0 rfl (by kernel_rfl) (by kernel_rfl) (by rfl) .grow) ?_
  refine wpG.q 14 23 (.pointer (some ⟨b1, 0, none⟩)) ?_
  refine wpG.tD 15 true (some 24) (.int .i64 a0_0) (yld_load1 (e := 3) (o := 0) hs 0 rfl (by kernel_rfl) (by kernel_rfl) (by rfl) .grow) ?_
  refine wpG.q 16 25 (.int .i64 (imul .i64 a0_3 a0_0)) ?_
  refine wpG.q 17 26 (.pointer (some ⟨b1, 4, none⟩)) ?_
  refine wpG.tD 18 true (some 27) (.int .i64 a0_4) (yld_load1 (e := 3) (o := 4) hs 0 rfl (by kernel_rfl) (by kernel_rfl) (by rfl) .grow) ?_
  refine wpG.q 19 28 (.int .i64 (iadd .i64 (imul .i64 a0_3 a0_0) a0_4)) ?_
  refine wpG.q 20 29 (.int .i64 (imul .i64 32 (iadd .i64 (imul .i64 a0_3 a0_0) a0_4))) ?_
  obtain ⟨x3, hx, h⟩ := of_bind h
  refine wpG.tD 21 false (some 2) (.int .i64 x3) (yld_int hx (fun _ => by kernel_rfl)) ?_
  obtain ⟨x4, hx, h⟩ := of_bind h
  refine wpG.tD 22 false (some 3) (.int .i64 x4) (yld_int hx (fun _ => by kernel_rfl)) ?_
  obtain ⟨x5, hx, h⟩ := of_bind h
  refine wpG.tD 23 false (some 4) (.int .i64 x5) (yld_int hx (fun _ => by kernel_rfl)) ?_
  refine wpG.fin (by kernel_rfl) rfl (kr9 _ _ ?_)
  refine then_n (ks8 _ _ (xret ?_))
  obtain ⟨q0, qr0⟩ := Prod.mk.inj (of_some h)
  obtain ⟨q1, qr1⟩ := Prod.mk.inj (qr0)
  have q2 := qr1
  subst q0
  subst q1
  subst q2
  exact qq _ _ (post_ret (by kernel_rfl) (run_results [.tmp 2, .tmp 3, .tmp 4] [.int .i64 x3, .int .i64 x4, .int .i64 x5] (by kernel_rfl) (.cons (res_tmp (by kernel_rfl)) (.cons (res_tmp (by kernel_rfl)) (.cons (res_tmp (by kernel_rfl)) .nil)))) ⟨congrArg Ending.returned (by kernel_rfl), hs.none⟩)
 | false =>
  have h := of_if_f h
  refine wpS.only 1 (op_call (d := (some 7)) (by kernel_rfl) hs (fun _ => by kernel_rfl) (kpke_known.ok hg _) ?_)
  intro w gw hs
  refine ⟨fun _ => trivial, ?_⟩
  refine wpS.q 2 8 (.bool true) ?_
  refine wpS.fin rfl (kr5 _ _ (then_n (ks4 _ _ (wp_cond_t (by kernel_rfl) (xseq_k fun KS10 ks10 => (xregS [0, 1, 2] fun KR11 kr11 => ?_))))))
  refine wpS.qs [(0, 2, .int .i64 0), (1, 3, .int .i64 0), (2, 4, .int .i64 0)] ?_
  refine wpS.fin rfl (kr11 _ _ (then_n (ks10 _ _ (xret (then_r ?_)))))
  obtain ⟨q0, qr0⟩ := Prod.mk.inj (of_some h)
  obtain ⟨q1, qr1⟩ := Prod.mk.inj (qr0)
  have q2 := qr1
  subst q0
  subst q1
  subst q2
  exact qq _ _ (post_ret (by kernel_rfl) (run_results [.tmp 2, .tmp 3, .tmp 4] [.int .i64 0, .int .i64 0, .int .i64 0] (by kernel_rfl) (.cons (res_tmp (by kernel_rfl)) (.cons (res_tmp (by kernel_rfl)) (.cons (res_tmp (by kernel_rfl)) .nil)))) ⟨congrArg Ending.returned (by kernel_rfl), hs.none⟩)

theorem slices_Concat_byte_byte.ok {K : Nat} {a0 : List (List Int)} {r0 : List Int} {a0_A : Option Addr} {a0_n : Nat} {a0_c : Nat} {a0_H : List HS} (h : slices_Concat_byte_byte.f K a0 = some r0) (w0 : World) (hp0 : LLP (CI .u8) w0 a0_A a0_n a0_c a0_H a0) : Calls Tryd.prog 81 #[.slice a0_A a0_n a0_c] w0 fun e w' => ∃ h : (Option Addr × Nat × Nat), e = .returned (.slice h.1 h.2.1 h.2.2) ∧ St w0 [] [.ownL (CI .u8) h.1 h.2.1 h.2.2 r0 5] [] w' := by
 refine calls_k Tryd.func81 rfl fun Q qq => ?_
 have hs := St.startR (all_cons (LLP.ent hp0) all_nil)
 refine wp_conv (a' := ⟨#[.slice a0_A a0_n a0_c, undef, undef, undef, undef, undef, undef, undef, undef, undef, undef, undef, undef, undef, undef, undef, undef, undef, undef, undef, undef, undef, undef, undef, undef, undef, undef, undef, undef, undef, undef, undef, undef, undef, undef, undef], []⟩) (by kernel_rfl) ?_
 refine xseq_k fun KS1 ks1 => ?_
 refine xregS [0] fun KR2 kr2 => ?_
 refine wpS.q 0 2 (.slice none 0 0) ?_
 refine wpS.fin rfl (kr2 _ _ (then_n (ks1 _ _ (xseq_k fun KS3 ks3 => (xregS [0] fun KR4 kr4 => ?_)))))
 refine wpS.q 0 3 (.int .i64 0) ?_
 refine wpS.fin rfl (kr4 _ _ (then_n (ks3 _ _ (xseq_k fun KS5 ks5 => (xseq_k fun KS6 ks6 => (xregS [0, 1, 2] fun KR7 kr7 => ?_))))))
 refine wpS.q 0 9 (.slice a0_A a0_n a0_c) ?_
 refine wpS.tk 1 false (some 10) (.int .i64 (a0.length : Int)) (yld_lenLL (hs.rowLL 0 rfl) (fun _ => by kernel_rfl)) ?_
 refine wpS.q 2 11 (.int .i64 0) ?_
 refine wpS.fin rfl (kr7 _ _ (then_n (ks6 _ _ ?_)))
 obtain ⟨y3, hy, hk0⟩ := of_bind h
 refine wp_exq (N := fun a w => St w0 [] [] [.rowLL (CI .u8) a0_A a0_n a0_c a0_H a0] w ∧ ∃ g9 : Nat → Value, a = ⟨#[.slice a0_A a0_n a0_c, undef, .slice none 0 0, .int .i64 y3, undef, (g9 5), undef, undef, undef, .slice a0_A a0_n a0_c, .int .i64 (a0.length : Int), (g9 11), (g9 12), (g9 13), (g9 14), (g9 15), (g9 16), (g9 17), (g9 18), (g9 19), (g9 20), (g9 21), (g9 22), undef, undef, undef, undef, undef, undef, undef, undef, undef, undef, undef, undef, undef], []⟩) (fun N0 nn0 => ?_) ?_
 ·clear hk0
  refine xblock ?_
  refine wp_loop_k (fun n a w => ∃ z1 z2, slices_Concat_byte_byte.l0 K n a0 z1 z2 = some y3 ∧ St w0 [] [] [.rowLL (CI .u8) a0_A a0_n a0_c a0_H a0] w ∧ ∃ g8 : Nat → Value, a = ⟨#[.slice a0_A a0_n a0_c, undef, .slice none 0 0, .int .i64 z1, undef, (g8 5), undef, undef, undef, .slice a0_A a0_n a0_c, .int .i64 (a0.length : Int), .int .i64 z2, (g8 12), (g8 13), (g8 14), (g8 15), (g8 16), (g8 17), (g8 18), (g8 19), (g8 20), (g8 21), (g8 22), undef, undef, undef, undef, undef, undef, undef, undef, undef, undef, undef, undef, undef], []⟩) K ⟨0, 0, hy, hs.conv rfl, exg (by kernel_rfl)⟩ ?_
  clear hs h hy
  rintro n a w ⟨z1, z2, h, hs, g8, rfl⟩ KL0 kl0
  cases n with
  | zero => exact nomatch (show none = some _ from h)
  | succ n =>
   refine xseq_k fun KS10 ks10 => ?_
   refine xregS [0] fun KR11 kr11 => ?_
   rcases of_if h with ⟨hc, h⟩ | ⟨hc, h⟩
   ·refine wpS.tk 0 false (some 12) (.bool true) (yld_b (dt hc) (fun _ => by kernel_rfl)) ?_
    refine wpS.fin rfl (kr11 _ _ (then_n (ks10 _ _ (xseq_k fun KS12 ks12 => (wp_cond_t (by kernel_rfl) (xskip (then_n (ks12 _ _ (xseq_k fun KS13 ks13 => (xblock (xseq_k fun KS14 ks14 => (xregS [0, 1, 2] fun KR15 kr15 => ?_))))))))))))
    obtain ⟨h0, h⟩ := of_chk h
    obtain ⟨h1, h⟩ := of_chk h
    have i0_16 := h0
    have i1_16 := h1
    refine wpS.tk 0 false (some 13) (.pointer (adr a0_A ((z2 : Int).toNat * Cod.size CS))) (yld_idxLL (C := (CI .u8)) (t := 59) (e := 24) (k := .i64) (x := z2) (hs.rowLL 0 rfl) (by kernel_rfl) (by kernel_rfl) (by kernel_rfl) h0 h1) ?_
    obtain ⟨s4_A, hA⟩ : ∃ A, A = (rdL CS a0_H z2).1 := ⟨_, rfl⟩
    obtain ⟨s4_n, hn⟩ : ∃ n, n = (rdL CS a0_H z2).2.1 := ⟨_, rfl⟩
    obtain ⟨s4_c, hc⟩ : ∃ c, c = (rdL CS a0_H z2).2.2 := ⟨_, rfl⟩
    refine wpS.tk 1 true (some 14) (.slice s4_A s4_n s4_c) (by subst hA hn hc; exact yld_loadLL (C := (CI .u8)) (e := 24) (x := z2) (hs.rowLL 0 rfl) (by kernel_rfl) (by kernel_rfl) i0_16 i1_16) ?_
    have hs := hs.addInn (C := (CI .u8)) 0 rfl i0_16 i1_16 hA hn hc
    refine wpS.q 2 5 (.slice s4_A s4_n s4_c) ?_
    refine wpS.fin rfl (kr15 _ _ (then_n (ks14 _ _ (xseq_k fun KS17 ks17 => (xregS [0, 1, 2, 3, 4] fun KR18 kr18 => ?_)))))
    refine wpS.qs [(0, 15, .int .i64 z1), (1, 16, .slice s4_A s4_n s4_c)] ?_
    refine wpS.tk 2 false (some 17) (.int .i64 ((rdLL a0 z2).length : Int)) (yld_lenL (hs.rowR 0 rfl) (fun _ => by kernel_rfl)) ?_
    refine wpS.q 3 18 (.int .i64 (iadd .i64 z1 ((rdLL a0 z2).length : Int))) ?_
    obtain ⟨x5, hx, h⟩ := of_bind h
    refine wpS.tk 4 false (some 3) (.int .i64 x5) (yld_int hx (fun _ => by kernel_rfl)) ?_
    refine wpS.fin rfl (kr18 _ _ (then_n (ks17 _ _ (xseq_k fun KS19 ks19 => (xregS [0, 1] fun KR20 kr20 => ?_)))))
    refine wpS.q 0 19 (.int .i64 x5) ?_
    rcases of_if h with ⟨hc, h⟩ | ⟨hc, h⟩
    ·refine wpS.tk 1 false (some 20) (.bool true) (yld_b (dt hc) (fun _ => by kernel_rfl)) ?_
     refine wpS.fin rfl (kr20 _ _ (then_n (ks19 _ _ (wp_cond_t (by kernel_rfl) (xregS [0, 1] fun KR21 kr21 => ?_)))))
     exact nomatch (show none = some _ from h)
    refine wpS.tk 1 false (some 20) (.bool false) (yld_b (df hc) (fun _ => by kernel_rfl)) ?_
    refine wpS.fin rfl (kr20 _ _ (then_n (ks19 _ _ (wp_cond_f (by kernel_rfl) (xskip (inBlock_n (then_n (ks13 _ _ (xregS [0, 1] fun KR22 kr22 => ?_)))))))))
    refine wpS.qs [(0, 22, .int .i64 (iadd .i64 z2 1)), (1, 11, .int .i64 (iadd .i64 z2 1))] ?_
    refine wpS.fin rfl (kr22 _ _ ?_)
    exact then_n (kl0 _ _ ⟨n, Nat.lt_succ_self n, x5, (iadd .i64 z2 1), h, (hs.pickR (pick_cons 1 rfl pick_nil)), exg (by kernel_rfl)⟩)
   refine wpS.tk 0 false (some 12) (.bool false) (yld_b (df hc) (fun _ => by kernel_rfl)) ?_
   refine wpS.fin rfl (kr11 _ _ (then_n (ks10 _ _ (xseq_k fun KS23 ks23 => (wp_cond_f (by kernel_rfl) (xexit (then_x (then_x (inBlock_hit ?_)))))))))
   have q0 := of_some h
   subst q0
   exact exq_n (nn0 _ _ ⟨(hs.conv rfl), exg (by kernel_rfl)⟩)
 clear hs h hy
 rintro a w ⟨hs, g9, rfl⟩
 have h := hk0
 refine then_n (ks5 _ _ (xseq_k fun KS24 ks24 => (xregS [0, 1, 2] fun KR25 kr25 => ?_)))
 refine wpS.q 0 23 (.int .i64 y3) ?_
 refine wpS.only 1 (op_inline (d := (some 24)) (f := 104) (args := #[.slice none 0 0, .int .i64 y3]) (by kernel_rfl) (fun _ => by kernel_rfl) fun R26 kI26 => ?_)
 refine calls_k Tryd.func104 rfl fun Q26 qq26 => ?_
 refine wp_conv (a' := ⟨#[.slice none 0 0, .int .i64 y3, undef, undef, undef, undef, undef, undef, undef, undef, undef, undef, undef, undef, undef, undef, undef, undef, undef, undef, undef, undef, undef, undef, undef, undef, undef], []⟩) (by kernel_rfl) ?_
 refine xseq_k fun KS27 ks27 => ?_
 refine xregS [0] fun KR28 kr28 => ?_
 refine wpS.q 0 4 (.slice none 0 0) ?_
 refine wpS.fin rfl (kr28 _ _ (then_n (ks27 _ _ (xseq_k fun KS29 ks29 => (xseq_k fun KS30 ks30 => (xregS [0, 1] fun KR31 kr31 => ?_))))))
 refine wpS.q 0 5 (.int .i64 y3) ?_
 rcases of_if h with ⟨hc, h⟩ | ⟨hc, h⟩
 ·refine wpS.tk 1 false (some 6) (.bool true) (yld_b (dt hc) (fun _ => by kernel_rfl)) ?_
  refine wpS.fin rfl (kr31 _ _ (then_n (ks30 _ _ (wp_cond_t (by kernel_rfl) (xregS [0, 1] fun KR32 kr32 => ?_)))))
  exact nomatch (show none = some _ from h)
 refine wpS.tk 1 false (some 6) (.bool false) (yld_b (df hc) (fun _ => by kernel_rfl)) ?_
 refine wpS.fin rfl (kr31 _ _ (then_n (ks30 _ _ (wp_cond_f (by kernel_rfl) (xskip (then_n (ks29 _ _ ?_)))))))
 obtain ⟨y6, hj, h⟩ := of_bind h
 refine xseq_k fun KS34 ks34 => wp_join (N := fun a w => ∃ (y6_A : Option Addr) (y6_n : Nat) (y6_c : Nat), St w0 [] [.ownL (CI .u8) y6_A y6_n y6_c y6 5] [.rowLL (CI .u8) a0_A a0_n a0_c a0_H a0] w ∧ ∃ g33 : Nat → Value, a = ⟨#[.slice y6_A y6_n y6_c, (g33 1), undef, undef, .slice none 0 0, .int .i64 y3, .bool false, undef, (g33 8), (g33 9), (g33 10), (g33 11), (g33 12), (g33 13), (g33 14), (g33 15), (g33 16), (g33 17), (g33 18), (g33 19), (g33 20), (g33 21), (g33 22), (g33 23), (g33 24), (g33 25), undef], []⟩) (fun N nj => ?_) ?_
 ·clear h
  have h := hj
  refine xseq_k fun KS35 ks35 => ?_
  refine xregS [0, 1, 2, 3, 4, 5, 6, 7] fun KR36 kr36 => ?_
  refine wpS.qs [(0, 8, .int .i64 y3), (1, 9, .slice none 0 0), (2, 10, .int .i64 0), (3, 11, .slice none 0 0), (4, 12, .int .i64 0), (5, 13, .int .i64 0), (6, 14, .int .i64 (isub .i64 y3 0))] ?_
  obtain ⟨x7, hx, h⟩ := of_bind h
  refine wpS.tk 7 false (some 1) (.int .i64 x7) (yld_int hx (fun _ => by kernel_rfl)) ?_
  refine wpS.fin rfl (kr36 _ _ (then_n (ks35 _ _ (xseq_k fun KS37 ks37 => (xregS [0, 1] fun KR38 kr38 => ?_)))))
  refine wpS.q 0 15 (.int .i64 x7) ?_
  rcases of_if h with ⟨hc, h⟩ | ⟨hc, h⟩
  ·refine wpS.tk 1 false (some 16) (.bool true) (yld_b (dt hc) (fun _ => by kernel_rfl)) ?_
   refine wpS.fin rfl (kr38 _ _ (then_n (ks37 _ _ (wp_cond_t (by kernel_rfl) (xregS [0, 1, 2, 3, 4, 5, 6, 7, 8, 9] fun KR39 kr39 => ?_)))))
   refine wpS.qs [(0, 17, .slice none 0 0), (1, 18, .slice none 0 0), (2, 19, .int .i64 0), (3, 20, .slice none 0 0), (4, 21, .int .i64 x7)] ?_
   obtain ⟨h0, h⟩ := of_chk h
   obtain ⟨h1, h⟩ := of_chk h
   refine wpS.only 5 (op_appendZ0 (C := (CI .u8)) (t := 24) (tn := 3) (ty := 24) (e := 5) (bytes := 1) (B := 140737488355328) (kn := .i64) (kq := .i64) (x := x7) (d := (some 22)) (by kernel_rfl) hs (by kernel_rfl) (by kernel_rfl) (by kernel_rfl) (by kernel_rfl) (by kernel_rfl) (by kernel_rfl) h0 h1 (by decide) (by decide) ?_)
   intro s8_A s8_n s8_c w gw hs
   refine ⟨fun _ => trivial, ?_⟩
   refine wpS.qs [(6, 23, .slice none 0 0), (7, 24, .int .i64 0)] ?_
   obtain ⟨h0, h⟩ := of_chk h
   obtain ⟨h1, h⟩ := of_chk h
   refine wpS.tk 8 false (some 25) (.slice s8_A (0 : Int).toNat s8_c) (yld_pre (C := (CI .u8)) (t := 24) (e := 5) (k := .i64) (hi := 0) (hs.rowL 0 rfl) (by kernel_rfl) (by kernel_rfl) (by kernel_rfl) h0 h1) ?_
   have hs := hs.preOwn 0 rfl h0 h1
   refine wpS.q 9 0 (.slice s8_A (0 : Int).toNat s8_c) ?_
   refine wpS.fin rfl (kr39 _ _ ?_)
   have q0 := of_some h
   subst q0
   exact nj _ _ ⟨s8_A, (0 : Int).toNat, s8_c, (hs.conv rfl), exg (by kernel_rfl)⟩
  refine wpS.tk 1 false (some 16) (.bool false) (yld_b (df hc) (fun _ => by kernel_rfl)) ?_
  refine wpS.fin rfl (kr38 _ _ (then_n (ks37 _ _ (wp_cond_f (by kernel_rfl) (xskip ?_)))))
  have q0 := of_some h
  subst q0
  have hs := hs.addNilL (CI .u8) 5
  exact nj _ _ ⟨none, 0, 0, (hs.conv rfl), exg (by kernel_rfl)⟩
 clear hj hs
 rintro a w ⟨y6_A, y6_n, y6_c, hs, g33, rfl⟩
 refine then_n (ks34 _ _ (xseq_k fun KS40 ks40 => (xregS [0, 1] fun KR41 kr41 => ?_)))
 refine wpS.qs [(0, 26, .slice y6_A y6_n y6_c), (1, 4, .slice y6_A y6_n y6_c)] ?_
 refine wpS.fin rfl (kr41 _ _ (then_n (ks40 _ _ (xret ?_))))
 refine qq26 _ _ (post_ret (by kernel_rfl) (run_results [.tmp 4] [.slice y6_A y6_n y6_c] (by kernel_rfl) (.cons (res_tmp (by kernel_rfl)) .nil)) ?_)
 refine kI26 _ _ ?_
 refine ⟨fun _ => trivial, ?_⟩
 refine wpS.q 2 6 (.slice y6_A y6_n y6_c) ?_
 refine wpS.fin rfl (kr25 _ _ (then_n (ks24 _ _ (xseq_k fun KS42 ks42 => (xseq_k fun KS43 ks43 => (xregS [0, 1, 2] fun KR44 kr44 => ?_))))))
 refine wpS.q 0 25 (.slice a0_A a0_n a0_c) ?_
 refine wpS.tk 1 false (some 26) (.int .i64 (a0.length : Int)) (yld_lenLL (hs.rowLL 0 rfl) (fun _ => by kernel_rfl)) ?_
 refine wpS.q 2 27 (.int .i64 0) ?_
 refine wpS.fin rfl (kr44 _ _ (then_n (ks43 _ _ ?_)))
 obtain ⟨y11, hy, hk1⟩ := of_bind h
 refine wp_exq (N := fun a w => ∃ (y11_A : Option Addr) (y11_n : Nat) (y11_c : Nat), St w0 [] [.ownL (CI .u8) y11_A y11_n y11_c y11 5] [.rowLL (CI .u8) a0_A a0_n a0_c a0_H a0] w ∧ ∃ g46 : Nat → Value, a = ⟨#[.slice a0_A a0_n a0_c, undef, .slice none 0 0, .int .i64 y3, undef, (g9 5), .slice y11_A y11_n y11_c, undef, (g46 8), .slice a0_A a0_n a0_c, .int .i64 (a0.length : Int), (g9 11), (g9 12), (g9 13), (g9 14), (g9 15), (g9 16), (g9 17), (g9 18), (g9 19), (g9 20), (g9 21), (g9 22), .int .i64 y3, .slice y6_A y6_n y6_c, .slice a0_A a0_n a0_c, .int .i64 (a0.length : Int), (g46 27), (g46 28), (g46 29), (g46 30), (g46 31), (g46 32), (g46 33), (g46 34), undef], []⟩) (fun N1 nn1 => ?_) ?_
 ·clear hk1
  refine xblock ?_
  refine wp_loop_k (fun n a w => ∃ z9 z10, ∃ (z10_A : Option Addr) (z10_n : Nat) (z10_c : Nat), slices_Concat_byte_byte.l1 K n a0 z9 z10 = some y11 ∧ St w0 [] [.ownL (CI .u8) z10_A z10_n z10_c z10 5] [.rowLL (CI .u8) a0_A a0_n a0_c a0_H a0] w ∧ ∃ g45 : Nat → Value, a = ⟨#[.slice a0_A a0_n a0_c, undef, .slice none 0 0, .int .i64 y3, undef, (g9 5), .slice z10_A z10_n z10_c, undef, (g45 8), .slice a0_A a0_n a0_c, .int .i64 (a0.length : Int), (g9 11), (g9 12), (g9 13), (g9 14), (g9 15), (g9 16), (g9 17), (g9 18), (g9 19), (g9 20), (g9 21), (g9 22), .int .i64 y3, .slice y6_A y6_n y6_c, .slice a0_A a0_n a0_c, .int .i64 (a0.length : Int), .int .i64 z9, (g45 28), (g45 29), (g45 30), (g45 31), (g45 32), (g45 33), (g45 34), undef], []⟩) K ⟨0, y6, y6_A, y6_n, y6_c, hy, hs.conv rfl, exg (by kernel_rfl)⟩ ?_
  clear hs h hy
  rintro n a w ⟨z9, z10, z10_A, z10_n, z10_c, h, hs, g45, rfl⟩ KL1 kl1
  cases n with
  | zero => exact nomatch (show none = some _ from h)
  | succ n =>
   refine xseq_k fun KS47 ks47 => ?_
   refine xregS [0] fun KR48 kr48 => ?_
   rcases of_if h with ⟨hc, h⟩ | ⟨hc, h⟩
   ·refine wpS.tk 0 false (some 28) (.bool true) (yld_b (dt hc) (fun _ => by kernel_rfl)) ?_
    refine wpS.fin rfl (kr48 _ _ (then_n (ks47 _ _ (xseq_k fun KS49 ks49 => (wp_cond_t (by kernel_rfl) (xskip (then_n (ks49 _ _ (xseq_k fun KS50 ks50 => (xblock (xseq_k fun KS51 ks51 => (xregS [0, 1, 2] fun KR52 kr52 => ?_))))))))))))
    obtain ⟨h0, h⟩ := of_chk h
    obtain ⟨h1, h⟩ := of_chk h
    have i0_53 := h0
    have i1_53 := h1
    refine wpS.tk 0 false (some 29) (.pointer (adr a0_A ((z9 : Int).toNat * Cod.size CS))) (yld_idxLL (C := (CI .u8)) (t := 59) (e := 24) (k := .i64) (x := z9) (hs.rowLL 0 rfl) (by kernel_rfl) (by kernel_rfl) (by kernel_rfl) h0 h1) ?_
    obtain ⟨s12_A, hA⟩ : ∃ A, A = (rdL CS a0_H z9).1 := ⟨_, rfl⟩
    obtain ⟨s12_n, hn⟩ : ∃ n, n = (rdL CS a0_H z9).2.1 := ⟨_, rfl⟩
    obtain ⟨s12_c, hc⟩ : ∃ c, c = (rdL CS a0_H z9).2.2 := ⟨_, rfl⟩
    refine wpS.tk 1 true (some 30) (.slice s12_A s12_n s12_c) (by subst hA hn hc; exact yld_loadLL (C := (CI .u8)) (e := 24) (x := z9) (hs.rowLL 0 rfl) (by kernel_rfl) (by kernel_rfl) i0_53 i1_53) ?_
    have hs := hs.addInn (C := (CI .u8)) 0 rfl i0_53 i1_53 hA hn hc
    refine wpS.q 2 8 (.slice s12_A s12_n s12_c) ?_
    refine wpS.fin rfl (kr52 _ _ (then_n (ks51 _ _ (xregS [0, 1, 2, 3] fun KR54 kr54 => ?_))))
    refine wpS.qs [(0, 31, .slice z10_A z10_n z10_c), (1, 32, .slice s12_A s12_n s12_c)] ?_
    obtain ⟨h0, h⟩ := of_chk h
    refine wpS.only 2 (op_appendT (C := (CI .u8)) (t := 24) (ty := 24) (e := 5) (bytes := 1) (B := 140737488355328) (d := (some 33)) (by kernel_rfl) hs 0 rfl (hs.rowR 0 rfl) (by kernel_rfl) (by kernel_rfl) (by kernel_rfl) (by kernel_rfl) (by kernel_rfl) h0 (by decide) (by decide) ?_)
    intro s13_A s13_n s13_c w hs
    refine ⟨fun _ => trivial, ?_⟩
    refine wpS.q 3 6 (.slice s13_A s13_n s13_c) ?_
    refine wpS.fin rfl (kr54 _ _ (inBlock_n (then_n (ks50 _ _ (xregS [0, 1] fun KR55 kr55 => ?_)))))
    refine wpS.qs [(0, 34, .int .i64 (iadd .i64 z9 1)), (1, 27, .int .i64 (iadd .i64 z9 1))] ?_
    refine wpS.fin rfl (kr55 _ _ ?_)
    exact then_n (kl1 _ _ ⟨n, Nat.lt_succ_self n, (iadd .i64 z9 1), (z10 ++ (rdLL a0 z9)), s13_A, s13_n, s13_c, h, (hs.pickR (pick_cons 1 rfl pick_nil)), exg (by kernel_rfl)⟩)
   refine wpS.tk 0 false (some 28) (.bool false) (yld_b (df hc) (fun _ => by kernel_rfl)) ?_
   refine wpS.fin rfl (kr48 _ _ (then_n (ks47 _ _ (xseq_k fun KS56 ks56 => (wp_cond_f (by kernel_rfl) (xexit (then_x (then_x (inBlock_hit ?_)))))))))
   have q0 := of_some h
   subst q0
   exact exq_n (nn1 _ _ ⟨z10_A, z10_n, z10_c, (hs.conv rfl), exg (by kernel_rfl)⟩)
 clear hs h hy
 rintro a w ⟨y11_A, y11_n, y11_c, hs, g46, rfl⟩
 have h := hk1
 refine then_n (ks42 _ _ (xseq_k fun KS57 ks57 => (xregS [0, 1] fun KR58 kr58 => ?_)))
 refine wpS.qs [(0, 35, .slice y11_A y11_n y11_c), (1, 2, .slice y11_A y11_n y11_c)] ?_
 refine wpS.fin rfl (kr58 _ _ (then_n (ks57 _ _ (xret ?_))))
 have q0 := of_some h
 subst q0
 exact qq _ _ (post_ret (by kernel_rfl) (run_results [.tmp 2] [.slice y11_A y11_n y11_c] (by kernel_rfl) (.cons (res_tmp (by kernel_rfl)) .nil)) ⟨⟨y11_A, y11_n, y11_c⟩, congrArg Ending.returned (by kernel_rfl), (hs.pickR pick_nil)⟩)

theorem bits_Join.ok {K : Nat} {a0 : List (List Int)} {r0 : List Int} {a0_A : Option Addr} {a0_n : Nat} {a0_c : Nat} {a0_H : List HS} (h : bits_Join.f K a0 = some r0) (w0 : World) (hp0 : LLP (CI .u8) w0 a0_A a0_n a0_c a0_H a0) : Calls Tryd.prog 36 #[.slice a0_A a0_n a0_c] w0 fun e w' => ∃ h : (Option Addr × Nat × Nat), e = .returned (.slice h.1 h.2.1 h.2.2) ∧ St w0 [] [.ownL (CI .u8) h.1 h.2.1 h.2.2 r0 5] [] w' := by
 refine calls_k Tryd.func36 rfl fun Q qq => ?_
 have hs := St.startR (all_cons (LLP.ent hp0) all_nil)
 refine wp_conv (a' := ⟨#[.slice a0_A a0_n a0_c, undef, undef, undef, undef], []⟩) (by kernel_rfl) ?_
 refine xseq_k fun KS1 ks1 => ?_
 refine xregS [0] fun KR2 kr2 => ?_
 refine wpS.q 0 2 (.slice none 0 0) ?_
 refine wpS.fin rfl (kr2 _ _ (then_n (ks1 _ _ (xseq_k fun KS3 ks3 => (xregS [0, 1, 2] fun KR4 kr4 => ?_)))))
 refine wpS.q 0 3 (.slice a0_A a0_n a0_c) ?_
 obtain ⟨r1, hg, h⟩ := of_bind h
 refine wpS.only 1 (op_callH (d := (some 4)) (by kernel_rfl) hs (fun _ => by kernel_rfl) (slices_Concat_byte_byte.ok hg _ (hs.rowLL 0 rfl)) ?_)
 rintro ⟨r1_A, r1_n, r1_c⟩ w gw hs
 have hs := hs.conv (L' := [.ownL (CI .u8) r1_A r1_n r1_c r1 5]) rfl
 refine ⟨fun _ => trivial, ?_⟩
 refine wpS.q 2 2 (.slice r1_A r1_n r1_c) ?_
 refine wpS.fin rfl (kr4 _ _ (then_n (ks3 _ _ (xret ?_))))
 have q0 := of_some h
 subst q0
 exact qq _ _ (post_ret (by kernel_rfl) (run_results [.tmp 2] [.slice r1_A r1_n r1_c] (by kernel_rfl) (.cons (res_tmp (by kernel_rfl)) .nil)) ⟨⟨r1_A, r1_n, r1_c⟩, congrArg Ending.returned (by kernel_rfl), (hs.pickR pick_nil)⟩)

theorem keccak_rate.ok {K : Nat} {a0 : Int} {r0 : Int} (h : keccak_rate.f K a0 = some r0) (w0 : World) : Ret Tryd.prog 100 #[.int .i64 a0] w0 (.int .i64 r0) := by
 refine calls_k Tryd.func100 rfl fun Q qq => ?_
 have hs := St.start w0
 refine wp_conv (a' := ⟨#[.int .i64 a0, undef, undef, undef, undef, undef, undef, undef, undef, undef, undef], []⟩) (by kernel_rfl) ?_
 refine xseq_k fun KS1 ks1 => ?_
 refine xregS [0] fun KR2 kr2 => ?_
 refine wpS.q 0 2 (.int .i64 0) ?_
 refine wpS.fin rfl (kr2 _ _ (then_n (ks1 _ _ (xseq_k fun KS3 ks3 => (xseq_k fun KS4 ks4 => (xregS [0] fun KR5 kr5 => ?_))))))
 refine wpS.q 0 3 (.int .i64 a0) ?_
 refine wpS.fin rfl (kr5 _ _ (then_n (ks4 _ _ (xblock (xseq_k fun KS6 ks6 => (xseq_k fun KS7 ks7 => (xregS [0, 1] fun KR8 kr8 => ?_)))))))
 rcases of_if h with ⟨hc, h⟩ | ⟨hc, h⟩
 ·refine wpS.tk 0 false (some 5) (.bool true) (yld_b (et hc) (fun _ => by kernel_rfl)) ?_
  refine wpS.q 1 4 (.bool true) ?_
  refine wpS.fin rfl (kr8 _ _ (then_n (ks7 _ _ (wp_cond_t (by kernel_rfl) (xskip (then_n (ks6 _ _ (wp_cond_t (by kernel_rfl) (xseq_k fun KS9 ks9 => (xregS [0] fun KR10 kr10 => ?_))))))))))
  refine wpS.q 0 2 (.int .i64 136) ?_
  refine wpS.fin rfl (kr10 _ _ (then_n (ks9 _ _ (xret (inBlock_r (then_r ?_))))))
  have q0 := of_some h
  subst q0
  exact qq _ _ (post_ret (by kernel_rfl) (run_results [.tmp 2] [.int .i64 136] (by kernel_rfl) (.cons (res_tmp (by kernel_rfl)) .nil)) ⟨congrArg Ending.returned (by kernel_rfl), hs.none⟩)
 refine wpS.tk 0 false (some 5) (.bool false) (yld_b (ef hc) (fun _ => by kernel_rfl)) ?_
 refine wpS.q 1 4 (.bool false) ?_
 refine wpS.fin rfl (kr8 _ _ (then_n (ks7 _ _ (wp_cond_f (by kernel_rfl) (xregS [0, 1] fun KR11 kr11 => ?_)))))
 rcases of_if h with ⟨hc, h⟩ | ⟨hc, h⟩
 ·refine wpS.tk 0 false (some 6) (.bool true) (yld_b (et hc) (fun _ => by kernel_rfl)) ?_
  refine wpS.q 1 4 (.bool true) ?_
  refine wpS.fin rfl (kr11 _ _ (then_n (ks6 _ _ (wp_cond_t (by kernel_rfl) (xseq_k fun KS12 ks12 => (xregS [0] fun KR13 kr13 => ?_))))))
  refine wpS.q 0 2 (.int .i64 136) ?_
  refine wpS.fin rfl (kr13 _ _ (then_n (ks12 _ _ (xret (inBlock_r (then_r ?_))))))
  have q0 := of_some h
  subst q0
  exact qq _ _ (post_ret (by kernel_rfl) (run_results [.tmp 2] [.int .i64 136] (by kernel_rfl) (.cons (res_tmp (by kernel_rfl)) .nil)) ⟨congrArg Ending.returned (by kernel_rfl), hs.none⟩)
 refine wpS.tk 0 false (some 6) (.bool false) (yld_b (ef hc) (fun _ => by kernel_rfl)) ?_
 refine wpS.q 1 4 (.bool false) ?_
 refine wpS.fin rfl (kr11 _ _ (then_n (ks6 _ _ (wp_cond_f (by kernel_rfl) (xseq_k fun KS14 ks14 => (xregS [0, 1] fun KR15 kr15 => ?_))))))
 rcases of_if h with ⟨hc, h⟩ | ⟨hc, h⟩
 ·refine wpS.tk 0 false (some 8) (.bool true) (yld_b (et hc) (fun _ => by kernel_rfl)) ?_
  refine wpS.q 1 7 (.bool true) ?_
  refine wpS.fin rfl (kr15 _ _ (then_n (ks14 _ _ (wp_cond_t (by kernel_rfl) (xseq_k fun KS16 ks16 => (xregS [0] fun KR17 kr17 => ?_))))))
  refine wpS.q 0 2 (.int .i64 72) ?_
  refine wpS.fin rfl (kr17 _ _ (then_n (ks16 _ _ (xret (inBlock_r (then_r ?_))))))
  have q0 := of_some h
  subst q0
  exact qq _ _ (post_ret (by kernel_rfl) (run_results [.tmp 2] [.int .i64 72] (by kernel_rfl) (.cons (res_tmp (by kernel_rfl)) .nil)) ⟨congrArg Ending.returned (by kernel_rfl), hs.none⟩)
 refine wpS.tk 0 false (some 8) (.bool false) (yld_b (ef hc) (fun _ => by kernel_rfl)) ?_
 refine wpS.q 1 7 (.bool false) ?_
 refine wpS.fin rfl (kr15 _ _ (then_n (ks14 _ _ (wp_cond_f (by kernel_rfl) (xseq_k fun KS18 ks18 => (xregS [0, 1] fun KR19 kr19 => ?_))))))
 rcases of_if h with ⟨hc, h⟩ | ⟨hc, h⟩
 ·refine wpS.tk 0 false (some 10) (.bool true) (yld_b (et hc) (fun _ => by kernel_rfl)) ?_
  refine wpS.q 1 9 (.bool true) ?_
  refine wpS.fin rfl (kr19 _ _ (then_n (ks18 _ _ (wp_cond_t (by kernel_rfl) (xseq_k fun KS20 ks20 => (xregS [0] fun KR21 kr21 => ?_))))))
  refine wpS.q 0 2 (.int .i64 168) ?_
  refine wpS.fin rfl (kr21 _ _ (then_n (ks20 _ _ (xret (inBlock_r (then_r ?_))))))
  have q0 := of_some h
  subst q0
  exact qq _ _ (post_ret (by kernel_rfl) (run_results [.tmp 2] [.int .i64 168] (by kernel_rfl) (.cons (res_tmp (by kernel_rfl)) .nil)) ⟨congrArg Ending.returned (by kernel_rfl), hs.none⟩)
 refine wpS.tk 0 false (some 10) (.bool false) (yld_b (ef hc) (fun _ => by kernel_rfl)) ?_
 refine wpS.q 1 9 (.bool false) ?_
 refine wpS.fin rfl (kr19 _ _ (then_n (ks18 _ _ (wp_cond_f (by kernel_rfl) (xskip (inBlock_n (then_n (ks3 _ _ (xseq_k fun KS22 ks22 => (xregS [0] fun KR23 kr23 => ?_))))))))))
 refine wpS.q 0 2 (.int .i64 0) ?_
 refine wpS.fin rfl (kr23 _ _ (then_n (ks22 _ _ (xret ?_))))
 have q0 := of_some h
 subst q0
 exact qq _ _ (post_ret (by kernel_rfl) (run_results [.tmp 2] [.int .i64 0] (by kernel_rfl) (.cons (res_tmp (by kernel_rfl)) .nil)) ⟨congrArg Ending.returned (by kernel_rfl), hs.none⟩)

theorem keccak_New.ok {K : Nat} {a0 : Int} {r0_0 : Int} {r0_1 : Arr 25} {r0_2 : Int} {r0_3 : Bool} {r1 : Int} (h : keccak_New.f K a0 = some (r0_0, r0_1, r0_2, r0_3, r1)) (w0 : World) : Ret Tryd.prog 77 #[.int .i64 a0] w0 (.tuple #[.agg (([.int .i64 r0_0] : List Value) ++ enc .u64 r0_1 ++ ([.int .i64 r0_2, .bool r0_3] : List Value)).toArray, .int .i64 r1]) := by
 refine calls_k Tryd.func77 rfl fun Q qq => ?_
 have hs := St.start w0
 refine wp_conv (a' := ⟨#[.int .i64 a0, undef, undef, undef, undef, undef, undef, undef, undef, undef], []⟩) (by kernel_rfl) ?_
 refine xseq_k fun KS1 ks1 => ?_
 refine xregS [0, 1] fun KR2 kr2 => ?_
 refine wpS.only 0 (op_alloc (t := 115) (d := (some 2)) (by kernel_rfl) hs (([.int .i64 0] : List Value) ++ enc .u64 (zeroA 25) ++ ([.int .i64 0, .bool false] : List Value)) (.agg (([.int .i64 0] : List Value) ++ enc .u64 (zeroA 25) ++ ([.int .i64 0, .bool false] : List Value)).toArray) (by kernel_rfl) (by kernel_rfl) (by kernel_rfl) ?_)
 intro b1 w gw hs
 refine ⟨fun _ => trivial, ?_⟩
 refine wpS.q 1 3 (.int .i64 0) ?_
 refine wpS.fin rfl (kr2 _ _ (then_n (ks1 _ _ (xseq_k fun KS3 ks3 => (xseq_k fun KS4 ks4 => (xregS [0, 1, 2] fun KR5 kr5 => ?_))))))
 refine wpS.q 0 4 (.int .i64 a0) ?_
 obtain ⟨r2, hg, h⟩ := of_bind h
 refine wpS.only 1 (op_call (d := (some 5)) (by kernel_rfl) hs (fun _ => by kernel_rfl) (keccak_rate.ok hg _) ?_)
 intro w gw hs
 refine ⟨fun _ => trivial, ?_⟩
 rcases of_if h with ⟨hc, h⟩ | ⟨hc, h⟩
 ·refine wpS.tk 2 false (some 6) (.bool true) (yld_b (et hc) (fun _ => by kernel_rfl)) ?_
  refine wpS.fin rfl (kr5 _ _ (then_n (ks4 _ _ (wp_cond_t (by kernel_rfl) (xseq_k fun KS6 ks6 => (xregS [0, 1, 2] fun KR7 kr7 => ?_))))))
  refine wpS.q 0 7 (.agg (([.int .i64 0] : List Value) ++ enc .u64 (zeroA 25) ++ ([.int .i64 0, .bool false] : List Value)).toArray) ?_
  refine wpS.only 1 (op_storeW (t := 115) (v := .agg (([.int .i64 0] : List Value) ++ enc .u64 (zeroA 25) ++ ([.int .i64 0, .bool false] : List Value)).toArray) (d := none) (by kernel_rfl) hs 0 rfl (vs := ([.int .i64 0] : List Value) ++ enc .u64 (zeroA 25) ++ ([.int .i64 0, .bool false] : List Value)) (n := 28) (by kernel_rfl) (by kernel_rfl) (by kernel_rfl) (by simp [enc_len]) (by simp [enc_len]) (one_app (one_app (by simp [Value.oneCell']) (fun u hu => enc_one _ _ u hu)) (by simp [Value.oneCell'])) ?_)
  intro w kp hs
  refine ⟨fun _ => trivial, ?_⟩
  refine wpS.q 2 3 (.int .i64 9) ?_
  refine wpS.fin rfl (kr7 _ _ (then_n (ks6 _ _ (xret (then_r ?_)))))
  obtain ⟨q0, qr0⟩ := Prod.mk.inj (of_some h)
  obtain ⟨q1, qr1⟩ := Prod.mk.inj (qr0)
  obtain ⟨q2, qr2⟩ := Prod.mk.inj (qr1)
  obtain ⟨q3, qr3⟩ := Prod.mk.inj (qr2)
  have q4 := qr3
  subst q0
  subst q1
  subst q2
  subst q3
  subst q4
  exact qq _ _ (post_ret (by kernel_rfl) (run_results [.cell 2 115, .tmp 3] [.agg (([.int .i64 0] : List Value) ++ enc .u64 (zeroA 25) ++ ([.int .i64 0, .bool false] : List Value)).toArray, .int .i64 9] (by kernel_rfl) (.cons (res_cellN (n := 28) hs 0 rfl (by kernel_rfl) (by kernel_rfl) (by kernel_rfl) (by simp [enc_len])) (.cons (res_tmp (by kernel_rfl)) .nil))) ⟨congrArg Ending.returned (by kernel_rfl), hs.none⟩)
 refine wpS.tk 2 false (some 6) (.bool false) (yld_b (ef hc) (fun _ => by kernel_rfl)) ?_
 refine wpS.fin rfl (kr5 _ _ (then_n (ks4 _ _ (wp_cond_f (by kernel_rfl) (xskip (then_n (ks3 _ _ (xseq_k fun KS8 ks8 => (xregS [0, 1, 2, 3] fun KR9 kr9 => ?_)))))))))
 refine wpS.qs [(0, 8, .int .i64 a0), (1, 9, .agg (([.int .i64 a0] : List Value) ++ enc .u64 (zeroA 25) ++ ([.int .i64 0, .bool false] : List Value)).toArray)] ?_
 refine wpS.only 2 (op_storeW (t := 115) (v := .agg (([.int .i64 a0] : List Value) ++ enc .u64 (zeroA 25) ++ ([.int .i64 0, .bool false] : List Value)).toArray) (d := none) (by kernel_rfl) hs 0 rfl (vs := ([.int .i64 a0] : List Value) ++ enc .u64 (zeroA 25) ++ ([.int .i64 0, .bool false] : List Value)) (n := 28) (by kernel_rfl) (by kernel_rfl) (by kernel_rfl) (by simp [enc_len]) (by simp [enc_len]) (one_app (one_app (by simp [Value.oneCell']) (fun u hu => enc_one _ _ u hu)) (by simp [Value.oneCell'])) ?_)
 intro w kp hs
 refine ⟨fun _ => trivial, ?_⟩
 refine wpS.q 3 3 (.int .i64 0) ?_
 refine wpS.fin rfl (kr9 _ _ (then_n (ks8 _ _ (xret ?_))))
 obtain ⟨q0, qr0⟩ := Prod.mk.inj (of_some h)
 obtain ⟨q1, qr1⟩ := Prod.mk.inj (qr0)
 obtain ⟨q2, qr2⟩ := Prod.mk.inj (qr1)
 obtain ⟨q3, qr3⟩ := Prod.mk.inj (qr2)
 have q4 := qr3
 subst q0
 subst q1
 subst q2
 subst q3
 subst q4
 exact qq _ _ (post_ret (by kernel_rfl) (run_results [.cell 2 115, .tmp 3] [.agg (([.int .i64 a0] : List Value) ++ enc .u64 (zeroA 25) ++ ([.int .i64 0, .bool false] : List Value)).toArray, .int .i64 0] (by kernel_rfl) (.cons (res_cellN (n := 28) hs 0 rfl (by kernel_rfl) (by kernel_rfl) (by kernel_rfl) (by simp [enc_len])) (.cons (res_tmp (by kernel_rfl)) .nil))) ⟨congrArg Ending.returned (by kernel_rfl), hs.none⟩)

theorem keccak_xor.ok {K : Nat} {a0_0 : Int} {a0_1 : Arr 25} {a0_2 : Int} {a0_3 : Bool} {a1 : Int} {a2 : Int} {rp_0 : Int} {rp_1 : Arr 25} {rp_2 : Int} {rp_3 : Bool} {p0 : Nat} (h : keccak_xor.f K a0_0 a0_1 a0_2 a0_3 a1 a2 = some (rp_0, rp_1, rp_2, rp_3)) (w0 : World) (hb : w0.heap[p0]? = some (.cells (([.int .i64 a0_0] : List Value) ++ enc .u64 a0_1 ++ ([.int .i64 a0_2, .bool a0_3] : List Value)).toArray 115 (0, 0))) : Calls Tryd.prog 101 #[.pointer (some ⟨p0, 0, none⟩), .int .i64 a1, .int .u8 a2] w0 fun e w' => e = .returned (.tuple #[]) ∧ St w0 [p0] [.blk p0 (([.int .i64 rp_0] : List Value) ++ enc .u64 rp_1 ++ ([.int .i64 rp_2, .bool rp_3] : List Value)) 115] [] w' := by
 refine calls_kn Tryd.func101 rfl fun Q qq qn => ?_
 have hs := St.startX hb allX_nil
 refine wp_conv (a' := ⟨#[.pointer (some ⟨p0, 0, none⟩), .int .i64 a1, .int .u8 a2, undef, undef, undef, undef, undef, undef, undef, undef, undef, undef, undef, undef, undef, undef, undef, undef, undef, undef, undef, undef], []⟩) (by kernel_rfl) ?_
 refine wp_regG [17] (fun k => True) 18 (by kernel_rfl) (by kernel_rfl) (by kernel_rfl) fun KR1 kr1 => ?_
 have hs := hs.drawn1
 refine wpG.q 0 6 (.pointer (some ⟨p0, 0, none⟩)) ?_
 refine wpG.q 1 7 (.int .i64 a1) ?_
 refine wpG.q 2 8 (.int .i64 (iquo .i64 a1 8)) ?_
 refine wpG.q 3 9 (.pointer (some ⟨p0, 0, none⟩)) ?_
 refine wpG.q 4 10 (.pointer (some ⟨p0, 1, none⟩)) ?_
 obtain ⟨x1, hx, h⟩ := of_bind h
 have hx := of_some hx
 subst hx
 obtain ⟨i0_2, h⟩ := of_chk h
 obtain ⟨i1_2, h⟩ := of_chk h
 refine wpG.tD 5 false (some 11) (.pointer (some ⟨p0, 1 + ((iquo .i64 a1 8) : Int).toNat * 1, none⟩)) (yld_idx (t := 113) (e := 112) (n := 25) (sz := 1) (k := .i64) (x := (iquo .i64 a1 8)) (by kernel_rfl) (by kernel_rfl) (by kernel_rfl) i0_2 i1_2) ?_
 refine wpG.tD 6 true (some 12) (.int .u64 (rd a0_1 (iquo .i64 a1 8))) (yld_loadP (m := 1) (e := 112) (x := (iquo .i64 a1 8)) hs 0 rfl (by kernel_rfl) (by kernel_rfl) i0_2 i1_2 (by simp [enc_len]) .grow) ?_
 refine wpG.q 7 13 (.int .u8 a2) ?_
 refine wpG.q 8 14 (.int .u64 (iconv .u64 a2)) ?_
 refine wpG.q 9 15 (.int .i64 a1) ?_
 refine wpG.q 10 16 (.int .i64 (irem .i64 a1 8)) ?_
 refine wpG.q 11 17 (.int .i64 (imul .i64 8 (irem .i64 a1 8))) ?_
 obtain ⟨h0, h⟩ := of_chk h
 refine wpG.tD 12 false (some 18) (.int .u64 (ishl .u64 (iconv .u64 a2) (imul .i64 8 (irem .i64 a1 8)))) (yld_shl (t := 112) (k' := .i64) (by kernel_rfl) h0) ?_
 refine wpG.q 13 19 (.int .u64 (ixor .u64 (rd a0_1 (iquo .i64 a1 8)) (ishl .u64 (iconv .u64 a2) (imul .i64 8 (irem .i64 a1 8))))) ?_
 refine wpG.q 14 20 (.pointer (some ⟨p0, 0, none⟩)) ?_
 refine wpG.q 15 21 (.pointer (some ⟨p0, 1, none⟩)) ?_
 obtain ⟨x2, hx, h⟩ := of_bind h
 have hx := of_some hx
 subst hx
 obtain ⟨i0_3, h⟩ := of_chk h
 obtain ⟨i1_3, h⟩ := of_chk h
 refine wpG.tD 16 false (some 22) (.pointer (some ⟨p0, 1 + ((iquo .i64 a1 8) : Int).toNat * 1, none⟩)) (yld_idx (t := 113) (e := 112) (n := 25) (sz := 1) (k := .i64) (x := (iquo .i64 a1 8)) (by kernel_rfl) (by kernel_rfl) (by kernel_rfl) i0_3 i1_3) ?_
 obtain ⟨x3, hx, h⟩ := of_bind h
 refine wpG.only 17 (by kernel_rfl) (op_storeP (m := 1) (t := 112) (x := (iquo .i64 a1 8)) (v := x3) (d := none) (by kernel_rfl) hs 0 rfl (by cases hx; kernel_rfl) (by kernel_rfl) i0_3 i1_3 (by simp [enc_len]) ?_)
 intro w kp hs
 refine ⟨⟨fun hf => absurd hf (by decide), .all _ _⟩, ?_⟩
 refine wpG.fin (by kernel_rfl) rfl (kr1 _ _ ?_)
 obtain ⟨q0, qr0⟩ := Prod.mk.inj (of_some h)
 obtain ⟨q1, qr1⟩ := Prod.mk.inj (qr0)
 obtain ⟨q2, qr2⟩ := Prod.mk.inj (qr1)
 have q3 := qr2
 subst q0
 subst q1
 subst q2
 subst q3
 exact qn _ _ (post_nrm (by kernel_rfl) (run_results [] [] (by kernel_rfl) .nil) ⟨congrArg Ending.returned (by kernel_rfl), (hs.conv rfl)⟩)

theorem keccak_columns.ok {K : Nat} {a0 : Arr 25} {r0 : Arr 5} {p0 : Nat} (h : keccak_columns.f K a0 = some r0) (w0 : World) (hb : w0.heap[p0]? = some (.cells (enc .u64 a0).toArray 113 (0, 0))) : Calls Tryd.prog 115 #[.pointer (some ⟨p0, 0, none⟩)] w0 fun e w' => e = .returned (.agg (enc .u64 r0).toArray) ∧ St w0 [p0] [.blk p0 (enc .u64 a0) 113] [] w' := by
 refine calls_k Tryd.func115 rfl fun Q qq => ?_
 have hs := St.startX hb allX_nil
 refine wp_conv (a' := ⟨#[.pointer (some ⟨p0, 0, none⟩), undef, undef, undef, undef, undef, undef, undef, undef, undef, undef, undef, undef, undef, undef, undef, undef, undef, undef, undef, undef, undef, undef, undef, undef, undef, undef, undef, undef, undef, undef, undef, undef, undef, undef, undef, undef, undef, undef, undef, undef, undef, undef, undef], []⟩) (by kernel_rfl) ?_
 refine xseq_k fun KS1 ks1 => ?_
 refine xregS [0] fun KR2 kr2 => ?_
 refine wpS.only 0 (op_alloc (t := 148) (d := (some 2)) (by kernel_rfl) hs (enc .u64 (zeroA 5)) (.agg (enc .u64 (zeroA 5)).toArray) (by kernel_rfl) (by kernel_rfl) (by kernel_rfl) ?_)
 intro b1 w gw hs
 refine ⟨fun _ => trivial, ?_⟩
 refine wpS.fin rfl (kr2 _ _ (then_n (ks1 _ _ (xseq_k fun KS3 ks3 => (xseq_k fun KS4 ks4 => (xregS [0] fun KR5 kr5 => ?_))))))
 refine wpS.q 0 4 (.int .i64 0) ?_
 refine wpS.fin rfl (kr5 _ _ (then_n (ks4 _ _ ?_)))
 obtain ⟨y4, hy, hk0⟩ := of_bind h
 refine wp_exq (N := fun a w => St w0 [p0] [.blk b1 (enc .u64 y4) 148, .blk p0 (enc .u64 a0) 113] [] w ∧ ∃ g7 : Nat → Value, a = ⟨#[.pointer (some ⟨p0, 0, none⟩), undef, .pointer (some ⟨b1, 0, none⟩), (g7 3), (g7 4), (g7 5), (g7 6), (g7 7), (g7 8), (g7 9), (g7 10), (g7 11), (g7 12), (g7 13), (g7 14), (g7 15), (g7 16), (g7 17), (g7 18), (g7 19), (g7 20), (g7 21), (g7 22), (g7 23), (g7 24), (g7 25), (g7 26), (g7 27), (g7 28), (g7 29), (g7 30), (g7 31), (g7 32), (g7 33), (g7 34), (g7 35), (g7 36), (g7 37), (g7 38), (g7 39), (g7 40), (g7 41), (g7 42), undef], []⟩) (fun N0 nn0 => ?_) ?_
 ·clear hk0
  refine xblock ?_
  refine wp_loop_k (fun n a w => ∃ z2 z3, keccak_columns.l0 K n a0 z2 z3 = some y4 ∧ St w0 [p0] [.blk b1 (enc .u64 z3) 148, .blk p0 (enc .u64 a0) 113] [] w ∧ ∃ g6 : Nat → Value, a = ⟨#[.pointer (some ⟨p0, 0, none⟩), undef, .pointer (some ⟨b1, 0, none⟩), (g6 3), .int .i64 z2, (g6 5), (g6 6), (g6 7), (g6 8), (g6 9), (g6 10), (g6 11), (g6 12), (g6 13), (g6 14), (g6 15), (g6 16), (g6 17), (g6 18), (g6 19), (g6 20), (g6 21), (g6 22), (g6 23), (g6 24), (g6 25), (g6 26), (g6 27), (g6 28), (g6 29), (g6 30), (g6 31), (g6 32), (g6 33), (g6 34), (g6 35), (g6 36), (g6 37), (g6 38), (g6 39), (g6 40), (g6 41), (g6 42), undef], []⟩) K ⟨0, (zeroA 5), hy, hs.conv rfl, exg (by kernel_rfl)⟩ ?_
  clear hs h hy
  rintro n a w ⟨z2, z3, h, hs, g6, rfl⟩ KL0 kl0
  cases n with
  | zero => exact nomatch (show none = some _ from h)
  | succ n =>
   refine xseq_k fun KS8 ks8 => ?_
   refine xregS [0] fun KR9 kr9 => ?_
   rcases of_if h with ⟨hc, h⟩ | ⟨hc, h⟩
   ·refine wpS.tk 0 false (some 5) (.bool true) (yld_b (dt hc) (fun _ => by kernel_rfl)) ?_
    refine wpS.fin rfl (kr9 _ _ (then_n (ks8 _ _ (xseq_k fun KS10 ks10 => (wp_cond_t (by kernel_rfl) (xskip (then_n (ks10 _ _ (xseq_k fun KS11 ks11 => (xblock (xseq_k fun KS12 ks12 => (xregS [0, 1] fun KR13 kr13 => ?_))))))))))))
    refine wpS.qs [(0, 6, .int .i64 z2), (1, 3, .int .i64 z2)] ?_
    refine wpS.fin rfl (kr13 _ _ (then_n (ks12 _ _ ?_)))
    refine wp_regG [35] (fun k => True) 36 (by kernel_rfl) (by kernel_rfl) (by kernel_rfl) fun KR14 kr14 => ?_
    have hs := hs.drawn1
    refine wpG.q 0 7 (.int .i64 z2) ?_
    refine wpG.q 1 8 (.pointer (some ⟨p0, 0, none⟩)) ?_
    refine wpG.q 2 9 (.int .i64 z2) ?_
    refine wpG.q 3 10 (.pointer (some ⟨p0, 0, none⟩)) ?_
    obtain ⟨i0_15, h⟩ := of_chk h
    obtain ⟨i1_15, h⟩ := of_chk h
    refine wpG.tD 4 false (some 11) (.pointer (some ⟨p0, 0 + (z2 : Int).toNat * 1, none⟩)) (yld_idx (t := 113) (e := 112) (n := 25) (sz := 1) (k := .i64) (x := z2) (by kernel_rfl) (by kernel_rfl) (by kernel_rfl) i0_15 i1_15) ?_
    refine wpG.tD 5 true (some 12) (.int .u64 (rd a0 z2)) (yld_loadA (e := 112) (x := z2) hs 1 rfl (by kernel_rfl) (by kernel_rfl) i0_15 i1_15 .grow) ?_
    refine wpG.q 6 13 (.pointer (some ⟨p0, 0, none⟩)) ?_
    refine wpG.q 7 14 (.int .i64 z2) ?_
    refine wpG.q 8 15 (.int .i64 (iadd .i64 z2 5)) ?_
    refine wpG.q 9 16 (.pointer (some ⟨p0, 0, none⟩)) ?_
    obtain ⟨x5, hx, h⟩ := of_bind h
    have hx := of_some hx
    subst hx
    obtain ⟨i0_16, h⟩ := of_chk h
    obtain ⟨i1_16, h⟩ := of_chk h
    refine wpG.tD 10 false (some 17) (.pointer (some ⟨p0, 0 + ((iadd .i64 z2 5) : Int).toNat * 1, none⟩)) (yld_idx (t := 113) (e := 112) (n := 25) (sz := 1) (k := .i64) (x := (iadd .i64 z2 5)) (by kernel_rfl) (by kernel_rfl) (by kernel_rfl) i0_16 i1_16) ?_
    refine wpG.tD 11 true (some 18) (.int .u64 (rd a0 (iadd .i64 z2 5))) (yld_loadA (e := 112) (x := (iadd .i64 z2 5)) hs 1 rfl (by kernel_rfl) (by kernel_rfl) i0_16 i1_16 .grow) ?_
    refine wpG.q 12 19 (.int .u64 (ixor .u64 (rd a0 z2) (rd a0 (iadd .i64 z2 5)))) ?_
    refine wpG.q 13 20 (.pointer (some ⟨p0, 0, none⟩)) ?_
    refine wpG.q 14 21 (.int .i64 z2) ?_
    refine wpG.q 15 22 (.int .i64 (iadd .i64 z2 10)) ?_
    refine wpG.q 16 23 (.pointer (some ⟨p0, 0, none⟩)) ?_
    obtain ⟨x6, hx, h⟩ := of_bind h
    have hx := of_some hx
    subst hx
    obtain ⟨i0_17, h⟩ := of_chk h
    obtain ⟨i1_17, h⟩ := of_chk h
    refine wpG.tD 17 false (some 24) (.pointer (some ⟨p0, 0 + ((iadd .i64 z2 10) : Int).toNat * 1, none⟩)) (yld_idx (t := 113) (e := 112) (n := 25) (sz := 1) (k := .i64) (x := (iadd .i64 z2 10)) (by kernel_rfl) (by kernel_rfl) (by kernel_rfl) i0_17 i1_17) ?_
    refine wpG.tD 18 true (some 25) (.int .u64 (rd a0 (iadd .i64 z2 10))) (yld_loadA (e := 112) (x := (iadd .i64 z2 10)) hs 1 rfl (by kernel_rfl) (by kernel_rfl) i0_17 i1_17 .grow) ?_
    refine wpG.q 19 26 (.int .u64 (ixor .u64 (ixor .u64 (rd a0 z2) (rd a0 (iadd .i64 z2 5))) (rd a0 (iadd .i64 z2 10)))) ?_
    refine wpG.q 20 27 (.pointer (some ⟨p0, 0, none⟩)) ?_
    refine wpG.q 21 28 (.int .i64 z2) ?_
    refine wpG.q 22 29 (.int .i64 (iadd .i64 z2 15)) ?_
    refine wpG.q 23 30 (.pointer (some ⟨p0, 0, none⟩)) ?_
    obtain ⟨x7, hx, h⟩ := of_bind h
    have hx := of_some hx
    subst hx
    obtain ⟨i0_18, h⟩ := of_chk h
    obtain ⟨i1_18, h⟩ := of_chk h
    refine wpG.tD 24 false (some 31) (.pointer (some ⟨p0, 0 + ((iadd .i64 z2 15) : Int).toNat * 1, none⟩)) (yld_idx (t := 113) (e := 112) (n := 25) (sz := 1) (k := .i64) (x := (iadd .i64 z2 15)) (by kernel_rfl) (by kernel_rfl) (by kernel_rfl) i0_18 i1_18) ?_
    refine wpG.tD 25 true (some 32) (.int .u64 (rd a0 (iadd .i64 z2 15))) (yld_loadA (e := 112) (x := (iadd .i64 z2 15)) hs 1 rfl (by kernel_rfl) (by kernel_rfl) i0_18 i1_18 .grow) ?_
    refine wpG.q 26 33 (.int .u64 (ixor .u64 (ixor .u64 (ixor .u64 (rd a0 z2) (rd a0 (iadd .i64 z2 5))) (rd a0 (iadd .i64 z2 10))) (rd a0 (iadd .i64 z2 15)))) ?_
    refine wpG.q 27 34 (.pointer (some ⟨p0, 0, none⟩)) ?_
    refine wpG.q 28 35 (.int .i64 z2) ?_
    refine wpG.q 29 36 (.int .i64 (iadd .i64 z2 20)) ?_
    refine wpG.q 30 37 (.pointer (some ⟨p0, 0, none⟩)) ?_
    obtain ⟨x8, hx, h⟩ := of_bind h
    have hx := of_some hx
    subst hx
    obtain ⟨i0_19, h⟩ := of_chk h
    obtain ⟨i1_19, h⟩ := of_chk h
    refine wpG.tD 31 false (some 38) (.pointer (some ⟨p0, 0 + ((iadd .i64 z2 20) : Int).toNat * 1, none⟩)) (yld_idx (t := 113) (e := 112) (n := 25) (sz := 1) (k := .i64) (x := (iadd .i64 z2 20)) (by kernel_rfl) (by kernel_rfl) (by kernel_rfl) i0_19 i1_19) ?_
    refine wpG.tD 32 true (some 39) (.int .u64 (rd a0 (iadd .i64 z2 20))) (yld_loadA (e := 112) (x := (iadd .i64 z2 20)) hs 1 rfl (by kernel_rfl) (by kernel_rfl) i0_19 i1_19 .grow) ?_
    refine wpG.q 33 40 (.int .u64 (ixor .u64 (ixor .u64 (ixor .u64 (ixor .u64 (rd a0 z2) (rd a0 (iadd .i64 z2 5))) (rd a0 (iadd .i64 z2 10))) (rd a0 (iadd .i64 z2 15))) (rd a0 (iadd .i64 z2 20)))) ?_
    obtain ⟨i0_20, h⟩ := of_chk h
    obtain ⟨i1_20, h⟩ := of_chk h
    refine wpG.tD 34 false (some 41) (.pointer (some ⟨b1, 0 + (z2 : Int).toNat * 1, none⟩)) (yld_idx (t := 148) (e := 112) (n := 5) (sz := 1) (k := .i64) (x := z2) (by kernel_rfl) (by kernel_rfl) (by kernel_rfl) i0_20 i1_20) ?_
    obtain ⟨x9, hx, h⟩ := of_bind h
    refine wpG.only 35 (by kernel_rfl) (op_storeA (t := 112) (x := z2) (v := x9) (d := none) (by kernel_rfl) hs 0 rfl (by cases hx; kernel_rfl) (by kernel_rfl) i0_20 i1_20 ?_)
    intro w kp hs
    refine ⟨⟨fun hf => absurd hf (by decide), .all _ _⟩, ?_⟩
    refine wpG.fin (by kernel_rfl) rfl (kr14 _ _ ?_)
    refine inBlock_n (then_n (ks11 _ _ (xregS [0, 1] fun KR21 kr21 => ?_)))
    refine wpS.qs [(0, 42, .int .i64 (iadd .i64 z2 1)), (1, 4, .int .i64 (iadd .i64 z2 1))] ?_
    refine wpS.fin rfl (kr21 _ _ ?_)
    exact then_n (kl0 _ _ ⟨n, Nat.lt_succ_self n, (iadd .i64 z2 1), (wr z3 z2 x9), h, (hs.conv rfl), exg (by kernel_rfl)⟩)
   refine wpS.tk 0 false (some 5) (.bool false) (yld_b (df hc) (fun _ => by kernel_rfl)) ?_
   refine wpS.fin rfl (kr9 _ _ (then_n (ks8 _ _ (xseq_k fun KS22 ks22 => (wp_cond_f (by kernel_rfl) (xexit (then_x (then_x (inBlock_hit ?_)))))))))
   have q0 := of_some h
   subst q0
   exact exq_n (nn0 _ _ ⟨(hs.conv rfl), exg (by kernel_rfl)⟩)
 clear hs h hy
 rintro a w ⟨hs, g7, rfl⟩
 have h := hk0
 refine then_n (ks3 _ _ (xseq_k fun KS23 ks23 => (xregS [0, 1] fun KR24 kr24 => ?_)))
 refine wpS.tk 0 true (some 43) (.agg (enc .u64 y4).toArray) (yld_loadW (e := 148) (n := 5) hs 0 rfl (by kernel_rfl) (by kernel_rfl) (by kernel_rfl) (by exact enc_len _ _) .grow) ?_
 refine wpS.only 1 (op_storeW (t := 148) (v := .agg (enc .u64 y4).toArray) (d := none) (by kernel_rfl) hs 0 rfl (vs := enc .u64 y4) (n := 5) (by kernel_rfl) (by kernel_rfl) (by kernel_rfl) (by simp [enc_len]) (by simp [enc_len]) (by intro u hu; exact enc_one _ _ u hu) ?_)
 intro w kp hs
 refine ⟨fun _ => trivial, ?_⟩
 refine wpS.fin rfl (kr24 _ _ (then_n (ks23 _ _ (xret ?_))))
 have q0 := of_some h
 subst q0
 exact qq _ _ (post_ret (by kernel_rfl) (run_results [.cell 2 148] [.agg (enc .u64 y4).toArray] (by kernel_rfl) (.cons (res_cellN (n := 5) hs 0 rfl (by kernel_rfl) (by kernel_rfl) (by kernel_rfl) (by exact enc_len _ _)) .nil)) ⟨congrArg Ending.returned (by kernel_rfl), (hs.drop (.cons _ (.cons_cons _ .slnil)))⟩)

theorem math_bits_RotateLeft64.ok {K : Nat} {a0 : Int} {a1 : Int} {r0 : Int} (h : math_bits_RotateLeft64.f K a0 a1 = some r0) (w0 : World) : Ret Tryd.prog 116 #[.int .u64 a0, .int .i64 a1] w0 (.int .u64 r0) := by
 refine calls_k Tryd.func116 rfl fun Q qq => ?_
 have hs := St.start w0
 refine wp_conv (a' := ⟨#[.int .u64 a0, .int .i64 a1, undef, undef, undef, undef, undef, undef, undef, undef, undef, undef, undef, undef, undef, undef, undef], []⟩) (by kernel_rfl) ?_
 refine xseq_k fun KS1 ks1 => ?_
 refine xregS [0] fun KR2 kr2 => ?_
 refine wpS.q 0 4 (.int .u64 0) ?_
 refine wpS.fin rfl (kr2 _ _ (then_n (ks1 _ _ (xseq_k fun KS3 ks3 => (xregS [0, 1, 2, 3] fun KR4 kr4 => ?_)))))
 refine wpS.qs [(0, 6, .int .i64 a1), (1, 7, .int .u64 (iconv .u64 a1)), (2, 8, .int .u64 (iand .u64 (iconv .u64 a1) 63))] ?_
 obtain ⟨x1, hx, h⟩ := of_bind h
 refine wpS.tk 3 false (some 5) (.int .u64 x1) (yld_int hx (fun _ => by kernel_rfl)) ?_
 refine wpS.fin rfl (kr4 _ _ (then_n (ks3 _ _ (xseq_k fun KS5 ks5 => (xregS [0, 1, 2, 3, 4, 5, 6, 7, 8] fun KR6 kr6 => ?_)))))
 refine wpS.qs [(0, 9, .int .u64 a0), (1, 10, .int .u64 x1)] ?_
 obtain ⟨h0, h⟩ := of_chk h
 refine wpS.tk 2 false (some 11) (.int .u64 (ishl .u64 a0 x1)) (yld_shl (t := 112) (k' := .u64) (by kernel_rfl) h0) ?_
 refine wpS.qs [(3, 12, .int .u64 a0), (4, 13, .int .u64 x1), (5, 14, .int .u64 (isub .u64 64 x1))] ?_
 obtain ⟨h0, h⟩ := of_chk h
 refine wpS.tk 6 false (some 15) (.int .u64 (ishr .u64 a0 (isub .u64 64 x1))) (yld_shr (t := 112) (k' := .u64) (by kernel_rfl) h0) ?_
 refine wpS.q 7 16 (.int .u64 (ior .u64 (ishl .u64 a0 x1) (ishr .u64 a0 (isub .u64 64 x1)))) ?_
 obtain ⟨x2, hx, h⟩ := of_bind h
 refine wpS.tk 8 false (some 4) (.int .u64 x2) (yld_int hx (fun _ => by kernel_rfl)) ?_
 refine wpS.fin rfl (kr6 _ _ (then_n (ks5 _ _ (xret ?_))))
 have q0 := of_some h
 subst q0
 exact qq _ _ (post_ret (by kernel_rfl) (run_results [.tmp 4] [.int .u64 x2] (by kernel_rfl) (.cons (res_tmp (by kernel_rfl)) .nil)) ⟨congrArg Ending.returned (by kernel_rfl), hs.none⟩)
end Go.Proofs.YtemdbgmldljbpaaDoor
