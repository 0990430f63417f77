/- Printed by this work's own program: the code of each function below comes to the answer that its plain form tells. -/
import Derived.Test.YtemdbgmldljbpaaDoorMf
import Derived.Test.YtemdbgmldljbpaaDoorProg
import Derived.Test.YtemdbgmldljbpaaDoorZF0
import Derived.Test.YtemdbgmldljbpaaDoorZX1
import Derived.Test.YtemdbgmldljbpaaDoorZX2
import Derived.Test.YtemdbgmldljbpaaDoorZX3
import Derived.Test.YtemdbgmldljbpaaDoorZX4
import Derived.Test.YtemdbgmldljbpaaDoorZX5
import Derived.Test.YtemdbgmldljbpaaDoorZX6
import Derived.Test.YtemdbgmldljbpaaDoorZX7
set_option linter.unusedVariables false
set_option linter.unusedSimpArgs false
set_option maxRecDepth 100000
set_option maxHeartbeats 4000000
namespace Go.Proofs.YtemdbgmldljbpaaDoor
open Go.Mx
attribute [local irreducible] wpOp

theorem law26_awake.ok {K : Nat} {r0 : Bool} (h : law26_awake.f K = some r0) (w0 : World) (hg0 : RowL (CA .u64 24 (by decide)) w0 (some ⟨0, 0, none⟩) 1 1 [tab_0]) (hg1 : RowL (CA .i64 24 (by decide)) w0 (some ⟨1, 0, none⟩) 1 1 [tab_1]) (hg2 : RowL (CA .i64 24 (by decide)) w0 (some ⟨2, 0, none⟩) 1 1 [tab_2]) : Ret Tryd.prog 9 #[] w0 (.bool r0) := by
 refine calls_k Tryd.func9 rfl fun Q qq => ?_
 have hs := St.startR (all_cons (RowP.ent hg0) (all_cons (RowP.ent hg1) (all_cons (RowP.ent hg2) all_nil)))
 refine wp_conv (a' := ⟨#[undef, undef, undef, undef, undef, undef, undef, undef, undef, undef, undef, undef, undef, undef, undef, undef, undef, undef, undef, undef, undef, undef, undef, undef, undef, undef, undef, undef, undef, undef, undef, undef, undef, undef, undef, undef, undef, undef, undef, undef], []⟩) (by kernel_rfl) ?_
 refine xseq_k fun KS1 ks1 => ?_
 refine xregS [0] fun KR2 kr2 => ?_
 refine wpS.q 0 0 (.bool false) ?_
 refine wpS.fin rfl (kr2 _ _ (then_n (ks1 _ _ (xseq_k fun KS3 ks3 => (xregS [0, 1, 2, 3, 4, 5, 6] fun KR4 kr4 => ?_)))))
 obtain ⟨⟨r1_0, r1_1, r1_2, r1_3, r1_4, r2⟩, hg, h⟩ := of_bind h
 refine wpS.only 0 (op_call (d := (some 9)) (by kernel_rfl) hs (fun _ => by kernel_rfl) (kpke_Set.ok hg _) ?_)
 intro w gw hs
 refine ⟨fun _ => trivial, ?_⟩
 refine wpS.qs [(1, 8, .tuple #[.agg #[.int .i64 r1_0, .int .i64 r1_1, .int .i64 r1_2, .int .i64 r1_3, .int .i64 r1_4], .bool r2]), (2, 10, .agg #[.int .i64 r1_0, .int .i64 r1_1, .int .i64 r1_2, .int .i64 r1_3, .int .i64 r1_4])] ?_
 cases r2 with
 | true =>
  have h := of_if_t h
  refine wpS.q 3 11 (.bool true) ?_
  refine wpS.only 4 (op_alloc (t := 23) (d := (some 1)) (by kernel_rfl) hs ([.int .i64 0, .int .i64 0, .int .i64 0, .int .i64 0, .int .i64 0]) (.agg #[.int .i64 0, .int .i64 0, .int .i64 0, .int .i64 0, .int .i64 0]) (by kernel_rfl) (by kernel_rfl) (by kernel_rfl) ?_)
  intro b3 w gw hs
  refine ⟨fun _ => trivial, ?_⟩
  refine wpS.only 5 (op_storeW (t := 23) (v := .agg #[.int .i64 r1_0, .int .i64 r1_1, .int .i64 r1_2, .int .i64 r1_3, .int .i64 r1_4]) (d := none) (by kernel_rfl) hs 0 rfl (vs := [.int .i64 r1_0, .int .i64 r1_1, .int .i64 r1_2, .int .i64 r1_3, .int .i64 r1_4]) (n := 5) (by kernel_rfl) (by kernel_rfl) (by kernel_rfl) (by simp [enc_len]) (by simp [enc_len]) (by simp [Value.oneCell']) ?_)
  intro w kp hs
  refine ⟨fun _ => trivial, ?_⟩
  refine wpS.q 6 2 (.bool true) ?_
  refine wpS.fin rfl (kr4 _ _ (then_n (ks3 _ _ (xseq_k fun KS5 ks5 => (xregS [0, 1, 2, 3, 4, 5, 6, 7, 8] fun KR6 kr6 => ?_)))))
  refine wpS.tk 0 true (some 13) (.agg #[.int .i64 r1_0, .int .i64 r1_1, .int .i64 r1_2, .int .i64 r1_3, .int .i64 r1_4]) (yld_loadW (e := 23) (n := 5) hs 0 rfl (by kernel_rfl) (by kernel_rfl) (by kernel_rfl) (by simp [enc_len]) .grow) ?_
  obtain ⟨⟨r4, r5, r6⟩, hg, h⟩ := of_bind h
  refine wpS.only 1 (op_call (d := (some 14)) (by kernel_rfl) hs (fun _ => by kernel_rfl) (kpke_Sizes.ok hg _) ?_)
  intro w gw hs
  refine ⟨fun _ => trivial, ?_⟩
  refine wpS.qs [(2, 12, .tuple #[.int .i64 r4, .int .i64 r5, .int .i64 r6]), (3, 15, .int .i64 r4), (4, 16, .int .i64 r5), (5, 17, .int .i64 r6), (6, 3, .int .i64 r4), (7, 4, .int .i64 r5), (8, 5, .int .i64 r6)] ?_
  refine wpS.fin rfl (kr6 _ _ (then_n (ks5 _ _ (xseq_k fun KS7 ks7 => (xregS [0, 1, 2, 3, 4, 5, 6] fun KR8 kr8 => ?_)))))
  refine wpS.tk 0 true (some 19) (.agg #[.int .i64 r1_0, .int .i64 r1_1, .int .i64 r1_2, .int .i64 r1_3, .int .i64 r1_4]) (yld_loadW (e := 23) (n := 5) hs 0 rfl (by kernel_rfl) (by kernel_rfl) (by kernel_rfl) (by simp [enc_len]) .grow) ?_
  obtain ⟨⟨r7, r8⟩, hg, h⟩ := of_bind h
  refine wpS.only 1 (op_callH (d := (some 20)) (by kernel_rfl) hs (fun _ => by kernel_rfl) (kpke_Encrypt.ok hg _ (RowL.nil _) (RowL.nil _) (RowL.nil _) (hs.rowR 0 rfl) (hs.rowR 1 rfl) (hs.rowR 2 rfl)) ?_)
  rintro ⟨r7_A, r7_n, r7_c⟩ w gw hs
  have hs := hs.conv (L' := [.ownL (CI .u8) r7_A r7_n r7_c r7 5, .blk b3 ([.int .i64 r1_0, .int .i64 r1_1, .int .i64 r1_2, .int .i64 r1_3, .int .i64 r1_4]) 23]) rfl
  refine ⟨fun _ => trivial, ?_⟩
  refine wpS.qs [(2, 18, .tuple #[.slice r7_A r7_n r7_c, .int .i64 r8]), (3, 21, .slice r7_A r7_n r7_c), (4, 22, .int .i64 r8), (5, 6, .slice r7_A r7_n r7_c), (6, 7, .int .i64 r8)] ?_
  refine wpS.fin rfl (kr8 _ _ (then_n (ks7 _ _ (xseq_k fun KS9 ks9 => (xregS [0, 1, 2, 3, 4, 5, 6, 7, 8, 9, 10, 11, 12, 13, 14, 15, 16, 17] fun KR10 kr10 => ?_)))))
  refine wpS.qs [(0, 23, .bool true), (1, 24, .bool true), (2, 25, .int .i64 r4)] ?_
  rcases of_if h with ⟨hc, h⟩ | ⟨hc, h⟩
  ·refine wpS.tk 3 false (some 26) (.bool true) (yld_b (et hc) (fun _ => by kernel_rfl)) ?_
   refine wpS.qs [(4, 27, .bool true), (5, 28, .bool true), (6, 29, .int .i64 r5)] ?_
   rcases of_if h with ⟨hc, h⟩ | ⟨hc, h⟩
   ·refine wpS.tk 7 false (some 30) (.bool true) (yld_b (et hc) (fun _ => by kernel_rfl)) ?_
    refine wpS.qs [(8, 31, .bool true), (9, 32, .bool true), (10, 33, .int .i64 r6)] ?_
    rcases of_if h with ⟨hc, h⟩ | ⟨hc, h⟩
    ·refine wpS.tk 11 false (some 34) (.bool true) (yld_b (et hc) (fun _ => by kernel_rfl)) ?_
     refine wpS.qs [(12, 35, .bool true), (13, 36, .bool true), (14, 37, .int .i64 r8), (15, 38, .bool (r8 == 10)), (16, 39, .bool (r8 == 10)), (17, 0, .bool (r8 == 10))] ?_
     refine wpS.fin rfl (kr10 _ _ (then_n (ks9 _ _ (xret ?_))))
     have q0 := of_some h
     subst q0
     exact qq _ _ (post_ret (by kernel_rfl) (run_results [.tmp 0] [.bool (r8 == 10)] (by kernel_rfl) (.cons (res_tmp (by kernel_rfl)) .nil)) ⟨congrArg Ending.returned (by kernel_rfl), hs.none⟩)
    refine wpS.tk 11 false (some 34) (.bool false) (yld_b (ef hc) (fun _ => by kernel_rfl)) ?_
    refine wpS.qs [(12, 35, .bool false), (13, 36, .bool false), (14, 37, undef), (15, 38, undef), (16, 39, .bool false), (17, 0, .bool false)] ?_
    refine wpS.fin rfl (kr10 _ _ (then_n (ks9 _ _ (xret ?_))))
    have q0 := of_some h
    subst q0
    exact qq _ _ (post_ret (by kernel_rfl) (run_results [.tmp 0] [.bool false] (by kernel_rfl) (.cons (res_tmp (by kernel_rfl)) .nil)) ⟨congrArg Ending.returned (by kernel_rfl), hs.none⟩)
   refine wpS.tk 7 false (some 30) (.bool false) (yld_b (ef hc) (fun _ => by kernel_rfl)) ?_
   refine wpS.qs [(8, 31, .bool false), (9, 32, .bool false), (10, 33, undef), (11, 34, undef), (12, 35, .bool false), (13, 36, .bool false), (14, 37, undef), (15, 38, undef), (16, 39, .bool false), (17, 0, .bool false)] ?_
   refine wpS.fin rfl (kr10 _ _ (then_n (ks9 _ _ (xret ?_))))
   have q0 := of_some h
   subst q0
   exact qq _ _ (post_ret (by kernel_rfl) (run_results [.tmp 0] [.bool false] (by kernel_rfl) (.cons (res_tmp (by kernel_rfl)) .nil)) ⟨congrArg Ending.returned (by kernel_rfl), hs.none⟩)
  refine wpS.tk 3 false (some 26) (.bool false) (yld_b (ef hc) (fun _ => by kernel_rfl)) ?_
  refine wpS.qs [(4, 27, .bool false), (5, 28, .bool false), (6, 29, undef), (7, 30, undef), (8, 31, .bool false), (9, 32, .bool false), (10, 33, undef), (11, 34, undef), (12, 35, .bool false), (13, 36, .bool false), (14, 37, undef), (15, 38, undef), (16, 39, .bool false), (17, 0, .bool false)] ?_
  refine wpS.fin rfl (kr10 _ _ (then_n (ks9 _ _ (xret ?_))))
  have q0 := of_some h
  subst q0
  exact qq _ _ (post_ret (by kernel_rfl) (run_results [.tmp 0] [.bool false] (by kernel_rfl) (.cons (res_tmp (by kernel_rfl)) .nil)) ⟨congrArg Ending.returned (by kernel_rfl), hs.none⟩)
 | false =>
  have h := of_if_f h
  refine wpS.q 3 11 (.bool false) ?_
  refine wpS.only 4 (op_alloc (t := 23) (d := (some 1)) (by kernel_rfl) hs ([.int .i64 0, .int .i64 0, .int .i64 0, .int .i64 0, .int .i64 0]) (.agg #[.int .i64 0, .int .i64 0, .int .i64 0, .int .i64 0, .int .i64 0]) (by kernel_rfl) (by kernel_rfl) (by kernel_rfl) ?_)
  intro b9 w gw hs
  refine ⟨fun _ => trivial, ?_⟩
  refine wpS.only 5 (op_storeW (t := 23) (v := .agg #[.int .i64 r1_0, .int .i64 r1_1, .int .i64 r1_2, .int .i64 r1_3, .int .i64 r1_4]) (d := none) (by kernel_rfl) hs 0 rfl (vs := [.int .i64 r1_0, .int .i64 r1_1, .int .i64 r1_2, .int .i64 r1_3, .int .i64 r1_4]) (n := 5) (by kernel_rfl) (by kernel_rfl) (by kernel_rfl) (by simp [enc_len]) (by simp [enc_len]) (by simp [Value.oneCell']) ?_)
  intro w kp hs
  refine ⟨fun _ => trivial, ?_⟩
  refine wpS.q 6 2 (.bool false) ?_
  refine wpS.fin rfl (kr4 _ _ (then_n (ks3 _ _ (xseq_k fun KS11 ks11 => (xregS [0, 1, 2, 3, 4, 5, 6, 7, 8] fun KR12 kr12 => ?_)))))
  refine wpS.tk 0 true (some 13) (.agg #[.int .i64 r1_0, .int .i64 r1_1, .int .i64 r1_2, .int .i64 r1_3, .int .i64 r1_4]) (yld_loadW (e := 23) (n := 5) hs 0 rfl (by kernel_rfl) (by kernel_rfl) (by kernel_rfl) (by simp [enc_len]) .grow) ?_
  obtain ⟨⟨r10, r11, r12⟩, hg, h⟩ := of_bind h
  refine wpS.only 1 (op_call (d := (some 14)) (by kernel_rfl) hs (fun _ => by kernel_rfl) (kpke_Sizes.ok hg _) ?_)
  intro w gw hs
  refine ⟨fun _ => trivial, ?_⟩
  refine wpS.qs [(2, 12, .tuple #[.int .i64 r10, .int .i64 r11, .int .i64 r12]), (3, 15, .int .i64 r10), (4, 16, .int .i64 r11), (5, 17, .int .i64 r12), (6, 3, .int .i64 r10), (7, 4, .int .i64 r11), (8, 5, .int .i64 r12)] ?_
  refine wpS.fin rfl (kr12 _ _ (then_n (ks11 _ _ (xseq_k fun KS13 ks13 => (xregS [0, 1, 2, 3, 4, 5, 6] fun KR14 kr14 => ?_)))))
  refine wpS.tk 0 true (some 19) (.agg #[.int .i64 r1_0, .int .i64 r1_1, .int .i64 r1_2, .int .i64 r1_3, .int .i64 r1_4]) (yld_loadW (e := 23) (n := 5) hs 0 rfl (by kernel_rfl) (by kernel_rfl) (by kernel_rfl) (by simp [enc_len]) .grow) ?_
  obtain ⟨⟨r13, r14⟩, hg, h⟩ := of_bind h
  refine wpS.only 1 (op_callH (d := (some 20)) (by kernel_rfl) hs (fun _ => by kernel_rfl) (kpke_Encrypt.ok hg _ (RowL.nil _) (RowL.nil _) (RowL.nil _) (hs.rowR 0 rfl) (hs.rowR 1 rfl) (hs.rowR 2 rfl)) ?_)
  rintro ⟨r13_A, r13_n, r13_c⟩ w gw hs
  have hs := hs.conv (L' := [.ownL (CI .u8) r13_A r13_n r13_c r13 5, .blk b9 ([.int .i64 r1_0, .int .i64 r1_1, .int .i64 r1_2, .int .i64 r1_3, .int .i64 r1_4]) 23]) rfl
  refine ⟨fun _ => trivial, ?_⟩
  refine wpS.qs [(2, 18, .tuple #[.slice r13_A r13_n r13_c, .int .i64 r14]), (3, 21, .slice r13_A r13_n r13_c), (4, 22, .int .i64 r14), (5, 6, .slice r13_A r13_n r13_c), (6, 7, .int .i64 r14)] ?_
  refine wpS.fin rfl (kr14 _ _ (then_n (ks13 _ _ (xseq_k fun KS15 ks15 => (xregS [0, 1, 2, 3, 4, 5, 6, 7, 8, 9, 10, 11, 12, 13, 14, 15, 16, 17] fun KR16 kr16 => ?_)))))
  refine wpS.qs [(0, 23, .bool false), (1, 24, .bool false), (2, 25, undef), (3, 26, undef), (4, 27, .bool false), (5, 28, .bool false), (6, 29, undef), (7, 30, undef), (8, 31, .bool false), (9, 32, .bool false), (10, 33, undef), (11, 34, undef), (12, 35, .bool false), (13, 36, .bool false), (14, 37, undef), (15, 38, undef), (16, 39, .bool false), (17, 0, .bool false)] ?_
  refine wpS.fin rfl (kr16 _ _ (then_n (ks15 _ _ (xret ?_))))
  have q0 := of_some h
  subst q0
  exact qq _ _ (post_ret (by kernel_rfl) (run_results [.tmp 0] [.bool false] (by kernel_rfl) (.cons (res_tmp (by kernel_rfl)) .nil)) ⟨congrArg Ending.returned (by kernel_rfl), hs.none⟩)

theorem ref26_Set.ok {K : Nat} {a0 : Int} {r0_0 : Int} {r0_1 : Int} {r0_2 : Int} {r0_3 : Int} {r0_4 : Int} {r1 : Bool} (h : ref26_Set.f K a0 = some (r0_0, r0_1, r0_2, r0_3, r0_4, r1)) (w0 : World) : Ret Tryd.prog 11 #[.int .i64 a0] w0 (.tuple #[.agg #[.int .i64 r0_0, .int .i64 r0_1, .int .i64 r0_2, .int .i64 r0_3, .int .i64 r0_4], .bool r1]) := by
 refine calls_k Tryd.func11 rfl fun Q qq => ?_
 have hs := St.start w0
 refine wp_conv (a' := ⟨#[.int .i64 a0, undef, undef, undef, undef, undef, undef, undef, undef, undef, undef, undef, undef, undef, undef], []⟩) (by kernel_rfl) ?_
 refine xseq_k fun KS1 ks1 => ?_
 refine xregS [0, 1] fun KR2 kr2 => ?_
 refine wpS.only 0 (op_alloc (t := 23) (d := (some 2)) (by kernel_rfl) hs ([.int .i64 0, .int .i64 0, .int .i64 0, .int .i64 0, .int .i64 0]) (.agg #[.int .i64 0, .int .i64 0, .int .i64 0, .int .i64 0, .int .i64 0]) (by kernel_rfl) (by kernel_rfl) (by kernel_rfl) ?_)
 intro b1 w gw hs
 refine ⟨fun _ => trivial, ?_⟩
 refine wpS.q 1 3 (.bool false) ?_
 refine wpS.fin rfl (kr2 _ _ (then_n (ks1 _ _ (xseq_k fun KS3 ks3 => (xseq_k fun KS4 ks4 => (xregS [0] fun KR5 kr5 => ?_))))))
 refine wpS.q 0 4 (.int .i64 a0) ?_
 refine wpS.fin rfl (kr5 _ _ (then_n (ks4 _ _ (xblock (xseq_k fun KS6 ks6 => (xregS [0, 1] fun KR7 kr7 => ?_))))))
 rcases of_if h with ⟨hc, h⟩ | ⟨hc, h⟩
 ·refine wpS.tk 0 false (some 6) (.bool true) (yld_b (et hc) (fun _ => by kernel_rfl)) ?_
  refine wpS.q 1 5 (.bool true) ?_
  refine wpS.fin rfl (kr7 _ _ (then_n (ks6 _ _ (wp_cond_t (by kernel_rfl) (xseq_k fun KS8 ks8 => (xregS [0, 1, 2] fun KR9 kr9 => ?_))))))
  refine wpS.q 0 7 (.agg #[.int .i64 2, .int .i64 3, .int .i64 2, .int .i64 10, .int .i64 4]) ?_
  refine wpS.only 1 (op_storeW (t := 23) (v := .agg #[.int .i64 2, .int .i64 3, .int .i64 2, .int .i64 10, .int .i64 4]) (d := none) (by kernel_rfl) hs 0 rfl (vs := [.int .i64 2, .int .i64 3, .int .i64 2, .int .i64 10, .int .i64 4]) (n := 5) (by kernel_rfl) (by kernel_rfl) (by kernel_rfl) (by simp [enc_len]) (by simp [enc_len]) (by simp [Value.oneCell']) ?_)
  intro w kp hs
  refine ⟨fun _ => trivial, ?_⟩
  refine wpS.q 2 3 (.bool true) ?_
  refine wpS.fin rfl (kr9 _ _ (then_n (ks8 _ _ (xret (inBlock_r (then_r ?_))))))
  obtain ⟨q0, qr0⟩ := Prod.mk.inj (of_some h)
  obtain ⟨q1, qr1⟩ := Prod.mk.inj (qr0)
  obtain ⟨q2, qr2⟩ := Prod.mk.inj (qr1)
  obtain ⟨q3, qr3⟩ := Prod.mk.inj (qr2)
  obtain ⟨q4, qr4⟩ := Prod.mk.inj (qr3)
  have q5 := qr4
  subst q0
  subst q1
  subst q2
  subst q3
  subst q4
  subst q5
  exact qq _ _ (post_ret (by kernel_rfl) (run_results [.cell 2 23, .tmp 3] [.agg #[.int .i64 2, .int .i64 3, .int .i64 2, .int .i64 10, .int .i64 4], .bool true] (by kernel_rfl) (.cons (res_cellN (n := 5) hs 0 rfl (by kernel_rfl) (by kernel_rfl) (by kernel_rfl) (by simp [enc_len])) (.cons (res_tmp (by kernel_rfl)) .nil))) ⟨congrArg Ending.returned (by kernel_rfl), hs.none⟩)
 refine wpS.tk 0 false (some 6) (.bool false) (yld_b (ef hc) (fun _ => by kernel_rfl)) ?_
 refine wpS.q 1 5 (.bool false) ?_
 refine wpS.fin rfl (kr7 _ _ (then_n (ks6 _ _ (wp_cond_f (by kernel_rfl) (xseq_k fun KS10 ks10 => (xregS [0, 1] fun KR11 kr11 => ?_))))))
 rcases of_if h with ⟨hc, h⟩ | ⟨hc, h⟩
 ·refine wpS.tk 0 false (some 9) (.bool true) (yld_b (et hc) (fun _ => by kernel_rfl)) ?_
  refine wpS.q 1 8 (.bool true) ?_
  refine wpS.fin rfl (kr11 _ _ (then_n (ks10 _ _ (wp_cond_t (by kernel_rfl) (xseq_k fun KS12 ks12 => (xregS [0, 1, 2] fun KR13 kr13 => ?_))))))
  refine wpS.q 0 10 (.agg #[.int .i64 3, .int .i64 2, .int .i64 2, .int .i64 10, .int .i64 4]) ?_
  refine wpS.only 1 (op_storeW (t := 23) (v := .agg #[.int .i64 3, .int .i64 2, .int .i64 2, .int .i64 10, .int .i64 4]) (d := none) (by kernel_rfl) hs 0 rfl (vs := [.int .i64 3, .int .i64 2, .int .i64 2, .int .i64 10, .int .i64 4]) (n := 5) (by kernel_rfl) (by kernel_rfl) (by kernel_rfl) (by simp [enc_len]) (by simp [enc_len]) (by simp [Value.oneCell']) ?_)
  intro w kp hs
  refine ⟨fun _ => trivial, ?_⟩
  refine wpS.q 2 3 (.bool true) ?_
  refine wpS.fin rfl (kr13 _ _ (then_n (ks12 _ _ (xret (inBlock_r (then_r ?_))))))
  obtain ⟨q0, qr0⟩ := Prod.mk.inj (of_some h)
  obtain ⟨q1, qr1⟩ := Prod.mk.inj (qr0)
  obtain ⟨q2, qr2⟩ := Prod.mk.inj (qr1)
  obtain ⟨q3, qr3⟩ := Prod.mk.inj (qr2)
  obtain ⟨q4, qr4⟩ := Prod.mk.inj (qr3)
  have q5 := qr4
  subst q0
  subst q1
  subst q2
  subst q3
  subst q4
  subst q5
  exact qq _ _ (post_ret (by kernel_rfl) (run_results [.cell 2 23, .tmp 3] [.agg #[.int .i64 3, .int .i64 2, .int .i64 2, .int .i64 10, .int .i64 4], .bool true] (by kernel_rfl) (.cons (res_cellN (n := 5) hs 0 rfl (by kernel_rfl) (by kernel_rfl) (by kernel_rfl) (by simp [enc_len])) (.cons (res_tmp (by kernel_rfl)) .nil))) ⟨congrArg Ending.returned (by kernel_rfl), hs.none⟩)
 refine wpS.tk 0 false (some 9) (.bool false) (yld_b (ef hc) (fun _ => by kernel_rfl)) ?_
 refine wpS.q 1 8 (.bool false) ?_
 refine wpS.fin rfl (kr11 _ _ (then_n (ks10 _ _ (wp_cond_f (by kernel_rfl) (xseq_k fun KS14 ks14 => (xregS [0, 1] fun KR15 kr15 => ?_))))))
 rcases of_if h with ⟨hc, h⟩ | ⟨hc, h⟩
 ·refine wpS.tk 0 false (some 12) (.bool true) (yld_b (et hc) (fun _ => by kernel_rfl)) ?_
  refine wpS.q 1 11 (.bool true) ?_
  refine wpS.fin rfl (kr15 _ _ (then_n (ks14 _ _ (wp_cond_t (by kernel_rfl) (xseq_k fun KS16 ks16 => (xregS [0, 1, 2] fun KR17 kr17 => ?_))))))
  refine wpS.q 0 13 (.agg #[.int .i64 4, .int .i64 2, .int .i64 2, .int .i64 11, .int .i64 5]) ?_
  refine wpS.only 1 (op_storeW (t := 23) (v := .agg #[.int .i64 4, .int .i64 2, .int .i64 2, .int .i64 11, .int .i64 5]) (d := none) (by kernel_rfl) hs 0 rfl (vs := [.int .i64 4, .int .i64 2, .int .i64 2, .int .i64 11, .int .i64 5]) (n := 5) (by kernel_rfl) (by kernel_rfl) (by kernel_rfl) (by simp [enc_len]) (by simp [enc_len]) (by simp [Value.oneCell']) ?_)
  intro w kp hs
  refine ⟨fun _ => trivial, ?_⟩
  refine wpS.q 2 3 (.bool true) ?_
  refine wpS.fin rfl (kr17 _ _ (then_n (ks16 _ _ (xret (inBlock_r (then_r ?_))))))
  obtain ⟨q0, qr0⟩ := Prod.mk.inj (of_some h)
  obtain ⟨q1, qr1⟩ := Prod.mk.inj (qr0)
  obtain ⟨q2, qr2⟩ := Prod.mk.inj (qr1)
  obtain ⟨q3, qr3⟩ := Prod.mk.inj (qr2)
  obtain ⟨q4, qr4⟩ := Prod.mk.inj (qr3)
  have q5 := qr4
  subst q0
  subst q1
  subst q2
  subst q3
  subst q4
  subst q5
  exact qq _ _ (post_ret (by kernel_rfl) (run_results [.cell 2 23, .tmp 3] [.agg #[.int .i64 4, .int .i64 2, .int .i64 2, .int .i64 11, .int .i64 5], .bool true] (by kernel_rfl) (.cons (res_cellN (n := 5) hs 0 rfl (by kernel_rfl) (by kernel_rfl) (by kernel_rfl) (by simp [enc_len])) (.cons (res_tmp (by kernel_rfl)) .nil))) ⟨congrArg Ending.returned (by kernel_rfl), hs.none⟩)
 refine wpS.tk 0 false (some 12) (.bool false) (yld_b (ef hc) (fun _ => by kernel_rfl)) ?_
 refine wpS.q 1 11 (.bool false) ?_
 refine wpS.fin rfl (kr15 _ _ (then_n (ks14 _ _ (wp_cond_f (by kernel_rfl) (xskip (inBlock_n (then_n (ks3 _ _ (xseq_k fun KS18 ks18 => (xregS [0, 1, 2] fun KR19 kr19 => ?_))))))))))
 refine wpS.q 0 14 (.agg #[.int .i64 0, .int .i64 0, .int .i64 0, .int .i64 0, .int .i64 0]) ?_
 refine wpS.only 1 (op_storeW (t := 23) (v := .agg #[.int .i64 0, .int .i64 0, .int .i64 0, .int .i64 0, .int .i64 0]) (d := none) (by kernel_rfl) hs 0 rfl (vs := [.int .i64 0, .int .i64 0, .int .i64 0, .int .i64 0, .int .i64 0]) (n := 5) (by kernel_rfl) (by kernel_rfl) (by kernel_rfl) (by simp [enc_len]) (by simp [enc_len]) (by simp [Value.oneCell']) ?_)
 intro w kp hs
 refine ⟨fun _ => trivial, ?_⟩
 refine wpS.q 2 3 (.bool false) ?_
 refine wpS.fin rfl (kr19 _ _ (then_n (ks18 _ _ (xret ?_))))
 obtain ⟨q0, qr0⟩ := Prod.mk.inj (of_some h)
 obtain ⟨q1, qr1⟩ := Prod.mk.inj (qr0)
 obtain ⟨q2, qr2⟩ := Prod.mk.inj (qr1)
 obtain ⟨q3, qr3⟩ := Prod.mk.inj (qr2)
 obtain ⟨q4, qr4⟩ := Prod.mk.inj (qr3)
 have q5 := qr4
 subst q0
 subst q1
 subst q2
 subst q3
 subst q4
 subst q5
 exact qq _ _ (post_ret (by kernel_rfl) (run_results [.cell 2 23, .tmp 3] [.agg #[.int .i64 0, .int .i64 0, .int .i64 0, .int .i64 0, .int .i64 0], .bool false] (by kernel_rfl) (.cons (res_cellN (n := 5) hs 0 rfl (by kernel_rfl) (by kernel_rfl) (by kernel_rfl) (by simp [enc_len])) (.cons (res_tmp (by kernel_rfl)) .nil))) ⟨congrArg Ending.returned (by kernel_rfl), hs.none⟩)

theorem law26_kind.ok {K : Nat} {a0 : Int} {a1_0 : Int} {a1_1 : Int} {a1_2 : Int} {a1_3 : Int} {a1_4 : Int} {r0_0 : Int} {r0_1 : Int} {r0_2 : Int} {r0_3 : Int} {r0_4 : Int} (h : law26_kind.f K a0 a1_0 a1_1 a1_2 a1_3 a1_4 = some (r0_0, r0_1, r0_2, r0_3, r0_4)) (w0 : World) : Ret Tryd.prog 18 #[.int .u8 a0, .agg #[.int .i64 a1_0, .int .i64 a1_1, .int .i64 a1_2, .int .i64 a1_3, .int .i64 a1_4]] w0 (.agg #[.int .i64 r0_0, .int .i64 r0_1, .int .i64 r0_2, .int .i64 r0_3, .int .i64 r0_4]) := by
 refine calls_k Tryd.func18 rfl fun Q qq => ?_
 have hs := St.start w0
 refine wp_conv (a' := ⟨#[.int .u8 a0, .agg #[.int .i64 a1_0, .int .i64 a1_1, .int .i64 a1_2, .int .i64 a1_3, .int .i64 a1_4], undef, undef, undef, undef, undef, undef, undef, undef, undef, undef, undef, undef, undef, undef, undef, undef, undef, undef], []⟩) (by kernel_rfl) ?_
 refine xseq_k fun KS1 ks1 => ?_
 refine xregS [0, 1] fun KR2 kr2 => ?_
 refine wpS.only 0 (op_box (t := 23) (v := .agg #[.int .i64 a1_0, .int .i64 a1_1, .int .i64 a1_2, .int .i64 a1_3, .int .i64 a1_4]) (d := (some 3)) (by kernel_rfl) hs ([.int .i64 a1_0, .int .i64 a1_1, .int .i64 a1_2, .int .i64 a1_3, .int .i64 a1_4]) (by kernel_rfl) (by kernel_rfl) ?_)
 intro b1 w gw hs
 refine ⟨fun _ => trivial, ?_⟩
 refine wpS.only 1 (op_alloc (t := 23) (d := (some 4)) (by kernel_rfl) hs ([.int .i64 0, .int .i64 0, .int .i64 0, .int .i64 0, .int .i64 0]) (.agg #[.int .i64 0, .int .i64 0, .int .i64 0, .int .i64 0, .int .i64 0]) (by kernel_rfl) (by kernel_rfl) (by kernel_rfl) ?_)
 intro b2 w gw hs
 refine ⟨fun _ => trivial, ?_⟩
 refine wpS.fin rfl (kr2 _ _ (then_n (ks1 _ _ (xseq_k fun KS3 ks3 => (xregS [0, 1, 2, 3, 4, 5, 6, 7, 8, 9, 10, 11] fun KR4 kr4 => ?_)))))
 refine wpS.only 0 (op_lit (C := (CI .i64)) (t := 73) (e := 3) (len := 4) (parts := #[(0, .int .i64 512), (1, .int .i64 768), (2, .int .i64 1024), (3, .int .i64 0)]) (l := [512, 768, 1024, 0]) (d := (some 8)) (by kernel_rfl) hs (by kernel_rfl) (by kernel_rfl) (by kernel_rfl) (z := .int .i64 0) (by kernel_rfl) rfl (by decide) (by decide) (by kernel_rfl) ?_)
 intro s3_A s3_n s3_c w gw hs
 refine ⟨fun _ => trivial, ?_⟩
 refine wpS.qs [(1, 9, .int .u8 a0), (2, 10, .int .u8 (irem .u8 a0 4))] ?_
 obtain ⟨x4, hx, h⟩ := of_bind h
 have hx := of_some hx
 subst hx
 obtain ⟨h0, h⟩ := of_chk h
 obtain ⟨h1, h⟩ := of_chk h
 have i0_5 := h0
 have i1_5 := h1
 refine wpS.tk 3 false (some 11) (.pointer (adr s3_A (((irem .u8 a0 4) : Int).toNat * Cod.size (CI .i64)))) (yld_idxL (C := (CI .i64)) (t := 73) (e := 3) (k := .u8) (x := (irem .u8 a0 4)) (hs.rowL 0 rfl) (by kernel_rfl) (by kernel_rfl) (by kernel_rfl) h0 h1) ?_
 refine wpS.tk 4 true (some 12) (.int .i64 (rdL (CI .i64) ([512, 768, 1024, 0] : List Int) (irem .u8 a0 4))) (yld_loadL (C := (CI .i64)) (e := 3) (x := (irem .u8 a0 4)) (hs.rowL 0 rfl) (by kernel_rfl) rfl (by kernel_rfl) i0_5 i1_5) ?_
 obtain ⟨⟨r5_0, r5_1, r5_2, r5_3, r5_4, r6⟩, hg, h⟩ := of_bind h
 refine wpS.only 5 (op_call (d := (some 13)) (by kernel_rfl) hs (fun _ => by kernel_rfl) (ref26_Set.ok hg _) ?_)
 intro w gw hs
 refine ⟨fun _ => trivial, ?_⟩
 refine wpS.qs [(6, 7, .tuple #[.agg #[.int .i64 r5_0, .int .i64 r5_1, .int .i64 r5_2, .int .i64 r5_3, .int .i64 r5_4], .bool r6]), (7, 14, .agg #[.int .i64 r5_0, .int .i64 r5_1, .int .i64 r5_2, .int .i64 r5_3, .int .i64 r5_4])] ?_
 cases r6 with
 | true =>
  have h := of_if_t h
  refine wpS.q 8 15 (.bool true) ?_
  refine wpS.only 9 (op_alloc (t := 23) (d := (some 5)) (by kernel_rfl) hs ([.int .i64 0, .int .i64 0, .int .i64 0, .int .i64 0, .int .i64 0]) (.agg #[.int .i64 0, .int .i64 0, .int .i64 0, .int .i64 0, .int .i64 0]) (by kernel_rfl) (by kernel_rfl) (by kernel_rfl) ?_)
  intro b7 w gw hs
  refine ⟨fun _ => trivial, ?_⟩
  refine wpS.only 10 (op_storeW (t := 23) (v := .agg #[.int .i64 r5_0, .int .i64 r5_1, .int .i64 r5_2, .int .i64 r5_3, .int .i64 r5_4]) (d := none) (by kernel_rfl) hs 0 rfl (vs := [.int .i64 r5_0, .int .i64 r5_1, .int .i64 r5_2, .int .i64 r5_3, .int .i64 r5_4]) (n := 5) (by kernel_rfl) (by kernel_rfl) (by kernel_rfl) (by simp [enc_len]) (by simp [enc_len]) (by simp [Value.oneCell']) ?_)
  intro w kp hs
  refine ⟨fun _ => trivial, ?_⟩
  refine wpS.q 11 6 (.bool true) ?_
  refine wpS.fin rfl (kr4 _ _ (then_n (ks3 _ _ (xseq_k fun KS6 ks6 => (xseq_k fun KS7 ks7 => (xregS [0, 1] fun KR8 kr8 => ?_))))))
  refine wpS.qs [(0, 16, .bool true), (1, 17, .bool false)] ?_
  refine wpS.fin rfl (kr8 _ _ (then_n (ks7 _ _ (wp_cond_f (by kernel_rfl) (xskip (then_n (ks6 _ _ (xseq_k fun KS9 ks9 => (xregS [0, 1] fun KR10 kr10 => ?_)))))))))
  refine wpS.tk 0 true (some 19) (.agg #[.int .i64 r5_0, .int .i64 r5_1, .int .i64 r5_2, .int .i64 r5_3, .int .i64 r5_4]) (yld_loadW (e := 23) (n := 5) hs 0 rfl (by kernel_rfl) (by kernel_rfl) (by kernel_rfl) (by simp [enc_len]) .grow) ?_
  refine wpS.only 1 (op_storeW (t := 23) (v := .agg #[.int .i64 r5_0, .int .i64 r5_1, .int .i64 r5_2, .int .i64 r5_3, .int .i64 r5_4]) (d := none) (by kernel_rfl) hs 2 rfl (vs := [.int .i64 r5_0, .int .i64 r5_1, .int .i64 r5_2, .int .i64 r5_3, .int .i64 r5_4]) (n := 5) (by kernel_rfl) (by kernel_rfl) (by kernel_rfl) (by simp [enc_len]) (by simp [enc_len]) (by simp [Value.oneCell']) ?_)
  intro w kp hs
  refine ⟨fun _ => trivial, ?_⟩
  refine wpS.fin rfl (kr10 _ _ (then_n (ks9 _ _ (xret ?_))))
  obtain ⟨q0, qr0⟩ := Prod.mk.inj (of_some h)
  obtain ⟨q1, qr1⟩ := Prod.mk.inj (qr0)
  obtain ⟨q2, qr2⟩ := Prod.mk.inj (qr1)
  obtain ⟨q3, qr3⟩ := Prod.mk.inj (qr2)
  have q4 := qr3
  subst q0
  subst q1
  subst q2
  subst q3
  subst q4
  exact qq _ _ (post_ret (by kernel_rfl) (run_results [.cell 4 23] [.agg #[.int .i64 r5_0, .int .i64 r5_1, .int .i64 r5_2, .int .i64 r5_3, .int .i64 r5_4]] (by kernel_rfl) (.cons (res_cellN (n := 5) hs 2 rfl (by kernel_rfl) (by kernel_rfl) (by kernel_rfl) (by simp [enc_len])) .nil)) ⟨congrArg Ending.returned (by kernel_rfl), hs.none⟩)
 | false =>
  have h := of_if_f h
  refine wpS.q 8 15 (.bool false) ?_
  refine wpS.only 9 (op_alloc (t := 23) (d := (some 5)) (by kernel_rfl) hs ([.int .i64 0, .int .i64 0, .int .i64 0, .int .i64 0, .int .i64 0]) (.agg #[.int .i64 0, .int .i64 0, .int .i64 0, .int .i64 0, .int .i64 0]) (by kernel_rfl) (by kernel_rfl) (by kernel_rfl) ?_)
  intro b8 w gw hs
  refine ⟨fun _ => trivial, ?_⟩
  refine wpS.only 10 (op_storeW (t := 23) (v := .agg #[.int .i64 r5_0, .int .i64 r5_1, .int .i64 r5_2, .int .i64 r5_3, .int .i64 r5_4]) (d := none) (by kernel_rfl) hs 0 rfl (vs := [.int .i64 r5_0, .int .i64 r5_1, .int .i64 r5_2, .int .i64 r5_3, .int .i64 r5_4]) (n := 5) (by kernel_rfl) (by kernel_rfl) (by kernel_rfl) (by simp [enc_len]) (by simp [enc_len]) (by simp [Value.oneCell']) ?_)
  intro w kp hs
  refine ⟨fun _ => trivial, ?_⟩
  refine wpS.q 11 6 (.bool false) ?_
  refine wpS.fin rfl (kr4 _ _ (then_n (ks3 _ _ (xseq_k fun KS11 ks11 => (xseq_k fun KS12 ks12 => (xregS [0, 1] fun KR13 kr13 => ?_))))))
  refine wpS.qs [(0, 16, .bool false), (1, 17, .bool true)] ?_
  refine wpS.fin rfl (kr13 _ _ (then_n (ks12 _ _ (wp_cond_t (by kernel_rfl) (xseq_k fun KS14 ks14 => (xregS [0, 1] fun KR15 kr15 => ?_))))))
  refine wpS.tk 0 true (some 18) (.agg #[.int .i64 a1_0, .int .i64 a1_1, .int .i64 a1_2, .int .i64 a1_3, .int .i64 a1_4]) (yld_loadW (e := 23) (n := 5) hs 3 rfl (by kernel_rfl) (by kernel_rfl) (by kernel_rfl) (by simp [enc_len]) .grow) ?_
  refine wpS.only 1 (op_storeW (t := 23) (v := .agg #[.int .i64 a1_0, .int .i64 a1_1, .int .i64 a1_2, .int .i64 a1_3, .int .i64 a1_4]) (d := none) (by kernel_rfl) hs 2 rfl (vs := [.int .i64 a1_0, .int .i64 a1_1, .int .i64 a1_2, .int .i64 a1_3, .int .i64 a1_4]) (n := 5) (by kernel_rfl) (by kernel_rfl) (by kernel_rfl) (by simp [enc_len]) (by simp [enc_len]) (by simp [Value.oneCell']) ?_)
  intro w kp hs
  refine ⟨fun _ => trivial, ?_⟩
  refine wpS.fin rfl (kr15 _ _ (then_n (ks14 _ _ (xret (then_r ?_)))))
  obtain ⟨q0, qr0⟩ := Prod.mk.inj (of_some h)
  obtain ⟨q1, qr1⟩ := Prod.mk.inj (qr0)
  obtain ⟨q2, qr2⟩ := Prod.mk.inj (qr1)
  obtain ⟨q3, qr3⟩ := Prod.mk.inj (qr2)
  have q4 := qr3
  subst q0
  subst q1
  subst q2
  subst q3
  subst q4
  exact qq _ _ (post_ret (by kernel_rfl) (run_results [.cell 4 23] [.agg #[.int .i64 a1_0, .int .i64 a1_1, .int .i64 a1_2, .int .i64 a1_3, .int .i64 a1_4]] (by kernel_rfl) (.cons (res_cellN (n := 5) hs 2 rfl (by kernel_rfl) (by kernel_rfl) (by kernel_rfl) (by simp [enc_len])) .nil)) ⟨congrArg Ending.returned (by kernel_rfl), hs.none⟩)

theorem kpke_expanded_s2.ok {K : Nat} {ca0 : Int} {ca1 : Int} {ca2 : Int} {ca3 : Int} {ca4 : Int} {ca5 : List Int} {y1 : List (List (Arr 256))} {y2 : Int} {ca5_A : Option Addr} {ca5_n : Nat} {ca5_c : Nat} (h : kpke_expanded_s2.f K ca0 ca1 ca2 ca3 ca4 ca5 = some (y1, y2)) {w0 w : World} {X : List Nat} {Lt Rt : List Ent} (hs : St w0 X Lt (.rowL (CI .u8) ca5_A ca5_n ca5_c ca5 :: .rowL (CA .u64 24 (by decide)) (some ⟨0, 0, none⟩) 1 1 ([tab_0]) :: .rowL (CA .i64 24 (by decide)) (some ⟨1, 0, none⟩) 1 1 ([tab_1]) :: .rowL (CA .i64 24 (by decide)) (some ⟨2, 0, none⟩) 1 1 ([tab_2]) :: Rt) w) : Calls Tryd.prog 43 #[.agg #[.int .i64 ca0, .int .i64 ca1, .int .i64 ca2, .int .i64 ca3, .int .i64 ca4], .slice ca5_A ca5_n ca5_c, .bool false] w fun e w' => ∃ (y1_A : Option Addr) (y1_n : Nat) (y1_c : Nat) (y1_H : List HS), e = .returned (.tuple #[.slice y1_A y1_n y1_c, .int .i64 y2]) ∧ St w0 X (.ownL CS y1_A y1_n y1_c y1_H 78 :: Lt) (.inn (CA .i32 256 (by decide)) y1_H y1 :: .rowL (CI .u8) ca5_A ca5_n ca5_c ca5 :: .rowL (CA .u64 24 (by decide)) (some ⟨0, 0, none⟩) 1 1 ([tab_0]) :: .rowL (CA .i64 24 (by decide)) (some ⟨1, 0, none⟩) 1 1 ([tab_1]) :: .rowL (CA .i64 24 (by decide)) (some ⟨2, 0, none⟩) 1 1 ([tab_2]) :: Rt) w' := by
 refine calls_k Tryd.func43 rfl fun Q qq => ?_
 refine wp_conv (a' := ⟨#[.agg #[.int .i64 ca0, .int .i64 ca1, .int .i64 ca2, .int .i64 ca3, .int .i64 ca4], .slice ca5_A ca5_n ca5_c, .bool false, undef, undef, undef, undef, undef, undef, undef, undef, undef, undef, undef, undef, undef, undef, undef, undef, undef, undef, undef, undef, undef, undef, undef, undef, undef, undef, undef, undef, undef, undef, undef, undef, undef, undef, undef, undef, undef, undef, undef, undef, undef, undef, undef, undef, undef, undef, undef, undef, undef, undef, undef, undef, undef, undef, undef], []⟩) (by kernel_rfl) ?_
 refine xseq_k fun KS1 ks1 => ?_
 refine xregS [0, 1, 2] fun KR2 kr2 => ?_
 refine wpS.only 0 (op_box (t := 23) (v := .agg #[.int .i64 ca0, .int .i64 ca1, .int .i64 ca2, .int .i64 ca3, .int .i64 ca4]) (d := (some 3)) (by kernel_rfl) hs ([.int .i64 ca0, .int .i64 ca1, .int .i64 ca2, .int .i64 ca3, .int .i64 ca4]) (by kernel_rfl) (by kernel_rfl) ?_)
 intro b3 w gw hs
 refine ⟨fun _ => trivial, ?_⟩
 refine wpS.qs [(1, 6, .slice none 0 0), (2, 7, .int .i64 0)] ?_
 refine wpS.fin rfl (kr2 _ _ (then_n (ks1 _ _ (xseq_k fun KS3 ks3 => (xregS [0, 1, 2, 3] fun KR4 kr4 => ?_)))))
 refine wpS.q 0 15 (.pointer (some ⟨b3, 0, none⟩)) ?_
 refine wpS.tk 1 true (some 16) (.int .i64 ca0) (yld_load1 (e := 3) (o := 0) hs 0 rfl (by kernel_rfl) (by kernel_rfl) (by rfl) .grow) ?_
 obtain ⟨h0, h⟩ := of_chk h
 obtain ⟨h1, h⟩ := of_chk h
 refine wpS.only 2 (op_makeT (C := CS) (t := 74) (e := 78) (bytes := 24) (B := 5864062014805) (kl := .i64) (kc := .i64) (x := ca0) (d := (some 17)) (by kernel_rfl) hs (by kernel_rfl) (by kernel_rfl) (by kernel_rfl) (by kernel_rfl) (by kernel_rfl) h0 h1 (by decide) (by decide) ?_)
 intro s4_A s4_n s4_c w gw hs
 refine ⟨fun _ => trivial, ?_⟩
 have hs := hs.addInns0 (CA .i32 256 (by decide)) 32 (ca0 : Int).toNat
 refine wpS.q 3 8 (.slice s4_A s4_n s4_c) ?_
 refine wpS.fin rfl (kr4 _ _ (then_n (ks3 _ _ (xseq_k fun KS5 ks5 => (xseq_k fun KS6 ks6 => (xregS [0, 1, 2] fun KR7 kr7 => ?_))))))
 refine wpS.q 0 18 (.slice s4_A s4_n s4_c) ?_
 refine wpS.tk 1 false (some 19) (.int .i64 ((List.replicate (ca0 : Int).toNat ([] : List (Arr 256))).length : Int)) (yld_lenNN (⟨hs.rowL 1 rfl, hs.innsLen 0 rfl⟩ : NNP _ _ _ _ _ _) (fun _ => by kernel_rfl)) ?_
 refine wpS.q 2 20 (.int .i64 0) ?_
 refine wpS.fin rfl (kr7 _ _ (then_n (ks6 _ _ ?_)))
 obtain ⟨t0, hy, hk0⟩ := of_bind h
 refine wp_exq (N := fun a w => ∃ y7, ∃ (y7_H : List HS), t0 = .inl y7 ∧ St w0 X (.inns (CA .i32 256 (by decide)) 32 y7_H y7 :: .ownL CS s4_A s4_n s4_c y7_H 78 :: .blk b3 ([.int .i64 ca0, .int .i64 ca1, .int .i64 ca2, .int .i64 ca3, .int .i64 ca4]) 23 :: Lt) (.rowL (CI .u8) ca5_A ca5_n ca5_c ca5 :: .rowL (CA .u64 24 (by decide)) (some ⟨0, 0, none⟩) 1 1 ([tab_0]) :: .rowL (CA .i64 24 (by decide)) (some ⟨1, 0, none⟩) 1 1 ([tab_1]) :: .rowL (CA .i64 24 (by decide)) (some ⟨2, 0, none⟩) 1 1 ([tab_2]) :: Rt) w ∧ ∃ g9 : Nat → Value, a = ⟨#[.agg #[.int .i64 ca0, .int .i64 ca1, .int .i64 ca2, .int .i64 ca3, .int .i64 ca4], .slice ca5_A ca5_n ca5_c, .bool false, .pointer (some ⟨b3, 0, none⟩), undef, undef, (g9 6), (g9 7), .slice s4_A s4_n s4_c, (g9 9), (g9 10), (g9 11), (g9 12), (g9 13), (g9 14), .pointer (some ⟨b3, 0, none⟩), .int .i64 ca0, .slice s4_A s4_n s4_c, .slice s4_A s4_n s4_c, .int .i64 ((List.replicate (ca0 : Int).toNat ([] : List (Arr 256))).length : Int), (g9 20), (g9 21), (g9 22), (g9 23), (g9 24), (g9 25), (g9 26), (g9 27), (g9 28), (g9 29), (g9 30), (g9 31), (g9 32), (g9 33), (g9 34), (g9 35), (g9 36), (g9 37), (g9 38), (g9 39), (g9 40), (g9 41), (g9 42), (g9 43), (g9 44), (g9 45), (g9 46), (g9 47), (g9 48), (g9 49), (g9 50), (g9 51), (g9 52), (g9 53), (g9 54), (g9 55), (g9 56), undef], []⟩) (fun N0 nn0 => ?_) ?_
 ·refine xblock ?_
  refine wp_loop_k (fun n a w => ∃ z5 z6, ∃ (z6_H : List HS), kpke_expanded_s2.l0 K n ca0 ca5 z5 z6 = some t0 ∧ St w0 X (.inns (CA .i32 256 (by decide)) 32 z6_H z6 :: .ownL CS s4_A s4_n s4_c z6_H 78 :: .blk b3 ([.int .i64 ca0, .int .i64 ca1, .int .i64 ca2, .int .i64 ca3, .int .i64 ca4]) 23 :: Lt) (.rowL (CI .u8) ca5_A ca5_n ca5_c ca5 :: .rowL (CA .u64 24 (by decide)) (some ⟨0, 0, none⟩) 1 1 ([tab_0]) :: .rowL (CA .i64 24 (by decide)) (some ⟨1, 0, none⟩) 1 1 ([tab_1]) :: .rowL (CA .i64 24 (by decide)) (some ⟨2, 0, none⟩) 1 1 ([tab_2]) :: Rt) w ∧ ∃ g8 : Nat → Value, a = ⟨#[.agg #[.int .i64 ca0, .int .i64 ca1, .int .i64 ca2, .int .i64 ca3, .int .i64 ca4], .slice ca5_A ca5_n ca5_c, .bool false, .pointer (some ⟨b3, 0, none⟩), undef, undef, (g8 6), (g8 7), .slice s4_A s4_n s4_c, (g8 9), (g8 10), (g8 11), (g8 12), (g8 13), (g8 14), .pointer (some ⟨b3, 0, none⟩), .int .i64 ca0, .slice s4_A s4_n s4_c, .slice s4_A s4_n s4_c, .int .i64 ((List.replicate (ca0 : Int).toNat ([] : List (Arr 256))).length : Int), .int .i64 z5, (g8 21), (g8 22), (g8 23), (g8 24), (g8 25), (g8 26), (g8 27), (g8 28), (g8 29), (g8 30), (g8 31), (g8 32), (g8 33), (g8 34), (g8 35), (g8 36), (g8 37), (g8 38), (g8 39), (g8 40), (g8 41), (g8 42), (g8 43), (g8 44), (g8 45), (g8 46), (g8 47), (g8 48), (g8 49), (g8 50), (g8 51), (g8 52), (g8 53), (g8 54), (g8 55), (g8 56), undef], []⟩) K ⟨0, (List.replicate (ca0 : Int).toNat ([] : List (Arr 256))), (List.replicate (ca0 : Int).toNat (Cod.zero CS)), hy, hs.conv rfl, exg (by kernel_rfl)⟩ ?_
  clear hs h hy
  rintro n a w ⟨z5, z6, z6_H, h, hs, g8, rfl⟩ KL0 kl0
  cases n with
  | zero => exact nomatch (show none = some _ from h)
  | succ n =>
   refine xseq_k fun KS10 ks10 => ?_
   refine xregS [0] fun KR11 kr11 => ?_
   rcases of_if h with ⟨hc, h⟩ | ⟨hc, h⟩
   ·refine wpS.tk 0 false (some 21) (.bool true) (yld_b (dt hc) (fun _ => by kernel_rfl)) ?_
    refine wpS.fin rfl (kr11 _ _ (then_n (ks10 _ _ (xseq_k fun KS12 ks12 => (wp_cond_t (by kernel_rfl) (xskip (then_n (ks12 _ _ (xseq_k fun KS13 ks13 => (xblock (xseq_k fun KS14 ks14 => (xregS [0, 1] fun KR15 kr15 => ?_))))))))))))
    refine wpS.qs [(0, 22, .int .i64 z5), (1, 9, .int .i64 z5)] ?_
    refine wpS.fin rfl (kr15 _ _ (then_n (ks14 _ _ (xseq_k fun KS16 ks16 => (xregS [0, 1, 2] fun KR17 kr17 => ?_)))))
    refine wpS.q 0 23 (.pointer (some ⟨b3, 0, none⟩)) ?_
    refine wpS.tk 1 true (some 24) (.int .i64 ca0) (yld_load1 (e := 3) (o := 0) hs 2 rfl (by kernel_rfl) (by kernel_rfl) (by rfl) .grow) ?_
    refine wpS.q 2 25 (.int .i64 0) ?_
    refine wpS.fin rfl (kr17 _ _ (then_n (ks16 _ _ ?_)))
    obtain ⟨t1, hy, hk1⟩ := of_bind h
    refine wp_exq (N := fun a w => ∃ y10, ∃ (y10_H : List HS), t1 = .inl y10 ∧ St w0 X (.inns (CA .i32 256 (by decide)) 32 y10_H y10 :: .ownL CS s4_A s4_n s4_c y10_H 78 :: .blk b3 ([.int .i64 ca0, .int .i64 ca1, .int .i64 ca2, .int .i64 ca3, .int .i64 ca4]) 23 :: Lt) (.rowL (CI .u8) ca5_A ca5_n ca5_c ca5 :: .rowL (CA .u64 24 (by decide)) (some ⟨0, 0, none⟩) 1 1 ([tab_0]) :: .rowL (CA .i64 24 (by decide)) (some ⟨1, 0, none⟩) 1 1 ([tab_1]) :: .rowL (CA .i64 24 (by decide)) (some ⟨2, 0, none⟩) 1 1 ([tab_2]) :: Rt) w ∧ ∃ g19 : Nat → Value, a = ⟨#[.agg #[.int .i64 ca0, .int .i64 ca1, .int .i64 ca2, .int .i64 ca3, .int .i64 ca4], .slice ca5_A ca5_n ca5_c, .bool false, .pointer (some ⟨b3, 0, none⟩), undef, undef, (g19 6), (g19 7), .slice s4_A s4_n s4_c, .int .i64 z5, (g19 10), (g19 11), (g19 12), (g19 13), (g19 14), .pointer (some ⟨b3, 0, none⟩), .int .i64 ca0, .slice s4_A s4_n s4_c, .slice s4_A s4_n s4_c, .int .i64 ((List.replicate (ca0 : Int).toNat ([] : List (Arr 256))).length : Int), .int .i64 z5, .bool true, .int .i64 z5, .pointer (some ⟨b3, 0, none⟩), .int .i64 ca0, (g19 25), (g19 26), (g19 27), (g19 28), (g19 29), (g19 30), (g19 31), (g19 32), (g19 33), (g19 34), (g19 35), (g19 36), (g19 37), (g19 38), (g19 39), (g19 40), (g19 41), (g19 42), (g19 43), (g19 44), (g19 45), (g19 46), (g19 47), (g19 48), (g19 49), (g19 50), (g19 51), (g19 52), (g19 53), (g19 54), (g19 55), (g8 56), undef], []⟩) (fun N1 nn1 => ?_) ?_
    ·refine xblock ?_
     refine wp_loop_k (fun n a w => ∃ z8 z9, ∃ (z9_H : List HS), kpke_expanded_s2.l1 K n ca0 ca5 z5 z8 z9 = some t1 ∧ St w0 X (.inns (CA .i32 256 (by decide)) 32 z9_H z9 :: .ownL CS s4_A s4_n s4_c z9_H 78 :: .blk b3 ([.int .i64 ca0, .int .i64 ca1, .int .i64 ca2, .int .i64 ca3, .int .i64 ca4]) 23 :: Lt) (.rowL (CI .u8) ca5_A ca5_n ca5_c ca5 :: .rowL (CA .u64 24 (by decide)) (some ⟨0, 0, none⟩) 1 1 ([tab_0]) :: .rowL (CA .i64 24 (by decide)) (some ⟨1, 0, none⟩) 1 1 ([tab_1]) :: .rowL (CA .i64 24 (by decide)) (some ⟨2, 0, none⟩) 1 1 ([tab_2]) :: Rt) w ∧ ∃ g18 : Nat → Value, a = ⟨#[.agg #[.int .i64 ca0, .int .i64 ca1, .int .i64 ca2, .int .i64 ca3, .int .i64 ca4], .slice ca5_A ca5_n ca5_c, .bool false, .pointer (some ⟨b3, 0, none⟩), undef, undef, (g18 6), (g18 7), .slice s4_A s4_n s4_c, .int .i64 z5, (g18 10), (g18 11), (g18 12), (g18 13), (g18 14), .pointer (some ⟨b3, 0, none⟩), .int .i64 ca0, .slice s4_A s4_n s4_c, .slice s4_A s4_n s4_c, .int .i64 ((List.replicate (ca0 : Int).toNat ([] : List (Arr 256))).length : Int), .int .i64 z5, .bool true, .int .i64 z5, .pointer (some ⟨b3, 0, none⟩), .int .i64 ca0, .int .i64 z8, (g18 26), (g18 27), (g18 28), (g18 29), (g18 30), (g18 31), (g18 32), (g18 33), (g18 34), (g18 35), (g18 36), (g18 37), (g18 38), (g18 39), (g18 40), (g18 41), (g18 42), (g18 43), (g18 44), (g18 45), (g18 46), (g18 47), (g18 48), (g18 49), (g18 50), (g18 51), (g18 52), (g18 53), (g18 54), (g18 55), (g8 56), undef], []⟩) K ⟨0, z6, z6_H, hy, hs.conv rfl, exg (by kernel_rfl)⟩ ?_
     clear hs h hy
     rintro n a w ⟨z8, z9, z9_H, h, hs, g18, rfl⟩ KL1 kl1
     cases n with
     | zero => exact nomatch (show none = some _ from h)
     | succ n =>
      refine xseq_k fun KS20 ks20 => ?_
      refine xregS [0] fun KR21 kr21 => ?_
      rcases of_if h with ⟨hc, h⟩ | ⟨hc, h⟩
      ·refine wpS.tk 0 false (some 26) (.bool true) (yld_b (dt hc) (fun _ => by kernel_rfl)) ?_
       refine wpS.fin rfl (kr21 _ _ (then_n (ks20 _ _ (xseq_k fun KS22 ks22 => (wp_cond_t (by kernel_rfl) (xskip (then_n (ks22 _ _ (xseq_k fun KS23 ks23 => (xblock (xseq_k fun KS24 ks24 => (xregS [0, 1] fun KR25 kr25 => ?_))))))))))))
       refine wpS.qs [(0, 27, .int .i64 z8), (1, 10, .int .i64 z8)] ?_
       refine wpS.fin rfl (kr25 _ _ (then_n (ks24 _ _ (xseq_k fun KS26 ks26 => (xregS [0, 1, 2, 3, 4, 5] fun KR27 kr27 => ?_)))))
       refine wpS.qs [(0, 28, .int .i64 z5), (1, 29, .int .u8 (iconv .u8 z5)), (2, 30, .int .i64 z8), (3, 31, .int .u8 (iconv .u8 z8))] ?_
       obtain ⟨x11, hx, h⟩ := of_bind h
       refine wpS.tk 4 false (some 11) (.int .u8 x11) (yld_int hx (fun _ => by kernel_rfl)) ?_
       obtain ⟨x12, hx, h⟩ := of_bind h
       refine wpS.tk 5 false (some 12) (.int .u8 x12) (yld_int hx (fun _ => by kernel_rfl)) ?_
       refine wpS.fin rfl (kr27 _ _ (then_n (ks26 _ _ (xseq_k fun KS28 ks28 => (xseq_k fun KS29 ks29 => (xregS [0] fun KR30 kr30 => ?_))))))
       refine wpS.q 0 32 (.bool false) ?_
       refine wpS.fin rfl (kr30 _ _ (then_n (ks29 _ _ (wp_cond_f (by kernel_rfl) (xskip (then_n (ks28 _ _ (xseq_k fun KS31 ks31 => (xregS [0, 1, 2, 3, 4, 5, 6, 7, 8, 9] fun KR32 kr32 => ?_)))))))))
       refine wpS.qs [(0, 36, .slice ca5_A ca5_n ca5_c), (1, 37, .int .u8 x11), (2, 38, .int .u8 x12)] ?_
       obtain ⟨⟨r13, r14⟩, hg, h⟩ := of_bind h
       refine wpS.only 3 (op_call (d := (some 39)) (by kernel_rfl) hs (fun _ => by kernel_rfl) (kpke_Parts.ok hg _ (hs.rowR 0 rfl) (hs.rowR 1 rfl) (hs.rowR 2 rfl) (hs.rowR 3 rfl)) ?_)
       intro w gw hs
       refine ⟨fun _ => trivial, ?_⟩
       refine wpS.qs [(4, 35, .tuple #[.agg (enc .i32 r13).toArray, .int .i64 r14]), (5, 40, .agg (enc .i32 r13).toArray), (6, 41, .int .i64 r14)] ?_
       refine wpS.only 7 (op_alloc (t := 32) (d := (some 13)) (by kernel_rfl) hs (enc .i32 (zeroA 256)) (.agg (enc .i32 (zeroA 256)).toArray) (by kernel_rfl) (by kernel_rfl) (by kernel_rfl) ?_)
       intro b15 w gw hs
       refine ⟨fun _ => trivial, ?_⟩
       refine wpS.only 8 (op_storeW (t := 32) (v := .agg (enc .i32 r13).toArray) (d := none) (by kernel_rfl) hs 0 rfl (vs := enc .i32 r13) (n := 256) (by kernel_rfl) (by kernel_rfl) (by kernel_rfl) (by simp [enc_len]) (by simp [enc_len]) (by intro u hu; exact enc_one _ _ u hu) ?_)
       intro w kp hs
       refine ⟨fun _ => trivial, ?_⟩
       refine wpS.q 9 14 (.int .i64 r14) ?_
       refine wpS.fin rfl (kr32 _ _ (then_n (ks31 _ _ (xseq_k fun KS33 ks33 => (xseq_k fun KS34 ks34 => (xregS [0, 1] fun KR35 kr35 => ?_))))))
       refine wpS.q 0 42 (.int .i64 r14) ?_
       rcases of_if h with ⟨hc, h⟩ | ⟨hc, h⟩
       ·refine wpS.tk 1 false (some 43) (.bool false) (yld_b (nf hc) (fun _ => by kernel_rfl)) ?_
        refine wpS.fin rfl (kr35 _ _ (then_n (ks34 _ _ (wp_cond_f (by kernel_rfl) (xskip (then_n (ks33 _ _ ?_)))))))
        refine wp_regG [8, 10] (fun k => True) 11 (by kernel_rfl) (by kernel_rfl) (by kernel_rfl) fun KR36 kr36 => ?_
        have hs := hs.drawn1
        refine wpG.q 0 45 (.slice s4_A s4_n s4_c) ?_
        refine wpG.q 1 46 (.int .i64 z5) ?_
        refine wpG.q 2 47 (.slice s4_A s4_n s4_c) ?_
        refine wpG.q 3 48 (.int .i64 z5) ?_
        obtain ⟨h0, h⟩ := of_chk h
        obtain ⟨h1, h⟩ := of_chk h
        have i0_37 := h0
        have i1_37 := h1
        refine wpG.tD 4 false (some 49) (.pointer (adr s4_A ((z5 : Int).toNat * Cod.size CS))) (yld_idxNN (t := 74) (e := 78) (k := .i64) (x := z5) (⟨hs.rowL 2 rfl, hs.innsLen 1 rfl⟩ : NNP _ _ _ _ _ _) (by kernel_rfl) (by kernel_rfl) (by kernel_rfl) h0 h1) ?_
        obtain ⟨s16_A, hA⟩ : ∃ A, A = (rdL CS z9_H z5).1 := ⟨_, rfl⟩
        obtain ⟨s16_n, hn⟩ : ∃ n, n = (rdL CS z9_H z5).2.1 := ⟨_, rfl⟩
        obtain ⟨s16_c, hc⟩ : ∃ c, c = (rdL CS z9_H z5).2.2 := ⟨_, rfl⟩
        refine wpG.tD 5 true (some 50) (.slice s16_A s16_n s16_c) (by subst hA hn hc; exact yld_loadNN (e := 78) (x := z5) (⟨hs.rowL 2 rfl, hs.innsLen 1 rfl⟩ : NNP _ _ _ _ _ _) (by kernel_rfl) (by kernel_rfl) i0_37 i1_37) ?_
        have hs := hs.front 1 rfl
        try dsimp only [List.eraseIdx] at hs
        obtain ⟨hl38, hs⟩ := hs.openI i0_37 i1_37 hA hn hc
        refine wpG.take [6, 7, 8, 9, 10] 6 true (some 51) (.agg (enc .i32 r13).toArray) (by kernel_rfl) (by kernel_rfl) (yld_loadW (e := 32) (n := 256) hs 2 rfl (by kernel_rfl) (by kernel_rfl) (by kernel_rfl) (by exact enc_len _ _) .grow) ?_
        refine wpG.only 7 (by kernel_rfl) (op_litL (C := (CA .i32 256 (by decide))) (t := 78) (e := 32) (len := 1) (parts := #[(0, .agg (enc .i32 r13).toArray)]) (l := [r13]) (d := (some 52)) (by kernel_rfl) hs (by kernel_rfl) rfl (by kernel_rfl) (by kernel_rfl) (z := .agg (enc .i32 (zeroA 256)).toArray) (by kernel_rfl) rfl (by decide) (by decide) ?_)
        intro s17_A s17_n s17_c w gw hs
        refine ⟨.of gw, ?_⟩
        obtain ⟨h0, h⟩ := of_chk h
        refine wpG.only 8 (by kernel_rfl) (op_appendT (C := (CA .i32 256 (by decide))) (t := 78) (ty := 78) (e := 32) (bytes := 1024) (B := 137438953472) (d := (some 53)) (by kernel_rfl) hs 1 rfl (hs.rowL 0 rfl) (by kernel_rfl) (by kernel_rfl) (by kernel_rfl) (by kernel_rfl) (by kernel_rfl) h0 (by decide) (by decide) ?_)
        intro s18_A s18_n s18_c w hs
        refine ⟨⟨fun hf => absurd hf (by decide), .all _ _⟩, ?_⟩
        obtain ⟨h0, h⟩ := of_chk h
        obtain ⟨h1, h⟩ := of_chk h
        have i0_39 := h0
        have i1_39 := h1
        refine wpG.tD 9 false (some 54) (.pointer (adr s4_A ((z5 : Int).toNat * Cod.size CS))) (yld_idxNN (t := 74) (e := 78) (k := .i64) (x := z5) (⟨hs.rowL 4 rfl, hl38⟩ : NNP _ _ _ _ _ _) (by kernel_rfl) (by kernel_rfl) (by kernel_rfl) h0 h1) ?_
        refine wpG.only 10 (by kernel_rfl) (op_storeL (C := CS) (t := 78) (x := z5) (v := ((s18_A, s18_n, s18_c) : HS)) (d := none) (by kernel_rfl) hs 4 rfl (by kernel_rfl) (by kernel_rfl) i0_39 (by rw [hl38]; exact i1_39) ?_)
        intro w hs
        refine ⟨⟨fun hf => absurd hf (by decide), .all _ _⟩, ?_⟩
        have hs := hs.front 2 rfl
        have hs := hs.front 2 rfl
        try dsimp only [List.eraseIdx] at hs
        have hs := hs.closeI (x := z5) hl38 i0_37 i1_37
        refine wpG.fin (by kernel_rfl) rfl (kr36 _ _ ?_)
        refine inBlock_n (then_n (ks23 _ _ (xregS [0, 1] fun KR40 kr40 => ?_)))
        refine wpS.qs [(0, 55, .int .i64 (iadd .i64 z8 1)), (1, 25, .int .i64 (iadd .i64 z8 1))] ?_
        refine wpS.fin rfl (kr40 _ _ ?_)
        exact then_n (kl1 _ _ ⟨n, Nat.lt_succ_self n, (iadd .i64 z8 1), (wrL z9 z5 ((rdLL z9 z5) ++ ([r13] : List (Arr 256)))), (wrL z9_H z5 ((s18_A, s18_n, s18_c) : HS)), h, (hs.drop (.cons_cons _ (.cons _ (.cons _ (.cons_cons _ (.cons_cons _ (.refl _))))))), exg (by kernel_rfl)⟩)
       refine wpS.tk 1 false (some 43) (.bool true) (yld_b (nt hc) (fun _ => by kernel_rfl)) ?_
       refine wpS.fin rfl (kr35 _ _ (then_n (ks34 _ _ (wp_cond_t (by kernel_rfl) (xseq_k fun KS41 ks41 => (xregS [0, 1, 2] fun KR42 kr42 => ?_))))))
       refine wpS.qs [(0, 44, .int .i64 r14), (1, 6, .slice none 0 0), (2, 7, .int .i64 r14)] ?_
       refine wpS.fin rfl (kr42 _ _ (then_n (ks41 _ _ (xret (then_r (inBlock_r (then_r (then_r (inBlock_r (exq_r (inBlock_r (then_r (then_r (inBlock_r (exq_r (then_r ?_))))))))))))))))
       have q0 := of_some h
       subst q0
       have q0 := of_some hk1
       subst q0
       obtain ⟨q0, qr0⟩ := Prod.mk.inj (of_some hk0)
       have q1 := qr0
       subst q0
       subst q1
       have hs := hs.front 1 rfl
       try dsimp only [List.eraseIdx] at hs
       have hs := hs.innsInn
       have hs := (hs.addNilL CS 78).addInn0 (CA .i32 256 (by decide))
       exact qq _ _ (post_ret (by kernel_rfl) (run_results [.tmp 6, .tmp 7] [.slice none 0 0, .int .i64 r14] (by kernel_rfl) (.cons (res_tmp (by kernel_rfl)) (.cons (res_tmp (by kernel_rfl)) .nil))) ⟨none, 0, 0, [], rfl, ((hs.drop (.cons_cons _ (.cons _ (.cons _ (.cons _ (.refl _)))))).pickR (pick_cons 0 rfl (pick_cons 2 rfl (pick_cons 3 rfl (pick_cons 4 rfl (pick_cons 5 rfl (fun _ he => .tail _ (.tail _ (.tail _ (.tail _ (.tail _ (.tail _ (he)))))))))))))⟩)
      refine wpS.tk 0 false (some 26) (.bool false) (yld_b (df hc) (fun _ => by kernel_rfl)) ?_
      refine wpS.fin rfl (kr21 _ _ (then_n (ks20 _ _ (xseq_k fun KS43 ks43 => (wp_cond_f (by kernel_rfl) (xexit (then_x (then_x (inBlock_hit ?_)))))))))
      have q0 := of_some h
      subst q0
      exact exq_n (nn1 _ _ ⟨z9, z9_H, rfl, (hs.conv rfl), exg (by kernel_rfl)⟩)
    clear hs h hy
    rintro a w ⟨y10, y10_H, rfl, hs, g19, rfl⟩
    have h := hk1
    refine inBlock_n (then_n (ks13 _ _ (xregS [0, 1] fun KR44 kr44 => ?_)))
    refine wpS.qs [(0, 56, .int .i64 (iadd .i64 z5 1)), (1, 20, .int .i64 (iadd .i64 z5 1))] ?_
    refine wpS.fin rfl (kr44 _ _ ?_)
    exact then_n (kl0 _ _ ⟨n, Nat.lt_succ_self n, (iadd .i64 z5 1), y10, y10_H, h, (hs.conv rfl), exg (by kernel_rfl)⟩)
   refine wpS.tk 0 false (some 21) (.bool false) (yld_b (df hc) (fun _ => by kernel_rfl)) ?_
   refine wpS.fin rfl (kr11 _ _ (then_n (ks10 _ _ (xseq_k fun KS45 ks45 => (wp_cond_f (by kernel_rfl) (xexit (then_x (then_x (inBlock_hit ?_)))))))))
   have q0 := of_some h
   subst q0
   exact exq_n (nn0 _ _ ⟨z6, z6_H, rfl, (hs.conv rfl), exg (by kernel_rfl)⟩)
 clear hs h hy
 rintro a w ⟨y7, y7_H, rfl, hs, g9, rfl⟩
 have h := hk0
 refine then_n (ks5 _ _ (xseq_k fun KS46 ks46 => (xregS [0, 1, 2] fun KR47 kr47 => ?_)))
 refine wpS.qs [(0, 57, .slice s4_A s4_n s4_c), (1, 6, .slice s4_A s4_n s4_c), (2, 7, .int .i64 0)] ?_
 refine wpS.fin rfl (kr47 _ _ (then_n (ks46 _ _ (xret ?_))))
 obtain ⟨q0, qr0⟩ := Prod.mk.inj (of_some h)
 have q1 := qr0
 subst q0
 subst q1
 have hs := hs.innsInn
 exact qq _ _ (post_ret (by kernel_rfl) (run_results [.tmp 6, .tmp 7] [.slice s4_A s4_n s4_c, .int .i64 0] (by kernel_rfl) (.cons (res_tmp (by kernel_rfl)) (.cons (res_tmp (by kernel_rfl)) .nil))) ⟨s4_A, s4_n, s4_c, y7_H, rfl, (hs.drop (.cons_cons _ (.cons _ (.refl _))))⟩)

theorem kpke_vector_dot_s.ok {K : Nat} {ca0 : List (Arr 256)} {ca1 : List (Arr 256)} {y1 : Arr 256} {ca0_A : Option Addr} {ca0_n : Nat} {ca0_c : Nat} {ca1_A : Option Addr} {ca1_n : Nat} {ca1_c : Nat} (h : kpke_vector_dot_s.f K ca0 ca1 = some y1) {w0 w : World} {X : List Nat} {Lt Rt : List Ent} (hs : St w0 X (.ownL (CA .i32 256 (by decide)) ca0_A ca0_n ca0_c ca0 32 :: Lt) (.rowL (CA .i32 256 (by decide)) ca1_A ca1_n ca1_c ca1 :: Rt) w) : Calls Tryd.prog 46 #[.slice ca0_A ca0_n ca0_c, .slice ca1_A ca1_n ca1_c] w fun e w' => e = .returned (.agg (enc .i32 y1).toArray) ∧ St w0 X (.ownL (CA .i32 256 (by decide)) ca0_A ca0_n ca0_c ca0 32 :: Lt) (.rowL (CA .i32 256 (by decide)) ca1_A ca1_n ca1_c ca1 :: Rt) w' := by
 refine calls_k Tryd.func46 rfl fun Q qq => ?_
 refine wp_conv (a' := ⟨#[.slice ca0_A ca0_n ca0_c, .slice ca1_A ca1_n ca1_c, undef, undef, undef, undef, undef, undef, undef, undef, undef, undef, undef, undef, undef, undef, undef, undef, undef, undef, undef, undef, undef, undef, undef], []⟩) (by kernel_rfl) ?_
 refine xseq_k fun KS1 ks1 => ?_
 refine xregS [0] fun KR2 kr2 => ?_
 refine wpS.only 0 (op_alloc (t := 32) (d := (some 4)) (by kernel_rfl) hs (enc .i32 (zeroA 256)) (.agg (enc .i32 (zeroA 256)).toArray) (by kernel_rfl) (by kernel_rfl) (by kernel_rfl) ?_)
 intro b2 w gw hs
 refine ⟨fun _ => trivial, ?_⟩
 refine wpS.fin rfl (kr2 _ _ (then_n (ks1 _ _ (xseq_k fun KS3 ks3 => (xregS [0] fun KR4 kr4 => ?_)))))
 refine wpS.only 0 (op_alloc (t := 32) (d := (some 5)) (by kernel_rfl) hs (enc .i32 (zeroA 256)) (.agg (enc .i32 (zeroA 256)).toArray) (by kernel_rfl) (by kernel_rfl) (by kernel_rfl) ?_)
 intro b3 w gw hs
 refine ⟨fun _ => trivial, ?_⟩
 refine wpS.fin rfl (kr4 _ _ (then_n (ks3 _ _ (xseq_k fun KS5 ks5 => (xseq_k fun KS6 ks6 => (xregS [0, 1, 2] fun KR7 kr7 => ?_))))))
 refine wpS.q 0 8 (.slice ca0_A ca0_n ca0_c) ?_
 refine wpS.tk 1 false (some 9) (.int .i64 (ca0.length : Int)) (yld_lenL (hs.rowL 2 rfl) (fun _ => by kernel_rfl)) ?_
 refine wpS.q 2 10 (.int .i64 0) ?_
 refine wpS.fin rfl (kr7 _ _ (then_n (ks6 _ _ ?_)))
 obtain ⟨y6, hy, hk0⟩ := of_bind h
 refine wp_exq (N := fun a w => St w0 X (.blk b3 (enc .i32 y6) 32 :: .blk b2 (enc .i32 (zeroA 256)) 32 :: .ownL (CA .i32 256 (by decide)) ca0_A ca0_n ca0_c ca0 32 :: Lt) (.rowL (CA .i32 256 (by decide)) ca1_A ca1_n ca1_c ca1 :: Rt) w ∧ ∃ g9 : Nat → Value, a = ⟨#[.slice ca0_A ca0_n ca0_c, .slice ca1_A ca1_n ca1_c, undef, undef, .pointer (some ⟨b2, 0, none⟩), .pointer (some ⟨b3, 0, none⟩), (g9 6), (g9 7), .slice ca0_A ca0_n ca0_c, .int .i64 (ca0.length : Int), (g9 10), (g9 11), (g9 12), (g9 13), (g9 14), (g9 15), (g9 16), (g9 17), (g9 18), (g9 19), (g9 20), (g9 21), (g9 22), (g9 23), undef], []⟩) (fun N0 nn0 => ?_) ?_
 ·clear hk0
  refine xblock ?_
  refine wp_loop_k (fun n a w => ∃ z4 z5, kpke_vector_dot_s.l0 K n ca0 ca1 z4 z5 = some y6 ∧ St w0 X (.blk b3 (enc .i32 z5) 32 :: .blk b2 (enc .i32 (zeroA 256)) 32 :: .ownL (CA .i32 256 (by decide)) ca0_A ca0_n ca0_c ca0 32 :: Lt) (.rowL (CA .i32 256 (by decide)) ca1_A ca1_n ca1_c ca1 :: Rt) w ∧ ∃ g8 : Nat → Value, a = ⟨#[.slice ca0_A ca0_n ca0_c, .slice ca1_A ca1_n ca1_c, undef, undef, .pointer (some ⟨b2, 0, none⟩), .pointer (some ⟨b3, 0, none⟩), (g8 6), (g8 7), .slice ca0_A ca0_n ca0_c, .int .i64 (ca0.length : Int), .int .i64 z4, (g8 11), (g8 12), (g8 13), (g8 14), (g8 15), (g8 16), (g8 17), (g8 18), (g8 19), (g8 20), (g8 21), (g8 22), (g8 23), undef], []⟩) K ⟨0, (zeroA 256), hy, hs.conv rfl, exg (by kernel_rfl)⟩ ?_
  clear hs h hy
  rintro n a w ⟨z4, z5, h, hs, g8, rfl⟩ KL0 kl0
  cases n with
  | zero => exact nomatch (show none = some _ from h)
  | succ n =>
   refine xseq_k fun KS10 ks10 => ?_
   refine xregS [0] fun KR11 kr11 => ?_
   rcases of_if h with ⟨hc, h⟩ | ⟨hc, h⟩
   ·refine wpS.tk 0 false (some 11) (.bool true) (yld_b (dt hc) (fun _ => by kernel_rfl)) ?_
    refine wpS.fin rfl (kr11 _ _ (then_n (ks10 _ _ (xseq_k fun KS12 ks12 => (wp_cond_t (by kernel_rfl) (xskip (then_n (ks12 _ _ (xseq_k fun KS13 ks13 => (xblock (xseq_k fun KS14 ks14 => (xregS [0, 1, 2, 3, 4, 5] fun KR15 kr15 => ?_))))))))))))
    refine wpS.q 0 12 (.int .i64 z4) ?_
    obtain ⟨h0, h⟩ := of_chk h
    obtain ⟨h1, h⟩ := of_chk h
    have i0_16 := h0
    have i1_16 := h1
    refine wpS.tk 1 false (some 13) (.pointer (adr ca0_A ((z4 : Int).toNat * Cod.size (CA .i32 256 (by decide))))) (yld_idxL (C := (CA .i32 256 (by decide))) (t := 78) (e := 32) (k := .i64) (x := z4) (hs.rowL 2 rfl) (by kernel_rfl) (by kernel_rfl) (by kernel_rfl) h0 h1) ?_
    refine wpS.tk 2 true (some 14) (.agg (enc .i32 (rdL (CA .i32 256 (by decide)) ca0 z4)).toArray) (yld_loadLA (C := (CA .i32 256 (by decide))) (e := 32) (x := z4) (hs.rowL 2 rfl) (by kernel_rfl) rfl (by kernel_rfl) (by kernel_rfl) i0_16 i1_16) ?_
    refine wpS.only 3 (op_alloc (t := 32) (d := (some 7)) (by kernel_rfl) hs (enc .i32 (zeroA 256)) (.agg (enc .i32 (zeroA 256)).toArray) (by kernel_rfl) (by kernel_rfl) (by kernel_rfl) ?_)
    intro b7 w gw hs
    refine ⟨fun _ => trivial, ?_⟩
    refine wpS.q 4 6 (.int .i64 z4) ?_
    refine wpS.only 5 (op_storeW (t := 32) (v := .agg (enc .i32 (rdL (CA .i32 256 (by decide)) ca0 z4)).toArray) (d := none) (by kernel_rfl) hs 0 rfl (vs := enc .i32 (rdL (CA .i32 256 (by decide)) ca0 z4)) (n := 256) (by kernel_rfl) (by kernel_rfl) (by kernel_rfl) (by simp [enc_len]) (by simp [enc_len]) (by intro u hu; exact enc_one _ _ u hu) ?_)
    intro w kp hs
    refine ⟨fun _ => trivial, ?_⟩
    refine wpS.fin rfl (kr15 _ _ (then_n (ks14 _ _ ?_)))
    refine wp_regG [8] (fun k => True) 9 (by kernel_rfl) (by kernel_rfl) (by kernel_rfl) fun KR17 kr17 => ?_
    have hs := hs.drawn1
    refine wpG.tD 0 true (some 15) (.agg (enc .i32 z5).toArray) (yld_loadW (e := 32) (n := 256) hs 1 rfl (by kernel_rfl) (by kernel_rfl) (by kernel_rfl) (by exact enc_len _ _) .grow) ?_
    refine wpG.tD 1 true (some 16) (.agg (enc .i32 (rdL (CA .i32 256 (by decide)) ca0 z4)).toArray) (yld_loadW (e := 32) (n := 256) hs 0 rfl (by kernel_rfl) (by kernel_rfl) (by kernel_rfl) (by exact enc_len _ _) .grow) ?_
    refine wpG.q 2 17 (.slice ca1_A ca1_n ca1_c) ?_
    refine wpG.q 3 18 (.int .i64 z4) ?_
    obtain ⟨h0, h⟩ := of_chk h
    obtain ⟨h1, h⟩ := of_chk h
    have i0_18 := h0
    have i1_18 := h1
    refine wpG.tD 4 false (some 19) (.pointer (adr ca1_A ((z4 : Int).toNat * Cod.size (CA .i32 256 (by decide))))) (yld_idxL (C := (CA .i32 256 (by decide))) (t := 78) (e := 32) (k := .i64) (x := z4) (hs.rowR 0 rfl) (by kernel_rfl) (by kernel_rfl) (by kernel_rfl) h0 h1) ?_
    refine wpG.tD 5 true (some 20) (.agg (enc .i32 (rdL (CA .i32 256 (by decide)) ca1 z4)).toArray) (yld_loadLA (C := (CA .i32 256 (by decide))) (e := 32) (x := z4) (hs.rowR 0 rfl) (by kernel_rfl) rfl (by kernel_rfl) (by kernel_rfl) i0_18 i1_18) ?_
    obtain ⟨r8, hg, h⟩ := of_bind h
    refine wpG.only 6 (by kernel_rfl) (op_call (d := (some 21)) (by kernel_rfl) hs (fun _ => by kernel_rfl) (kq_Mul.ok hg _) ?_)
    intro w gw hs
    refine ⟨.of gw, ?_⟩
    obtain ⟨r9, hg, h⟩ := of_bind h
    refine wpG.only 7 (by kernel_rfl) (op_call (d := (some 22)) (by kernel_rfl) hs (fun _ => by kernel_rfl) (kq_Add.ok hg _) ?_)
    intro w gw hs
    refine ⟨.of gw, ?_⟩
    refine wpG.only 8 (by kernel_rfl) (op_storeW (t := 32) (v := .agg (enc .i32 r9).toArray) (d := none) (by kernel_rfl) hs 1 rfl (vs := enc .i32 r9) (n := 256) (by kernel_rfl) (by kernel_rfl) (by kernel_rfl) (by simp [enc_len]) (by simp [enc_len]) (by intro u hu; exact enc_one _ _ u hu) ?_)
    intro w kp hs
    refine ⟨⟨fun hf => absurd hf (by decide), .all _ _⟩, ?_⟩
    refine wpG.fin (by kernel_rfl) rfl (kr17 _ _ ?_)
    refine inBlock_n (then_n (ks13 _ _ (xregS [0, 1] fun KR19 kr19 => ?_)))
    refine wpS.qs [(0, 23, .int .i64 (iadd .i64 z4 1)), (1, 10, .int .i64 (iadd .i64 z4 1))] ?_
    refine wpS.fin rfl (kr19 _ _ ?_)
    exact then_n (kl0 _ _ ⟨n, Nat.lt_succ_self n, (iadd .i64 z4 1), r9, h, (hs.drop (.cons _ (.cons_cons _ (.cons_cons _ (.cons_cons _ (.refl _)))))), exg (by kernel_rfl)⟩)
   refine wpS.tk 0 false (some 11) (.bool false) (yld_b (df hc) (fun _ => by kernel_rfl)) ?_
   refine wpS.fin rfl (kr11 _ _ (then_n (ks10 _ _ (xseq_k fun KS20 ks20 => (wp_cond_f (by kernel_rfl) (xexit (then_x (then_x (inBlock_hit ?_)))))))))
   have q0 := of_some h
   subst q0
   exact exq_n (nn0 _ _ ⟨(hs.conv rfl), exg (by kernel_rfl)⟩)
 clear hs h hy
 rintro a w ⟨hs, g9, rfl⟩
 have h := hk0
 refine then_n (ks5 _ _ (xseq_k fun KS21 ks21 => (xregS [0, 1] fun KR22 kr22 => ?_)))
 refine wpS.tk 0 true (some 24) (.agg (enc .i32 y6).toArray) (yld_loadW (e := 32) (n := 256) hs 0 rfl (by kernel_rfl) (by kernel_rfl) (by kernel_rfl) (by exact enc_len _ _) .grow) ?_
 refine wpS.only 1 (op_storeW (t := 32) (v := .agg (enc .i32 y6).toArray) (d := none) (by kernel_rfl) hs 1 rfl (vs := enc .i32 y6) (n := 256) (by kernel_rfl) (by kernel_rfl) (by kernel_rfl) (by simp [enc_len]) (by simp [enc_len]) (by intro u hu; exact enc_one _ _ u hu) ?_)
 intro w kp hs
 refine ⟨fun _ => trivial, ?_⟩
 refine wpS.fin rfl (kr22 _ _ (then_n (ks21 _ _ (xret ?_))))
 have q0 := of_some h
 subst q0
 exact qq _ _ (post_ret (by kernel_rfl) (run_results [.cell 4 32] [.agg (enc .i32 y6).toArray] (by kernel_rfl) (.cons (res_cellN (n := 256) hs 1 rfl (by kernel_rfl) (by kernel_rfl) (by kernel_rfl) (by exact enc_len _ _)) .nil)) ⟨rfl, (hs.drop (.cons _ (.cons _ (.cons_cons _ (.refl _)))))⟩)
end Go.Proofs.YtemdbgmldljbpaaDoor
