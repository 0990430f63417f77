/- Printed by this work's own program: the code of each function below comes to the answer that its plain form tells. -/
import Derived.Test.YtemdbgmldljbpaaDoorMd
import Derived.Test.YtemdbgmldljbpaaDoorProg
import Derived.Test.YtemdbgmldljbpaaDoorLKpkeDraws
import Derived.Test.YtemdbgmldljbpaaDoorYX0
import Derived.Test.YtemdbgmldljbpaaDoorYX1
import Derived.Test.YtemdbgmldljbpaaDoorYX2
import Derived.Test.YtemdbgmldljbpaaDoorYX3
import Derived.Test.YtemdbgmldljbpaaDoorYX4
import Derived.Test.YtemdbgmldljbpaaDoorYX5
import Derived.Test.YtemdbgmldljbpaaDoorYX6
import Derived.Test.YtemdbgmldljbpaaDoorYX7
import Derived.Test.YtemdbgmldljbpaaDoorYX8
set_option linter.unusedVariables false
set_option linter.unusedSimpArgs false
set_option maxRecDepth 100000
set_option maxHeartbeats 4000000
namespace Go.Proofs.YtemdbgmldljbpaaDoor
open Go.Mx
attribute [local irreducible] wpOp

theorem law26_KpkeDraws.ok {K : Nat} {a0 : Int} {a1_0 : Int} {a1_1 : Int} {a1_2 : Int} {a1_3 : Int} {a1_4 : Int} {a2 : Int} {a3 : List Int} {a4 : Int} {a5 : Int} {r0 : Bool} {a3_A : Option Addr} {a3_n : Nat} {a3_c : Nat} (h : law26_KpkeDraws.f K a0 a1_0 a1_1 a1_2 a1_3 a1_4 a2 a3 a4 a5 = some r0) (w0 : World) (hp3 : RowL (CI .u8) w0 a3_A a3_n a3_c a3) (hg0 : RowL (CA .u64 24 (by decide)) w0 (some ⟨0, 0, none⟩) 1 1 [tab_0]) (hg1 : RowL (CA .i64 24 (by decide)) w0 (some ⟨1, 0, none⟩) 1 1 [tab_1]) (hg2 : RowL (CA .i64 24 (by decide)) w0 (some ⟨2, 0, none⟩) 1 1 [tab_2]) : Ret Tryd.prog 3 #[.int .i64 a0, .agg #[.int .i64 a1_0, .int .i64 a1_1, .int .i64 a1_2, .int .i64 a1_3, .int .i64 a1_4], .int .i64 a2, .slice a3_A a3_n a3_c, .int .u8 a4, .int .u8 a5] w0 (.bool r0) := by
 refine calls_k Tryd.func3 rfl fun Q qq => ?_
 have hs := St.startR (all_cons (RowP.ent hp3) (all_cons (RowP.ent hg0) (all_cons (RowP.ent hg1) (all_cons (RowP.ent hg2) all_nil))))
 refine wp_conv (a' := ⟨#[.int .i64 a0, .agg #[.int .i64 a1_0, .int .i64 a1_1, .int .i64 a1_2, .int .i64 a1_3, .int .i64 a1_4], .int .i64 a2, .slice a3_A a3_n a3_c, .int .u8 a4, .int .u8 a5, undef, undef, undef, undef, undef, undef, undef, undef, undef, undef, undef, undef, undef, undef, undef, undef, undef, undef, undef, undef, undef, undef, undef, undef, undef, undef, undef, undef, undef, undef, undef, undef, undef, undef, undef, undef, undef, undef, undef, undef, undef, undef, undef, undef, undef, undef, undef, undef, undef, undef, undef, undef, undef, undef, undef, undef, undef, undef, undef, undef, undef, undef, undef, undef, undef, undef, undef, undef, undef, undef, undef, undef, undef, undef, undef, undef, undef, undef, undef, undef, undef, undef, undef, undef, undef, undef, undef, undef, undef, undef, undef, undef, undef, undef, undef, undef, undef, undef, undef, undef, undef, undef, undef, undef, undef, undef, undef, undef, undef], []⟩) (by kernel_rfl) ?_
 refine xseq_k fun KS1 ks1 => ?_
 refine xregS [0, 1] fun KR2 kr2 => ?_
 refine wpS.only 0 (op_box (t := 23) (v := .agg #[.int .i64 a1_0, .int .i64 a1_1, .int .i64 a1_2, .int .i64 a1_3, .int .i64 a1_4]) (d := (some 7)) (by kernel_rfl) hs ([.int .i64 a1_0, .int .i64 a1_1, .int .i64 a1_2, .int .i64 a1_3, .int .i64 a1_4]) (by kernel_rfl) (by kernel_rfl) ?_)
 intro b1 w gw hs
 refine ⟨fun _ => trivial, ?_⟩
 refine wpS.q 1 12 (.bool false) ?_
 refine wpS.fin rfl (kr2 _ _ (then_n (ks1 _ _ (xseq_k fun KS3 ks3 => (xseq_k fun KS4 ks4 => (xregS [0, 1, 2, 3] fun KR5 kr5 => ?_))))))
 refine wpS.q 0 27 (.slice a3_A a3_n a3_c) ?_
 refine wpS.only 1 (op_lit (C := CS) (t := 59) (e := 24) (len := 1) (parts := #[(0, .slice a3_A a3_n a3_c)]) (l := ([(a3_A, a3_n, a3_c)] : List HS)) (d := (some 28)) (by kernel_rfl) hs (by kernel_rfl) (by kernel_rfl) (by kernel_rfl) (z := .slice none 0 0) (by kernel_rfl) rfl (by decide) (by decide) (by kernel_rfl) ?_)
 intro s2_A s2_n s2_c w gw hs
 refine ⟨fun _ => trivial, ?_⟩
 obtain ⟨r3, hg, h⟩ := of_bind h
 cases r3 with
 | true =>
  have h := of_if_t h
  refine wpS.only 2 (op_call (d := (some 29)) (by kernel_rfl) hs (fun _ => by kernel_rfl) (law26_few.ok hg _ (LLP.mk (hs.rowL 0 rfl) (inn_cons (hs.rowR 0 rfl) inn_nil))) ?_)
  intro w gw hs
  refine ⟨fun _ => trivial, ?_⟩
  refine wpS.q 3 30 (.bool false) ?_
  refine wpS.fin rfl (kr5 _ _ (then_n (ks4 _ _ (wp_cond_f (by kernel_rfl) (xskip (then_n (ks3 _ _ (xseq_k fun KS6 ks6 => (xregS [0, 1, 2, 3, 4, 5, 6, 7] fun KR7 kr7 => ?_)))))))))
  refine wpS.q 0 33 (.int .i64 a0) ?_
  obtain ⟨⟨r4_0, r4_1, r4_2, r4_3, r4_4, r5⟩, hg, h⟩ := of_bind h
  refine wpS.only 1 (op_call (d := (some 34)) (by kernel_rfl) hs (fun _ => by kernel_rfl) (kpke_Set.ok hg _) ?_)
  intro w gw hs
  refine ⟨fun _ => trivial, ?_⟩
  refine wpS.qs [(2, 32, .tuple #[.agg #[.int .i64 r4_0, .int .i64 r4_1, .int .i64 r4_2, .int .i64 r4_3, .int .i64 r4_4], .bool r5]), (3, 35, .agg #[.int .i64 r4_0, .int .i64 r4_1, .int .i64 r4_2, .int .i64 r4_3, .int .i64 r4_4]), (4, 36, .bool r5)] ?_
  refine wpS.only 5 (op_alloc (t := 23) (d := (some 13)) (by kernel_rfl) hs ([.int .i64 0, .int .i64 0, .int .i64 0, .int .i64 0, .int .i64 0]) (.agg #[.int .i64 0, .int .i64 0, .int .i64 0, .int .i64 0, .int .i64 0]) (by kernel_rfl) (by kernel_rfl) (by kernel_rfl) ?_)
  intro b6 w gw hs
  refine ⟨fun _ => trivial, ?_⟩
  refine wpS.only 6 (op_storeW (t := 23) (v := .agg #[.int .i64 r4_0, .int .i64 r4_1, .int .i64 r4_2, .int .i64 r4_3, .int .i64 r4_4]) (d := none) (by kernel_rfl) hs 0 rfl (vs := [.int .i64 r4_0, .int .i64 r4_1, .int .i64 r4_2, .int .i64 r4_3, .int .i64 r4_4]) (n := 5) (by kernel_rfl) (by kernel_rfl) (by kernel_rfl) (by simp [enc_len]) (by simp [enc_len]) (by simp [Value.oneCell']) ?_)
  intro w kp hs
  refine ⟨fun _ => trivial, ?_⟩
  refine wpS.q 7 14 (.bool r5) ?_
  refine wpS.fin rfl (kr7 _ _ (then_n (ks6 _ _ (xseq_k fun KS8 ks8 => (xregS [0, 1, 2, 3, 4, 5, 6, 7] fun KR9 kr9 => ?_)))))
  refine wpS.q 0 38 (.int .i64 a0) ?_
  obtain ⟨⟨r7_0, r7_1, r7_2, r7_3, r7_4, r8⟩, hg, h⟩ := of_bind h
  refine wpS.only 1 (op_call (d := (some 39)) (by kernel_rfl) hs (fun _ => by kernel_rfl) (ref26_Set.ok hg _) ?_)
  intro w gw hs
  refine ⟨fun _ => trivial, ?_⟩
  refine wpS.qs [(2, 37, .tuple #[.agg #[.int .i64 r7_0, .int .i64 r7_1, .int .i64 r7_2, .int .i64 r7_3, .int .i64 r7_4], .bool r8]), (3, 40, .agg #[.int .i64 r7_0, .int .i64 r7_1, .int .i64 r7_2, .int .i64 r7_3, .int .i64 r7_4]), (4, 41, .bool r8)] ?_
  refine wpS.only 5 (op_alloc (t := 23) (d := (some 15)) (by kernel_rfl) hs ([.int .i64 0, .int .i64 0, .int .i64 0, .int .i64 0, .int .i64 0]) (.agg #[.int .i64 0, .int .i64 0, .int .i64 0, .int .i64 0, .int .i64 0]) (by kernel_rfl) (by kernel_rfl) (by kernel_rfl) ?_)
  intro b9 w gw hs
  refine ⟨fun _ => trivial, ?_⟩
  refine wpS.only 6 (op_storeW (t := 23) (v := .agg #[.int .i64 r7_0, .int .i64 r7_1, .int .i64 r7_2, .int .i64 r7_3, .int .i64 r7_4]) (d := none) (by kernel_rfl) hs 0 rfl (vs := [.int .i64 r7_0, .int .i64 r7_1, .int .i64 r7_2, .int .i64 r7_3, .int .i64 r7_4]) (n := 5) (by kernel_rfl) (by kernel_rfl) (by kernel_rfl) (by simp [enc_len]) (by simp [enc_len]) (by simp [Value.oneCell']) ?_)
  intro w kp hs
  refine ⟨fun _ => trivial, ?_⟩
  refine wpS.q 7 16 (.bool r8) ?_
  refine wpS.fin rfl (kr9 _ _ (then_n (ks8 _ _ (xseq_k fun KS10 ks10 => (xregS [0, 1, 2, 3, 4, 5, 6, 7, 8] fun KR11 kr11 => ?_)))))
  refine wpS.tk 0 true (some 43) (.agg #[.int .i64 a1_0, .int .i64 a1_1, .int .i64 a1_2, .int .i64 a1_3, .int .i64 a1_4]) (yld_loadW (e := 23) (n := 5) hs 3 rfl (by kernel_rfl) (by kernel_rfl) (by kernel_rfl) (by simp [enc_len]) .grow) ?_
  obtain ⟨⟨r10, r11, r12⟩, hg, h⟩ := of_bind h
  refine wpS.only 1 (op_call (d := (some 44)) (by kernel_rfl) hs (fun _ => by kernel_rfl) (kpke_Sizes.ok hg _) ?_)
  intro w gw hs
  refine ⟨fun _ => trivial, ?_⟩
  refine wpS.qs [(2, 42, .tuple #[.int .i64 r10, .int .i64 r11, .int .i64 r12]), (3, 45, .int .i64 r10), (4, 46, .int .i64 r11), (5, 47, .int .i64 r12), (6, 17, .int .i64 r10), (7, 18, .int .i64 r11), (8, 19, .int .i64 r12)] ?_
  refine wpS.fin rfl (kr11 _ _ (then_n (ks10 _ _ (xseq_k fun KS12 ks12 => (xregS [0, 1, 2, 3, 4, 5, 6, 7, 8] fun KR13 kr13 => ?_)))))
  refine wpS.tk 0 true (some 49) (.agg #[.int .i64 a1_0, .int .i64 a1_1, .int .i64 a1_2, .int .i64 a1_3, .int .i64 a1_4]) (yld_loadW (e := 23) (n := 5) hs 3 rfl (by kernel_rfl) (by kernel_rfl) (by kernel_rfl) (by simp [enc_len]) .grow) ?_
  obtain ⟨⟨r13, r14, r15⟩, hg, h⟩ := of_bind h
  refine wpS.only 1 (op_call (d := (some 50)) (by kernel_rfl) hs (fun _ => by kernel_rfl) (ref26_Sizes.ok hg _) ?_)
  intro w gw hs
  refine ⟨fun _ => trivial, ?_⟩
  refine wpS.qs [(2, 48, .tuple #[.int .i64 r13, .int .i64 r14, .int .i64 r15]), (3, 51, .int .i64 r13), (4, 52, .int .i64 r14), (5, 53, .int .i64 r15), (6, 20, .int .i64 r13), (7, 21, .int .i64 r14), (8, 22, .int .i64 r15)] ?_
  refine wpS.fin rfl (kr13 _ _ (then_n (ks12 _ _ (xseq_k fun KS14 ks14 => (xregS [0, 1, 2, 3, 4, 5, 6, 7, 8, 9] fun KR15 kr15 => ?_)))))
  refine wpS.qs [(0, 55, .slice a3_A a3_n a3_c), (1, 56, .int .u8 a4), (2, 57, .int .u8 a5)] ?_
  obtain ⟨⟨r16, r17⟩, hg, h⟩ := of_bind h
  refine wpS.only 3 (op_call (d := (some 58)) (by kernel_rfl) hs (fun _ => by kernel_rfl) (kpke_Parts.ok hg _ (hs.rowR 0 rfl) (hs.rowR 1 rfl) (hs.rowR 2 rfl) (hs.rowR 3 rfl)) ?_)
  intro w gw hs
  refine ⟨fun _ => trivial, ?_⟩
  refine wpS.qs [(4, 54, .tuple #[.agg (enc .i32 r16).toArray, .int .i64 r17]), (5, 59, .agg (enc .i32 r16).toArray), (6, 60, .int .i64 r17)] ?_
  refine wpS.only 7 (op_alloc (t := 32) (d := (some 23)) (by kernel_rfl) hs (enc .i32 (zeroA 256)) (.agg (enc .i32 (zeroA 256)).toArray) (by kernel_rfl) (by kernel_rfl) (by kernel_rfl) ?_)
  intro b18 w gw hs
  refine ⟨fun _ => trivial, ?_⟩
  refine wpS.only 8 (op_storeW (t := 32) (v := .agg (enc .i32 r16).toArray) (d := none) (by kernel_rfl) hs 0 rfl (vs := enc .i32 r16) (n := 256) (by kernel_rfl) (by kernel_rfl) (by kernel_rfl) (by simp [enc_len]) (by simp [enc_len]) (by intro u hu; exact enc_one _ _ u hu) ?_)
  intro w kp hs
  refine ⟨fun _ => trivial, ?_⟩
  refine wpS.q 9 24 (.int .i64 r17) ?_
  refine wpS.fin rfl (kr15 _ _ (then_n (ks14 _ _ (xseq_k fun KS16 ks16 => (xregS [0, 1, 2, 3, 4, 5, 6, 7, 8, 9] fun KR17 kr17 => ?_)))))
  refine wpS.qs [(0, 62, .slice a3_A a3_n a3_c), (1, 63, .int .u8 a4), (2, 64, .int .u8 a5)] ?_
  obtain ⟨⟨r19, r20⟩, hg, h⟩ := of_bind h
  refine wpS.only 3 (op_call (d := (some 65)) (by kernel_rfl) hs (fun _ => by kernel_rfl) (ref26_Parts.ok hg _ (hs.rowR 0 rfl)) ?_)
  intro w gw hs
  refine ⟨fun _ => trivial, ?_⟩
  refine wpS.qs [(4, 61, .tuple #[.agg (enc .i32 r19).toArray, .int .i64 r20]), (5, 66, .agg (enc .i32 r19).toArray), (6, 67, .int .i64 r20)] ?_
  refine wpS.only 7 (op_alloc (t := 32) (d := (some 25)) (by kernel_rfl) hs (enc .i32 (zeroA 256)) (.agg (enc .i32 (zeroA 256)).toArray) (by kernel_rfl) (by kernel_rfl) (by kernel_rfl) ?_)
  intro b21 w gw hs
  refine ⟨fun _ => trivial, ?_⟩
  refine wpS.only 8 (op_storeW (t := 32) (v := .agg (enc .i32 r19).toArray) (d := none) (by kernel_rfl) hs 0 rfl (vs := enc .i32 r19) (n := 256) (by kernel_rfl) (by kernel_rfl) (by kernel_rfl) (by simp [enc_len]) (by simp [enc_len]) (by intro u hu; exact enc_one _ _ u hu) ?_)
  intro w kp hs
  refine ⟨fun _ => trivial, ?_⟩
  refine wpS.q 9 26 (.int .i64 r20) ?_
  refine wpS.fin rfl (kr17 _ _ (then_n (ks16 _ _ (xseq_k fun KS18 ks18 => (xregS [0, 1, 2, 3, 4, 5, 6, 7, 8, 9, 10, 11, 12, 13, 14, 15, 16, 17, 18, 19, 20, 21, 22, 23, 24, 25, 26, 27, 28, 29, 30, 31, 32, 33, 34, 35, 36, 37, 38, 39, 40, 41, 42, 43, 44, 45, 46, 47] fun KR19 kr19 => ?_)))))
  refine wpS.tk 0 true (some 68) (.agg #[.int .i64 r4_0, .int .i64 r4_1, .int .i64 r4_2, .int .i64 r4_3, .int .i64 r4_4]) (yld_loadW (e := 23) (n := 5) hs 3 rfl (by kernel_rfl) (by kernel_rfl) (by kernel_rfl) (by simp [enc_len]) .grow) ?_
  refine wpS.tk 1 true (some 69) (.agg #[.int .i64 r7_0, .int .i64 r7_1, .int .i64 r7_2, .int .i64 r7_3, .int .i64 r7_4]) (yld_loadW (e := 23) (n := 5) hs 2 rfl (by kernel_rfl) (by kernel_rfl) (by kernel_rfl) (by simp [enc_len]) .grow) ?_
  rcases of_ifb h with ⟨hc, h⟩ | ⟨hc, h⟩
  ·refine wpS.tk 2 false (some 70) (.bool true) (yld_bb hc (yld_eqS (fs := [Field.mk "K" 3 0 false "" "" 0, Field.mk "Eta1" 3 1 false "" "" 8, Field.mk "Eta2" 3 2 false "" "" 16, Field.mk "Du" 3 3 false "" "" 24, Field.mk "Dv" 3 4 false "" "" 32]) (xs := [.int .i64 r4_0, .int .i64 r4_1, .int .i64 r4_2, .int .i64 r4_3, .int .i64 r4_4]) (ys := [.int .i64 r7_0, .int .i64 r7_1, .int .i64 r7_2, .int .i64 r7_3, .int .i64 r7_4]) (t := 23) (.tmp 68) (.tmp 69) (by kernel_rfl) (by kernel_rfl) (by kernel_rfl) (by kernel_rfl) (.cons rfl (fun w => Go.Mx.run_part1 (by kernel_rfl) rfl) (fun w => Go.Mx.run_part1 (by kernel_rfl) rfl) (fun w => Go.Mx.run_equalIn_int (by kernel_rfl)) (.cons rfl (fun w => Go.Mx.run_part1 (by kernel_rfl) rfl) (fun w => Go.Mx.run_part1 (by kernel_rfl) rfl) (fun w => Go.Mx.run_equalIn_int (by kernel_rfl)) (.cons rfl (fun w => Go.Mx.run_part1 (by kernel_rfl) rfl) (fun w => Go.Mx.run_part1 (by kernel_rfl) rfl) (fun w => Go.Mx.run_equalIn_int (by kernel_rfl)) (.cons rfl (fun w => Go.Mx.run_part1 (by kernel_rfl) rfl) (fun w => Go.Mx.run_part1 (by kernel_rfl) rfl) (fun w => Go.Mx.run_equalIn_int (by kernel_rfl)) (.cons rfl (fun w => Go.Mx.run_part1 (by kernel_rfl) rfl) (fun w => Go.Mx.run_part1 (by kernel_rfl) rfl) (fun w => Go.Mx.run_equalIn_int (by kernel_rfl)) .nil))))))) ?_
   refine wpS.qs [(3, 71, .bool true), (4, 72, .bool r5), (5, 73, .bool r8)] ?_
   rcases of_ifb h with ⟨hc, h⟩ | ⟨hc, h⟩
   ·refine wpS.tk 6 false (some 74) (.bool true) (yld_b hc (fun _ => by kernel_rfl)) ?_
    refine wpS.qs [(7, 75, .bool true), (8, 76, .bool true), (9, 77, .int .i64 r10), (10, 78, .int .i64 r13)] ?_
    rcases of_if h with ⟨hc, h⟩ | ⟨hc, h⟩
    ·refine wpS.tk 11 false (some 79) (.bool true) (yld_b (et hc) (fun _ => by kernel_rfl)) ?_
     refine wpS.qs [(12, 80, .bool true), (13, 81, .bool true), (14, 82, .int .i64 r11), (15, 83, .int .i64 r14)] ?_
     rcases of_if h with ⟨hc, h⟩ | ⟨hc, h⟩
     ·refine wpS.tk 16 false (some 84) (.bool true) (yld_b (et hc) (fun _ => by kernel_rfl)) ?_
      refine wpS.qs [(17, 85, .bool true), (18, 86, .bool true), (19, 87, .int .i64 r12), (20, 88, .int .i64 r15)] ?_
      rcases of_if h with ⟨hc, h⟩ | ⟨hc, h⟩
      ·refine wpS.tk 21 false (some 89) (.bool true) (yld_b (et hc) (fun _ => by kernel_rfl)) ?_
       refine wpS.qs [(22, 90, .bool true), (23, 91, .bool true)] ?_
       refine wpS.tk 24 true (some 92) (.agg (enc .i32 r16).toArray) (yld_loadW (e := 32) (n := 256) hs 1 rfl (by kernel_rfl) (by kernel_rfl) (by kernel_rfl) (by exact enc_len _ _) .grow) ?_
       refine wpS.tk 25 true (some 93) (.agg (enc .i32 r19).toArray) (yld_loadW (e := 32) (n := 256) hs 0 rfl (by kernel_rfl) (by kernel_rfl) (by kernel_rfl) (by exact enc_len _ _) .grow) ?_
       rcases of_ifb h with ⟨hc, h⟩ | ⟨hc, h⟩
       ·refine wpS.tk 26 false (some 94) (.bool true) (yld_bb hc (yld_eqA (t := 32) (e := 21) (k := .i32) (.tmp 92) (.tmp 93) (by kernel_rfl) (by kernel_rfl) (by kernel_rfl) (by kernel_rfl) (by kernel_rfl) (by kernel_rfl))) ?_
        refine wpS.qs [(27, 95, .bool true), (28, 96, .bool true), (29, 97, .int .i64 r17), (30, 98, .int .i64 r20)] ?_
        rcases of_if h with ⟨hc, h⟩ | ⟨hc, h⟩
        ·refine wpS.tk 31 false (some 99) (.bool true) (yld_b (et hc) (fun _ => by kernel_rfl)) ?_
         refine wpS.qs [(32, 100, .bool true), (33, 101, .bool true), (34, 102, .int .i64 a2), (35, 103, .slice a3_A a3_n a3_c), (36, 104, .int .u8 a4)] ?_
         obtain ⟨r22, hg, h⟩ := of_bind h
         refine wpS.only 37 (op_call (d := (some 105)) (by kernel_rfl) hs (fun _ => by kernel_rfl) (kpke_Noise.ok hg _ (hs.rowR 0 rfl) (hs.rowR 1 rfl) (hs.rowR 2 rfl) (hs.rowR 3 rfl)) ?_)
         intro w gw hs
         refine ⟨fun _ => trivial, ?_⟩
         refine wpS.qs [(38, 106, .int .i64 a2), (39, 107, .slice a3_A a3_n a3_c), (40, 108, .int .u8 a4)] ?_
         obtain ⟨r23, hg, h⟩ := of_bind h
         refine wpS.only 41 (op_call (d := (some 109)) (by kernel_rfl) hs (fun _ => by kernel_rfl) (ref26_Noise.ok hg _ (hs.rowR 0 rfl)) ?_)
         intro w gw hs
         refine ⟨fun _ => trivial, ?_⟩
         rcases of_ifb h with ⟨hc, h⟩ | ⟨hc, h⟩
         ·refine wpS.tk 42 false (some 110) (.bool true) (yld_bb hc (yld_eqA (t := 32) (e := 21) (k := .i32) (.tmp 105) (.tmp 109) (by kernel_rfl) (by kernel_rfl) (by kernel_rfl) (by kernel_rfl) (by kernel_rfl) (by kernel_rfl))) ?_
          refine wpS.qs [(43, 111, .bool true), (44, 112, .bool true)] ?_
          obtain ⟨r24, hg, h⟩ := of_bind h
          refine wpS.only 45 (op_call (d := (some 113)) (by kernel_rfl) hs (fun _ => by kernel_rfl) (law26_awake.ok hg _ (hs.rowR 1 rfl) (hs.rowR 2 rfl) (hs.rowR 3 rfl)) ?_)
          intro w gw hs
          refine ⟨fun _ => trivial, ?_⟩
          refine wpS.qs [(46, 114, .bool r24), (47, 12, .bool r24)] ?_
          refine wpS.fin rfl (kr19 _ _ (then_n (ks18 _ _ (xret ?_))))
          have q0 := of_some h
          subst q0
          exact qq _ _ (post_ret (by kernel_rfl) (run_results [.tmp 12] [.bool r24] (by kernel_rfl) (.cons (res_tmp (by kernel_rfl)) .nil)) ⟨congrArg Ending.returned (by kernel_rfl), hs.none⟩)
         refine wpS.tk 42 false (some 110) (.bool false) (yld_bb hc (yld_eqA (t := 32) (e := 21) (k := .i32) (.tmp 105) (.tmp 109) (by kernel_rfl) (by kernel_rfl) (by kernel_rfl) (by kernel_rfl) (by kernel_rfl) (by kernel_rfl))) ?_
         refine wpS.qs [(43, 111, .bool false), (44, 112, .bool false), (45, 113, undef), (46, 114, .bool false), (47, 12, .bool false)] ?_
         refine wpS.fin rfl (kr19 _ _ (then_n (ks18 _ _ (xret ?_))))
         have q0 := of_some h
         subst q0
         exact qq _ _ (post_ret (by kernel_rfl) (run_results [.tmp 12] [.bool false] (by kernel_rfl) (.cons (res_tmp (by kernel_rfl)) .nil)) ⟨congrArg Ending.returned (by kernel_rfl), hs.none⟩)
        refine wpS.tk 31 false (some 99) (.bool false) (yld_b (ef hc) (fun _ => by kernel_rfl)) ?_
        refine wpS.qs [(32, 100, .bool false), (33, 101, .bool false), (34, 102, undef), (35, 103, undef), (36, 104, undef), (37, 105, undef), (38, 106, undef), (39, 107, undef), (40, 108, undef), (41, 109, undef), (42, 110, undef), (43, 111, .bool false), (44, 112, .bool false), (45, 113, undef), (46, 114, .bool false), (47, 12, .bool false)] ?_
        refine wpS.fin rfl (kr19 _ _ (then_n (ks18 _ _ (xret ?_))))
        have q0 := of_some h
        subst q0
        exact qq _ _ (post_ret (by kernel_rfl) (run_results [.tmp 12] [.bool false] (by kernel_rfl) (.cons (res_tmp (by kernel_rfl)) .nil)) ⟨congrArg Ending.returned (by kernel_rfl), hs.none⟩)
       refine wpS.tk 26 false (some 94) (.bool false) (yld_bb hc (yld_eqA (t := 32) (e := 21) (k := .i32) (.tmp 92) (.tmp 93) (by kernel_rfl) (by kernel_rfl) (by kernel_rfl) (by kernel_rfl) (by kernel_rfl) (by kernel_rfl))) ?_
       refine wpS.qs [(27, 95, .bool false), (28, 96, .bool false), (29, 97, undef), (30, 98, undef), (31, 99, undef), (32, 100, .bool false), (33, 101, .bool false), (34, 102, undef), (35, 103, undef), (36, 104, undef), (37, 105, undef), (38, 106, undef), (39, 107, undef), (40, 108, undef), (41, 109, undef), (42, 110, undef), (43, 111, .bool false), (44, 112, .bool false), (45, 113, undef), (46, 114, .bool false), (47, 12, .bool false)] ?_
       refine wpS.fin rfl (kr19 _ _ (then_n (ks18 _ _ (xret ?_))))
       have q0 := of_some h
       subst q0
       exact qq _ _ (post_ret (by kernel_rfl) (run_results [.tmp 12] [.bool false] (by kernel_rfl) (.cons (res_tmp (by kernel_rfl)) .nil)) ⟨congrArg Ending.returned (by kernel_rfl), hs.none⟩)
      refine wpS.tk 21 false (some 89) (.bool false) (yld_b (ef hc) (fun _ => by kernel_rfl)) ?_
      refine wpS.qs [(22, 90, .bool false), (23, 91, .bool false), (24, 92, undef), (25, 93, undef), (26, 94, undef), (27, 95, .bool false), (28, 96, .bool false), (29, 97, undef), (30, 98, undef), (31, 99, undef), (32, 100, .bool false), (33, 101, .bool false), (34, 102, undef), (35, 103, undef), (36, 104, undef), (37, 105, undef), (38, 106, undef), (39, 107, undef), (40, 108, undef), (41, 109, undef), (42, 110, undef), (43, 111, .bool false), (44, 112, .bool false), (45, 113, undef), (46, 114, .bool false), (47, 12, .bool false)] ?_
      refine wpS.fin rfl (kr19 _ _ (then_n (ks18 _ _ (xret ?_))))
      have q0 := of_some h
      subst q0
      exact qq _ _ (post_ret (by kernel_rfl) (run_results [.tmp 12] [.bool false] (by kernel_rfl) (.cons (res_tmp (by kernel_rfl)) .nil)) ⟨congrArg Ending.returned (by kernel_rfl), hs.none⟩)
     refine wpS.tk 16 false (some 84) (.bool false) (yld_b (ef hc) (fun _ => by kernel_rfl)) ?_
     refine wpS.qs [(17, 85, .bool false), (18, 86, .bool false), (19, 87, undef), (20, 88, undef), (21, 89, undef), (22, 90, .bool false), (23, 91, .bool false), (24, 92, undef), (25, 93, undef), (26, 94, undef), (27, 95, .bool false), (28, 96, .bool false), (29, 97, undef), (30, 98, undef), (31, 99, undef), (32, 100, .bool false), (33, 101, .bool false), (34, 102, undef), (35, 103, undef), (36, 104, undef), (37, 105, undef), (38, 106, undef), (39, 107, undef), (40, 108, undef), (41, 109, undef), (42, 110, undef), (43, 111, .bool false), (44, 112, .bool false), (45, 113, undef), (46, 114, .bool false), (47, 12, .bool false)] ?_
     refine wpS.fin rfl (kr19 _ _ (then_n (ks18 _ _ (xret ?_))))
     have q0 := of_some h
     subst q0
     exact qq _ _ (post_ret (by kernel_rfl) (run_results [.tmp 12] [.bool false] (by kernel_rfl) (.cons (res_tmp (by kernel_rfl)) .nil)) ⟨congrArg Ending.returned (by kernel_rfl), hs.none⟩)
    refine wpS.tk 11 false (some 79) (.bool false) (yld_b (ef hc) (fun _ => by kernel_rfl)) ?_
    refine wpS.qs [(12, 80, .bool false), (13, 81, .bool false), (14, 82, undef), (15, 83, undef), (16, 84, undef), (17, 85, .bool false), (18, 86, .bool false), (19, 87, undef), (20, 88, undef), (21, 89, undef), (22, 90, .bool false), (23, 91, .bool false), (24, 92, undef), (25, 93, undef), (26, 94, undef), (27, 95, .bool false), (28, 96, .bool false), (29, 97, undef), (30, 98, undef), (31, 99, undef), (32, 100, .bool false), (33, 101, .bool false), (34, 102, undef), (35, 103, undef), (36, 104, undef), (37, 105, undef), (38, 106, undef), (39, 107, undef), (40, 108, undef), (41, 109, undef), (42, 110, undef), (43, 111, .bool false), (44, 112, .bool false), (45, 113, undef), (46, 114, .bool false), (47, 12, .bool false)] ?_
    refine wpS.fin rfl (kr19 _ _ (then_n (ks18 _ _ (xret ?_))))
    have q0 := of_some h
    subst q0
    exact qq _ _ (post_ret (by kernel_rfl) (run_results [.tmp 12] [.bool false] (by kernel_rfl) (.cons (res_tmp (by kernel_rfl)) .nil)) ⟨congrArg Ending.returned (by kernel_rfl), hs.none⟩)
   refine wpS.tk 6 false (some 74) (.bool false) (yld_b hc (fun _ => by kernel_rfl)) ?_
   refine wpS.qs [(7, 75, .bool false), (8, 76, .bool false), (9, 77, undef), (10, 78, undef), (11, 79, undef), (12, 80, .bool false), (13, 81, .bool false), (14, 82, undef), (15, 83, undef), (16, 84, undef), (17, 85, .bool false), (18, 86, .bool false), (19, 87, undef), (20, 88, undef), (21, 89, undef), (22, 90, .bool false), (23, 91, .bool false), (24, 92, undef), (25, 93, undef), (26, 94, undef), (27, 95, .bool false), (28, 96, .bool false), (29, 97, undef), (30, 98, undef), (31, 99, undef), (32, 100, .bool false), (33, 101, .bool false), (34, 102, undef), (35, 103, undef), (36, 104, undef), (37, 105, undef), (38, 106, undef), (39, 107, undef), (40, 108, undef), (41, 109, undef), (42, 110, undef), (43, 111, .bool false), (44, 112, .bool false), (45, 113, undef), (46, 114, .bool false), (47, 12, .bool false)] ?_
   refine wpS.fin rfl (kr19 _ _ (then_n (ks18 _ _ (xret ?_))))
   have q0 := of_some h
   subst q0
   exact qq _ _ (post_ret (by kernel_rfl) (run_results [.tmp 12] [.bool false] (by kernel_rfl) (.cons (res_tmp (by kernel_rfl)) .nil)) ⟨congrArg Ending.returned (by kernel_rfl), hs.none⟩)
  refine wpS.tk 2 false (some 70) (.bool false) (yld_bb hc (yld_eqS (fs := [Field.mk "K" 3 0 false "" "" 0, Field.mk "Eta1" 3 1 false "" "" 8, Field.mk "Eta2" 3 2 false "" "" 16, Field.mk "Du" 3 3 false "" "" 24, Field.mk "Dv" 3 4 false "" "" 32]) (xs := [.int .i64 r4_0, .int .i64 r4_1, .int .i64 r4_2, .int .i64 r4_3, .int .i64 r4_4]) (ys := [.int .i64 r7_0, .int .i64 r7_1, .int .i64 r7_2, .int .i64 r7_3, .int .i64 r7_4]) (t := 23) (.tmp 68) (.tmp 69) (by kernel_rfl) (by kernel_rfl) (by kernel_rfl) (by kernel_rfl) (.cons rfl (fun w => Go.Mx.run_part1 (by kernel_rfl) rfl) (fun w => Go.Mx.run_part1 (by kernel_rfl) rfl) (fun w => Go.Mx.run_equalIn_int (by kernel_rfl)) (.cons rfl (fun w => Go.Mx.run_part1 (by kernel_rfl) rfl) (fun w => Go.Mx.run_part1 (by kernel_rfl) rfl) (fun w => Go.Mx.run_equalIn_int (by kernel_rfl)) (.cons rfl (fun w => Go.Mx.run_part1 (by kernel_rfl) rfl) (fun w => Go.Mx.run_part1 (by kernel_rfl) rfl) (fun w => Go.Mx.run_equalIn_int (by kernel_rfl)) (.cons rfl (fun w => Go.Mx.run_part1 (by kernel_rfl) rfl) (fun w => Go.Mx.run_part1 (by kernel_rfl) rfl) (fun w => Go.Mx.run_equalIn_int (by kernel_rfl)) (.cons rfl (fun w => Go.Mx.run_part1 (by kernel_rfl) rfl) (fun w => Go.Mx.run_part1 (by kernel_rfl) rfl) (fun w => Go.Mx.run_equalIn_int (by kernel_rfl)) .nil))))))) ?_
  refine wpS.qs [(3, 71, .bool false), (4, 72, undef), (5, 73, undef), (6, 74, undef), (7, 75, .bool false), (8, 76, .bool false), (9, 77, undef), (10, 78, undef), (11, 79, undef), (12, 80, .bool false), (13, 81, .bool false), (14, 82, undef), (15, 83, undef), (16, 84, undef), (17, 85, .bool false), (18, 86, .bool false), (19, 87, undef), (20, 88, undef), (21, 89, undef), (22, 90, .bool false), (23, 91, .bool false), (24, 92, undef), (25, 93, undef), (26, 94, undef), (27, 95, .bool false), (28, 96, .bool false), (29, 97, undef), (30, 98, undef), (31, 99, undef), (32, 100, .bool false), (33, 101, .bool false), (34, 102, undef), (35, 103, undef), (36, 104, undef), (37, 105, undef), (38, 106, undef), (39, 107, undef), (40, 108, undef), (41, 109, undef), (42, 110, undef), (43, 111, .bool false), (44, 112, .bool false), (45, 113, undef), (46, 114, .bool false), (47, 12, .bool false)] ?_
  refine wpS.fin rfl (kr19 _ _ (then_n (ks18 _ _ (xret ?_))))
  have q0 := of_some h
  subst q0
  exact qq _ _ (post_ret (by kernel_rfl) (run_results [.tmp 12] [.bool false] (by kernel_rfl) (.cons (res_tmp (by kernel_rfl)) .nil)) ⟨congrArg Ending.returned (by kernel_rfl), hs.none⟩)
 | false =>
  have h := of_if_f h
  refine wpS.only 2 (op_call (d := (some 29)) (by kernel_rfl) hs (fun _ => by kernel_rfl) (law26_few.ok hg _ (LLP.mk (hs.rowL 0 rfl) (inn_cons (hs.rowR 0 rfl) inn_nil))) ?_)
  intro w gw hs
  refine ⟨fun _ => trivial, ?_⟩
  refine wpS.q 3 30 (.bool true) ?_
  refine wpS.fin rfl (kr5 _ _ (then_n (ks4 _ _ (wp_cond_t (by kernel_rfl) (xseq_k fun KS20 ks20 => (xregS [0, 1] fun KR21 kr21 => ?_))))))
  obtain ⟨r25, hg, h⟩ := of_bind h
  refine wpS.only 0 (op_call (d := (some 31)) (by kernel_rfl) hs (fun _ => by kernel_rfl) (law26_awake.ok hg _ (hs.rowR 1 rfl) (hs.rowR 2 rfl) (hs.rowR 3 rfl)) ?_)
  intro w gw hs
  refine ⟨fun _ => trivial, ?_⟩
  refine wpS.q 1 12 (.bool r25) ?_
  refine wpS.fin rfl (kr21 _ _ (then_n (ks20 _ _ (xret (then_r ?_)))))
  have q0 := of_some h
  subst q0
  exact qq _ _ (post_ret (by kernel_rfl) (run_results [.tmp 12] [.bool r25] (by kernel_rfl) (.cons (res_tmp (by kernel_rfl)) .nil)) ⟨congrArg Ending.returned (by kernel_rfl), hs.none⟩)
end Go.Proofs.YtemdbgmldljbpaaDoor
