/- Printed by this work's own program: the code of each function below comes to the answer that its plain form tells. -/
import Derived.Test.YtppohhnfojalbaaDoorMd
import Derived.Test.YtppohhnfojalbaaDoorProg
import Derived.Test.YtppohhnfojalbaaDoorLDsampDraws
import Derived.Test.YtppohhnfojalbaaDoorVX0
import Derived.Test.YtppohhnfojalbaaDoorVX1
import Derived.Test.YtppohhnfojalbaaDoorVX2
import Derived.Test.YtppohhnfojalbaaDoorVX3
import Derived.Test.YtppohhnfojalbaaDoorVX4
import Derived.Test.YtppohhnfojalbaaDoorVX5
import Derived.Test.YtppohhnfojalbaaDoorVX6
import Derived.Test.YtppohhnfojalbaaDoorVX7
import Derived.Test.YtppohhnfojalbaaDoorVX8
import Derived.Test.YtppohhnfojalbaaDoorVX9
set_option linter.unusedVariables false
set_option linter.unusedSimpArgs false
set_option maxRecDepth 100000
set_option maxHeartbeats 4000000
namespace Go.Proofs.YtppohhnfojalbaaDoor
open Go.Mx
attribute [local irreducible] wpOp

theorem law23_DsampDraws.ok {K : Nat} {a0 : List Int} {a1 : Int} {a2 : Int} {a3 : Int} {a4 : Int} {r0 : Bool} {a0_A : Option Addr} {a0_n : Nat} {a0_c : Nat} (h : law23_DsampDraws.f K a0 a1 a2 a3 a4 = some r0) (w0 : World) (hp0 : RowL (CI .u8) w0 a0_A a0_n a0_c a0) (hg0 : RowL (CA .u64 24 (by decide)) w0 (some ⟨0, 0, none⟩) 1 1 [tab_0]) (hg1 : RowL (CA .i64 24 (by decide)) w0 (some ⟨1, 0, none⟩) 1 1 [tab_1]) (hg2 : RowL (CA .i64 24 (by decide)) w0 (some ⟨2, 0, none⟩) 1 1 [tab_2]) : Ret Tryd.prog 3 #[.slice a0_A a0_n a0_c, .int .u16 a1, .int .i32 a2, .int .i32 a3, .int .i64 a4] w0 (.bool r0) := by
 refine calls_k Tryd.func3 rfl fun Q qq => ?_
 have hs := St.startR (all_cons (RowP.ent hp0) (all_cons (RowP.ent hg0) (all_cons (RowP.ent hg1) (all_cons (RowP.ent hg2) all_nil))))
 refine wp_conv (a' := ⟨#[.slice a0_A a0_n a0_c, .int .u16 a1, .int .i32 a2, .int .i32 a3, .int .i64 a4, undef, undef, undef, undef, undef, undef, undef, undef, undef, undef, undef, undef, undef, undef, undef, undef, undef, undef, undef, undef, undef, undef, undef, undef, undef, undef, undef, undef, undef, undef, undef, undef, undef, undef, undef, undef, undef, undef, undef, undef, undef, undef, undef, undef, undef, undef, undef, undef, undef, undef, undef, undef, undef, undef, undef, undef, undef, undef, undef, undef, undef, undef, undef, undef, undef, undef, undef, undef, undef, undef, undef, undef, undef, undef, undef, undef, undef, undef, undef, undef, undef, undef, undef, undef, undef, undef, undef, undef, undef, undef, undef, undef, undef, undef, undef, undef, undef, undef, undef, undef, undef, undef, undef, undef, undef, undef, undef, undef, undef, undef, undef, undef, undef, undef, undef, undef, undef, undef, undef, undef, undef, undef, undef, undef, undef, undef, undef], []⟩) (by kernel_rfl) ?_
 refine xseq_k fun KS1 ks1 => ?_
 refine xregS [0] fun KR2 kr2 => ?_
 refine wpS.q 0 10 (.bool false) ?_
 refine wpS.fin rfl (kr2 _ _ (then_n (ks1 _ _ (xseq_k fun KS3 ks3 => (xseq_k fun KS4 ks4 => (xregS [0, 1, 2] fun KR5 kr5 => ?_))))))
 refine wpS.q 0 27 (.slice a0_A a0_n a0_c) ?_
 refine wpS.tk 1 false (some 28) (.int .i64 (a0.length : Int)) (yld_lenL (hs.rowR 0 rfl) (fun _ => by kernel_rfl)) ?_
 rcases of_if h with ⟨hc, h⟩ | ⟨hc, h⟩
 ·refine wpS.tk 2 false (some 29) (.bool true) (yld_b (dt hc) (fun _ => by kernel_rfl)) ?_
  refine wpS.fin rfl (kr5 _ _ (then_n (ks4 _ _ (wp_cond_t (by kernel_rfl) (xseq_k fun KS6 ks6 => (xregS [0, 1] fun KR7 kr7 => ?_))))))
  obtain ⟨r1, hg, h⟩ := of_bind h
  refine wpS.only 0 (op_call (d := (some 30)) (by kernel_rfl) hs (fun _ => by kernel_rfl) (law23_awake.ok hg _ (hs.rowR 1 rfl) (hs.rowR 2 rfl) (hs.rowR 3 rfl)) ?_)
  intro w gw hs
  refine ⟨fun _ => trivial, ?_⟩
  refine wpS.q 1 10 (.bool r1) ?_
  refine wpS.fin rfl (kr7 _ _ (then_n (ks6 _ _ (xret (then_r ?_)))))
  have q0 := of_some h
  subst q0
  exact qq _ _ (post_ret (by kernel_rfl) (run_results [.tmp 10] [.bool r1] (by kernel_rfl) (.cons (res_tmp (by kernel_rfl)) .nil)) ⟨congrArg Ending.returned (by kernel_rfl), hs.none⟩)
 refine wpS.tk 2 false (some 29) (.bool false) (yld_b (df hc) (fun _ => by kernel_rfl)) ?_
 refine wpS.fin rfl (kr5 _ _ (then_n (ks4 _ _ (wp_cond_f (by kernel_rfl) (xskip (then_n (ks3 _ _ (xseq_k fun KS8 ks8 => (xregS [0, 1, 2, 3, 4, 5, 6, 7, 8, 9, 10, 11, 12] fun KR9 kr9 => ?_)))))))))
 refine wpS.qs [(0, 32, .slice a0_A a0_n a0_c), (1, 33, .int .u16 a1), (2, 34, .int .u8 (iconv .u8 a1)), (3, 35, .int .u16 a1), (4, 36, .int .u16 (ishr .u16 a1 8)), (5, 37, .int .u8 (iconv .u8 (ishr .u16 a1 8)))] ?_
 obtain ⟨⟨r2, r3⟩, hg, h⟩ := of_bind h
 refine wpS.only 6 (op_call (d := (some 38)) (by kernel_rfl) hs (fun _ => by kernel_rfl) (dsamp_Values.ok hg _ (hs.rowR 0 rfl) (hs.rowR 1 rfl) (hs.rowR 2 rfl) (hs.rowR 3 rfl)) ?_)
 intro w gw hs
 refine ⟨fun _ => trivial, ?_⟩
 refine wpS.qs [(7, 31, .tuple #[.agg (enc .i32 r2).toArray, .int .i64 r3]), (8, 39, .agg (enc .i32 r2).toArray), (9, 40, .int .i64 r3)] ?_
 refine wpS.only 10 (op_alloc (t := 26) (d := (some 11)) (by kernel_rfl) hs (enc .i32 (zeroA 256)) (.agg (enc .i32 (zeroA 256)).toArray) (by kernel_rfl) (by kernel_rfl) (by kernel_rfl) ?_)
 intro b4 w gw hs
 refine ⟨fun _ => trivial, ?_⟩
 refine wpS.only 11 (op_storeW (t := 26) (v := .agg (enc .i32 r2).toArray) (d := none) (by kernel_rfl) hs 0 rfl (vs := enc .i32 r2) (n := 256) (by kernel_rfl) (by kernel_rfl) (by kernel_rfl) (by simp [enc_len]) (by simp [enc_len]) (by intro u hu; exact enc_one _ _ u hu) ?_)
 intro w kp hs
 refine ⟨fun _ => trivial, ?_⟩
 refine wpS.q 12 12 (.int .i64 r3) ?_
 refine wpS.fin rfl (kr9 _ _ (then_n (ks8 _ _ (xseq_k fun KS10 ks10 => (xregS [0, 1, 2, 3, 4, 5, 6, 7, 8, 9, 10, 11, 12] fun KR11 kr11 => ?_)))))
 refine wpS.qs [(0, 42, .slice a0_A a0_n a0_c), (1, 43, .int .u16 a1), (2, 44, .int .u8 (iconv .u8 a1)), (3, 45, .int .u16 a1), (4, 46, .int .u16 (ishr .u16 a1 8)), (5, 47, .int .u8 (iconv .u8 (ishr .u16 a1 8)))] ?_
 obtain ⟨⟨r5, r6⟩, hg, h⟩ := of_bind h
 refine wpS.only 6 (op_call (d := (some 48)) (by kernel_rfl) hs (fun _ => by kernel_rfl) (ref23_Values.ok hg _ (hs.rowR 0 rfl)) ?_)
 intro w gw hs
 refine ⟨fun _ => trivial, ?_⟩
 refine wpS.qs [(7, 41, .tuple #[.agg (enc .i32 r5).toArray, .int .i64 r6]), (8, 49, .agg (enc .i32 r5).toArray), (9, 50, .int .i64 r6)] ?_
 refine wpS.only 10 (op_alloc (t := 26) (d := (some 13)) (by kernel_rfl) hs (enc .i32 (zeroA 256)) (.agg (enc .i32 (zeroA 256)).toArray) (by kernel_rfl) (by kernel_rfl) (by kernel_rfl) ?_)
 intro b7 w gw hs
 refine ⟨fun _ => trivial, ?_⟩
 refine wpS.only 11 (op_storeW (t := 26) (v := .agg (enc .i32 r5).toArray) (d := none) (by kernel_rfl) hs 0 rfl (vs := enc .i32 r5) (n := 256) (by kernel_rfl) (by kernel_rfl) (by kernel_rfl) (by simp [enc_len]) (by simp [enc_len]) (by intro u hu; exact enc_one _ _ u hu) ?_)
 intro w kp hs
 refine ⟨fun _ => trivial, ?_⟩
 refine wpS.q 12 14 (.int .i64 r6) ?_
 refine wpS.fin rfl (kr11 _ _ (then_n (ks10 _ _ (xseq_k fun KS12 ks12 => (xregS [0, 1, 2, 3, 4, 5, 6, 7, 8, 9] fun KR13 kr13 => ?_)))))
 refine wpS.qs [(0, 52, .slice a0_A a0_n a0_c), (1, 53, .int .u16 a1), (2, 54, .int .i32 a2)] ?_
 obtain ⟨⟨r8, r9⟩, hg, h⟩ := of_bind h
 refine wpS.only 3 (op_call (d := (some 55)) (by kernel_rfl) hs (fun _ => by kernel_rfl) (dsamp_Small.ok hg _ (hs.rowR 0 rfl) (hs.rowR 1 rfl) (hs.rowR 2 rfl) (hs.rowR 3 rfl)) ?_)
 intro w gw hs
 refine ⟨fun _ => trivial, ?_⟩
 refine wpS.qs [(4, 51, .tuple #[.agg (enc .i32 r8).toArray, .int .i64 r9]), (5, 56, .agg (enc .i32 r8).toArray), (6, 57, .int .i64 r9)] ?_
 refine wpS.only 7 (op_alloc (t := 26) (d := (some 15)) (by kernel_rfl) hs (enc .i32 (zeroA 256)) (.agg (enc .i32 (zeroA 256)).toArray) (by kernel_rfl) (by kernel_rfl) (by kernel_rfl) ?_)
 intro b10 w gw hs
 refine ⟨fun _ => trivial, ?_⟩
 refine wpS.only 8 (op_storeW (t := 26) (v := .agg (enc .i32 r8).toArray) (d := none) (by kernel_rfl) hs 0 rfl (vs := enc .i32 r8) (n := 256) (by kernel_rfl) (by kernel_rfl) (by kernel_rfl) (by simp [enc_len]) (by simp [enc_len]) (by intro u hu; exact enc_one _ _ u hu) ?_)
 intro w kp hs
 refine ⟨fun _ => trivial, ?_⟩
 refine wpS.q 9 16 (.int .i64 r9) ?_
 refine wpS.fin rfl (kr13 _ _ (then_n (ks12 _ _ (xseq_k fun KS14 ks14 => (xregS [0, 1, 2, 3, 4, 5, 6, 7, 8, 9] fun KR15 kr15 => ?_)))))
 refine wpS.qs [(0, 59, .slice a0_A a0_n a0_c), (1, 60, .int .u16 a1), (2, 61, .int .i32 a2)] ?_
 obtain ⟨⟨r11, r12⟩, hg, h⟩ := of_bind h
 refine wpS.only 3 (op_call (d := (some 62)) (by kernel_rfl) hs (fun _ => by kernel_rfl) (ref23_Small.ok hg _ (hs.rowR 0 rfl)) ?_)
 intro w gw hs
 refine ⟨fun _ => trivial, ?_⟩
 refine wpS.qs [(4, 58, .tuple #[.agg (enc .i32 r11).toArray, .int .i64 r12]), (5, 63, .agg (enc .i32 r11).toArray), (6, 64, .int .i64 r12)] ?_
 refine wpS.only 7 (op_alloc (t := 26) (d := (some 17)) (by kernel_rfl) hs (enc .i32 (zeroA 256)) (.agg (enc .i32 (zeroA 256)).toArray) (by kernel_rfl) (by kernel_rfl) (by kernel_rfl) ?_)
 intro b13 w gw hs
 refine ⟨fun _ => trivial, ?_⟩
 refine wpS.only 8 (op_storeW (t := 26) (v := .agg (enc .i32 r11).toArray) (d := none) (by kernel_rfl) hs 0 rfl (vs := enc .i32 r11) (n := 256) (by kernel_rfl) (by kernel_rfl) (by kernel_rfl) (by simp [enc_len]) (by simp [enc_len]) (by intro u hu; exact enc_one _ _ u hu) ?_)
 intro w kp hs
 refine ⟨fun _ => trivial, ?_⟩
 refine wpS.q 9 18 (.int .i64 r12) ?_
 refine wpS.fin rfl (kr15 _ _ (then_n (ks14 _ _ (xseq_k fun KS16 ks16 => (xregS [0, 1, 2, 3, 4, 5, 6, 7, 8, 9] fun KR17 kr17 => ?_)))))
 refine wpS.qs [(0, 66, .slice a0_A a0_n a0_c), (1, 67, .int .u16 a1), (2, 68, .int .i32 a3)] ?_
 obtain ⟨⟨r14, r15⟩, hg, h⟩ := of_bind h
 refine wpS.only 3 (op_call (d := (some 69)) (by kernel_rfl) hs (fun _ => by kernel_rfl) (dsamp_Mask.ok hg _ (hs.rowR 0 rfl) (hs.rowR 1 rfl) (hs.rowR 2 rfl) (hs.rowR 3 rfl)) ?_)
 intro w gw hs
 refine ⟨fun _ => trivial, ?_⟩
 refine wpS.qs [(4, 65, .tuple #[.agg (enc .i32 r14).toArray, .int .i64 r15]), (5, 70, .agg (enc .i32 r14).toArray), (6, 71, .int .i64 r15)] ?_
 refine wpS.only 7 (op_alloc (t := 26) (d := (some 19)) (by kernel_rfl) hs (enc .i32 (zeroA 256)) (.agg (enc .i32 (zeroA 256)).toArray) (by kernel_rfl) (by kernel_rfl) (by kernel_rfl) ?_)
 intro b16 w gw hs
 refine ⟨fun _ => trivial, ?_⟩
 refine wpS.only 8 (op_storeW (t := 26) (v := .agg (enc .i32 r14).toArray) (d := none) (by kernel_rfl) hs 0 rfl (vs := enc .i32 r14) (n := 256) (by kernel_rfl) (by kernel_rfl) (by kernel_rfl) (by simp [enc_len]) (by simp [enc_len]) (by intro u hu; exact enc_one _ _ u hu) ?_)
 intro w kp hs
 refine ⟨fun _ => trivial, ?_⟩
 refine wpS.q 9 20 (.int .i64 r15) ?_
 refine wpS.fin rfl (kr17 _ _ (then_n (ks16 _ _ (xseq_k fun KS18 ks18 => (xregS [0, 1, 2, 3, 4, 5, 6, 7, 8, 9] fun KR19 kr19 => ?_)))))
 refine wpS.qs [(0, 73, .slice a0_A a0_n a0_c), (1, 74, .int .u16 a1), (2, 75, .int .i32 a3)] ?_
 obtain ⟨⟨r17, r18⟩, hg, h⟩ := of_bind h
 refine wpS.only 3 (op_call (d := (some 76)) (by kernel_rfl) hs (fun _ => by kernel_rfl) (ref23_Mask.ok hg _ (hs.rowR 0 rfl)) ?_)
 intro w gw hs
 refine ⟨fun _ => trivial, ?_⟩
 refine wpS.qs [(4, 72, .tuple #[.agg (enc .i32 r17).toArray, .int .i64 r18]), (5, 77, .agg (enc .i32 r17).toArray), (6, 78, .int .i64 r18)] ?_
 refine wpS.only 7 (op_alloc (t := 26) (d := (some 21)) (by kernel_rfl) hs (enc .i32 (zeroA 256)) (.agg (enc .i32 (zeroA 256)).toArray) (by kernel_rfl) (by kernel_rfl) (by kernel_rfl) ?_)
 intro b19 w gw hs
 refine ⟨fun _ => trivial, ?_⟩
 refine wpS.only 8 (op_storeW (t := 26) (v := .agg (enc .i32 r17).toArray) (d := none) (by kernel_rfl) hs 0 rfl (vs := enc .i32 r17) (n := 256) (by kernel_rfl) (by kernel_rfl) (by kernel_rfl) (by simp [enc_len]) (by simp [enc_len]) (by intro u hu; exact enc_one _ _ u hu) ?_)
 intro w kp hs
 refine ⟨fun _ => trivial, ?_⟩
 refine wpS.q 9 22 (.int .i64 r18) ?_
 refine wpS.fin rfl (kr19 _ _ (then_n (ks18 _ _ (xseq_k fun KS20 ks20 => (xregS [0, 1, 2, 3, 4, 5, 6, 7, 8] fun KR21 kr21 => ?_)))))
 refine wpS.qs [(0, 80, .slice a0_A a0_n a0_c), (1, 81, .int .i64 a4)] ?_
 obtain ⟨⟨r20, r21⟩, hg, h⟩ := of_bind h
 refine wpS.only 2 (op_call (d := (some 82)) (by kernel_rfl) hs (fun _ => by kernel_rfl) (dsamp_Ball.ok hg _ (hs.rowR 0 rfl) (hs.rowR 1 rfl) (hs.rowR 2 rfl) (hs.rowR 3 rfl)) ?_)
 intro w gw hs
 refine ⟨fun _ => trivial, ?_⟩
 refine wpS.qs [(3, 79, .tuple #[.agg (enc .i32 r20).toArray, .int .i64 r21]), (4, 83, .agg (enc .i32 r20).toArray), (5, 84, .int .i64 r21)] ?_
 refine wpS.only 6 (op_alloc (t := 26) (d := (some 23)) (by kernel_rfl) hs (enc .i32 (zeroA 256)) (.agg (enc .i32 (zeroA 256)).toArray) (by kernel_rfl) (by kernel_rfl) (by kernel_rfl) ?_)
 intro b22 w gw hs
 refine ⟨fun _ => trivial, ?_⟩
 refine wpS.only 7 (op_storeW (t := 26) (v := .agg (enc .i32 r20).toArray) (d := none) (by kernel_rfl) hs 0 rfl (vs := enc .i32 r20) (n := 256) (by kernel_rfl) (by kernel_rfl) (by kernel_rfl) (by simp [enc_len]) (by simp [enc_len]) (by intro u hu; exact enc_one _ _ u hu) ?_)
 intro w kp hs
 refine ⟨fun _ => trivial, ?_⟩
 refine wpS.q 8 24 (.int .i64 r21) ?_
 refine wpS.fin rfl (kr21 _ _ (then_n (ks20 _ _ (xseq_k fun KS22 ks22 => (xregS [0, 1, 2, 3, 4, 5, 6, 7, 8] fun KR23 kr23 => ?_)))))
 refine wpS.qs [(0, 86, .slice a0_A a0_n a0_c), (1, 87, .int .i64 a4)] ?_
 obtain ⟨⟨r23, r24⟩, hg, h⟩ := of_bind h
 refine wpS.only 2 (op_call (d := (some 88)) (by kernel_rfl) hs (fun _ => by kernel_rfl) (ref23_Ball.ok hg _ (hs.rowR 0 rfl)) ?_)
 intro w gw hs
 refine ⟨fun _ => trivial, ?_⟩
 refine wpS.qs [(3, 85, .tuple #[.agg (enc .i32 r23).toArray, .int .i64 r24]), (4, 89, .agg (enc .i32 r23).toArray), (5, 90, .int .i64 r24)] ?_
 refine wpS.only 6 (op_alloc (t := 26) (d := (some 25)) (by kernel_rfl) hs (enc .i32 (zeroA 256)) (.agg (enc .i32 (zeroA 256)).toArray) (by kernel_rfl) (by kernel_rfl) (by kernel_rfl) ?_)
 intro b25 w gw hs
 refine ⟨fun _ => trivial, ?_⟩
 refine wpS.only 7 (op_storeW (t := 26) (v := .agg (enc .i32 r23).toArray) (d := none) (by kernel_rfl) hs 0 rfl (vs := enc .i32 r23) (n := 256) (by kernel_rfl) (by kernel_rfl) (by kernel_rfl) (by simp [enc_len]) (by simp [enc_len]) (by intro u hu; exact enc_one _ _ u hu) ?_)
 intro w kp hs
 refine ⟨fun _ => trivial, ?_⟩
 refine wpS.q 8 26 (.int .i64 r24) ?_
 refine wpS.fin rfl (kr23 _ _ (then_n (ks22 _ _ (xseq_k fun KS24 ks24 => (xregS [0, 1, 2, 3, 4, 5, 6, 7, 8, 9, 10, 11, 12, 13, 14, 15, 16, 17, 18, 19, 20, 21, 22, 23, 24, 25, 26, 27, 28, 29, 30, 31, 32, 33, 34, 35, 36, 37, 38, 39, 40, 41] fun KR25 kr25 => ?_)))))
 refine wpS.tk 0 true (some 91) (.agg (enc .i32 r2).toArray) (yld_loadW (e := 26) (n := 256) hs 7 rfl (by kernel_rfl) (by kernel_rfl) (by kernel_rfl) (by exact enc_len _ _) .grow) ?_
 refine wpS.tk 1 true (some 92) (.agg (enc .i32 r5).toArray) (yld_loadW (e := 26) (n := 256) hs 6 rfl (by kernel_rfl) (by kernel_rfl) (by kernel_rfl) (by exact enc_len _ _) .grow) ?_
 rcases of_ifb h with ⟨hc, h⟩ | ⟨hc, h⟩
 ·refine wpS.tk 2 false (some 93) (.bool true) (yld_bb hc (yld_eqA (t := 26) (e := 21) (k := .i32) (.tmp 91) (.tmp 92) (by kernel_rfl) (by kernel_rfl) (by kernel_rfl) (by kernel_rfl) (by kernel_rfl) (by kernel_rfl))) ?_
  refine wpS.qs [(3, 94, .bool true), (4, 95, .int .i64 r3), (5, 96, .int .i64 r6)] ?_
  rcases of_if h with ⟨hc, h⟩ | ⟨hc, h⟩
  ·refine wpS.tk 6 false (some 97) (.bool true) (yld_b (et hc) (fun _ => by kernel_rfl)) ?_
   refine wpS.qs [(7, 98, .bool true), (8, 99, .bool true)] ?_
   refine wpS.tk 9 true (some 100) (.agg (enc .i32 r8).toArray) (yld_loadW (e := 26) (n := 256) hs 5 rfl (by kernel_rfl) (by kernel_rfl) (by kernel_rfl) (by exact enc_len _ _) .grow) ?_
   refine wpS.tk 10 true (some 101) (.agg (enc .i32 r11).toArray) (yld_loadW (e := 26) (n := 256) hs 4 rfl (by kernel_rfl) (by kernel_rfl) (by kernel_rfl) (by exact enc_len _ _) .grow) ?_
   rcases of_ifb h with ⟨hc, h⟩ | ⟨hc, h⟩
   ·refine wpS.tk 11 false (some 102) (.bool true) (yld_bb hc (yld_eqA (t := 26) (e := 21) (k := .i32) (.tmp 100) (.tmp 101) (by kernel_rfl) (by kernel_rfl) (by kernel_rfl) (by kernel_rfl) (by kernel_rfl) (by kernel_rfl))) ?_
    refine wpS.qs [(12, 103, .bool true), (13, 104, .bool true), (14, 105, .int .i64 r9), (15, 106, .int .i64 r12)] ?_
    rcases of_if h with ⟨hc, h⟩ | ⟨hc, h⟩
    ·refine wpS.tk 16 false (some 107) (.bool true) (yld_b (et hc) (fun _ => by kernel_rfl)) ?_
     refine wpS.qs [(17, 108, .bool true), (18, 109, .bool true)] ?_
     refine wpS.tk 19 true (some 110) (.agg (enc .i32 r14).toArray) (yld_loadW (e := 26) (n := 256) hs 3 rfl (by kernel_rfl) (by kernel_rfl) (by kernel_rfl) (by exact enc_len _ _) .grow) ?_
     refine wpS.tk 20 true (some 111) (.agg (enc .i32 r17).toArray) (yld_loadW (e := 26) (n := 256) hs 2 rfl (by kernel_rfl) (by kernel_rfl) (by kernel_rfl) (by exact enc_len _ _) .grow) ?_
     rcases of_ifb h with ⟨hc, h⟩ | ⟨hc, h⟩
     ·refine wpS.tk 21 false (some 112) (.bool true) (yld_bb hc (yld_eqA (t := 26) (e := 21) (k := .i32) (.tmp 110) (.tmp 111) (by kernel_rfl) (by kernel_rfl) (by kernel_rfl) (by kernel_rfl) (by kernel_rfl) (by kernel_rfl))) ?_
      refine wpS.qs [(22, 113, .bool true), (23, 114, .bool true), (24, 115, .int .i64 r15), (25, 116, .int .i64 r18)] ?_
      rcases of_if h with ⟨hc, h⟩ | ⟨hc, h⟩
      ·refine wpS.tk 26 false (some 117) (.bool true) (yld_b (et hc) (fun _ => by kernel_rfl)) ?_
       refine wpS.qs [(27, 118, .bool true), (28, 119, .bool true)] ?_
       refine wpS.tk 29 true (some 120) (.agg (enc .i32 r20).toArray) (yld_loadW (e := 26) (n := 256) hs 1 rfl (by kernel_rfl) (by kernel_rfl) (by kernel_rfl) (by exact enc_len _ _) .grow) ?_
       refine wpS.tk 30 true (some 121) (.agg (enc .i32 r23).toArray) (yld_loadW (e := 26) (n := 256) hs 0 rfl (by kernel_rfl) (by kernel_rfl) (by kernel_rfl) (by exact enc_len _ _) .grow) ?_
       rcases of_ifb h with ⟨hc, h⟩ | ⟨hc, h⟩
       ·refine wpS.tk 31 false (some 122) (.bool true) (yld_bb hc (yld_eqA (t := 26) (e := 21) (k := .i32) (.tmp 120) (.tmp 121) (by kernel_rfl) (by kernel_rfl) (by kernel_rfl) (by kernel_rfl) (by kernel_rfl) (by kernel_rfl))) ?_
        refine wpS.qs [(32, 123, .bool true), (33, 124, .bool true), (34, 125, .int .i64 r21), (35, 126, .int .i64 r24)] ?_
        rcases of_if h with ⟨hc, h⟩ | ⟨hc, h⟩
        ·refine wpS.tk 36 false (some 127) (.bool true) (yld_b (et hc) (fun _ => by kernel_rfl)) ?_
         refine wpS.qs [(37, 128, .bool true), (38, 129, .bool true)] ?_
         obtain ⟨r26, hg, h⟩ := of_bind h
         refine wpS.only 39 (op_call (d := (some 130)) (by kernel_rfl) hs (fun _ => by kernel_rfl) (law23_awake.ok hg _ (hs.rowR 1 rfl) (hs.rowR 2 rfl) (hs.rowR 3 rfl)) ?_)
         intro w gw hs
         refine ⟨fun _ => trivial, ?_⟩
         refine wpS.qs [(40, 131, .bool r26), (41, 10, .bool r26)] ?_
         refine wpS.fin rfl (kr25 _ _ (then_n (ks24 _ _ (xret ?_))))
         have q0 := of_some h
         subst q0
         exact qq _ _ (post_ret (by kernel_rfl) (run_results [.tmp 10] [.bool r26] (by kernel_rfl) (.cons (res_tmp (by kernel_rfl)) .nil)) ⟨congrArg Ending.returned (by kernel_rfl), hs.none⟩)
        refine wpS.tk 36 false (some 127) (.bool false) (yld_b (ef hc) (fun _ => by kernel_rfl)) ?_
        refine wpS.qs [(37, 128, .bool false), (38, 129, .bool false), (39, 130, undef), (40, 131, .bool false), (41, 10, .bool false)] ?_
        refine wpS.fin rfl (kr25 _ _ (then_n (ks24 _ _ (xret ?_))))
        have q0 := of_some h
        subst q0
        exact qq _ _ (post_ret (by kernel_rfl) (run_results [.tmp 10] [.bool false] (by kernel_rfl) (.cons (res_tmp (by kernel_rfl)) .nil)) ⟨congrArg Ending.returned (by kernel_rfl), hs.none⟩)
       refine wpS.tk 31 false (some 122) (.bool false) (yld_bb hc (yld_eqA (t := 26) (e := 21) (k := .i32) (.tmp 120) (.tmp 121) (by kernel_rfl) (by kernel_rfl) (by kernel_rfl) (by kernel_rfl) (by kernel_rfl) (by kernel_rfl))) ?_
       refine wpS.qs [(32, 123, .bool false), (33, 124, .bool false), (34, 125, undef), (35, 126, undef), (36, 127, undef), (37, 128, .bool false), (38, 129, .bool false), (39, 130, undef), (40, 131, .bool false), (41, 10, .bool false)] ?_
       refine wpS.fin rfl (kr25 _ _ (then_n (ks24 _ _ (xret ?_))))
       have q0 := of_some h
       subst q0
       exact qq _ _ (post_ret (by kernel_rfl) (run_results [.tmp 10] [.bool false] (by kernel_rfl) (.cons (res_tmp (by kernel_rfl)) .nil)) ⟨congrArg Ending.returned (by kernel_rfl), hs.none⟩)
      refine wpS.tk 26 false (some 117) (.bool false) (yld_b (ef hc) (fun _ => by kernel_rfl)) ?_
      refine wpS.qs [(27, 118, .bool false), (28, 119, .bool false), (29, 120, undef), (30, 121, undef), (31, 122, undef), (32, 123, .bool false), (33, 124, .bool false), (34, 125, undef), (35, 126, undef), (36, 127, undef), (37, 128, .bool false), (38, 129, .bool false), (39, 130, undef), (40, 131, .bool false), (41, 10, .bool false)] ?_
      refine wpS.fin rfl (kr25 _ _ (then_n (ks24 _ _ (xret ?_))))
      have q0 := of_some h
      subst q0
      exact qq _ _ (post_ret (by kernel_rfl) (run_results [.tmp 10] [.bool false] (by kernel_rfl) (.cons (res_tmp (by kernel_rfl)) .nil)) ⟨congrArg Ending.returned (by kernel_rfl), hs.none⟩)
     refine wpS.tk 21 false (some 112) (.bool false) (yld_bb hc (yld_eqA (t := 26) (e := 21) (k := .i32) (.tmp 110) (.tmp 111) (by kernel_rfl) (by kernel_rfl) (by kernel_rfl) (by kernel_rfl) (by kernel_rfl) (by kernel_rfl))) ?_
     refine wpS.qs [(22, 113, .bool false), (23, 114, .bool false), (24, 115, undef), (25, 116, undef), (26, 117, undef), (27, 118, .bool false), (28, 119, .bool false), (29, 120, undef), (30, 121, undef), (31, 122, undef), (32, 123, .bool false), (33, 124, .bool false), (34, 125, undef), (35, 126, undef), (36, 127, undef), (37, 128, .bool false), (38, 129, .bool false), (39, 130, undef), (40, 131, .bool false), (41, 10, .bool false)] ?_
     refine wpS.fin rfl (kr25 _ _ (then_n (ks24 _ _ (xret ?_))))
     have q0 := of_some h
     subst q0
     exact qq _ _ (post_ret (by kernel_rfl) (run_results [.tmp 10] [.bool false] (by kernel_rfl) (.cons (res_tmp (by kernel_rfl)) .nil)) ⟨congrArg Ending.returned (by kernel_rfl), hs.none⟩)
    refine wpS.tk 16 false (some 107) (.bool false) (yld_b (ef hc) (fun _ => by kernel_rfl)) ?_
    refine wpS.qs [(17, 108, .bool false), (18, 109, .bool false), (19, 110, undef), (20, 111, undef), (21, 112, undef), (22, 113, .bool false), (23, 114, .bool false), (24, 115, undef), (25, 116, undef), (26, 117, undef), (27, 118, .bool false), (28, 119, .bool false), (29, 120, undef), (30, 121, undef), (31, 122, undef), (32, 123, .bool false), (33, 124, .bool false), (34, 125, undef), (35, 126, undef), (36, 127, undef), (37, 128, .bool false), (38, 129, .bool false), (39, 130, undef), (40, 131, .bool false), (41, 10, .bool false)] ?_
    refine wpS.fin rfl (kr25 _ _ (then_n (ks24 _ _ (xret ?_))))
    have q0 := of_some h
    subst q0
    exact qq _ _ (post_ret (by kernel_rfl) (run_results [.tmp 10] [.bool false] (by kernel_rfl) (.cons (res_tmp (by kernel_rfl)) .nil)) ⟨congrArg Ending.returned (by kernel_rfl), hs.none⟩)
   refine wpS.tk 11 false (some 102) (.bool false) (yld_bb hc (yld_eqA (t := 26) (e := 21) (k := .i32) (.tmp 100) (.tmp 101) (by kernel_rfl) (by kernel_rfl) (by kernel_rfl) (by kernel_rfl) (by kernel_rfl) (by kernel_rfl))) ?_
   refine wpS.qs [(12, 103, .bool false), (13, 104, .bool false), (14, 105, undef), (15, 106, undef), (16, 107, undef), (17, 108, .bool false), (18, 109, .bool false), (19, 110, undef), (20, 111, undef), (21, 112, undef), (22, 113, .bool false), (23, 114, .bool false), (24, 115, undef), (25, 116, undef), (26, 117, undef), (27, 118, .bool false), (28, 119, .bool false), (29, 120, undef), (30, 121, undef), (31, 122, undef), (32, 123, .bool false), (33, 124, .bool false), (34, 125, undef), (35, 126, undef), (36, 127, undef), (37, 128, .bool false), (38, 129, .bool false), (39, 130, undef), (40, 131, .bool false), (41, 10, .bool false)] ?_
   refine wpS.fin rfl (kr25 _ _ (then_n (ks24 _ _ (xret ?_))))
   have q0 := of_some h
   subst q0
   exact qq _ _ (post_ret (by kernel_rfl) (run_results [.tmp 10] [.bool false] (by kernel_rfl) (.cons (res_tmp (by kernel_rfl)) .nil)) ⟨congrArg Ending.returned (by kernel_rfl), hs.none⟩)
  refine wpS.tk 6 false (some 97) (.bool false) (yld_b (ef hc) (fun _ => by kernel_rfl)) ?_
  refine wpS.qs [(7, 98, .bool false), (8, 99, .bool false), (9, 100, undef), (10, 101, undef), (11, 102, undef), (12, 103, .bool false), (13, 104, .bool false), (14, 105, undef), (15, 106, undef), (16, 107, undef), (17, 108, .bool false), (18, 109, .bool false), (19, 110, undef), (20, 111, undef), (21, 112, undef), (22, 113, .bool false), (23, 114, .bool false), (24, 115, undef), (25, 116, undef), (26, 117, undef), (27, 118, .bool false), (28, 119, .bool false), (29, 120, undef), (30, 121, undef), (31, 122, undef), (32, 123, .bool false), (33, 124, .bool false), (34, 125, undef), (35, 126, undef), (36, 127, undef), (37, 128, .bool false), (38, 129, .bool false), (39, 130, undef), (40, 131, .bool false), (41, 10, .bool false)] ?_
  refine wpS.fin rfl (kr25 _ _ (then_n (ks24 _ _ (xret ?_))))
  have q0 := of_some h
  subst q0
  exact qq _ _ (post_ret (by kernel_rfl) (run_results [.tmp 10] [.bool false] (by kernel_rfl) (.cons (res_tmp (by kernel_rfl)) .nil)) ⟨congrArg Ending.returned (by kernel_rfl), hs.none⟩)
 refine wpS.tk 2 false (some 93) (.bool false) (yld_bb hc (yld_eqA (t := 26) (e := 21) (k := .i32) (.tmp 91) (.tmp 92) (by kernel_rfl) (by kernel_rfl) (by kernel_rfl) (by kernel_rfl) (by kernel_rfl) (by kernel_rfl))) ?_
 refine wpS.qs [(3, 94, .bool false), (4, 95, undef), (5, 96, undef), (6, 97, undef), (7, 98, .bool false), (8, 99, .bool false), (9, 100, undef), (10, 101, undef), (11, 102, undef), (12, 103, .bool false), (13, 104, .bool false), (14, 105, undef), (15, 106, undef), (16, 107, undef), (17, 108, .bool false), (18, 109, .bool false), (19, 110, undef), (20, 111, undef), (21, 112, undef), (22, 113, .bool false), (23, 114, .bool false), (24, 115, undef), (25, 116, undef), (26, 117, undef), (27, 118, .bool false), (28, 119, .bool false), (29, 120, undef), (30, 121, undef), (31, 122, undef), (32, 123, .bool false), (33, 124, .bool false), (34, 125, undef), (35, 126, undef), (36, 127, undef), (37, 128, .bool false), (38, 129, .bool false), (39, 130, undef), (40, 131, .bool false), (41, 10, .bool false)] ?_
 refine wpS.fin rfl (kr25 _ _ (then_n (ks24 _ _ (xret ?_))))
 have q0 := of_some h
 subst q0
 exact qq _ _ (post_ret (by kernel_rfl) (run_results [.tmp 10] [.bool false] (by kernel_rfl) (.cons (res_tmp (by kernel_rfl)) .nil)) ⟨congrArg Ending.returned (by kernel_rfl), hs.none⟩)
end Go.Proofs.YtppohhnfojalbaaDoor
