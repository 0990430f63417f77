/- Printed by this work's own program: the code of each function below comes to the answer that its plain form tells. -/
import Derived.Test.YtppohhnfojalbaaDoorMd
import Derived.Test.YtppohhnfojalbaaDoorProg
import Derived.Test.YtppohhnfojalbaaDoorLDsampBounds
import Derived.Test.YtppohhnfojalbaaDoorVX0
import Derived.Test.YtppohhnfojalbaaDoorVX1
import Derived.Test.YtppohhnfojalbaaDoorVX10
import Derived.Test.YtppohhnfojalbaaDoorVX2
import Derived.Test.YtppohhnfojalbaaDoorVX3
import Derived.Test.YtppohhnfojalbaaDoorVX4
import Derived.Test.YtppohhnfojalbaaDoorVX8
set_option linter.unusedVariables false
set_option linter.unusedSimpArgs false
set_option maxRecDepth 100000
set_option maxHeartbeats 4000000
namespace Go.Proofs.YtppohhnfojalbaaDoor
open Go.Mx
attribute [local irreducible] wpOp

theorem law23_DsampBounds.ok {K : Nat} {a0 : List Int} {a1 : Int} {a2 : Bool} {a3 : Bool} {a4 : Int} {r0 : Bool} {a0_A : Option Addr} {a0_n : Nat} {a0_c : Nat} (h : law23_DsampBounds.f K a0 a1 a2 a3 a4 = some r0) (w0 : World) (hp0 : RowL (CI .u8) w0 a0_A a0_n a0_c a0) (hg0 : RowL (CA .u64 24 (by decide)) w0 (some ⟨0, 0, none⟩) 1 1 [tab_0]) (hg1 : RowL (CA .i64 24 (by decide)) w0 (some ⟨1, 0, none⟩) 1 1 [tab_1]) (hg2 : RowL (CA .i64 24 (by decide)) w0 (some ⟨2, 0, none⟩) 1 1 [tab_2]) : Ret Tryd.prog 4 #[.slice a0_A a0_n a0_c, .int .u16 a1, .bool a2, .bool a3, .int .u8 a4] w0 (.bool r0) := by
 refine calls_k Tryd.func4 rfl fun Q qq => ?_
 have hs := St.startR (all_cons (RowP.ent hp0) (all_cons (RowP.ent hg0) (all_cons (RowP.ent hg1) (all_cons (RowP.ent hg2) all_nil))))
 refine wp_conv (a' := ⟨#[.slice a0_A a0_n a0_c, .int .u16 a1, .bool a2, .bool a3, .int .u8 a4, undef, undef, undef, undef, undef, undef, undef, undef, undef, undef, undef, undef, undef, undef, undef, undef, undef, undef, undef, undef, undef, undef, undef, undef, undef, undef, undef, undef, undef, undef, undef, undef, undef, undef, undef, undef, undef, undef, undef, undef, undef, undef, undef, undef, undef, undef, undef, undef, undef, undef, undef, undef, undef, undef, undef, undef, undef, undef, undef, undef, undef, undef, undef, undef, undef, undef, undef, undef, undef, undef, undef, undef, undef, undef, undef, undef, undef, undef, undef, undef, undef, undef, undef, undef, undef, undef, undef, undef, undef, undef, undef, undef, undef, undef, undef, undef, undef, undef, undef, undef, undef, undef, undef, undef, undef, undef, undef, undef, undef, undef, undef, undef, undef, undef, undef, undef, undef, undef, undef, undef, undef, undef, undef, undef, undef, undef, undef, undef, undef, undef, undef, undef, undef, undef, undef, undef, undef, undef, undef, undef, undef, undef], []⟩) (by kernel_rfl) ?_
 refine xseq_k fun KS1 ks1 => ?_
 refine xregS [0] fun KR2 kr2 => ?_
 refine wpS.q 0 10 (.bool false) ?_
 refine wpS.fin rfl (kr2 _ _ (then_n (ks1 _ _ (xseq_k fun KS3 ks3 => (xseq_k fun KS4 ks4 => (xregS [0, 1, 2] fun KR5 kr5 => ?_))))))
 refine wpS.q 0 25 (.slice a0_A a0_n a0_c) ?_
 refine wpS.tk 1 false (some 26) (.int .i64 (a0.length : Int)) (yld_lenL (hs.rowR 0 rfl) (fun _ => by kernel_rfl)) ?_
 rcases of_if h with ⟨hc, h⟩ | ⟨hc, h⟩
 ·refine wpS.tk 2 false (some 27) (.bool true) (yld_b (dt hc) (fun _ => by kernel_rfl)) ?_
  refine wpS.fin rfl (kr5 _ _ (then_n (ks4 _ _ (wp_cond_t (by kernel_rfl) (xseq_k fun KS6 ks6 => (xregS [0, 1] fun KR7 kr7 => ?_))))))
  obtain ⟨r1, hg, h⟩ := of_bind h
  refine wpS.only 0 (op_call (d := (some 28)) (by kernel_rfl) hs (fun _ => by kernel_rfl) (law23_awake.ok hg _ (hs.rowR 1 rfl) (hs.rowR 2 rfl) (hs.rowR 3 rfl)) ?_)
  intro w gw hs
  refine ⟨fun _ => trivial, ?_⟩
  refine wpS.q 1 10 (.bool r1) ?_
  refine wpS.fin rfl (kr7 _ _ (then_n (ks6 _ _ (xret (then_r ?_)))))
  have q0 := of_some h
  subst q0
  exact qq _ _ (post_ret (by kernel_rfl) (run_results [.tmp 10] [.bool r1] (by kernel_rfl) (.cons (res_tmp (by kernel_rfl)) .nil)) ⟨congrArg Ending.returned (by kernel_rfl), hs.none⟩)
 refine wpS.tk 2 false (some 27) (.bool false) (yld_b (df hc) (fun _ => by kernel_rfl)) ?_
 refine wpS.fin rfl (kr5 _ _ (then_n (ks4 _ _ (wp_cond_f (by kernel_rfl) (xskip (then_n (ks3 _ _ (xseq_k fun KS8 ks8 => (xregS [0, 1] fun KR9 kr9 => ?_)))))))))
 refine wpS.qs [(0, 11, .int .i32 2), (1, 12, .int .i32 131072)] ?_
 refine wpS.fin rfl (kr9 _ _ (then_n (ks8 _ _ ?_)))
 obtain ⟨y2, hj, h⟩ := of_bind h
 refine xseq_k fun KS11 ks11 => wp_join (N := fun a w => St w0 [] [] [.rowL (CI .u8) a0_A a0_n a0_c a0, .rowL (CA .u64 24 (by decide)) (some ⟨0, 0, none⟩) 1 1 ([tab_0]), .rowL (CA .i64 24 (by decide)) (some ⟨1, 0, none⟩) 1 1 ([tab_1]), .rowL (CA .i64 24 (by decide)) (some ⟨2, 0, none⟩) 1 1 ([tab_2])] w ∧ ∃ g10 : Nat → Value, a = ⟨#[.slice a0_A a0_n a0_c, .int .u16 a1, .bool a2, .bool a3, .int .u8 a4, undef, undef, undef, undef, undef, .bool false, .int .i32 y2, .int .i32 131072, undef, undef, undef, undef, undef, undef, undef, undef, undef, undef, undef, undef, .slice a0_A a0_n a0_c, .int .i64 (a0.length : Int), .bool false, undef, (g10 29), undef, undef, undef, undef, undef, undef, undef, undef, undef, undef, undef, undef, undef, undef, undef, undef, undef, undef, undef, undef, undef, undef, undef, undef, undef, undef, undef, undef, undef, undef, undef, undef, undef, undef, undef, undef, undef, undef, undef, undef, undef, undef, undef, undef, undef, undef, undef, undef, undef, undef, undef, undef, undef, undef, undef, undef, undef, undef, undef, undef, undef, undef, undef, undef, undef, undef, undef, undef, undef, undef, undef, undef, undef, undef, undef, undef, undef, undef, undef, undef, undef, undef, undef, undef, undef, undef, undef, undef, undef, undef, undef, undef, undef, undef, undef, undef, undef, undef, undef, undef, undef, undef, undef, undef, undef, undef, undef, undef, undef, undef, undef, undef, undef, undef, undef, undef, undef], []⟩) (fun N nj => ?_) ?_
 ·clear h
  have h := hj
  refine xseq_k fun KS12 ks12 => ?_
  refine xregS [0] fun KR13 kr13 => ?_
  cases a2 with
  | true =>
   have h := of_if_t h
   refine wpS.q 0 29 (.bool true) ?_
   refine wpS.fin rfl (kr13 _ _ (then_n (ks12 _ _ (wp_cond_t (by kernel_rfl) (xregS [0] fun KR14 kr14 => ?_)))))
   refine wpS.q 0 11 (.int .i32 4) ?_
   refine wpS.fin rfl (kr14 _ _ ?_)
   have q0 := of_some h
   subst q0
   exact nj _ _ ⟨(hs.conv rfl), exg (by kernel_rfl)⟩
  | false =>
   have h := of_if_f h
   refine wpS.q 0 29 (.bool false) ?_
   refine wpS.fin rfl (kr13 _ _ (then_n (ks12 _ _ (wp_cond_f (by kernel_rfl) (xskip ?_)))))
   have q0 := of_some h
   subst q0
   exact nj _ _ ⟨(hs.conv rfl), exg (by kernel_rfl)⟩
 clear hj hs
 rintro a w ⟨hs, g10, rfl⟩
 refine then_n (ks11 _ _ ?_)
 obtain ⟨y3, hj, h⟩ := of_bind h
 refine xseq_k fun KS16 ks16 => wp_join (N := fun a w => St w0 [] [] [.rowL (CI .u8) a0_A a0_n a0_c a0, .rowL (CA .u64 24 (by decide)) (some ⟨0, 0, none⟩) 1 1 ([tab_0]), .rowL (CA .i64 24 (by decide)) (some ⟨1, 0, none⟩) 1 1 ([tab_1]), .rowL (CA .i64 24 (by decide)) (some ⟨2, 0, none⟩) 1 1 ([tab_2])] w ∧ ∃ g15 : Nat → Value, a = ⟨#[.slice a0_A a0_n a0_c, .int .u16 a1, .bool a2, .bool a3, .int .u8 a4, undef, undef, undef, undef, undef, .bool false, .int .i32 y2, .int .i32 y3, undef, undef, undef, undef, undef, undef, undef, undef, undef, undef, undef, undef, .slice a0_A a0_n a0_c, .int .i64 (a0.length : Int), .bool false, undef, (g10 29), (g15 30), undef, undef, undef, undef, undef, undef, undef, undef, undef, undef, undef, undef, undef, undef, undef, undef, undef, undef, undef, undef, undef, undef, undef, undef, undef, undef, undef, undef, undef, undef, undef, undef, undef, undef, undef, undef, undef, undef, undef, undef, undef, undef, undef, undef, undef, undef, undef, undef, undef, undef, undef, undef, undef, undef, undef, undef, undef, undef, undef, undef, undef, undef, undef, undef, undef, undef, undef, undef, undef, undef, undef, undef, undef, undef, undef, undef, undef, undef, undef, undef, undef, undef, undef, undef, undef, undef, undef, undef, undef, undef, undef, undef, undef, undef, undef, undef, undef, undef, undef, undef, undef, undef, undef, undef, undef, undef, undef, undef, undef, undef, undef, undef, undef, undef, undef, undef], []⟩) (fun N nj => ?_) ?_
 ·clear h
  have h := hj
  refine xseq_k fun KS17 ks17 => ?_
  refine xregS [0] fun KR18 kr18 => ?_
  cases a3 with
  | true =>
   have h := of_if_t h
   refine wpS.q 0 30 (.bool true) ?_
   refine wpS.fin rfl (kr18 _ _ (then_n (ks17 _ _ (wp_cond_t (by kernel_rfl) (xregS [0] fun KR19 kr19 => ?_)))))
   refine wpS.q 0 12 (.int .i32 524288) ?_
   refine wpS.fin rfl (kr19 _ _ ?_)
   have q0 := of_some h
   subst q0
   exact nj _ _ ⟨(hs.conv rfl), exg (by kernel_rfl)⟩
  | false =>
   have h := of_if_f h
   refine wpS.q 0 30 (.bool false) ?_
   refine wpS.fin rfl (kr18 _ _ (then_n (ks17 _ _ (wp_cond_f (by kernel_rfl) (xskip ?_)))))
   have q0 := of_some h
   subst q0
   exact nj _ _ ⟨(hs.conv rfl), exg (by kernel_rfl)⟩
 clear hj hs
 rintro a w ⟨hs, g15, rfl⟩
 refine then_n (ks16 _ _ (xseq_k fun KS20 ks20 => (xregS [0, 1, 2, 3, 4, 5, 6, 7, 8, 9, 10, 11, 12] fun KR21 kr21 => ?_)))
 refine wpS.qs [(0, 32, .slice a0_A a0_n a0_c), (1, 33, .int .u16 a1), (2, 34, .int .u8 (iconv .u8 a1)), (3, 35, .int .u16 a1), (4, 36, .int .u16 (ishr .u16 a1 8)), (5, 37, .int .u8 (iconv .u8 (ishr .u16 a1 8)))] ?_
 obtain ⟨⟨r4, r5⟩, hg, h⟩ := of_bind h
 refine wpS.only 6 (op_call (d := (some 38)) (by kernel_rfl) hs (fun _ => by kernel_rfl) (dsamp_Values.ok hg _ (hs.rowR 0 rfl) (hs.rowR 1 rfl) (hs.rowR 2 rfl) (hs.rowR 3 rfl)) ?_)
 intro w gw hs
 refine ⟨fun _ => trivial, ?_⟩
 refine wpS.qs [(7, 31, .tuple #[.agg (enc .i32 r4).toArray, .int .i64 r5]), (8, 39, .agg (enc .i32 r4).toArray), (9, 40, .int .i64 r5)] ?_
 refine wpS.only 10 (op_alloc (t := 26) (d := (some 13)) (by kernel_rfl) hs (enc .i32 (zeroA 256)) (.agg (enc .i32 (zeroA 256)).toArray) (by kernel_rfl) (by kernel_rfl) (by kernel_rfl) ?_)
 intro b6 w gw hs
 refine ⟨fun _ => trivial, ?_⟩
 refine wpS.only 11 (op_storeW (t := 26) (v := .agg (enc .i32 r4).toArray) (d := none) (by kernel_rfl) hs 0 rfl (vs := enc .i32 r4) (n := 256) (by kernel_rfl) (by kernel_rfl) (by kernel_rfl) (by simp [enc_len]) (by simp [enc_len]) (by intro u hu; exact enc_one _ _ u hu) ?_)
 intro w kp hs
 refine ⟨fun _ => trivial, ?_⟩
 refine wpS.q 12 14 (.int .i64 r5) ?_
 refine wpS.fin rfl (kr21 _ _ (then_n (ks20 _ _ (xseq_k fun KS22 ks22 => (xregS [0, 1, 2, 3, 4, 5, 6, 7, 8, 9] fun KR23 kr23 => ?_)))))
 refine wpS.qs [(0, 42, .slice a0_A a0_n a0_c), (1, 43, .int .u16 a1), (2, 44, .int .i32 y2)] ?_
 obtain ⟨⟨r7, r8⟩, hg, h⟩ := of_bind h
 refine wpS.only 3 (op_call (d := (some 45)) (by kernel_rfl) hs (fun _ => by kernel_rfl) (dsamp_Small.ok hg _ (hs.rowR 0 rfl) (hs.rowR 1 rfl) (hs.rowR 2 rfl) (hs.rowR 3 rfl)) ?_)
 intro w gw hs
 refine ⟨fun _ => trivial, ?_⟩
 refine wpS.qs [(4, 41, .tuple #[.agg (enc .i32 r7).toArray, .int .i64 r8]), (5, 46, .agg (enc .i32 r7).toArray), (6, 47, .int .i64 r8)] ?_
 refine wpS.only 7 (op_alloc (t := 26) (d := (some 15)) (by kernel_rfl) hs (enc .i32 (zeroA 256)) (.agg (enc .i32 (zeroA 256)).toArray) (by kernel_rfl) (by kernel_rfl) (by kernel_rfl) ?_)
 intro b9 w gw hs
 refine ⟨fun _ => trivial, ?_⟩
 refine wpS.only 8 (op_storeW (t := 26) (v := .agg (enc .i32 r7).toArray) (d := none) (by kernel_rfl) hs 0 rfl (vs := enc .i32 r7) (n := 256) (by kernel_rfl) (by kernel_rfl) (by kernel_rfl) (by simp [enc_len]) (by simp [enc_len]) (by intro u hu; exact enc_one _ _ u hu) ?_)
 intro w kp hs
 refine ⟨fun _ => trivial, ?_⟩
 refine wpS.q 9 16 (.int .i64 r8) ?_
 refine wpS.fin rfl (kr23 _ _ (then_n (ks22 _ _ (xseq_k fun KS24 ks24 => (xregS [0, 1, 2, 3, 4, 5, 6, 7, 8, 9] fun KR25 kr25 => ?_)))))
 refine wpS.qs [(0, 49, .slice a0_A a0_n a0_c), (1, 50, .int .u16 a1), (2, 51, .int .i32 y3)] ?_
 obtain ⟨⟨r10, r11⟩, hg, h⟩ := of_bind h
 refine wpS.only 3 (op_call (d := (some 52)) (by kernel_rfl) hs (fun _ => by kernel_rfl) (dsamp_Mask.ok hg _ (hs.rowR 0 rfl) (hs.rowR 1 rfl) (hs.rowR 2 rfl) (hs.rowR 3 rfl)) ?_)
 intro w gw hs
 refine ⟨fun _ => trivial, ?_⟩
 refine wpS.qs [(4, 48, .tuple #[.agg (enc .i32 r10).toArray, .int .i64 r11]), (5, 53, .agg (enc .i32 r10).toArray), (6, 54, .int .i64 r11)] ?_
 refine wpS.only 7 (op_alloc (t := 26) (d := (some 17)) (by kernel_rfl) hs (enc .i32 (zeroA 256)) (.agg (enc .i32 (zeroA 256)).toArray) (by kernel_rfl) (by kernel_rfl) (by kernel_rfl) ?_)
 intro b12 w gw hs
 refine ⟨fun _ => trivial, ?_⟩
 refine wpS.only 8 (op_storeW (t := 26) (v := .agg (enc .i32 r10).toArray) (d := none) (by kernel_rfl) hs 0 rfl (vs := enc .i32 r10) (n := 256) (by kernel_rfl) (by kernel_rfl) (by kernel_rfl) (by simp [enc_len]) (by simp [enc_len]) (by intro u hu; exact enc_one _ _ u hu) ?_)
 intro w kp hs
 refine ⟨fun _ => trivial, ?_⟩
 refine wpS.q 9 18 (.int .i64 r11) ?_
 refine wpS.fin rfl (kr25 _ _ (then_n (ks24 _ _ (xseq_k fun KS26 ks26 => (xregS [0, 1, 2, 3, 4] fun KR27 kr27 => ?_)))))
 refine wpS.qs [(0, 55, .int .u8 a4), (1, 56, .int .u8 (irem .u8 a4 64)), (2, 57, .int .i64 (iconv .i64 (irem .u8 a4 64))), (3, 58, .int .i64 (iadd .i64 1 (iconv .i64 (irem .u8 a4 64))))] ?_
 obtain ⟨x13, hx, h⟩ := of_bind h
 refine wpS.tk 4 false (some 19) (.int .i64 x13) (yld_int hx (fun _ => by kernel_rfl)) ?_
 refine wpS.fin rfl (kr27 _ _ (then_n (ks26 _ _ (xseq_k fun KS28 ks28 => (xregS [0, 1, 2, 3, 4, 5, 6, 7, 8] fun KR29 kr29 => ?_)))))
 refine wpS.qs [(0, 60, .slice a0_A a0_n a0_c), (1, 61, .int .i64 x13)] ?_
 obtain ⟨⟨r14, r15⟩, hg, h⟩ := of_bind h
 refine wpS.only 2 (op_call (d := (some 62)) (by kernel_rfl) hs (fun _ => by kernel_rfl) (dsamp_Ball.ok hg _ (hs.rowR 0 rfl) (hs.rowR 1 rfl) (hs.rowR 2 rfl) (hs.rowR 3 rfl)) ?_)
 intro w gw hs
 refine ⟨fun _ => trivial, ?_⟩
 refine wpS.qs [(3, 59, .tuple #[.agg (enc .i32 r14).toArray, .int .i64 r15]), (4, 63, .agg (enc .i32 r14).toArray), (5, 64, .int .i64 r15)] ?_
 refine wpS.only 6 (op_alloc (t := 26) (d := (some 20)) (by kernel_rfl) hs (enc .i32 (zeroA 256)) (.agg (enc .i32 (zeroA 256)).toArray) (by kernel_rfl) (by kernel_rfl) (by kernel_rfl) ?_)
 intro b16 w gw hs
 refine ⟨fun _ => trivial, ?_⟩
 refine wpS.only 7 (op_storeW (t := 26) (v := .agg (enc .i32 r14).toArray) (d := none) (by kernel_rfl) hs 0 rfl (vs := enc .i32 r14) (n := 256) (by kernel_rfl) (by kernel_rfl) (by kernel_rfl) (by simp [enc_len]) (by simp [enc_len]) (by intro u hu; exact enc_one _ _ u hu) ?_)
 intro w kp hs
 refine ⟨fun _ => trivial, ?_⟩
 refine wpS.q 8 21 (.int .i64 r15) ?_
 refine wpS.fin rfl (kr29 _ _ (then_n (ks28 _ _ (xseq_k fun KS30 ks30 => (xseq_k fun KS31 ks31 => (xregS [0, 1, 2, 3, 4, 5, 6, 7, 8, 9, 10, 11, 12, 13, 14, 15, 16, 17, 18, 19, 20, 21, 22, 23, 24, 25, 26, 27, 28, 29, 30, 31, 32, 33] fun KR32 kr32 => ?_))))))
 refine wpS.tk 0 true (some 65) (.agg (enc .i32 r4).toArray) (yld_loadW (e := 26) (n := 256) hs 3 rfl (by kernel_rfl) (by kernel_rfl) (by kernel_rfl) (by exact enc_len _ _) .grow) ?_
 obtain ⟨r17, hg, h⟩ := of_bind h
 cases r17 with
 | true =>
  have h := of_if_t h
  refine wpS.only 1 (op_call (d := (some 66)) (by kernel_rfl) hs (fun _ => by kernel_rfl) (ref21_Fit.ok hg _) ?_)
  intro w gw hs
  refine ⟨fun _ => trivial, ?_⟩
  refine wpS.qs [(2, 67, .bool false), (3, 68, .bool false)] ?_
  refine wpS.tk 4 true (some 69) (.agg (enc .i32 r7).toArray) (yld_loadW (e := 26) (n := 256) hs 2 rfl (by kernel_rfl) (by kernel_rfl) (by kernel_rfl) (by exact enc_len _ _) .grow) ?_
  obtain ⟨r18, hg, h⟩ := of_bind h
  cases r18 with
  | true =>
   have h := of_if_t h
   refine wpS.only 5 (op_call (d := (some 70)) (by kernel_rfl) hs (fun _ => by kernel_rfl) (ref21_Fit.ok hg _) ?_)
   intro w gw hs
   refine ⟨fun _ => trivial, ?_⟩
   refine wpS.qs [(6, 71, .bool false), (7, 72, .bool false), (8, 73, .bool false)] ?_
   refine wpS.tk 9 true (some 74) (.agg (enc .i32 r10).toArray) (yld_loadW (e := 26) (n := 256) hs 1 rfl (by kernel_rfl) (by kernel_rfl) (by kernel_rfl) (by exact enc_len _ _) .grow) ?_
   obtain ⟨r19, hg, h⟩ := of_bind h
   cases r19 with
   | true =>
    have h := of_if_t h
    refine wpS.only 10 (op_call (d := (some 75)) (by kernel_rfl) hs (fun _ => by kernel_rfl) (ref21_Fit.ok hg _) ?_)
    intro w gw hs
    refine ⟨fun _ => trivial, ?_⟩
    refine wpS.qs [(11, 76, .bool false), (12, 77, .bool false), (13, 78, .bool false)] ?_
    refine wpS.tk 14 true (some 79) (.agg (enc .i32 r14).toArray) (yld_loadW (e := 26) (n := 256) hs 0 rfl (by kernel_rfl) (by kernel_rfl) (by kernel_rfl) (by exact enc_len _ _) .grow) ?_
    obtain ⟨r20, hg, h⟩ := of_bind h
    cases r20 with
    | true =>
     have h := of_if_t h
     refine wpS.only 15 (op_call (d := (some 80)) (by kernel_rfl) hs (fun _ => by kernel_rfl) (ref21_Fit.ok hg _) ?_)
     intro w gw hs
     refine ⟨fun _ => trivial, ?_⟩
     refine wpS.qs [(16, 81, .bool false), (17, 82, .bool false), (18, 83, .bool false)] ?_
     refine wpS.tk 19 true (some 84) (.agg (enc .i32 r7).toArray) (yld_loadW (e := 26) (n := 256) hs 2 rfl (by kernel_rfl) (by kernel_rfl) (by kernel_rfl) (by exact enc_len _ _) .grow) ?_
     obtain ⟨r21, hg, h⟩ := of_bind h
     refine wpS.only 20 (op_call (d := (some 85)) (by kernel_rfl) hs (fun _ => by kernel_rfl) (ref21_Norm.ok hg _) ?_)
     intro w gw hs
     refine ⟨fun _ => trivial, ?_⟩
     refine wpS.q 21 86 (.int .i32 y2) ?_
     rcases of_if h with ⟨hc, h⟩ | ⟨hc, h⟩
     ·refine wpS.tk 22 false (some 87) (.bool true) (yld_b (dt hc) (fun _ => by kernel_rfl)) ?_
      refine wpS.qs [(23, 88, .bool true), (24, 89, .bool true), (25, 90, undef), (26, 91, undef), (27, 92, undef), (28, 93, undef), (29, 94, .bool true), (30, 95, .bool true), (31, 96, undef), (32, 97, undef), (33, 98, .bool true)] ?_
      refine wpS.fin rfl (kr32 _ _ (then_n (ks31 _ _ (wp_cond_t (by kernel_rfl) (xseq_k fun KS33 ks33 => (xregS [0] fun KR34 kr34 => ?_))))))
      refine wpS.q 0 10 (.bool false) ?_
      refine wpS.fin rfl (kr34 _ _ (then_n (ks33 _ _ (xret (then_r ?_)))))
      have q0 := of_some h
      subst q0
      exact qq _ _ (post_ret (by kernel_rfl) (run_results [.tmp 10] [.bool false] (by kernel_rfl) (.cons (res_tmp (by kernel_rfl)) .nil)) ⟨congrArg Ending.returned (by kernel_rfl), hs.none⟩)
     refine wpS.tk 22 false (some 87) (.bool false) (yld_b (df hc) (fun _ => by kernel_rfl)) ?_
     refine wpS.qs [(23, 88, .bool false), (24, 89, .bool false)] ?_
     refine wpS.tk 25 true (some 90) (.agg (enc .i32 r10).toArray) (yld_loadW (e := 26) (n := 256) hs 1 rfl (by kernel_rfl) (by kernel_rfl) (by kernel_rfl) (by exact enc_len _ _) .grow) ?_
     obtain ⟨r22, hg, h⟩ := of_bind h
     refine wpS.only 26 (op_call (d := (some 91)) (by kernel_rfl) hs (fun _ => by kernel_rfl) (ref21_Norm.ok hg _) ?_)
     intro w gw hs
     refine ⟨fun _ => trivial, ?_⟩
     refine wpS.q 27 92 (.int .i32 y3) ?_
     rcases of_if h with ⟨hc, h⟩ | ⟨hc, h⟩
     ·refine wpS.tk 28 false (some 93) (.bool true) (yld_b (dt hc) (fun _ => by kernel_rfl)) ?_
      refine wpS.qs [(29, 94, .bool true), (30, 95, .bool true), (31, 96, undef), (32, 97, undef), (33, 98, .bool true)] ?_
      refine wpS.fin rfl (kr32 _ _ (then_n (ks31 _ _ (wp_cond_t (by kernel_rfl) (xseq_k fun KS35 ks35 => (xregS [0] fun KR36 kr36 => ?_))))))
      refine wpS.q 0 10 (.bool false) ?_
      refine wpS.fin rfl (kr36 _ _ (then_n (ks35 _ _ (xret (then_r ?_)))))
      have q0 := of_some h
      subst q0
      exact qq _ _ (post_ret (by kernel_rfl) (run_results [.tmp 10] [.bool false] (by kernel_rfl) (.cons (res_tmp (by kernel_rfl)) .nil)) ⟨congrArg Ending.returned (by kernel_rfl), hs.none⟩)
     refine wpS.tk 28 false (some 93) (.bool false) (yld_b (df hc) (fun _ => by kernel_rfl)) ?_
     refine wpS.qs [(29, 94, .bool false), (30, 95, .bool false), (31, 96, .int .i64 r11)] ?_
     rcases of_if h with ⟨hc, h⟩ | ⟨hc, h⟩
     ·refine wpS.tk 32 false (some 97) (.bool false) (yld_b (nf hc) (fun _ => by kernel_rfl)) ?_
      refine wpS.q 33 98 (.bool false) ?_
      refine wpS.fin rfl (kr32 _ _ (then_n (ks31 _ _ (wp_cond_f (by kernel_rfl) (xskip (then_n (ks30 _ _ (xseq_k fun KS37 ks37 => (xregS [0] fun KR38 kr38 => ?_)))))))))
      refine wpS.q 0 22 (.int .i64 0) ?_
      refine wpS.fin rfl (kr38 _ _ (then_n (ks37 _ _ (xseq_k fun KS39 ks39 => (xseq_k fun KS40 ks40 => (xregS [0, 1] fun KR41 kr41 => ?_))))))
      refine wpS.tk 0 true (some 99) (.agg (enc .i32 r14).toArray) (yld_loadW (e := 26) (n := 256) hs 0 rfl (by kernel_rfl) (by kernel_rfl) (by kernel_rfl) (by exact enc_len _ _) .grow) ?_
      refine wpS.q 1 100 (.int .i64 0) ?_
      refine wpS.fin rfl (kr41 _ _ (then_n (ks40 _ _ ?_)))
      obtain ⟨y25, hy, hk0⟩ := of_bind h
      refine wp_exq (N := fun a w => St w0 [] [.blk b16 (enc .i32 r14) 26, .blk b12 (enc .i32 r10) 26, .blk b9 (enc .i32 r7) 26, .blk b6 (enc .i32 r4) 26] [.rowL (CI .u8) a0_A a0_n a0_c a0, .rowL (CA .u64 24 (by decide)) (some ⟨0, 0, none⟩) 1 1 ([tab_0]), .rowL (CA .i64 24 (by decide)) (some ⟨1, 0, none⟩) 1 1 ([tab_1]), .rowL (CA .i64 24 (by decide)) (some ⟨2, 0, none⟩) 1 1 ([tab_2])] w ∧ ∃ g43 : Nat → Value, a = ⟨#[.slice a0_A a0_n a0_c, .int .u16 a1, .bool a2, .bool a3, .int .u8 a4, undef, undef, undef, undef, undef, .bool false, .int .i32 y2, .int .i32 y3, .pointer (some ⟨b6, 0, none⟩), .int .i64 r5, .pointer (some ⟨b9, 0, none⟩), .int .i64 r8, .pointer (some ⟨b12, 0, none⟩), .int .i64 r11, .int .i64 x13, .pointer (some ⟨b16, 0, none⟩), .int .i64 r15, .int .i64 y25, undef, (g43 24), .slice a0_A a0_n a0_c, .int .i64 (a0.length : Int), .bool false, undef, (g10 29), (g15 30), .tuple #[.agg (enc .i32 r4).toArray, .int .i64 r5], .slice a0_A a0_n a0_c, .int .u16 a1, .int .u8 (iconv .u8 a1), .int .u16 a1, .int .u16 (ishr .u16 a1 8), .int .u8 (iconv .u8 (ishr .u16 a1 8)), .tuple #[.agg (enc .i32 r4).toArray, .int .i64 r5], .agg (enc .i32 r4).toArray, .int .i64 r5, .tuple #[.agg (enc .i32 r7).toArray, .int .i64 r8], .slice a0_A a0_n a0_c, .int .u16 a1, .int .i32 y2, .tuple #[.agg (enc .i32 r7).toArray, .int .i64 r8], .agg (enc .i32 r7).toArray, .int .i64 r8, .tuple #[.agg (enc .i32 r10).toArray, .int .i64 r11], .slice a0_A a0_n a0_c, .int .u16 a1, .int .i32 y3, .tuple #[.agg (enc .i32 r10).toArray, .int .i64 r11], .agg (enc .i32 r10).toArray, .int .i64 r11, .int .u8 a4, .int .u8 (irem .u8 a4 64), .int .i64 (iconv .i64 (irem .u8 a4 64)), .int .i64 (iadd .i64 1 (iconv .i64 (irem .u8 a4 64))), .tuple #[.agg (enc .i32 r14).toArray, .int .i64 r15], .slice a0_A a0_n a0_c, .int .i64 x13, .tuple #[.agg (enc .i32 r14).toArray, .int .i64 r15], .agg (enc .i32 r14).toArray, .int .i64 r15, .agg (enc .i32 r4).toArray, .bool true, .bool false, .bool false, .agg (enc .i32 r7).toArray, .bool true, .bool false, .bool false, .bool false, .agg (enc .i32 r10).toArray, .bool true, .bool false, .bool false, .bool false, .agg (enc .i32 r14).toArray, .bool true, .bool false, .bool false, .bool false, .agg (enc .i32 r7).toArray, .int .i32 r21, .int .i32 y2, .bool false, .bool false, .bool false, .agg (enc .i32 r10).toArray, .int .i32 r22, .int .i32 y3, .bool false, .bool false, .bool false, .int .i64 r11, .bool false, .bool false, .agg (enc .i32 r14).toArray, (g43 100), (g43 101), (g43 102), (g43 103), (g43 104), (g43 105), (g43 106), (g43 107), undef, undef, undef, undef, undef, undef, undef, undef, undef, undef, undef, undef, undef, undef, undef, undef, undef, undef, undef, undef, undef, undef, undef, undef, undef, undef, undef, undef, undef, undef, undef, undef, undef, undef, undef, undef, undef, undef, undef], []⟩) (fun N0 nn0 => ?_) ?_
      ·clear hk0
       refine xblock ?_
       refine wp_loop_k (fun n a w => ∃ z23 z24, law23_DsampBounds.l0 K n r14 z23 z24 = some y25 ∧ St w0 [] [.blk b16 (enc .i32 r14) 26, .blk b12 (enc .i32 r10) 26, .blk b9 (enc .i32 r7) 26, .blk b6 (enc .i32 r4) 26] [.rowL (CI .u8) a0_A a0_n a0_c a0, .rowL (CA .u64 24 (by decide)) (some ⟨0, 0, none⟩) 1 1 ([tab_0]), .rowL (CA .i64 24 (by decide)) (some ⟨1, 0, none⟩) 1 1 ([tab_1]), .rowL (CA .i64 24 (by decide)) (some ⟨2, 0, none⟩) 1 1 ([tab_2])] w ∧ ∃ g42 : Nat → Value, a = ⟨#[.slice a0_A a0_n a0_c, .int .u16 a1, .bool a2, .bool a3, .int .u8 a4, undef, undef, undef, undef, undef, .bool false, .int .i32 y2, .int .i32 y3, .pointer (some ⟨b6, 0, none⟩), .int .i64 r5, .pointer (some ⟨b9, 0, none⟩), .int .i64 r8, .pointer (some ⟨b12, 0, none⟩), .int .i64 r11, .int .i64 x13, .pointer (some ⟨b16, 0, none⟩), .int .i64 r15, .int .i64 z23, undef, (g42 24), .slice a0_A a0_n a0_c, .int .i64 (a0.length : Int), .bool false, undef, (g10 29), (g15 30), .tuple #[.agg (enc .i32 r4).toArray, .int .i64 r5], .slice a0_A a0_n a0_c, .int .u16 a1, .int .u8 (iconv .u8 a1), .int .u16 a1, .int .u16 (ishr .u16 a1 8), .int .u8 (iconv .u8 (ishr .u16 a1 8)), .tuple #[.agg (enc .i32 r4).toArray, .int .i64 r5], .agg (enc .i32 r4).toArray, .int .i64 r5, .tuple #[.agg (enc .i32 r7).toArray, .int .i64 r8], .slice a0_A a0_n a0_c, .int .u16 a1, .int .i32 y2, .tuple #[.agg (enc .i32 r7).toArray, .int .i64 r8], .agg (enc .i32 r7).toArray, .int .i64 r8, .tuple #[.agg (enc .i32 r10).toArray, .int .i64 r11], .slice a0_A a0_n a0_c, .int .u16 a1, .int .i32 y3, .tuple #[.agg (enc .i32 r10).toArray, .int .i64 r11], .agg (enc .i32 r10).toArray, .int .i64 r11, .int .u8 a4, .int .u8 (irem .u8 a4 64), .int .i64 (iconv .i64 (irem .u8 a4 64)), .int .i64 (iadd .i64 1 (iconv .i64 (irem .u8 a4 64))), .tuple #[.agg (enc .i32 r14).toArray, .int .i64 r15], .slice a0_A a0_n a0_c, .int .i64 x13, .tuple #[.agg (enc .i32 r14).toArray, .int .i64 r15], .agg (enc .i32 r14).toArray, .int .i64 r15, .agg (enc .i32 r4).toArray, .bool true, .bool false, .bool false, .agg (enc .i32 r7).toArray, .bool true, .bool false, .bool false, .bool false, .agg (enc .i32 r10).toArray, .bool true, .bool false, .bool false, .bool false, .agg (enc .i32 r14).toArray, .bool true, .bool false, .bool false, .bool false, .agg (enc .i32 r7).toArray, .int .i32 r21, .int .i32 y2, .bool false, .bool false, .bool false, .agg (enc .i32 r10).toArray, .int .i32 r22, .int .i32 y3, .bool false, .bool false, .bool false, .int .i64 r11, .bool false, .bool false, .agg (enc .i32 r14).toArray, .int .i64 z24, (g42 101), (g42 102), (g42 103), (g42 104), (g42 105), (g42 106), (g42 107), undef, undef, undef, undef, undef, undef, undef, undef, undef, undef, undef, undef, undef, undef, undef, undef, undef, undef, undef, undef, undef, undef, undef, undef, undef, undef, undef, undef, undef, undef, undef, undef, undef, undef, undef, undef, undef, undef, undef], []⟩) K ⟨0, 0, hy, hs.conv rfl, exg (by kernel_rfl)⟩ ?_
       clear hs h hy
       rintro n a w ⟨z23, z24, h, hs, g42, rfl⟩ KL0 kl0
       cases n with
       | zero => exact nomatch (show none = some _ from h)
       | succ n =>
        refine xseq_k fun KS44 ks44 => ?_
        refine xregS [0] fun KR45 kr45 => ?_
        rcases of_if h with ⟨hc, h⟩ | ⟨hc, h⟩
        ·refine wpS.tk 0 false (some 101) (.bool true) (yld_b (dt hc) (fun _ => by kernel_rfl)) ?_
         refine wpS.fin rfl (kr45 _ _ (then_n (ks44 _ _ (xseq_k fun KS46 ks46 => (wp_cond_t (by kernel_rfl) (xskip (then_n (ks46 _ _ ?_))))))))
         obtain ⟨y26, hj, h⟩ := of_bind h
         refine xseq_k fun KS48 ks48 => wp_join (N := fun a w => St w0 [] [.blk b16 (enc .i32 r14) 26, .blk b12 (enc .i32 r10) 26, .blk b9 (enc .i32 r7) 26, .blk b6 (enc .i32 r4) 26] [.rowL (CI .u8) a0_A a0_n a0_c a0, .rowL (CA .u64 24 (by decide)) (some ⟨0, 0, none⟩) 1 1 ([tab_0]), .rowL (CA .i64 24 (by decide)) (some ⟨1, 0, none⟩) 1 1 ([tab_1]), .rowL (CA .i64 24 (by decide)) (some ⟨2, 0, none⟩) 1 1 ([tab_2])] w ∧ ∃ g47 : Nat → Value, a = ⟨#[.slice a0_A a0_n a0_c, .int .u16 a1, .bool a2, .bool a3, .int .u8 a4, undef, undef, undef, undef, undef, .bool false, .int .i32 y2, .int .i32 y3, .pointer (some ⟨b6, 0, none⟩), .int .i64 r5, .pointer (some ⟨b9, 0, none⟩), .int .i64 r8, .pointer (some ⟨b12, 0, none⟩), .int .i64 r11, .int .i64 x13, .pointer (some ⟨b16, 0, none⟩), .int .i64 r15, .int .i64 y26, undef, (g47 24), .slice a0_A a0_n a0_c, .int .i64 (a0.length : Int), .bool false, undef, (g10 29), (g15 30), .tuple #[.agg (enc .i32 r4).toArray, .int .i64 r5], .slice a0_A a0_n a0_c, .int .u16 a1, .int .u8 (iconv .u8 a1), .int .u16 a1, .int .u16 (ishr .u16 a1 8), .int .u8 (iconv .u8 (ishr .u16 a1 8)), .tuple #[.agg (enc .i32 r4).toArray, .int .i64 r5], .agg (enc .i32 r4).toArray, .int .i64 r5, .tuple #[.agg (enc .i32 r7).toArray, .int .i64 r8], .slice a0_A a0_n a0_c, .int .u16 a1, .int .i32 y2, .tuple #[.agg (enc .i32 r7).toArray, .int .i64 r8], .agg (enc .i32 r7).toArray, .int .i64 r8, .tuple #[.agg (enc .i32 r10).toArray, .int .i64 r11], .slice a0_A a0_n a0_c, .int .u16 a1, .int .i32 y3, .tuple #[.agg (enc .i32 r10).toArray, .int .i64 r11], .agg (enc .i32 r10).toArray, .int .i64 r11, .int .u8 a4, .int .u8 (irem .u8 a4 64), .int .i64 (iconv .i64 (irem .u8 a4 64)), .int .i64 (iadd .i64 1 (iconv .i64 (irem .u8 a4 64))), .tuple #[.agg (enc .i32 r14).toArray, .int .i64 r15], .slice a0_A a0_n a0_c, .int .i64 x13, .tuple #[.agg (enc .i32 r14).toArray, .int .i64 r15], .agg (enc .i32 r14).toArray, .int .i64 r15, .agg (enc .i32 r4).toArray, .bool true, .bool false, .bool false, .agg (enc .i32 r7).toArray, .bool true, .bool false, .bool false, .bool false, .agg (enc .i32 r10).toArray, .bool true, .bool false, .bool false, .bool false, .agg (enc .i32 r14).toArray, .bool true, .bool false, .bool false, .bool false, .agg (enc .i32 r7).toArray, .int .i32 r21, .int .i32 y2, .bool false, .bool false, .bool false, .agg (enc .i32 r10).toArray, .int .i32 r22, .int .i32 y3, .bool false, .bool false, .bool false, .int .i64 r11, .bool false, .bool false, .agg (enc .i32 r14).toArray, .int .i64 z24, .bool true, (g47 102), (g47 103), (g47 104), (g47 105), (g47 106), (g42 107), undef, undef, undef, undef, undef, undef, undef, undef, undef, undef, undef, undef, undef, undef, undef, undef, undef, undef, undef, undef, undef, undef, undef, undef, undef, undef, undef, undef, undef, undef, undef, undef, undef, undef, undef, undef, undef, undef, undef], []⟩) (fun N nj => ?_) ?_
         ·clear h
          have h := hj
          refine xblock (xseq_k fun KS49 ks49 => (xregS [0, 1] fun KR50 kr50 => ?_))
          obtain ⟨h0, h⟩ := of_chk h
          obtain ⟨h1, h⟩ := of_chk h
          refine wpS.tk 0 false (some 102) (.int .i32 (rd r14 z24)) (yld_at (t := 26) (e := 21) (k' := .i64) (by kernel_rfl) (by kernel_rfl) (by kernel_rfl) (by kernel_rfl) h0 h1) ?_
          obtain ⟨x27, hx, h⟩ := of_bind h
          refine wpS.tk 1 false (some 24) (.int .i32 x27) (yld_int hx (fun _ => by kernel_rfl)) ?_
          refine wpS.fin rfl (kr50 _ _ (then_n (ks49 _ _ (xseq_k fun KS51 ks51 => (xregS [0, 1] fun KR52 kr52 => ?_)))))
          refine wpS.q 0 103 (.int .i32 x27) ?_
          rcases of_if h with ⟨hc, h⟩ | ⟨hc, h⟩
          ·refine wpS.tk 1 false (some 104) (.bool false) (yld_b (nf hc) (fun _ => by kernel_rfl)) ?_
           refine wpS.fin rfl (kr52 _ _ (then_n (ks51 _ _ (wp_cond_f (by kernel_rfl) (xskip (inBlock_n ?_))))))
           have q0 := of_some h
           subst q0
           exact nj _ _ ⟨(hs.conv rfl), exg (by kernel_rfl)⟩
          refine wpS.tk 1 false (some 104) (.bool true) (yld_b (nt hc) (fun _ => by kernel_rfl)) ?_
          refine wpS.fin rfl (kr52 _ _ (then_n (ks51 _ _ (wp_cond_t (by kernel_rfl) (xregS [0, 1, 2] fun KR53 kr53 => ?_)))))
          refine wpS.qs [(0, 105, .int .i64 z23), (1, 106, .int .i64 (iadd .i64 z23 1))] ?_
          obtain ⟨x28, hx, h⟩ := of_bind h
          refine wpS.tk 2 false (some 22) (.int .i64 x28) (yld_int hx (fun _ => by kernel_rfl)) ?_
          refine wpS.fin rfl (kr53 _ _ (inBlock_n ?_))
          have q0 := of_some h
          subst q0
          exact nj _ _ ⟨(hs.conv rfl), exg (by kernel_rfl)⟩
         clear hj hs
         rintro a w ⟨hs, g47, rfl⟩
         refine then_n (ks48 _ _ (xregS [0, 1] fun KR54 kr54 => ?_))
         refine wpS.qs [(0, 107, .int .i64 (iadd .i64 z24 1)), (1, 100, .int .i64 (iadd .i64 z24 1))] ?_
         refine wpS.fin rfl (kr54 _ _ ?_)
         exact then_n (kl0 _ _ ⟨n, Nat.lt_succ_self n, y26, (iadd .i64 z24 1), h, (hs.conv rfl), exg (by kernel_rfl)⟩)
        refine wpS.tk 0 false (some 101) (.bool false) (yld_b (df hc) (fun _ => by kernel_rfl)) ?_
        refine wpS.fin rfl (kr45 _ _ (then_n (ks44 _ _ (xseq_k fun KS55 ks55 => (wp_cond_f (by kernel_rfl) (xexit (then_x (then_x (inBlock_hit ?_)))))))))
        have q0 := of_some h
        subst q0
        exact exq_n (nn0 _ _ ⟨(hs.conv rfl), exg (by kernel_rfl)⟩)
      clear hs h hy
      rintro a w ⟨hs, g43, rfl⟩
      have h := hk0
      refine then_n (ks39 _ _ ?_)
      obtain ⟨tv57, hj, hk_57⟩ := of_bind h
      refine xseq_k fun KS57 ks57 => wp_exj (N := fun a w => tv57 = .inl () ∧ St w0 [] [.blk b16 (enc .i32 r14) 26, .blk b12 (enc .i32 r10) 26, .blk b9 (enc .i32 r7) 26, .blk b6 (enc .i32 r4) 26] [.rowL (CI .u8) a0_A a0_n a0_c a0, .rowL (CA .u64 24 (by decide)) (some ⟨0, 0, none⟩) 1 1 ([tab_0]), .rowL (CA .i64 24 (by decide)) (some ⟨1, 0, none⟩) 1 1 ([tab_1]), .rowL (CA .i64 24 (by decide)) (some ⟨2, 0, none⟩) 1 1 ([tab_2])] w ∧ ∃ g56 : Nat → Value, a = ⟨#[.slice a0_A a0_n a0_c, .int .u16 a1, .bool a2, .bool a3, .int .u8 a4, undef, undef, undef, undef, undef, (g56 10), .int .i32 y2, .int .i32 y3, .pointer (some ⟨b6, 0, none⟩), .int .i64 r5, .pointer (some ⟨b9, 0, none⟩), .int .i64 r8, .pointer (some ⟨b12, 0, none⟩), .int .i64 r11, .int .i64 x13, .pointer (some ⟨b16, 0, none⟩), .int .i64 r15, .int .i64 y25, undef, (g43 24), .slice a0_A a0_n a0_c, .int .i64 (a0.length : Int), .bool false, undef, (g10 29), (g15 30), .tuple #[.agg (enc .i32 r4).toArray, .int .i64 r5], .slice a0_A a0_n a0_c, .int .u16 a1, .int .u8 (iconv .u8 a1), .int .u16 a1, .int .u16 (ishr .u16 a1 8), .int .u8 (iconv .u8 (ishr .u16 a1 8)), .tuple #[.agg (enc .i32 r4).toArray, .int .i64 r5], .agg (enc .i32 r4).toArray, .int .i64 r5, .tuple #[.agg (enc .i32 r7).toArray, .int .i64 r8], .slice a0_A a0_n a0_c, .int .u16 a1, .int .i32 y2, .tuple #[.agg (enc .i32 r7).toArray, .int .i64 r8], .agg (enc .i32 r7).toArray, .int .i64 r8, .tuple #[.agg (enc .i32 r10).toArray, .int .i64 r11], .slice a0_A a0_n a0_c, .int .u16 a1, .int .i32 y3, .tuple #[.agg (enc .i32 r10).toArray, .int .i64 r11], .agg (enc .i32 r10).toArray, .int .i64 r11, .int .u8 a4, .int .u8 (irem .u8 a4 64), .int .i64 (iconv .i64 (irem .u8 a4 64)), .int .i64 (iadd .i64 1 (iconv .i64 (irem .u8 a4 64))), .tuple #[.agg (enc .i32 r14).toArray, .int .i64 r15], .slice a0_A a0_n a0_c, .int .i64 x13, .tuple #[.agg (enc .i32 r14).toArray, .int .i64 r15], .agg (enc .i32 r14).toArray, .int .i64 r15, .agg (enc .i32 r4).toArray, .bool true, .bool false, .bool false, .agg (enc .i32 r7).toArray, .bool true, .bool false, .bool false, .bool false, .agg (enc .i32 r10).toArray, .bool true, .bool false, .bool false, .bool false, .agg (enc .i32 r14).toArray, .bool true, .bool false, .bool false, .bool false, .agg (enc .i32 r7).toArray, .int .i32 r21, .int .i32 y2, .bool false, .bool false, .bool false, .agg (enc .i32 r10).toArray, .int .i32 r22, .int .i32 y3, .bool false, .bool false, .bool false, .int .i64 r11, .bool false, .bool false, .agg (enc .i32 r14).toArray, (g43 100), (g43 101), (g43 102), (g43 103), (g43 104), (g43 105), (g43 106), (g43 107), (g56 108), (g56 109), (g56 110), (g56 111), (g56 112), (g56 113), (g56 114), (g56 115), (g56 116), (g56 117), (g56 118), (g56 119), (g56 120), (g56 121), (g56 122), (g56 123), (g56 124), (g56 125), (g56 126), (g56 127), undef, undef, undef, undef, undef, undef, undef, undef, undef, undef, undef, undef, undef, undef, undef, undef, undef, undef, undef], []⟩) (fun N nj => ?_) ?_
      ·clear h
       have h := hj
       refine xseq_k fun KS58 ks58 => ?_
       refine xregS [0, 1, 2, 3, 4, 5, 6, 7, 8, 9, 10, 11, 12, 13, 14, 15, 16, 17, 18, 19] fun KR59 kr59 => ?_
       refine wpS.q 0 108 (.int .i64 r15) ?_
       rcases of_if h with ⟨hc, h⟩ | ⟨hc, h⟩
       ·refine wpS.tk 1 false (some 109) (.bool true) (yld_b (et hc) (fun _ => by kernel_rfl)) ?_
        refine wpS.qs [(2, 110, .bool true), (3, 111, .int .i64 y25), (4, 112, .int .i64 x13)] ?_
        rcases of_if h with ⟨hc, h⟩ | ⟨hc, h⟩
        ·refine wpS.tk 5 false (some 113) (.bool false) (yld_b (nf hc) (fun _ => by kernel_rfl)) ?_
         refine wpS.q 6 114 (.bool false) ?_
         refine wpS.tk 7 true (some 115) (.agg (enc .i32 r14).toArray) (yld_loadW (e := 26) (n := 256) hs 0 rfl (by kernel_rfl) (by kernel_rfl) (by kernel_rfl) (by exact enc_len _ _) .grow) ?_
         obtain ⟨r29, hg, h⟩ := of_bind h
         refine wpS.only 8 (op_call (d := (some 116)) (by kernel_rfl) hs (fun _ => by kernel_rfl) (ref21_Norm.ok hg _) ?_)
         intro w gw hs
         refine ⟨fun _ => trivial, ?_⟩
         rcases of_if h with ⟨hc, h⟩ | ⟨hc, h⟩
         ·refine wpS.tk 9 false (some 117) (.bool false) (yld_b (nf hc) (fun _ => by kernel_rfl)) ?_
          refine wpS.qs [(10, 118, .bool false), (11, 119, .bool false), (12, 120, .bool false), (13, 121, .int .i64 r15)] ?_
          rcases of_if h with ⟨hc, h⟩ | ⟨hc, h⟩
          ·refine wpS.tk 14 false (some 122) (.bool false) (yld_b (nf hc) (fun _ => by kernel_rfl)) ?_
           refine wpS.qs [(15, 123, .bool false), (16, 124, undef), (17, 125, undef), (18, 126, .bool false), (19, 127, .bool false)] ?_
           refine wpS.fin rfl (kr59 _ _ (then_n (ks58 _ _ (wp_cond_f (by kernel_rfl) (xskip ?_)))))
           have q0 := of_some h
           subst q0
           exact exj_n (nj _ _ ⟨rfl, (hs.conv rfl), exg (by kernel_rfl)⟩)
          refine wpS.tk 14 false (some 122) (.bool true) (yld_b (nt hc) (fun _ => by kernel_rfl)) ?_
          refine wpS.qs [(15, 123, .bool true), (16, 124, .int .i64 y25)] ?_
          rcases of_if h with ⟨hc, h⟩ | ⟨hc, h⟩
          ·refine wpS.tk 17 false (some 125) (.bool false) (yld_b (nf hc) (fun _ => by kernel_rfl)) ?_
           refine wpS.qs [(18, 126, .bool false), (19, 127, .bool false)] ?_
           refine wpS.fin rfl (kr59 _ _ (then_n (ks58 _ _ (wp_cond_f (by kernel_rfl) (xskip ?_)))))
           have q0 := of_some h
           subst q0
           exact exj_n (nj _ _ ⟨rfl, (hs.conv rfl), exg (by kernel_rfl)⟩)
          refine wpS.tk 17 false (some 125) (.bool true) (yld_b (nt hc) (fun _ => by kernel_rfl)) ?_
          refine wpS.qs [(18, 126, .bool true), (19, 127, .bool true)] ?_
          refine wpS.fin rfl (kr59 _ _ (then_n (ks58 _ _ (wp_cond_t (by kernel_rfl) (xseq_k fun KS60 ks60 => (xregS [0] fun KR61 kr61 => ?_))))))
          refine wpS.q 0 10 (.bool false) ?_
          refine wpS.fin rfl (kr61 _ _ (then_n (ks60 _ _ (xret ?_))))
          have q0 := of_some h
          subst q0
          have h := hk_57
          refine exj_r ?_
          refine then_r ?_
          have q0 := of_some h
          subst q0
          exact qq _ _ (post_ret (by kernel_rfl) (run_results [.tmp 10] [.bool false] (by kernel_rfl) (.cons (res_tmp (by kernel_rfl)) .nil)) ⟨congrArg Ending.returned (by kernel_rfl), hs.none⟩)
         refine wpS.tk 9 false (some 117) (.bool true) (yld_b (nt hc) (fun _ => by kernel_rfl)) ?_
         refine wpS.qs [(10, 118, .bool true), (11, 119, .bool true), (12, 120, .bool true), (13, 121, undef), (14, 122, undef), (15, 123, undef), (16, 124, undef), (17, 125, undef), (18, 126, undef), (19, 127, .bool true)] ?_
         refine wpS.fin rfl (kr59 _ _ (then_n (ks58 _ _ (wp_cond_t (by kernel_rfl) (xseq_k fun KS62 ks62 => (xregS [0] fun KR63 kr63 => ?_))))))
         refine wpS.q 0 10 (.bool false) ?_
         refine wpS.fin rfl (kr63 _ _ (then_n (ks62 _ _ (xret ?_))))
         have q0 := of_some h
         subst q0
         have h := hk_57
         refine exj_r ?_
         refine then_r ?_
         have q0 := of_some h
         subst q0
         exact qq _ _ (post_ret (by kernel_rfl) (run_results [.tmp 10] [.bool false] (by kernel_rfl) (.cons (res_tmp (by kernel_rfl)) .nil)) ⟨congrArg Ending.returned (by kernel_rfl), hs.none⟩)
        refine wpS.tk 5 false (some 113) (.bool true) (yld_b (nt hc) (fun _ => by kernel_rfl)) ?_
        refine wpS.qs [(6, 114, .bool true), (7, 115, undef), (8, 116, undef), (9, 117, undef), (10, 118, .bool true), (11, 119, .bool true), (12, 120, .bool true), (13, 121, undef), (14, 122, undef), (15, 123, undef), (16, 124, undef), (17, 125, undef), (18, 126, undef), (19, 127, .bool true)] ?_
        refine wpS.fin rfl (kr59 _ _ (then_n (ks58 _ _ (wp_cond_t (by kernel_rfl) (xseq_k fun KS64 ks64 => (xregS [0] fun KR65 kr65 => ?_))))))
        refine wpS.q 0 10 (.bool false) ?_
        refine wpS.fin rfl (kr65 _ _ (then_n (ks64 _ _ (xret ?_))))
        have q0 := of_some h
        subst q0
        have h := hk_57
        refine exj_r ?_
        refine then_r ?_
        have q0 := of_some h
        subst q0
        exact qq _ _ (post_ret (by kernel_rfl) (run_results [.tmp 10] [.bool false] (by kernel_rfl) (.cons (res_tmp (by kernel_rfl)) .nil)) ⟨congrArg Ending.returned (by kernel_rfl), hs.none⟩)
       refine wpS.tk 1 false (some 109) (.bool false) (yld_b (ef hc) (fun _ => by kernel_rfl)) ?_
       refine wpS.qs [(2, 110, .bool false), (3, 111, undef), (4, 112, undef), (5, 113, undef), (6, 114, undef), (7, 115, undef), (8, 116, undef), (9, 117, undef), (10, 118, undef), (11, 119, .bool false), (12, 120, .bool false), (13, 121, .int .i64 r15)] ?_
       rcases of_if h with ⟨hc, h⟩ | ⟨hc, h⟩
       ·refine wpS.tk 14 false (some 122) (.bool false) (yld_b (nf hc) (fun _ => by kernel_rfl)) ?_
        refine wpS.qs [(15, 123, .bool false), (16, 124, undef), (17, 125, undef), (18, 126, .bool false), (19, 127, .bool false)] ?_
        refine wpS.fin rfl (kr59 _ _ (then_n (ks58 _ _ (wp_cond_f (by kernel_rfl) (xskip ?_)))))
        have q0 := of_some h
        subst q0
        exact exj_n (nj _ _ ⟨rfl, (hs.conv rfl), exg (by kernel_rfl)⟩)
       refine wpS.tk 14 false (some 122) (.bool true) (yld_b (nt hc) (fun _ => by kernel_rfl)) ?_
       refine wpS.qs [(15, 123, .bool true), (16, 124, .int .i64 y25)] ?_
       rcases of_if h with ⟨hc, h⟩ | ⟨hc, h⟩
       ·refine wpS.tk 17 false (some 125) (.bool false) (yld_b (nf hc) (fun _ => by kernel_rfl)) ?_
        refine wpS.qs [(18, 126, .bool false), (19, 127, .bool false)] ?_
        refine wpS.fin rfl (kr59 _ _ (then_n (ks58 _ _ (wp_cond_f (by kernel_rfl) (xskip ?_)))))
        have q0 := of_some h
        subst q0
        exact exj_n (nj _ _ ⟨rfl, (hs.conv rfl), exg (by kernel_rfl)⟩)
       refine wpS.tk 17 false (some 125) (.bool true) (yld_b (nt hc) (fun _ => by kernel_rfl)) ?_
       refine wpS.qs [(18, 126, .bool true), (19, 127, .bool true)] ?_
       refine wpS.fin rfl (kr59 _ _ (then_n (ks58 _ _ (wp_cond_t (by kernel_rfl) (xseq_k fun KS66 ks66 => (xregS [0] fun KR67 kr67 => ?_))))))
       refine wpS.q 0 10 (.bool false) ?_
       refine wpS.fin rfl (kr67 _ _ (then_n (ks66 _ _ (xret ?_))))
       have q0 := of_some h
       subst q0
       have h := hk_57
       refine exj_r ?_
       refine then_r ?_
       have q0 := of_some h
       subst q0
       exact qq _ _ (post_ret (by kernel_rfl) (run_results [.tmp 10] [.bool false] (by kernel_rfl) (.cons (res_tmp (by kernel_rfl)) .nil)) ⟨congrArg Ending.returned (by kernel_rfl), hs.none⟩)
      clear hj hs
      rintro a w ⟨rfl, hs, g56, rfl⟩
      have h := hk_57
      refine then_n (ks57 _ _ (xseq_k fun KS68 ks68 => (xregS [0, 1, 2, 3, 4, 5, 6, 7, 8, 9, 10, 11, 12, 13, 14, 15, 16, 17, 18, 19] fun KR69 kr69 => ?_)))
      refine wpS.q 0 128 (.int .i64 r5) ?_
      rcases of_if h with ⟨hc, h⟩ | ⟨hc, h⟩
      ·refine wpS.tk 1 false (some 129) (.bool true) (yld_b (et hc) (fun _ => by kernel_rfl)) ?_
       refine wpS.qs [(2, 130, .bool true), (3, 131, undef), (4, 132, undef), (5, 133, undef), (6, 134, .bool true), (7, 135, .bool true), (8, 136, .int .i64 r8)] ?_
       rcases of_if h with ⟨hc, h⟩ | ⟨hc, h⟩
       ·refine wpS.tk 9 false (some 137) (.bool true) (yld_b (et hc) (fun _ => by kernel_rfl)) ?_
        refine wpS.qs [(10, 138, .bool true), (11, 139, undef), (12, 140, undef), (13, 141, undef), (14, 142, .bool true), (15, 143, .bool true), (16, 144, .bool true)] ?_
        obtain ⟨r30, hg, h⟩ := of_bind h
        refine wpS.only 17 (op_call (d := (some 145)) (by kernel_rfl) hs (fun _ => by kernel_rfl) (law23_awake.ok hg _ (hs.rowR 1 rfl) (hs.rowR 2 rfl) (hs.rowR 3 rfl)) ?_)
        intro w gw hs
        refine ⟨fun _ => trivial, ?_⟩
        refine wpS.qs [(18, 146, .bool r30), (19, 10, .bool r30)] ?_
        refine wpS.fin rfl (kr69 _ _ (then_n (ks68 _ _ (xret ?_))))
        have q0 := of_some h
        subst q0
        exact qq _ _ (post_ret (by kernel_rfl) (run_results [.tmp 10] [.bool r30] (by kernel_rfl) (.cons (res_tmp (by kernel_rfl)) .nil)) ⟨congrArg Ending.returned (by kernel_rfl), hs.none⟩)
       refine wpS.tk 9 false (some 137) (.bool false) (yld_b (ef hc) (fun _ => by kernel_rfl)) ?_
       refine wpS.q 10 138 (.bool false) ?_
       refine wpS.tk 11 true (some 139) (.agg (enc .i32 r7).toArray) (yld_loadW (e := 26) (n := 256) hs 2 rfl (by kernel_rfl) (by kernel_rfl) (by kernel_rfl) (by exact enc_len _ _) .grow) ?_
       refine wpS.q 12 140 (.agg (enc .i32 (zeroA 256)).toArray) ?_
       rcases of_ifb h with ⟨hc, h⟩ | ⟨hc, h⟩
       ·refine wpS.tk 13 false (some 141) (.bool true) (yld_bb hc (yld_eqA (t := 26) (e := 21) (k := .i32) (.tmp 139) (.tmp 140) (by kernel_rfl) (by kernel_rfl) (by kernel_rfl) (by kernel_rfl) (by kernel_rfl) (by kernel_rfl))) ?_
        refine wpS.qs [(14, 142, .bool true), (15, 143, .bool true), (16, 144, .bool true)] ?_
        obtain ⟨r31, hg, h⟩ := of_bind h
        refine wpS.only 17 (op_call (d := (some 145)) (by kernel_rfl) hs (fun _ => by kernel_rfl) (law23_awake.ok hg _ (hs.rowR 1 rfl) (hs.rowR 2 rfl) (hs.rowR 3 rfl)) ?_)
        intro w gw hs
        refine ⟨fun _ => trivial, ?_⟩
        refine wpS.qs [(18, 146, .bool r31), (19, 10, .bool r31)] ?_
        refine wpS.fin rfl (kr69 _ _ (then_n (ks68 _ _ (xret ?_))))
        have q0 := of_some h
        subst q0
        exact qq _ _ (post_ret (by kernel_rfl) (run_results [.tmp 10] [.bool r31] (by kernel_rfl) (.cons (res_tmp (by kernel_rfl)) .nil)) ⟨congrArg Ending.returned (by kernel_rfl), hs.none⟩)
       refine wpS.tk 13 false (some 141) (.bool false) (yld_bb hc (yld_eqA (t := 26) (e := 21) (k := .i32) (.tmp 139) (.tmp 140) (by kernel_rfl) (by kernel_rfl) (by kernel_rfl) (by kernel_rfl) (by kernel_rfl) (by kernel_rfl))) ?_
       refine wpS.qs [(14, 142, .bool false), (15, 143, .bool false), (16, 144, .bool false), (17, 145, undef), (18, 146, .bool false), (19, 10, .bool false)] ?_
       refine wpS.fin rfl (kr69 _ _ (then_n (ks68 _ _ (xret ?_))))
       have q0 := of_some h
       subst q0
       exact qq _ _ (post_ret (by kernel_rfl) (run_results [.tmp 10] [.bool false] (by kernel_rfl) (.cons (res_tmp (by kernel_rfl)) .nil)) ⟨congrArg Ending.returned (by kernel_rfl), hs.none⟩)
      refine wpS.tk 1 false (some 129) (.bool false) (yld_b (ef hc) (fun _ => by kernel_rfl)) ?_
      refine wpS.q 2 130 (.bool false) ?_
      refine wpS.tk 3 true (some 131) (.agg (enc .i32 r4).toArray) (yld_loadW (e := 26) (n := 256) hs 3 rfl (by kernel_rfl) (by kernel_rfl) (by kernel_rfl) (by exact enc_len _ _) .grow) ?_
      refine wpS.q 4 132 (.agg (enc .i32 (zeroA 256)).toArray) ?_
      rcases of_ifb h with ⟨hc, h⟩ | ⟨hc, h⟩
      ·refine wpS.tk 5 false (some 133) (.bool true) (yld_bb hc (yld_eqA (t := 26) (e := 21) (k := .i32) (.tmp 131) (.tmp 132) (by kernel_rfl) (by kernel_rfl) (by kernel_rfl) (by kernel_rfl) (by kernel_rfl) (by kernel_rfl))) ?_
       refine wpS.qs [(6, 134, .bool true), (7, 135, .bool true), (8, 136, .int .i64 r8)] ?_
       rcases of_if h with ⟨hc, h⟩ | ⟨hc, h⟩
       ·refine wpS.tk 9 false (some 137) (.bool true) (yld_b (et hc) (fun _ => by kernel_rfl)) ?_
        refine wpS.qs [(10, 138, .bool true), (11, 139, undef), (12, 140, undef), (13, 141, undef), (14, 142, .bool true), (15, 143, .bool true), (16, 144, .bool true)] ?_
        obtain ⟨r32, hg, h⟩ := of_bind h
        refine wpS.only 17 (op_call (d := (some 145)) (by kernel_rfl) hs (fun _ => by kernel_rfl) (law23_awake.ok hg _ (hs.rowR 1 rfl) (hs.rowR 2 rfl) (hs.rowR 3 rfl)) ?_)
        intro w gw hs
        refine ⟨fun _ => trivial, ?_⟩
        refine wpS.qs [(18, 146, .bool r32), (19, 10, .bool r32)] ?_
        refine wpS.fin rfl (kr69 _ _ (then_n (ks68 _ _ (xret ?_))))
        have q0 := of_some h
        subst q0
        exact qq _ _ (post_ret (by kernel_rfl) (run_results [.tmp 10] [.bool r32] (by kernel_rfl) (.cons (res_tmp (by kernel_rfl)) .nil)) ⟨congrArg Ending.returned (by kernel_rfl), hs.none⟩)
       refine wpS.tk 9 false (some 137) (.bool false) (yld_b (ef hc) (fun _ => by kernel_rfl)) ?_
       refine wpS.q 10 138 (.bool false) ?_
       refine wpS.tk 11 true (some 139) (.agg (enc .i32 r7).toArray) (yld_loadW (e := 26) (n := 256) hs 2 rfl (by kernel_rfl) (by kernel_rfl) (by kernel_rfl) (by exact enc_len _ _) .grow) ?_
       refine wpS.q 12 140 (.agg (enc .i32 (zeroA 256)).toArray) ?_
       rcases of_ifb h with ⟨hc, h⟩ | ⟨hc, h⟩
       ·refine wpS.tk 13 false (some 141) (.bool true) (yld_bb hc (yld_eqA (t := 26) (e := 21) (k := .i32) (.tmp 139) (.tmp 140) (by kernel_rfl) (by kernel_rfl) (by kernel_rfl) (by kernel_rfl) (by kernel_rfl) (by kernel_rfl))) ?_
        refine wpS.qs [(14, 142, .bool true), (15, 143, .bool true), (16, 144, .bool true)] ?_
        obtain ⟨r33, hg, h⟩ := of_bind h
        refine wpS.only 17 (op_call (d := (some 145)) (by kernel_rfl) hs (fun _ => by kernel_rfl) (law23_awake.ok hg _ (hs.rowR 1 rfl) (hs.rowR 2 rfl) (hs.rowR 3 rfl)) ?_)
        intro w gw hs
        refine ⟨fun _ => trivial, ?_⟩
        refine wpS.qs [(18, 146, .bool r33), (19, 10, .bool r33)] ?_
        refine wpS.fin rfl (kr69 _ _ (then_n (ks68 _ _ (xret ?_))))
        have q0 := of_some h
        subst q0
        exact qq _ _ (post_ret (by kernel_rfl) (run_results [.tmp 10] [.bool r33] (by kernel_rfl) (.cons (res_tmp (by kernel_rfl)) .nil)) ⟨congrArg Ending.returned (by kernel_rfl), hs.none⟩)
       refine wpS.tk 13 false (some 141) (.bool false) (yld_bb hc (yld_eqA (t := 26) (e := 21) (k := .i32) (.tmp 139) (.tmp 140) (by kernel_rfl) (by kernel_rfl) (by kernel_rfl) (by kernel_rfl) (by kernel_rfl) (by kernel_rfl))) ?_
       refine wpS.qs [(14, 142, .bool false), (15, 143, .bool false), (16, 144, .bool false), (17, 145, undef), (18, 146, .bool false), (19, 10, .bool false)] ?_
       refine wpS.fin rfl (kr69 _ _ (then_n (ks68 _ _ (xret ?_))))
       have q0 := of_some h
       subst q0
       exact qq _ _ (post_ret (by kernel_rfl) (run_results [.tmp 10] [.bool false] (by kernel_rfl) (.cons (res_tmp (by kernel_rfl)) .nil)) ⟨congrArg Ending.returned (by kernel_rfl), hs.none⟩)
      refine wpS.tk 5 false (some 133) (.bool false) (yld_bb hc (yld_eqA (t := 26) (e := 21) (k := .i32) (.tmp 131) (.tmp 132) (by kernel_rfl) (by kernel_rfl) (by kernel_rfl) (by kernel_rfl) (by kernel_rfl) (by kernel_rfl))) ?_
      refine wpS.qs [(6, 134, .bool false), (7, 135, .bool false), (8, 136, undef), (9, 137, undef), (10, 138, undef), (11, 139, undef), (12, 140, undef), (13, 141, undef), (14, 142, undef), (15, 143, .bool false), (16, 144, .bool false), (17, 145, undef), (18, 146, .bool false), (19, 10, .bool false)] ?_
      refine wpS.fin rfl (kr69 _ _ (then_n (ks68 _ _ (xret ?_))))
      have q0 := of_some h
      subst q0
      exact qq _ _ (post_ret (by kernel_rfl) (run_results [.tmp 10] [.bool false] (by kernel_rfl) (.cons (res_tmp (by kernel_rfl)) .nil)) ⟨congrArg Ending.returned (by kernel_rfl), hs.none⟩)
     refine wpS.tk 32 false (some 97) (.bool true) (yld_b (nt hc) (fun _ => by kernel_rfl)) ?_
     refine wpS.q 33 98 (.bool true) ?_
     refine wpS.fin rfl (kr32 _ _ (then_n (ks31 _ _ (wp_cond_t (by kernel_rfl) (xseq_k fun KS70 ks70 => (xregS [0] fun KR71 kr71 => ?_))))))
     refine wpS.q 0 10 (.bool false) ?_
     refine wpS.fin rfl (kr71 _ _ (then_n (ks70 _ _ (xret (then_r ?_)))))
     have q0 := of_some h
     subst q0
     exact qq _ _ (post_ret (by kernel_rfl) (run_results [.tmp 10] [.bool false] (by kernel_rfl) (.cons (res_tmp (by kernel_rfl)) .nil)) ⟨congrArg Ending.returned (by kernel_rfl), hs.none⟩)
    | false =>
     have h := of_if_f h
     refine wpS.only 15 (op_call (d := (some 80)) (by kernel_rfl) hs (fun _ => by kernel_rfl) (ref21_Fit.ok hg _) ?_)
     intro w gw hs
     refine ⟨fun _ => trivial, ?_⟩
     refine wpS.qs [(16, 81, .bool true), (17, 82, .bool true), (18, 83, .bool true), (19, 84, undef), (20, 85, undef), (21, 86, undef), (22, 87, undef), (23, 88, .bool true), (24, 89, .bool true), (25, 90, undef), (26, 91, undef), (27, 92, undef), (28, 93, undef), (29, 94, .bool true), (30, 95, .bool true), (31, 96, undef), (32, 97, undef), (33, 98, .bool true)] ?_
     refine wpS.fin rfl (kr32 _ _ (then_n (ks31 _ _ (wp_cond_t (by kernel_rfl) (xseq_k fun KS72 ks72 => (xregS [0] fun KR73 kr73 => ?_))))))
     refine wpS.q 0 10 (.bool false) ?_
     refine wpS.fin rfl (kr73 _ _ (then_n (ks72 _ _ (xret (then_r ?_)))))
     have q0 := of_some h
     subst q0
     exact qq _ _ (post_ret (by kernel_rfl) (run_results [.tmp 10] [.bool false] (by kernel_rfl) (.cons (res_tmp (by kernel_rfl)) .nil)) ⟨congrArg Ending.returned (by kernel_rfl), hs.none⟩)
   | false =>
    have h := of_if_f h
    refine wpS.only 10 (op_call (d := (some 75)) (by kernel_rfl) hs (fun _ => by kernel_rfl) (ref21_Fit.ok hg _) ?_)
    intro w gw hs
    refine ⟨fun _ => trivial, ?_⟩
    refine wpS.qs [(11, 76, .bool true), (12, 77, .bool true), (13, 78, .bool true), (14, 79, undef), (15, 80, undef), (16, 81, undef), (17, 82, .bool true), (18, 83, .bool true), (19, 84, undef), (20, 85, undef), (21, 86, undef), (22, 87, undef), (23, 88, .bool true), (24, 89, .bool true), (25, 90, undef), (26, 91, undef), (27, 92, undef), (28, 93, undef), (29, 94, .bool true), (30, 95, .bool true), (31, 96, undef), (32, 97, undef), (33, 98, .bool true)] ?_
    refine wpS.fin rfl (kr32 _ _ (then_n (ks31 _ _ (wp_cond_t (by kernel_rfl) (xseq_k fun KS74 ks74 => (xregS [0] fun KR75 kr75 => ?_))))))
    refine wpS.q 0 10 (.bool false) ?_
    refine wpS.fin rfl (kr75 _ _ (then_n (ks74 _ _ (xret (then_r ?_)))))
    have q0 := of_some h
    subst q0
    exact qq _ _ (post_ret (by kernel_rfl) (run_results [.tmp 10] [.bool false] (by kernel_rfl) (.cons (res_tmp (by kernel_rfl)) .nil)) ⟨congrArg Ending.returned (by kernel_rfl), hs.none⟩)
  | false =>
   have h := of_if_f h
   refine wpS.only 5 (op_call (d := (some 70)) (by kernel_rfl) hs (fun _ => by kernel_rfl) (ref21_Fit.ok hg _) ?_)
   intro w gw hs
   refine ⟨fun _ => trivial, ?_⟩
   refine wpS.qs [(6, 71, .bool true), (7, 72, .bool true), (8, 73, .bool true), (9, 74, undef), (10, 75, undef), (11, 76, undef), (12, 77, .bool true), (13, 78, .bool true), (14, 79, undef), (15, 80, undef), (16, 81, undef), (17, 82, .bool true), (18, 83, .bool true), (19, 84, undef), (20, 85, undef), (21, 86, undef), (22, 87, undef), (23, 88, .bool true), (24, 89, .bool true), (25, 90, undef), (26, 91, undef), (27, 92, undef), (28, 93, undef), (29, 94, .bool true), (30, 95, .bool true), (31, 96, undef), (32, 97, undef), (33, 98, .bool true)] ?_
   refine wpS.fin rfl (kr32 _ _ (then_n (ks31 _ _ (wp_cond_t (by kernel_rfl) (xseq_k fun KS76 ks76 => (xregS [0] fun KR77 kr77 => ?_))))))
   refine wpS.q 0 10 (.bool false) ?_
   refine wpS.fin rfl (kr77 _ _ (then_n (ks76 _ _ (xret (then_r ?_)))))
   have q0 := of_some h
   subst q0
   exact qq _ _ (post_ret (by kernel_rfl) (run_results [.tmp 10] [.bool false] (by kernel_rfl) (.cons (res_tmp (by kernel_rfl)) .nil)) ⟨congrArg Ending.returned (by kernel_rfl), hs.none⟩)
 | false =>
  have h := of_if_f h
  refine wpS.only 1 (op_call (d := (some 66)) (by kernel_rfl) hs (fun _ => by kernel_rfl) (ref21_Fit.ok hg _) ?_)
  intro w gw hs
  refine ⟨fun _ => trivial, ?_⟩
  refine wpS.qs [(2, 67, .bool true), (3, 68, .bool true), (4, 69, undef), (5, 70, undef), (6, 71, undef), (7, 72, .bool true), (8, 73, .bool true), (9, 74, undef), (10, 75, undef), (11, 76, undef), (12, 77, .bool true), (13, 78, .bool true), (14, 79, undef), (15, 80, undef), (16, 81, undef), (17, 82, .bool true), (18, 83, .bool true), (19, 84, undef), (20, 85, undef), (21, 86, undef), (22, 87, undef), (23, 88, .bool true), (24, 89, .bool true), (25, 90, undef), (26, 91, undef), (27, 92, undef), (28, 93, undef), (29, 94, .bool true), (30, 95, .bool true), (31, 96, undef), (32, 97, undef), (33, 98, .bool true)] ?_
  refine wpS.fin rfl (kr32 _ _ (then_n (ks31 _ _ (wp_cond_t (by kernel_rfl) (xseq_k fun KS78 ks78 => (xregS [0] fun KR79 kr79 => ?_))))))
  refine wpS.q 0 10 (.bool false) ?_
  refine wpS.fin rfl (kr79 _ _ (then_n (ks78 _ _ (xret (then_r ?_)))))
  have q0 := of_some h
  subst q0
  exact qq _ _ (post_ret (by kernel_rfl) (run_results [.tmp 10] [.bool false] (by kernel_rfl) (.cons (res_tmp (by kernel_rfl)) .nil)) ⟨congrArg Ending.returned (by kernel_rfl), hs.none⟩)
end Go.Proofs.YtppohhnfojalbaaDoor
