/- Printed by this work's own program: the code of each function below comes to the answer that its plain form tells. -/
import Derived.Test.YtppohhnfojalbaaDoorMd
import Derived.Test.YtppohhnfojalbaaDoorProg
import Derived.Test.YtppohhnfojalbaaDoorVF0
import Derived.Test.YtppohhnfojalbaaDoorVX0
import Derived.Test.YtppohhnfojalbaaDoorVX1
import Derived.Test.YtppohhnfojalbaaDoorVX2
set_option linter.unusedVariables false
set_option linter.unusedSimpArgs false
set_option maxRecDepth 100000
set_option maxHeartbeats 4000000
namespace Go.Proofs.YtppohhnfojalbaaDoor
open Go.Mx
attribute [local irreducible] wpOp

theorem dsamp_Ball.ok {K : Nat} {a0 : List Int} {a1 : Int} {r0 : Arr 256} {r1 : Int} {a0_A : Option Addr} {a0_n : Nat} {a0_c : Nat} (h : dsamp_Ball.f K a0 a1 = some (r0, r1)) (w0 : World) (hp0 : RowL (CI .u8) w0 a0_A a0_n a0_c a0) (hg0 : RowL (CA .u64 24 (by decide)) w0 (some ⟨0, 0, none⟩) 1 1 [tab_0]) (hg1 : RowL (CA .i64 24 (by decide)) w0 (some ⟨1, 0, none⟩) 1 1 [tab_1]) (hg2 : RowL (CA .i64 24 (by decide)) w0 (some ⟨2, 0, none⟩) 1 1 [tab_2]) : Ret Tryd.prog 12 #[.slice a0_A a0_n a0_c, .int .i64 a1] w0 (.tuple #[.agg (enc .i32 r0).toArray, .int .i64 r1]) := by
 refine calls_m Tryd.func12 rfl fun Q qq qn => ?_
 have hs := St.startR (all_cons (RowP.ent hp0) (all_cons (RowP.ent hg0) (all_cons (RowP.ent hg1) (all_cons (RowP.ent hg2) all_nil))))
 refine wp_conv (a' := ⟨#[.slice a0_A a0_n a0_c, .int .i64 a1, undef, undef, undef, undef, undef, undef, undef, undef, undef, undef, undef, undef, undef, undef, undef, undef, undef, undef, undef, undef, undef, undef, undef, undef, undef, undef, undef, undef, undef, undef, undef, undef, undef, undef, undef, undef, undef, undef, undef, undef, undef, undef, undef, undef, undef, undef, undef, undef, undef, undef, undef, undef, undef, undef, undef, undef, undef], []⟩) (by kernel_rfl) ?_
 refine xseq_k fun KS1 ks1 => ?_
 refine xregS [0, 1] fun KR2 kr2 => ?_
 refine wpS.only 0 (op_alloc (t := 26) (d := (some 4)) (by kernel_rfl) hs (enc .i32 (zeroA 256)) (.agg (enc .i32 (zeroA 256)).toArray) (by kernel_rfl) (by kernel_rfl) (by kernel_rfl) ?_)
 intro b1 w gw hs
 refine ⟨fun _ => trivial, ?_⟩
 refine wpS.only 1 (op_alloc (t := 27) (d := (some 5)) (by kernel_rfl) hs ([.int .i64 0]) (.int .i64 0) (by kernel_rfl) (by kernel_rfl) (by kernel_rfl) ?_)
 intro b2 w gw hs
 refine ⟨fun _ => trivial, ?_⟩
 refine wpS.fin rfl (kr2 _ _ (then_n (ks1 _ _ (xseq_k fun KS3 ks3 => (xseq_k fun KS4 ks4 => (xregS [0, 1, 2, 3, 4, 5] fun KR5 kr5 => ?_))))))
 refine wpS.q 0 13 (.int .i64 a1) ?_
 rcases of_if h with ⟨hc, h⟩ | ⟨hc, h⟩
 ·refine wpS.tk 1 false (some 14) (.bool true) (yld_b (dt hc) (fun _ => by kernel_rfl)) ?_
  refine wpS.qs [(2, 15, .bool true), (3, 16, undef), (4, 17, undef), (5, 18, .bool true)] ?_
  refine wpS.fin rfl (kr5 _ _ (then_n (ks4 _ _ (wp_cond_t (by kernel_rfl) (xseq_k fun KS6 ks6 => (xregS [0, 1, 2] fun KR7 kr7 => ?_))))))
  refine wpS.q 0 19 (.agg (enc .i32 (zeroA 256)).toArray) ?_
  refine wpS.only 1 (op_storeW (t := 26) (v := .agg (enc .i32 (zeroA 256)).toArray) (d := none) (by kernel_rfl) hs 1 rfl (vs := enc .i32 (zeroA 256)) (n := 256) (by kernel_rfl) (by kernel_rfl) (by kernel_rfl) (by simp [enc_len]) (by simp [enc_len]) (by intro u hu; exact enc_one _ _ u hu) ?_)
  intro w kp hs
  refine ⟨fun _ => trivial, ?_⟩
  refine wpS.only 2 (op_store1 (t := 27) (o := 0) (v := .int .i64 8) (d := none) (by kernel_rfl) hs 0 rfl (by kernel_rfl) rfl (by kernel_rfl) (by simp) ?_)
  intro w kp hs
  refine ⟨fun _ => trivial, ?_⟩
  refine wpS.fin rfl (kr7 _ _ (then_n (ks6 _ _ (xret (then_r ?_)))))
  obtain ⟨q0, qr0⟩ := Prod.mk.inj (of_some h)
  have q1 := qr0
  subst q0
  subst q1
  refine qq _ _ ?_
  exact leaves_end (run_results [.cell 4 26, .cell 5 27] [.agg (enc .i32 (zeroA 256)).toArray, .int .i64 8] (by kernel_rfl) (.cons (res_cellN (n := 256) hs 1 rfl (by kernel_rfl) (by kernel_rfl) (by kernel_rfl) (by exact enc_len _ _)) (.cons (res_cell1 hs 0 rfl (by kernel_rfl) (by kernel_rfl) rfl) .nil))) ⟨congrArg Ending.returned (by kernel_rfl), hs.none⟩
 refine wpS.tk 1 false (some 14) (.bool false) (yld_b (df hc) (fun _ => by kernel_rfl)) ?_
 refine wpS.qs [(2, 15, .bool false), (3, 16, .int .i64 a1)] ?_
 rcases of_if h with ⟨hc, h⟩ | ⟨hc, h⟩
 ·refine wpS.tk 4 false (some 17) (.bool true) (yld_b (dt hc) (fun _ => by kernel_rfl)) ?_
  refine wpS.q 5 18 (.bool true) ?_
  refine wpS.fin rfl (kr5 _ _ (then_n (ks4 _ _ (wp_cond_t (by kernel_rfl) (xseq_k fun KS8 ks8 => (xregS [0, 1, 2] fun KR9 kr9 => ?_))))))
  refine wpS.q 0 19 (.agg (enc .i32 (zeroA 256)).toArray) ?_
  refine wpS.only 1 (op_storeW (t := 26) (v := .agg (enc .i32 (zeroA 256)).toArray) (d := none) (by kernel_rfl) hs 1 rfl (vs := enc .i32 (zeroA 256)) (n := 256) (by kernel_rfl) (by kernel_rfl) (by kernel_rfl) (by simp [enc_len]) (by simp [enc_len]) (by intro u hu; exact enc_one _ _ u hu) ?_)
  intro w kp hs
  refine ⟨fun _ => trivial, ?_⟩
  refine wpS.only 2 (op_store1 (t := 27) (o := 0) (v := .int .i64 8) (d := none) (by kernel_rfl) hs 0 rfl (by kernel_rfl) rfl (by kernel_rfl) (by simp) ?_)
  intro w kp hs
  refine ⟨fun _ => trivial, ?_⟩
  refine wpS.fin rfl (kr9 _ _ (then_n (ks8 _ _ (xret (then_r ?_)))))
  obtain ⟨q0, qr0⟩ := Prod.mk.inj (of_some h)
  have q1 := qr0
  subst q0
  subst q1
  refine qq _ _ ?_
  exact leaves_end (run_results [.cell 4 26, .cell 5 27] [.agg (enc .i32 (zeroA 256)).toArray, .int .i64 8] (by kernel_rfl) (.cons (res_cellN (n := 256) hs 1 rfl (by kernel_rfl) (by kernel_rfl) (by kernel_rfl) (by exact enc_len _ _)) (.cons (res_cell1 hs 0 rfl (by kernel_rfl) (by kernel_rfl) rfl) .nil))) ⟨congrArg Ending.returned (by kernel_rfl), hs.none⟩
 refine wpS.tk 4 false (some 17) (.bool false) (yld_b (df hc) (fun _ => by kernel_rfl)) ?_
 refine wpS.q 5 18 (.bool false) ?_
 refine wpS.fin rfl (kr5 _ _ (then_n (ks4 _ _ (wp_cond_f (by kernel_rfl) (xskip (then_n (ks3 _ _ (xseq_k fun KS10 ks10 => (xregS [0, 1, 2, 3, 4, 5, 6, 7, 8, 9] fun KR11 kr11 => ?_)))))))))
 refine wpS.q 0 21 (.slice a0_A a0_n a0_c) ?_
 refine wpS.only 1 (op_lit (C := CS) (t := 55) (e := 22) (len := 1) (parts := #[(0, .slice a0_A a0_n a0_c)]) (l := ([(a0_A, a0_n, a0_c)] : List HS)) (d := (some 22)) (by kernel_rfl) hs (by kernel_rfl) (by kernel_rfl) (by kernel_rfl) (z := .slice none 0 0) (by kernel_rfl) rfl (by decide) (by decide) (by kernel_rfl) ?_)
 intro s3_A s3_n s3_c w gw hs
 refine ⟨fun _ => trivial, ?_⟩
 obtain ⟨⟨r4_0, r4_1, r4_2, r4_3⟩, hg, h⟩ := of_bind h
 refine wpS.only 2 (op_call (d := (some 23)) (by kernel_rfl) hs (fun _ => by kernel_rfl) (dsamp_sponge.ok hg _ (LLP.mk (hs.rowL 0 rfl) (inn_cons (hs.rowR 0 rfl) inn_nil)) (hs.rowR 1 rfl) (hs.rowR 2 rfl) (hs.rowR 3 rfl)) ?_)
 intro w gw hs
 refine ⟨fun _ => trivial, ?_⟩
 obtain ⟨⟨r5_0, r5_1, r5_2, r5_3, r6⟩, hg, h⟩ := of_bind h
 refine wpS.only 3 (op_callH (d := (some 24)) (by kernel_rfl) hs (fun _ => by kernel_rfl) (keccak_Squeeze.ok hg _ (hs.rowR 1 rfl) (hs.rowR 2 rfl) (hs.rowR 3 rfl)) ?_)
 rintro ⟨r6_A, r6_n, r6_c⟩ w gw hs
 have hs := hs.conv (L' := [.ownL (CI .u8) r6_A r6_n r6_c r6 5, .ownL CS s3_A s3_n s3_c ([(a0_A, a0_n, a0_c)] : List HS) 22, .blk b2 ([.int .i64 0]) 27, .blk b1 (enc .i32 (zeroA 256)) 26]) rfl
 refine ⟨fun _ => trivial, ?_⟩
 refine wpS.qs [(4, 20, .tuple #[.agg (([.int .i64 r5_0] : List Value) ++ enc .u64 r5_1 ++ ([.int .i64 r5_2, .bool r5_3] : List Value)).toArray, .slice r6_A r6_n r6_c]), (5, 25, .agg (([.int .i64 r5_0] : List Value) ++ enc .u64 r5_1 ++ ([.int .i64 r5_2, .bool r5_3] : List Value)).toArray), (6, 26, .slice r6_A r6_n r6_c)] ?_
 refine wpS.only 7 (op_alloc (t := 50) (d := (some 6)) (by kernel_rfl) hs (([.int .i64 0] : List Value) ++ enc .u64 (zeroA 25) ++ ([.int .i64 0, .bool false] : List Value)) (.agg (([.int .i64 0] : List Value) ++ enc .u64 (zeroA 25) ++ ([.int .i64 0, .bool false] : List Value)).toArray) (by kernel_rfl) (by kernel_rfl) (by kernel_rfl) ?_)
 intro b7 w gw hs
 refine ⟨fun _ => trivial, ?_⟩
 refine wpS.only 8 (op_storeW (t := 50) (v := .agg (([.int .i64 r5_0] : List Value) ++ enc .u64 r5_1 ++ ([.int .i64 r5_2, .bool r5_3] : List Value)).toArray) (d := none) (by kernel_rfl) hs 0 rfl (vs := ([.int .i64 r5_0] : List Value) ++ enc .u64 r5_1 ++ ([.int .i64 r5_2, .bool r5_3] : List Value)) (n := 28) (by kernel_rfl) (by kernel_rfl) (by kernel_rfl) (by simp [enc_len]) (by simp [enc_len]) (one_app (one_app (by simp [Value.oneCell']) (fun u hu => enc_one _ _ u hu)) (by simp [Value.oneCell'])) ?_)
 intro w kp hs
 refine ⟨fun _ => trivial, ?_⟩
 refine wpS.q 9 7 (.slice r6_A r6_n r6_c) ?_
 refine wpS.fin rfl (kr11 _ _ (then_n (ks10 _ _ (xseq_k fun KS12 ks12 => (xregS [0, 1, 2, 3] fun KR13 kr13 => ?_)))))
 refine wpS.q 0 27 (.slice r6_A r6_n r6_c) ?_
 obtain ⟨r8, hg, h⟩ := of_bind h
 refine wpS.only 1 (op_call (d := (some 28)) (by kernel_rfl) hs (fun _ => by kernel_rfl) (bits_NumLe.ok hg _ (hs.rowL 1 rfl)) ?_)
 intro w gw hs
 refine ⟨fun _ => trivial, ?_⟩
 refine wpS.only 2 (op_alloc (t := 47) (d := (some 8)) (by kernel_rfl) hs ([.int .u64 0]) (.int .u64 0) (by kernel_rfl) (by kernel_rfl) (by kernel_rfl) ?_)
 intro b9 w gw hs
 refine ⟨fun _ => trivial, ?_⟩
 refine wpS.only 3 (op_store1 (t := 47) (o := 0) (v := .int .u64 r8) (d := none) (by kernel_rfl) hs 0 rfl (by kernel_rfl) rfl (by kernel_rfl) (by simp) ?_)
 intro w kp hs
 refine ⟨fun _ => trivial, ?_⟩
 refine wpS.fin rfl (kr13 _ _ (then_n (ks12 _ _ (xseq_k fun KS14 ks14 => (xregS [0] fun KR15 kr15 => ?_)))))
 refine wpS.only 0 (op_alloc (t := 26) (d := (some 9)) (by kernel_rfl) hs (enc .i32 (zeroA 256)) (.agg (enc .i32 (zeroA 256)).toArray) (by kernel_rfl) (by kernel_rfl) (by kernel_rfl) ?_)
 intro b10 w gw hs
 refine ⟨fun _ => trivial, ?_⟩
 refine wpS.fin rfl (kr15 _ _ (then_n (ks14 _ _ (xseq_k fun KS16 ks16 => (xregS [0, 1, 2, 3] fun KR17 kr17 => ?_)))))
 refine wpS.qs [(0, 29, .int .i64 a1), (1, 30, .int .i64 (isub .i64 256 a1))] ?_
 refine wpS.only 2 (op_alloc (t := 3) (d := (some 10)) (by kernel_rfl) hs ([.int .i64 0]) (.int .i64 0) (by kernel_rfl) (by kernel_rfl) (by kernel_rfl) ?_)
 intro b11 w gw hs
 refine ⟨fun _ => trivial, ?_⟩
 obtain ⟨x12, hx, h⟩ := of_bind h
 refine wpS.only 3 (op_store1 (t := 3) (o := 0) (v := .int .i64 x12) (d := none) (by kernel_rfl) hs 0 rfl (by cases hx; kernel_rfl) rfl (by kernel_rfl) (by simp) ?_)
 intro w kp hs
 refine ⟨fun _ => trivial, ?_⟩
 refine wpS.fin rfl (kr17 _ _ (then_n (ks16 _ _ (xseq_k fun KS18 ks18 => (xseq_k fun KS19 ks19 => (xregS [0, 1] fun KR20 kr20 => ?_))))))
 refine wpS.tk 0 true (some 31) (.agg (([.int .i64 r5_0] : List Value) ++ enc .u64 r5_1 ++ ([.int .i64 r5_2, .bool r5_3] : List Value)).toArray) (yld_loadW (e := 50) (n := 28) hs 3 rfl (by kernel_rfl) (by kernel_rfl) (by kernel_rfl) (by simp [enc_len]) .grow) ?_
 refine wpS.only 1 (op_inline (d := (some 32)) (f := 16) (args := #[.agg (([.int .i64 r5_0] : List Value) ++ enc .u64 r5_1 ++ ([.int .i64 r5_2, .bool r5_3] : List Value)).toArray, .int .i64 4096]) (by kernel_rfl) (fun _ => by kernel_rfl) fun R21 kI21 => ?_)
 refine calls_k Tryd.func16 rfl fun Q21 qq21 => ?_
 refine wp_conv (a' := ⟨#[.agg (([.int .i64 r5_0] : List Value) ++ enc .u64 r5_1 ++ ([.int .i64 r5_2, .bool r5_3] : List Value)).toArray, .int .i64 4096, undef, undef, undef, undef], []⟩) (by kernel_rfl) ?_
 refine xseq_k fun KS22 ks22 => ?_
 refine xregS [0, 1, 2] fun KR23 kr23 => ?_
 refine wpS.only 0 (op_box (t := 50) (v := .agg (([.int .i64 r5_0] : List Value) ++ enc .u64 r5_1 ++ ([.int .i64 r5_2, .bool r5_3] : List Value)).toArray) (d := (some 2)) (by kernel_rfl) hs (([.int .i64 r5_0] : List Value) ++ enc .u64 r5_1 ++ ([.int .i64 r5_2, .bool r5_3] : List Value)) (by kernel_rfl) (by kernel_rfl) ?_)
 intro b13 w gw hs
 refine ⟨fun _ => trivial, ?_⟩
 refine wpS.only 1 (op_box (t := 3) (v := .int .i64 4096) (d := (some 3)) (by kernel_rfl) hs ([.int .i64 4096]) (by kernel_rfl) (by kernel_rfl) ?_)
 intro b14 w gw hs
 refine ⟨fun _ => trivial, ?_⟩
 refine wpS.q 2 4 (.nilFunc) ?_
 refine wpS.fin rfl (kr23 _ _ (then_n (ks22 _ _ (xseq_k fun KS24 ks24 => (xregS [0, 1] fun KR25 kr25 => ?_)))))
 refine wpS.qs [(0, 5, .func (.func 32) #[] #[.pointer (some ⟨b14, 0, none⟩), .pointer (some ⟨b13, 0, none⟩)]), (1, 4, .func (.func 32) #[] #[.pointer (some ⟨b14, 0, none⟩), .pointer (some ⟨b13, 0, none⟩)])] ?_
 refine wpS.fin rfl (kr25 _ _ (then_n (ks24 _ _ (xret ?_))))
 refine qq21 _ _ (post_ret (by kernel_rfl) (run_results [.tmp 4] [.func (.func 32) #[] #[.pointer (some ⟨b14, 0, none⟩), .pointer (some ⟨b13, 0, none⟩)]] (by kernel_rfl) (.cons (res_tmp (by kernel_rfl)) .nil)) ?_)
 refine kI21 _ _ ?_
 refine ⟨fun _ => trivial, ?_⟩
 refine wpS.fin rfl (kr20 _ _ (then_n (ks19 _ _ (xblock ?_))))
 refine wp_range (gf := 32) (lb := #[.pointer (some ⟨b14, 0, none⟩), .pointer (some ⟨b13, 0, none⟩)]) hs (by kernel_rfl) (fun _ _ => by kernel_rfl) fun l26 D26 rec26 w hok26 hs R26 kR26 => ?_
 refine calls_kn Tryd.func32 rfl fun Q26 qq26 qn26 => ?_
 refine wp_conv (a' := ⟨#[.func (.yield l26) #[] #[], .pointer (some ⟨b14, 0, none⟩), .pointer (some ⟨b13, 0, none⟩), undef, undef, undef, undef, undef, undef, undef, undef, undef, undef, undef, undef, undef, undef, undef, undef, undef, undef, undef, undef, undef, undef, undef, undef, undef, undef, undef, undef], []⟩) (by kernel_rfl) ?_
 refine xseq_k fun KS27 ks27 => ?_
 refine xregS [0, 1] fun KR28 kr28 => ?_
 refine wpS.tk 0 true (some 8) (.int .i64 4096) (yld_load1 (e := 3) (o := 0) hs 2 rfl (by kernel_rfl) (by kernel_rfl) (by rfl) .grow) ?_
 refine wpS.q 1 4 (.int .i64 4096) ?_
 refine wpS.fin rfl (kr28 _ _ (then_n (ks27 _ _ ?_)))
 obtain ⟨t0, hy, hk0⟩ := of_bind h
 refine wp_exq (N := fun a w => ∃ y22_0 y22_1 y22_2 y22_3 y23 y24 y25 y26 y27, t0 = .inl (y22_0, y22_1, y22_2, y22_3, y23, y24, y25, y26, y27) ∧ St w0 [] [.obj l26 (.loop (rec26 .ready none)), .obj D26 (.deferred (some [])), .blk b14 ([.int .i64 4096]) 3, .blk b13 (([.int .i64 y22_0] : List Value) ++ enc .u64 y22_1 ++ ([.int .i64 y22_2, .bool y22_3] : List Value)) 50, .blk b11 ([.int .i64 y23]) 3, .blk b10 (enc .i32 y24) 26, .blk b9 ([.int .u64 y25]) 47, .blk b7 (([.int .i64 r5_0] : List Value) ++ enc .u64 r5_1 ++ ([.int .i64 r5_2, .bool r5_3] : List Value)) 50, .ownL (CI .u8) r6_A r6_n r6_c r6 5, .ownL CS s3_A s3_n s3_c ([(a0_A, a0_n, a0_c)] : List HS) 22, .blk b2 ([.int .i64 y26]) 27, .blk b1 (enc .i32 y27) 26] [.rowL (CI .u8) a0_A a0_n a0_c a0, .rowL (CA .u64 24 (by decide)) (some ⟨0, 0, none⟩) 1 1 ([tab_0]), .rowL (CA .i64 24 (by decide)) (some ⟨1, 0, none⟩) 1 1 ([tab_1]), .rowL (CA .i64 24 (by decide)) (some ⟨2, 0, none⟩) 1 1 ([tab_2])] w ∧ ∃ g30 : Nat → Value, a = ⟨#[.func (.yield l26) #[] #[], .pointer (some ⟨b14, 0, none⟩), .pointer (some ⟨b13, 0, none⟩), undef, (g30 4), (g30 5), undef, (g30 7), .int .i64 4096, (g30 9), (g30 10), (g30 11), (g30 12), (g30 13), (g30 14), (g30 15), (g30 16), (g30 17), (g30 18), (g30 19), (g30 20), (g30 21), (g30 22), (g30 23), (g30 24), (g30 25), (g30 26), (g30 27), (g30 28), (g30 29), (g30 30)], []⟩) (fun N0 nn0 => ?_) ?_
 ·refine xblock ?_
  refine wp_loop_k (fun n a w => ∃ z15 z16_0 z16_1 z16_2 z16_3 z17 z18 z19 z20 z21, dsamp_Ball.l0 K n z15 z16_0 z16_1 z16_2 z16_3 z17 z18 z19 z20 z21 = some t0 ∧ St w0 [] [.obj l26 (.loop (rec26 .ready none)), .obj D26 (.deferred (some [])), .blk b14 ([.int .i64 4096]) 3, .blk b13 (([.int .i64 z16_0] : List Value) ++ enc .u64 z16_1 ++ ([.int .i64 z16_2, .bool z16_3] : List Value)) 50, .blk b11 ([.int .i64 z17]) 3, .blk b10 (enc .i32 z18) 26, .blk b9 ([.int .u64 z19]) 47, .blk b7 (([.int .i64 r5_0] : List Value) ++ enc .u64 r5_1 ++ ([.int .i64 r5_2, .bool r5_3] : List Value)) 50, .ownL (CI .u8) r6_A r6_n r6_c r6 5, .ownL CS s3_A s3_n s3_c ([(a0_A, a0_n, a0_c)] : List HS) 22, .blk b2 ([.int .i64 z20]) 27, .blk b1 (enc .i32 z21) 26] [.rowL (CI .u8) a0_A a0_n a0_c a0, .rowL (CA .u64 24 (by decide)) (some ⟨0, 0, none⟩) 1 1 ([tab_0]), .rowL (CA .i64 24 (by decide)) (some ⟨1, 0, none⟩) 1 1 ([tab_1]), .rowL (CA .i64 24 (by decide)) (some ⟨2, 0, none⟩) 1 1 ([tab_2])] w ∧ ∃ g29 : Nat → Value, a = ⟨#[.func (.yield l26) #[] #[], .pointer (some ⟨b14, 0, none⟩), .pointer (some ⟨b13, 0, none⟩), undef, .int .i64 z15, (g29 5), undef, (g29 7), .int .i64 4096, (g29 9), (g29 10), (g29 11), (g29 12), (g29 13), (g29 14), (g29 15), (g29 16), (g29 17), (g29 18), (g29 19), (g29 20), (g29 21), (g29 22), (g29 23), (g29 24), (g29 25), (g29 26), (g29 27), (g29 28), (g29 29), (g29 30)], []⟩) K ⟨4096, r5_0, r5_1, r5_2, r5_3, x12, (zeroA 256), r8, 0, (zeroA 256), hy, hs.conv rfl, exg (by kernel_rfl)⟩ ?_
  clear hs h hy
  rintro n a w ⟨z15, z16_0, z16_1, z16_2, z16_3, z17, z18, z19, z20, z21, h, hs, g29, rfl⟩ KL0 kl0
  cases n with
  | zero => exact nomatch (show none = some _ from h)
  | succ n =>
   refine xseq_k fun KS31 ks31 => ?_
   refine xseq_k fun KS32 ks32 => ?_
   refine xregS [0, 1] fun KR33 kr33 => ?_
   refine wpS.q 0 9 (.int .i64 z15) ?_
   rcases of_if h with ⟨hc, h⟩ | ⟨hc, h⟩
   ·refine wpS.tk 1 false (some 10) (.bool true) (yld_b (dt hc) (fun _ => by kernel_rfl)) ?_
    refine wpS.fin rfl (kr33 _ _ (then_n (ks32 _ _ (wp_cond_t (by kernel_rfl) (xskip (then_n (ks31 _ _ (xseq_k fun KS34 ks34 => (xblock (xseq_k fun KS35 ks35 => (xregS [0] fun KR36 kr36 => ?_)))))))))))
    refine wpS.q 0 5 (.slice none 0 0) ?_
    refine wpS.fin rfl (kr36 _ _ (then_n (ks35 _ _ (xseq_k fun KS37 ks37 => (xregS [0, 1, 2, 3, 4, 5, 6, 7, 8] fun KR38 kr38 => ?_)))))
    refine wpS.tk 0 true (some 14) (.agg (([.int .i64 z16_0] : List Value) ++ enc .u64 z16_1 ++ ([.int .i64 z16_2, .bool z16_3] : List Value)).toArray) (yld_loadW (e := 50) (n := 28) hs 3 rfl (by kernel_rfl) (by kernel_rfl) (by kernel_rfl) (by simp [enc_len]) .grow) ?_
    refine wpS.qs [(1, 15, .int .i64 z15), (2, 16, .int .i64 (imin 136 z15))] ?_
    obtain ⟨⟨r28_0, r28_1, r28_2, r28_3, r29⟩, hg, h⟩ := of_bind h
    refine wpS.only 3 (op_callH (d := (some 17)) (by kernel_rfl) hs (fun _ => by kernel_rfl) (keccak_Squeeze.ok hg _ (hs.rowR 1 rfl) (hs.rowR 2 rfl) (hs.rowR 3 rfl)) ?_)
    rintro ⟨r29_A, r29_n, r29_c⟩ w gw hs
    have hs := hs.conv (L' := [.ownL (CI .u8) r29_A r29_n r29_c r29 5, .obj l26 (.loop (rec26 .ready none)), .obj D26 (.deferred (some [])), .blk b14 ([.int .i64 4096]) 3, .blk b13 (([.int .i64 z16_0] : List Value) ++ enc .u64 z16_1 ++ ([.int .i64 z16_2, .bool z16_3] : List Value)) 50, .blk b11 ([.int .i64 z17]) 3, .blk b10 (enc .i32 z18) 26, .blk b9 ([.int .u64 z19]) 47, .blk b7 (([.int .i64 r5_0] : List Value) ++ enc .u64 r5_1 ++ ([.int .i64 r5_2, .bool r5_3] : List Value)) 50, .ownL (CI .u8) r6_A r6_n r6_c r6 5, .ownL CS s3_A s3_n s3_c ([(a0_A, a0_n, a0_c)] : List HS) 22, .blk b2 ([.int .i64 z20]) 27, .blk b1 (enc .i32 z21) 26]) rfl
    refine ⟨fun _ => trivial, ?_⟩
    refine wpS.qs [(4, 13, .tuple #[.agg (([.int .i64 r28_0] : List Value) ++ enc .u64 r28_1 ++ ([.int .i64 r28_2, .bool r28_3] : List Value)).toArray, .slice r29_A r29_n r29_c]), (5, 18, .agg (([.int .i64 r28_0] : List Value) ++ enc .u64 r28_1 ++ ([.int .i64 r28_2, .bool r28_3] : List Value)).toArray), (6, 19, .slice r29_A r29_n r29_c)] ?_
    refine wpS.only 7 (op_storeW (t := 50) (v := .agg (([.int .i64 r28_0] : List Value) ++ enc .u64 r28_1 ++ ([.int .i64 r28_2, .bool r28_3] : List Value)).toArray) (d := none) (by kernel_rfl) hs 4 rfl (vs := ([.int .i64 r28_0] : List Value) ++ enc .u64 r28_1 ++ ([.int .i64 r28_2, .bool r28_3] : List Value)) (n := 28) (by kernel_rfl) (by kernel_rfl) (by kernel_rfl) (by simp [enc_len]) (by simp [enc_len]) (one_app (one_app (by simp [Value.oneCell']) (fun u hu => enc_one _ _ u hu)) (by simp [Value.oneCell'])) ?_)
    intro w kp hs
    refine ⟨fun _ => trivial, ?_⟩
    refine wpS.q 8 5 (.slice r29_A r29_n r29_c) ?_
    refine wpS.fin rfl (kr38 _ _ (then_n (ks37 _ _ (xseq_k fun KS39 ks39 => (xregS [0, 1, 2] fun KR40 kr40 => ?_)))))
    refine wpS.q 0 20 (.slice r29_A r29_n r29_c) ?_
    refine wpS.tk 1 false (some 21) (.int .i64 (r29.length : Int)) (yld_lenL (hs.rowL 0 rfl) (fun _ => by kernel_rfl)) ?_
    refine wpS.q 2 22 (.int .i64 0) ?_
    refine wpS.fin rfl (kr40 _ _ (then_n (ks39 _ _ ?_)))
    obtain ⟨t1, hy, hk1⟩ := of_bind h
    refine wp_exq (N := fun a w => ∃ y36 y37 y38 y39 y40, t1 = .inl (y36, y37, y38, y39, y40) ∧ St w0 [] [.ownL (CI .u8) r29_A r29_n r29_c r29 5, .obj l26 (.loop (rec26 .ready none)), .obj D26 (.deferred (some [])), .blk b14 ([.int .i64 4096]) 3, .blk b13 (([.int .i64 r28_0] : List Value) ++ enc .u64 r28_1 ++ ([.int .i64 r28_2, .bool r28_3] : List Value)) 50, .blk b11 ([.int .i64 y36]) 3, .blk b10 (enc .i32 y37) 26, .blk b9 ([.int .u64 y38]) 47, .blk b7 (([.int .i64 r5_0] : List Value) ++ enc .u64 r5_1 ++ ([.int .i64 r5_2, .bool r5_3] : List Value)) 50, .ownL (CI .u8) r6_A r6_n r6_c r6 5, .ownL CS s3_A s3_n s3_c ([(a0_A, a0_n, a0_c)] : List HS) 22, .blk b2 ([.int .i64 y39]) 27, .blk b1 (enc .i32 y40) 26] [.rowL (CI .u8) a0_A a0_n a0_c a0, .rowL (CA .u64 24 (by decide)) (some ⟨0, 0, none⟩) 1 1 ([tab_0]), .rowL (CA .i64 24 (by decide)) (some ⟨1, 0, none⟩) 1 1 ([tab_1]), .rowL (CA .i64 24 (by decide)) (some ⟨2, 0, none⟩) 1 1 ([tab_2])] w ∧ ∃ g42 : Nat → Value, a = ⟨#[.func (.yield l26) #[] #[], .pointer (some ⟨b14, 0, none⟩), .pointer (some ⟨b13, 0, none⟩), undef, .int .i64 z15, .slice r29_A r29_n r29_c, undef, (g42 7), .int .i64 4096, .int .i64 z15, .bool true, (g29 11), (g29 12), .tuple #[.agg (([.int .i64 r28_0] : List Value) ++ enc .u64 r28_1 ++ ([.int .i64 r28_2, .bool r28_3] : List Value)).toArray, .slice r29_A r29_n r29_c], .agg (([.int .i64 z16_0] : List Value) ++ enc .u64 z16_1 ++ ([.int .i64 z16_2, .bool z16_3] : List Value)).toArray, .int .i64 z15, .int .i64 (imin 136 z15), .tuple #[.agg (([.int .i64 r28_0] : List Value) ++ enc .u64 r28_1 ++ ([.int .i64 r28_2, .bool r28_3] : List Value)).toArray, .slice r29_A r29_n r29_c], .agg (([.int .i64 r28_0] : List Value) ++ enc .u64 r28_1 ++ ([.int .i64 r28_2, .bool r28_3] : List Value)).toArray, .slice r29_A r29_n r29_c, .slice r29_A r29_n r29_c, .int .i64 (r29.length : Int), (g42 22), (g42 23), (g42 24), (g42 25), (g42 26), (g42 27), (g42 28), (g42 29), (g42 30)], []⟩) (fun N1 nn1 => ?_) ?_
    ·refine xblock ?_
     refine wp_loop_k (fun n a w => ∃ z30 z31 z32 z33 z34 z35, dsamp_Ball.l1 K n r29 z30 z31 z32 z33 z34 z35 = some t1 ∧ St w0 [] [.ownL (CI .u8) r29_A r29_n r29_c r29 5, .obj l26 (.loop (rec26 .ready none)), .obj D26 (.deferred (some [])), .blk b14 ([.int .i64 4096]) 3, .blk b13 (([.int .i64 r28_0] : List Value) ++ enc .u64 r28_1 ++ ([.int .i64 r28_2, .bool r28_3] : List Value)) 50, .blk b11 ([.int .i64 z31]) 3, .blk b10 (enc .i32 z32) 26, .blk b9 ([.int .u64 z33]) 47, .blk b7 (([.int .i64 r5_0] : List Value) ++ enc .u64 r5_1 ++ ([.int .i64 r5_2, .bool r5_3] : List Value)) 50, .ownL (CI .u8) r6_A r6_n r6_c r6 5, .ownL CS s3_A s3_n s3_c ([(a0_A, a0_n, a0_c)] : List HS) 22, .blk b2 ([.int .i64 z34]) 27, .blk b1 (enc .i32 z35) 26] [.rowL (CI .u8) a0_A a0_n a0_c a0, .rowL (CA .u64 24 (by decide)) (some ⟨0, 0, none⟩) 1 1 ([tab_0]), .rowL (CA .i64 24 (by decide)) (some ⟨1, 0, none⟩) 1 1 ([tab_1]), .rowL (CA .i64 24 (by decide)) (some ⟨2, 0, none⟩) 1 1 ([tab_2])] w ∧ ∃ g41 : Nat → Value, a = ⟨#[.func (.yield l26) #[] #[], .pointer (some ⟨b14, 0, none⟩), .pointer (some ⟨b13, 0, none⟩), undef, .int .i64 z15, .slice r29_A r29_n r29_c, undef, (g41 7), .int .i64 4096, .int .i64 z15, .bool true, (g29 11), (g29 12), .tuple #[.agg (([.int .i64 r28_0] : List Value) ++ enc .u64 r28_1 ++ ([.int .i64 r28_2, .bool r28_3] : List Value)).toArray, .slice r29_A r29_n r29_c], .agg (([.int .i64 z16_0] : List Value) ++ enc .u64 z16_1 ++ ([.int .i64 z16_2, .bool z16_3] : List Value)).toArray, .int .i64 z15, .int .i64 (imin 136 z15), .tuple #[.agg (([.int .i64 r28_0] : List Value) ++ enc .u64 r28_1 ++ ([.int .i64 r28_2, .bool r28_3] : List Value)).toArray, .slice r29_A r29_n r29_c], .agg (([.int .i64 r28_0] : List Value) ++ enc .u64 r28_1 ++ ([.int .i64 r28_2, .bool r28_3] : List Value)).toArray, .slice r29_A r29_n r29_c, .slice r29_A r29_n r29_c, .int .i64 (r29.length : Int), .int .i64 z30, (g41 23), (g41 24), (g41 25), (g41 26), (g41 27), (g41 28), (g41 29), (g41 30)], []⟩) K ⟨0, z17, z18, z19, z20, z21, hy, hs.conv rfl, exg (by kernel_rfl)⟩ ?_
     clear hs h hy
     rintro n a w ⟨z30, z31, z32, z33, z34, z35, h, hs, g41, rfl⟩ KL1 kl1
     cases n with
     | zero => exact nomatch (show none = some _ from h)
     | succ n =>
      refine xseq_k fun KS43 ks43 => ?_
      refine xregS [0] fun KR44 kr44 => ?_
      rcases of_if h with ⟨hc, h⟩ | ⟨hc, h⟩
      ·refine wpS.tk 0 false (some 23) (.bool true) (yld_b (dt hc) (fun _ => by kernel_rfl)) ?_
       refine wpS.fin rfl (kr44 _ _ (then_n (ks43 _ _ (xseq_k fun KS45 ks45 => (wp_cond_t (by kernel_rfl) (xskip (then_n (ks45 _ _ ?_))))))))
       obtain ⟨tv47, hj, hk_47⟩ := of_bind h
       refine xseq_k fun KS47 ks47 => wp_exj (N := fun a w => ∃ y41 y42 y43 y44 y45, tv47 = .inl (y41, y42, y43, y44, y45) ∧ St w0 [] [.ownL (CI .u8) r29_A r29_n r29_c r29 5, .obj l26 (.loop (rec26 .ready none)), .obj D26 (.deferred (some [])), .blk b14 ([.int .i64 4096]) 3, .blk b13 (([.int .i64 r28_0] : List Value) ++ enc .u64 r28_1 ++ ([.int .i64 r28_2, .bool r28_3] : List Value)) 50, .blk b11 ([.int .i64 y41]) 3, .blk b10 (enc .i32 y42) 26, .blk b9 ([.int .u64 y43]) 47, .blk b7 (([.int .i64 r5_0] : List Value) ++ enc .u64 r5_1 ++ ([.int .i64 r5_2, .bool r5_3] : List Value)) 50, .ownL (CI .u8) r6_A r6_n r6_c r6 5, .ownL CS s3_A s3_n s3_c ([(a0_A, a0_n, a0_c)] : List HS) 22, .blk b2 ([.int .i64 y44]) 27, .blk b1 (enc .i32 y45) 26] [.rowL (CI .u8) a0_A a0_n a0_c a0, .rowL (CA .u64 24 (by decide)) (some ⟨0, 0, none⟩) 1 1 ([tab_0]), .rowL (CA .i64 24 (by decide)) (some ⟨1, 0, none⟩) 1 1 ([tab_1]), .rowL (CA .i64 24 (by decide)) (some ⟨2, 0, none⟩) 1 1 ([tab_2])] w ∧ ∃ g46 : Nat → Value, a = ⟨#[.func (.yield l26) #[] #[], .pointer (some ⟨b14, 0, none⟩), .pointer (some ⟨b13, 0, none⟩), undef, .int .i64 z15, .slice r29_A r29_n r29_c, undef, (g46 7), .int .i64 4096, .int .i64 z15, .bool true, (g29 11), (g29 12), .tuple #[.agg (([.int .i64 r28_0] : List Value) ++ enc .u64 r28_1 ++ ([.int .i64 r28_2, .bool r28_3] : List Value)).toArray, .slice r29_A r29_n r29_c], .agg (([.int .i64 z16_0] : List Value) ++ enc .u64 z16_1 ++ ([.int .i64 z16_2, .bool z16_3] : List Value)).toArray, .int .i64 z15, .int .i64 (imin 136 z15), .tuple #[.agg (([.int .i64 r28_0] : List Value) ++ enc .u64 r28_1 ++ ([.int .i64 r28_2, .bool r28_3] : List Value)).toArray, .slice r29_A r29_n r29_c], .agg (([.int .i64 r28_0] : List Value) ++ enc .u64 r28_1 ++ ([.int .i64 r28_2, .bool r28_3] : List Value)).toArray, .slice r29_A r29_n r29_c, .slice r29_A r29_n r29_c, .int .i64 (r29.length : Int), .int .i64 z30, .bool true, (g46 24), (g46 25), (g46 26), (g46 27), (g46 28), (g46 29), (g41 30)], []⟩) (fun N nj => ?_) ?_
       ·clear h
        have h := hj
        refine xblock (xseq_k fun KS48 ks48 => (xregS [0, 1, 2] fun KR49 kr49 => ?_))
        obtain ⟨h0, h⟩ := of_chk h
        obtain ⟨h1, h⟩ := of_chk h
        have i0_50 := h0
        have i1_50 := h1
        refine wpS.tk 0 false (some 24) (.pointer (adr r29_A ((z30 : Int).toNat * Cod.size (CI .u8)))) (yld_idxL (C := (CI .u8)) (t := 22) (e := 5) (k := .i64) (x := z30) (hs.rowL 0 rfl) (by kernel_rfl) (by kernel_rfl) (by kernel_rfl) h0 h1) ?_
        refine wpS.tk 1 true (some 25) (.int .u8 (rdL (CI .u8) r29 z30)) (yld_loadL (C := (CI .u8)) (e := 5) (x := z30) (hs.rowL 0 rfl) (by kernel_rfl) rfl (by kernel_rfl) i0_50 i1_50) ?_
        obtain ⟨x46, hx, h⟩ := of_bind h
        refine wpS.tk 2 false (some 7) (.int .u8 x46) (yld_int hx (fun _ => by kernel_rfl)) ?_
        refine wpS.fin rfl (kr49 _ _ (then_n (ks48 _ _ (xseq_k fun KS51 ks51 => (xregS [0, 1, 2, 3] fun KR52 kr52 => ?_)))))
        refine wpS.qs [(0, 26, .func (.yield l26) #[] #[]), (1, 27, .int .u8 x46)] ?_
        refine wpS.onlyR 2 (op_yield (d := (some 28)) (by kernel_rfl) hs 1 rfl hok26 #[.int .u8 x46] (by kernel_rfl) rfl (tm := #[.slice a0_A a0_n a0_c, .int .i64 a1, undef, undef, .pointer (some ⟨b1, 0, none⟩), .pointer (some ⟨b2, 0, none⟩), .pointer (some ⟨b7, 0, none⟩), .slice r6_A r6_n r6_c, .pointer (some ⟨b9, 0, none⟩), .pointer (some ⟨b10, 0, none⟩), .pointer (some ⟨b11, 0, none⟩), undef, undef, .int .i64 a1, .bool false, .bool false, .int .i64 a1, .bool false, .bool false, undef, .tuple #[.agg (([.int .i64 r5_0] : List Value) ++ enc .u64 r5_1 ++ ([.int .i64 r5_2, .bool r5_3] : List Value)).toArray, .slice r6_A r6_n r6_c], .slice a0_A a0_n a0_c, .slice s3_A s3_n s3_c, .agg (([.int .i64 r4_0] : List Value) ++ enc .u64 r4_1 ++ ([.int .i64 r4_2, .bool r4_3] : List Value)).toArray, .tuple #[.agg (([.int .i64 r5_0] : List Value) ++ enc .u64 r5_1 ++ ([.int .i64 r5_2, .bool r5_3] : List Value)).toArray, .slice r6_A r6_n r6_c], .agg (([.int .i64 r5_0] : List Value) ++ enc .u64 r5_1 ++ ([.int .i64 r5_2, .bool r5_3] : List Value)).toArray, .slice r6_A r6_n r6_c, .slice r6_A r6_n r6_c, .int .u64 r8, .int .i64 a1, .int .i64 (isub .i64 256 a1), .agg (([.int .i64 r5_0] : List Value) ++ enc .u64 r5_1 ++ ([.int .i64 r5_2, .bool r5_3] : List Value)).toArray, .func (.func 32) #[] #[.pointer (some ⟨b14, 0, none⟩), .pointer (some ⟨b13, 0, none⟩)], .int .u8 x46, undef, undef, undef, undef, undef, undef, undef, undef, undef, undef, undef, undef, undef, undef, undef, undef, undef, undef, undef, undef, undef, undef, undef, undef, undef]) (by kernel_rfl) (by kernel_rfl) fun K53 k53 => ?_)
        refine xregS [0] fun KR54 kr54 => ?_
        refine wpS.q 0 11 (.int .u8 x46) ?_
        refine wpS.fin rfl (kr54 _ _ (then_n (k53 _ _ 1 _ _ hs rfl fun w Qr53 hs qr53 => ?_)))
        try dsimp only [List.set] at hs
        refine xblock (xseq_k fun KS55 ks55 => (xregS [0, 1, 2] fun KR56 kr56 => ?_))
        refine wpS.qs [(0, 34, .int .u8 x46), (1, 35, .int .i64 (iconv .i64 x46))] ?_
        obtain ⟨x47, hx, h⟩ := of_bind h
        refine wpS.tk 2 false (some 12) (.int .i64 x47) (yld_int hx (fun _ => by kernel_rfl)) ?_
        refine wpS.fin rfl (kr56 _ _ (then_n (ks55 _ _ (xseq_k fun KS57 ks57 => (xseq_k fun KS58 ks58 => (xregS [0, 1, 2] fun KR59 kr59 => ?_))))))
        refine wpS.q 0 36 (.int .i64 x47) ?_
        refine wpS.tk 1 true (some 37) (.int .i64 z31) (yld_load1 (e := 3) (o := 0) hs 5 rfl (by kernel_rfl) (by kernel_rfl) (by rfl) .grow) ?_
        rcases of_if h with ⟨hc, h⟩ | ⟨hc, h⟩
        ·refine wpS.tk 2 false (some 38) (.bool true) (yld_b (dt hc) (fun _ => by kernel_rfl)) ?_
         refine wpS.fin rfl (kr59 _ _ (then_n (ks58 _ _ (wp_cond_t (by kernel_rfl) (xexit (then_x (inBlock_hit ?_)))))))
         refine round_n qr53 hs 1 rfl fun w hs => ?_
         try dsimp only [List.set] at hs
         refine ⟨fun _ => trivial, ?_⟩
         refine wpS.q 3 29 (.bool false) ?_
         refine wpS.fin rfl (kr52 _ _ (then_n (ks51 _ _ (wp_cond_f (by kernel_rfl) (xskip (inBlock_n ?_))))))
         have q0 := of_some h
         subst q0
         exact exj_n (nj _ _ ⟨z31, z32, z33, z34, z35, rfl, (hs.conv rfl), exg (by kernel_rfl)⟩)
        refine wpS.tk 2 false (some 38) (.bool false) (yld_b (df hc) (fun _ => by kernel_rfl)) ?_
        refine wpS.fin rfl (kr59 _ _ (then_n (ks58 _ _ (wp_cond_f (by kernel_rfl) (xskip (then_n (ks57 _ _ (xseq_k fun KS60 ks60 => ?_))))))))
        refine wp_regG [5] (fun k => True) 6 (by kernel_rfl) (by kernel_rfl) (by kernel_rfl) fun KR61 kr61 => ?_
        have hs := hs.drawn1
        refine wpG.tD 0 true (some 39) (.int .i64 z31) (yld_load1 (e := 3) (o := 0) hs 5 rfl (by kernel_rfl) (by kernel_rfl) (by rfl) .grow) ?_
        refine wpG.q 1 40 (.int .i64 x47) ?_
        obtain ⟨i0_62, h⟩ := of_chk h
        obtain ⟨i1_62, h⟩ := of_chk h
        refine wpG.tD 2 false (some 41) (.pointer (some ⟨b10, 0 + (x47 : Int).toNat * 1, none⟩)) (yld_idx (t := 26) (e := 21) (n := 256) (sz := 1) (k := .i64) (x := x47) (by kernel_rfl) (by kernel_rfl) (by kernel_rfl) i0_62 i1_62) ?_
        refine wpG.tD 3 true (some 42) (.int .i32 (rd z32 x47)) (yld_loadA (e := 21) (x := x47) hs 6 rfl (by kernel_rfl) (by kernel_rfl) i0_62 i1_62 .grow) ?_
        obtain ⟨i0_63, h⟩ := of_chk h
        obtain ⟨i1_63, h⟩ := of_chk h
        refine wpG.tD 4 false (some 43) (.pointer (some ⟨b10, 0 + (z31 : Int).toNat * 1, none⟩)) (yld_idx (t := 26) (e := 21) (n := 256) (sz := 1) (k := .i64) (x := z31) (by kernel_rfl) (by kernel_rfl) (by kernel_rfl) i0_63 i1_63) ?_
        obtain ⟨x48, hx, h⟩ := of_bind h
        refine wpG.only 5 (by kernel_rfl) (op_storeA (t := 21) (x := z31) (v := x48) (d := none) (by kernel_rfl) hs 6 rfl (by cases hx; kernel_rfl) (by kernel_rfl) i0_63 i1_63 ?_)
        intro w kp hs
        refine ⟨⟨fun hf => absurd hf (by decide), .all _ _⟩, ?_⟩
        refine wpG.fin (by kernel_rfl) rfl (kr61 _ _ ?_)
        refine then_n (ks60 _ _ (xseq_k fun KS64 ks64 => (xregS [0, 1, 2] fun KR65 kr65 => ?_)))
        refine wpS.q 0 44 (.int .i64 x47) ?_
        obtain ⟨i0_66, h⟩ := of_chk h
        obtain ⟨i1_66, h⟩ := of_chk h
        refine wpS.tk 1 false (some 45) (.pointer (some ⟨b10, 0 + (x47 : Int).toNat * 1, none⟩)) (yld_idx (t := 26) (e := 21) (n := 256) (sz := 1) (k := .i64) (x := x47) (by kernel_rfl) (by kernel_rfl) (by kernel_rfl) i0_66 i1_66) ?_
        refine wpS.only 2 (op_storeA (t := 21) (x := x47) (v := 1) (d := none) (by kernel_rfl) hs 6 rfl (by kernel_rfl) (by kernel_rfl) i0_66 i1_66 ?_)
        intro w kp hs
        refine ⟨fun _ => trivial, ?_⟩
        refine wpS.fin rfl (kr65 _ _ (then_n (ks64 _ _ ?_)))
        obtain ⟨y49, hj, h⟩ := of_bind h
        refine xseq_k fun KS68 ks68 => wp_join (N := fun a w => St w0 [] [.ownL (CI .u8) r29_A r29_n r29_c r29 5, .obj l26 (.loop (rec26 .busy none)), .obj D26 (.deferred (some [])), .blk b14 ([.int .i64 4096]) 3, .blk b13 (([.int .i64 r28_0] : List Value) ++ enc .u64 r28_1 ++ ([.int .i64 r28_2, .bool r28_3] : List Value)) 50, .blk b11 ([.int .i64 z31]) 3, .blk b10 (enc .i32 y49) 26, .blk b9 ([.int .u64 z33]) 47, .blk b7 (([.int .i64 r5_0] : List Value) ++ enc .u64 r5_1 ++ ([.int .i64 r5_2, .bool r5_3] : List Value)) 50, .ownL (CI .u8) r6_A r6_n r6_c r6 5, .ownL CS s3_A s3_n s3_c ([(a0_A, a0_n, a0_c)] : List HS) 22, .blk b2 ([.int .i64 z34]) 27, .blk b1 (enc .i32 z35) 26] [.rowL (CI .u8) a0_A a0_n a0_c a0, .rowL (CA .u64 24 (by decide)) (some ⟨0, 0, none⟩) 1 1 ([tab_0]), .rowL (CA .i64 24 (by decide)) (some ⟨1, 0, none⟩) 1 1 ([tab_1]), .rowL (CA .i64 24 (by decide)) (some ⟨2, 0, none⟩) 1 1 ([tab_2])] w ∧ ∃ g67 : Nat → Value, a = ⟨#[.slice a0_A a0_n a0_c, .int .i64 a1, undef, undef, .pointer (some ⟨b1, 0, none⟩), .pointer (some ⟨b2, 0, none⟩), .pointer (some ⟨b7, 0, none⟩), .slice r6_A r6_n r6_c, .pointer (some ⟨b9, 0, none⟩), .pointer (some ⟨b10, 0, none⟩), .pointer (some ⟨b11, 0, none⟩), .int .u8 x46, .int .i64 x47, .int .i64 a1, .bool false, .bool false, .int .i64 a1, .bool false, .bool false, undef, .tuple #[.agg (([.int .i64 r5_0] : List Value) ++ enc .u64 r5_1 ++ ([.int .i64 r5_2, .bool r5_3] : List Value)).toArray, .slice r6_A r6_n r6_c], .slice a0_A a0_n a0_c, .slice s3_A s3_n s3_c, .agg (([.int .i64 r4_0] : List Value) ++ enc .u64 r4_1 ++ ([.int .i64 r4_2, .bool r4_3] : List Value)).toArray, .tuple #[.agg (([.int .i64 r5_0] : List Value) ++ enc .u64 r5_1 ++ ([.int .i64 r5_2, .bool r5_3] : List Value)).toArray, .slice r6_A r6_n r6_c], .agg (([.int .i64 r5_0] : List Value) ++ enc .u64 r5_1 ++ ([.int .i64 r5_2, .bool r5_3] : List Value)).toArray, .slice r6_A r6_n r6_c, .slice r6_A r6_n r6_c, .int .u64 r8, .int .i64 a1, .int .i64 (isub .i64 256 a1), .agg (([.int .i64 r5_0] : List Value) ++ enc .u64 r5_1 ++ ([.int .i64 r5_2, .bool r5_3] : List Value)).toArray, .func (.func 32) #[] #[.pointer (some ⟨b14, 0, none⟩), .pointer (some ⟨b13, 0, none⟩)], .int .u8 x46, .int .u8 x46, .int .i64 (iconv .i64 x46), .int .i64 x47, .int .i64 z31, .bool false, .int .i64 z31, .int .i64 x47, .pointer (some ⟨b10, 0 + (x47 : Int).toNat * 1, none⟩), .int .i32 (rd z32 x47), .pointer (some ⟨b10, 0 + (z31 : Int).toNat * 1, none⟩), .int .i64 x47, .pointer (some ⟨b10, 0 + (x47 : Int).toNat * 1, none⟩), (g67 46), (g67 47), (g67 48), (g67 49), (g67 50), undef, undef, undef, undef, undef, undef, undef, undef], []⟩) (fun N nj => ?_) ?_
        ·clear h
         have h := hj
         refine xseq_k fun KS69 ks69 => ?_
         refine xregS [0, 1, 2] fun KR70 kr70 => ?_
         refine wpS.tk 0 true (some 46) (.int .u64 z33) (yld_load1 (e := 47) (o := 0) hs 7 rfl (by kernel_rfl) (by kernel_rfl) (by rfl) .grow) ?_
         refine wpS.q 1 47 (.int .u64 (iand .u64 z33 1)) ?_
         rcases of_if h with ⟨hc, h⟩ | ⟨hc, h⟩
         ·refine wpS.tk 2 false (some 48) (.bool true) (yld_b (et hc) (fun _ => by kernel_rfl)) ?_
          refine wpS.fin rfl (kr70 _ _ (then_n (ks69 _ _ (wp_cond_t (by kernel_rfl) (xregS [0, 1, 2] fun KR71 kr71 => ?_)))))
          refine wpS.q 0 49 (.int .i64 x47) ?_
          obtain ⟨i0_72, h⟩ := of_chk h
          obtain ⟨i1_72, h⟩ := of_chk h
          refine wpS.tk 1 false (some 50) (.pointer (some ⟨b10, 0 + (x47 : Int).toNat * 1, none⟩)) (yld_idx (t := 26) (e := 21) (n := 256) (sz := 1) (k := .i64) (x := x47) (by kernel_rfl) (by kernel_rfl) (by kernel_rfl) i0_72 i1_72) ?_
          refine wpS.only 2 (op_storeA (t := 21) (x := x47) (v := 8380416) (d := none) (by kernel_rfl) hs 6 rfl (by kernel_rfl) (by kernel_rfl) i0_72 i1_72 ?_)
          intro w kp hs
          refine ⟨fun _ => trivial, ?_⟩
          refine wpS.fin rfl (kr71 _ _ ?_)
          have q0 := of_some h
          subst q0
          exact nj _ _ ⟨(hs.conv rfl), exg (by kernel_rfl)⟩
         refine wpS.tk 2 false (some 48) (.bool false) (yld_b (ef hc) (fun _ => by kernel_rfl)) ?_
         refine wpS.fin rfl (kr70 _ _ (then_n (ks69 _ _ (wp_cond_f (by kernel_rfl) (xskip ?_)))))
         have q0 := of_some h
         subst q0
         exact nj _ _ ⟨(hs.conv rfl), exg (by kernel_rfl)⟩
        clear hj hs
        rintro a w ⟨hs, g67, rfl⟩
        refine then_n (ks68 _ _ (xseq_k fun KS73 ks73 => (xregS [0, 1, 2] fun KR74 kr74 => ?_)))
        refine wpS.tk 0 true (some 51) (.int .u64 z33) (yld_load1 (e := 47) (o := 0) hs 7 rfl (by kernel_rfl) (by kernel_rfl) (by rfl) .grow) ?_
        refine wpS.q 1 52 (.int .u64 (ishr .u64 z33 1)) ?_
        obtain ⟨x50, hx, h⟩ := of_bind h
        refine wpS.only 2 (op_store1 (t := 47) (o := 0) (v := .int .u64 x50) (d := none) (by kernel_rfl) hs 7 rfl (by cases hx; kernel_rfl) rfl (by kernel_rfl) (by simp) ?_)
        intro w kp hs
        refine ⟨fun _ => trivial, ?_⟩
        refine wpS.fin rfl (kr74 _ _ (then_n (ks73 _ _ (xseq_k fun KS75 ks75 => (xregS [0, 1, 2] fun KR76 kr76 => ?_)))))
        refine wpS.tk 0 true (some 53) (.int .i64 z31) (yld_load1 (e := 3) (o := 0) hs 5 rfl (by kernel_rfl) (by kernel_rfl) (by rfl) .grow) ?_
        refine wpS.q 1 54 (.int .i64 (iadd .i64 z31 1)) ?_
        obtain ⟨x51, hx, h⟩ := of_bind h
        refine wpS.only 2 (op_store1 (t := 3) (o := 0) (v := .int .i64 x51) (d := none) (by kernel_rfl) hs 5 rfl (by cases hx; kernel_rfl) rfl (by kernel_rfl) (by simp) ?_)
        intro w kp hs
        refine ⟨fun _ => trivial, ?_⟩
        refine wpS.fin rfl (kr76 _ _ (then_n (ks75 _ _ (xseq_k fun KS77 ks77 => (xregS [0, 1] fun KR78 kr78 => ?_)))))
        refine wpS.tk 0 true (some 55) (.int .i64 x51) (yld_load1 (e := 3) (o := 0) hs 5 rfl (by kernel_rfl) (by kernel_rfl) (by rfl) .grow) ?_
        rcases of_if h with ⟨hc, h⟩ | ⟨hc, h⟩
        ·refine wpS.tk 1 false (some 56) (.bool true) (yld_b (et hc) (fun _ => by kernel_rfl)) ?_
         refine wpS.fin rfl (kr78 _ _ (then_n (ks77 _ _ (wp_cond_t (by kernel_rfl) (xseq_k fun KS79 ks79 => (xregS [0, 1, 2] fun KR80 kr80 => ?_))))))
         refine wpS.tk 0 true (some 57) (.agg (enc .i32 y49).toArray) (yld_loadW (e := 26) (n := 256) hs 6 rfl (by kernel_rfl) (by kernel_rfl) (by kernel_rfl) (by exact enc_len _ _) .grow) ?_
         refine wpS.only 1 (op_storeW (t := 26) (v := .agg (enc .i32 y49).toArray) (d := none) (by kernel_rfl) hs 12 rfl (vs := enc .i32 y49) (n := 256) (by kernel_rfl) (by kernel_rfl) (by kernel_rfl) (by simp [enc_len]) (by simp [enc_len]) (by intro u hu; exact enc_one _ _ u hu) ?_)
         intro w kp hs
         refine ⟨fun _ => trivial, ?_⟩
         refine wpS.only 2 (op_store1 (t := 27) (o := 0) (v := .int .i64 0) (d := none) (by kernel_rfl) hs 11 rfl (by kernel_rfl) rfl (by kernel_rfl) (by simp) ?_)
         intro w kp hs
         refine ⟨fun _ => trivial, ?_⟩
         refine wpS.fin rfl (kr80 _ _ (then_n (ks79 _ _ (xret (inBlock_r ?_)))))
         refine round_r qr53 hs 1 rfl fun w hs => ?_
         try dsimp only [List.set] at hs
         refine ⟨fun _ => trivial, ?_⟩
         refine wpS.q 3 29 (.bool true) ?_
         refine wpS.fin rfl (kr52 _ _ (then_n (ks51 _ _ (wp_cond_t (by kernel_rfl) (xret (inBlock_r ?_))))))
         have q0 := of_some h
         subst q0
         have h := hk_47
         refine exj_r ?_
         refine then_r (then_r (inBlock_r (exq_r (inBlock_r (then_r (then_r (inBlock_r (exq_r ?_))))))))
         refine qq26 _ _ (post_ret (by kernel_rfl) (run_results [] [] (by kernel_rfl) .nil) ?_)
         refine range_j (a1 := ⟨#[.slice a0_A a0_n a0_c, .int .i64 a1, undef, undef, .pointer (some ⟨b1, 0, none⟩), .pointer (some ⟨b2, 0, none⟩), .pointer (some ⟨b7, 0, none⟩), .slice r6_A r6_n r6_c, .pointer (some ⟨b9, 0, none⟩), .pointer (some ⟨b10, 0, none⟩), .pointer (some ⟨b11, 0, none⟩), undef, undef, .int .i64 a1, .bool false, .bool false, .int .i64 a1, .bool false, .bool false, undef, .tuple #[.agg (([.int .i64 r5_0] : List Value) ++ enc .u64 r5_1 ++ ([.int .i64 r5_2, .bool r5_3] : List Value)).toArray, .slice r6_A r6_n r6_c], .slice a0_A a0_n a0_c, .slice s3_A s3_n s3_c, .agg (([.int .i64 r4_0] : List Value) ++ enc .u64 r4_1 ++ ([.int .i64 r4_2, .bool r4_3] : List Value)).toArray, .tuple #[.agg (([.int .i64 r5_0] : List Value) ++ enc .u64 r5_1 ++ ([.int .i64 r5_2, .bool r5_3] : List Value)).toArray, .slice r6_A r6_n r6_c], .agg (([.int .i64 r5_0] : List Value) ++ enc .u64 r5_1 ++ ([.int .i64 r5_2, .bool r5_3] : List Value)).toArray, .slice r6_A r6_n r6_c, .slice r6_A r6_n r6_c, .int .u64 r8, .int .i64 a1, .int .i64 (isub .i64 256 a1), .agg (([.int .i64 r5_0] : List Value) ++ enc .u64 r5_1 ++ ([.int .i64 r5_2, .bool r5_3] : List Value)).toArray, .func (.func 32) #[] #[.pointer (some ⟨b14, 0, none⟩), .pointer (some ⟨b13, 0, none⟩)], undef, undef, undef, undef, undef, undef, undef, undef, undef, undef, undef, undef, undef, undef, undef, undef, undef, undef, undef, undef, undef, undef, undef, undef, undef, undef], [lmark D26]⟩) .ret kR26 (by kernel_rfl) hs 1 rfl fun w hs => ?_
         try dsimp only [List.set] at hs
         refine xret (inBlock_r (then_r ?_))
         have q0 := of_some h
         subst q0
         have q0 := of_some hk1
         subst q0
         obtain ⟨q0, qr0⟩ := Prod.mk.inj (of_some hk0)
         have q1 := qr0
         subst q0
         subst q1
         refine qq _ _ ?_
         refine leaves_mark hs 2 rfl fun w hs => ?_
         try dsimp only [List.set] at hs
         exact leaves_end (run_results [.cell 4 26, .cell 5 27] [.agg (enc .i32 y49).toArray, .int .i64 0] (by kernel_rfl) (.cons (res_cellN (n := 256) hs 12 rfl (by kernel_rfl) (by kernel_rfl) (by kernel_rfl) (by exact enc_len _ _)) (.cons (res_cell1 hs 11 rfl (by kernel_rfl) (by kernel_rfl) rfl) .nil))) ⟨congrArg Ending.returned (by kernel_rfl), hs.none⟩
        refine wpS.tk 1 false (some 56) (.bool false) (yld_b (ef hc) (fun _ => by kernel_rfl)) ?_
        refine wpS.fin rfl (kr78 _ _ (then_n (ks77 _ _ (wp_cond_f (by kernel_rfl) (xskip (inBlock_n ?_))))))
        refine round_n qr53 hs 1 rfl fun w hs => ?_
        try dsimp only [List.set] at hs
        refine ⟨fun _ => trivial, ?_⟩
        refine wpS.q 3 29 (.bool false) ?_
        refine wpS.fin rfl (kr52 _ _ (then_n (ks51 _ _ (wp_cond_f (by kernel_rfl) (xskip (inBlock_n ?_))))))
        have q0 := of_some h
        subst q0
        exact exj_n (nj _ _ ⟨x51, y49, x50, z34, z35, rfl, (hs.conv rfl), exg (by kernel_rfl)⟩)
       clear hj hs
       rintro a w ⟨y41, y42, y43, y44, y45, rfl, hs, g46, rfl⟩
       have h := hk_47
       refine then_n (ks47 _ _ (xregS [0, 1] fun KR81 kr81 => ?_))
       refine wpS.qs [(0, 30, .int .i64 (iadd .i64 z30 1)), (1, 22, .int .i64 (iadd .i64 z30 1))] ?_
       refine wpS.fin rfl (kr81 _ _ ?_)
       exact then_n (kl1 _ _ ⟨n, Nat.lt_succ_self n, (iadd .i64 z30 1), y41, y42, y43, y44, y45, h, (hs.conv rfl), exg (by kernel_rfl)⟩)
      refine wpS.tk 0 false (some 23) (.bool false) (yld_b (df hc) (fun _ => by kernel_rfl)) ?_
      refine wpS.fin rfl (kr44 _ _ (then_n (ks43 _ _ (xseq_k fun KS82 ks82 => (wp_cond_f (by kernel_rfl) (xexit (then_x (then_x (inBlock_hit ?_)))))))))
      have q0 := of_some h
      subst q0
      exact exq_n (nn1 _ _ ⟨z31, z32, z33, z34, z35, rfl, (hs.conv rfl), exg (by kernel_rfl)⟩)
    clear hs h hy
    rintro a w ⟨y36, y37, y38, y39, y40, rfl, hs, g42, rfl⟩
    have h := hk1
    refine inBlock_n (then_n (ks34 _ _ (xregS [0, 1, 2] fun KR83 kr83 => ?_)))
    refine wpS.qs [(0, 11, .int .i64 z15), (1, 12, .int .i64 (isub .i64 z15 136))] ?_
    obtain ⟨x52, hx, h⟩ := of_bind h
    refine wpS.tk 2 false (some 4) (.int .i64 x52) (yld_int hx (fun _ => by kernel_rfl)) ?_
    refine wpS.fin rfl (kr83 _ _ ?_)
    exact then_n (kl0 _ _ ⟨n, Nat.lt_succ_self n, x52, r28_0, r28_1, r28_2, r28_3, y36, y37, y38, y39, y40, h, (hs.drop (.cons _ (.cons_cons _ (.cons_cons _ (.cons_cons _ (.cons_cons _ (.cons_cons _ (.cons_cons _ (.cons_cons _ (.cons_cons _ (.cons_cons _ (.cons_cons _ (.cons_cons _ (.cons_cons _ .slnil)))))))))))))), exg (by kernel_rfl)⟩)
   refine wpS.tk 1 false (some 10) (.bool false) (yld_b (df hc) (fun _ => by kernel_rfl)) ?_
   refine wpS.fin rfl (kr33 _ _ (then_n (ks32 _ _ (wp_cond_f (by kernel_rfl) (xexit (then_x (then_x (inBlock_hit ?_))))))))
   have q0 := of_some h
   subst q0
   exact exq_n (nn0 _ _ ⟨z16_0, z16_1, z16_2, z16_3, z17, z18, z19, z20, z21, rfl, (hs.conv rfl), exg (by kernel_rfl)⟩)
 clear hs h hy
 rintro a w ⟨y22_0, y22_1, y22_2, y22_3, y23, y24, y25, y26, y27, rfl, hs, g30, rfl⟩
 have h := hk0
 refine qn26 _ _ (post_nrm (by kernel_rfl) (run_results [] [] (by kernel_rfl) .nil) ?_)
 refine range_n (a1 := ⟨#[.slice a0_A a0_n a0_c, .int .i64 a1, undef, undef, .pointer (some ⟨b1, 0, none⟩), .pointer (some ⟨b2, 0, none⟩), .pointer (some ⟨b7, 0, none⟩), .slice r6_A r6_n r6_c, .pointer (some ⟨b9, 0, none⟩), .pointer (some ⟨b10, 0, none⟩), .pointer (some ⟨b11, 0, none⟩), undef, undef, .int .i64 a1, .bool false, .bool false, .int .i64 a1, .bool false, .bool false, undef, .tuple #[.agg (([.int .i64 r5_0] : List Value) ++ enc .u64 r5_1 ++ ([.int .i64 r5_2, .bool r5_3] : List Value)).toArray, .slice r6_A r6_n r6_c], .slice a0_A a0_n a0_c, .slice s3_A s3_n s3_c, .agg (([.int .i64 r4_0] : List Value) ++ enc .u64 r4_1 ++ ([.int .i64 r4_2, .bool r4_3] : List Value)).toArray, .tuple #[.agg (([.int .i64 r5_0] : List Value) ++ enc .u64 r5_1 ++ ([.int .i64 r5_2, .bool r5_3] : List Value)).toArray, .slice r6_A r6_n r6_c], .agg (([.int .i64 r5_0] : List Value) ++ enc .u64 r5_1 ++ ([.int .i64 r5_2, .bool r5_3] : List Value)).toArray, .slice r6_A r6_n r6_c, .slice r6_A r6_n r6_c, .int .u64 r8, .int .i64 a1, .int .i64 (isub .i64 256 a1), .agg (([.int .i64 r5_0] : List Value) ++ enc .u64 r5_1 ++ ([.int .i64 r5_2, .bool r5_3] : List Value)).toArray, .func (.func 32) #[] #[.pointer (some ⟨b14, 0, none⟩), .pointer (some ⟨b13, 0, none⟩)], undef, undef, undef, undef, undef, undef, undef, undef, undef, undef, undef, undef, undef, undef, undef, undef, undef, undef, undef, undef, undef, undef, undef, undef, undef, undef], [lmark D26]⟩) kR26 (by kernel_rfl) hs 0 rfl fun w hs => ?_
 try dsimp only [List.set] at hs
 refine inBlock_n (then_n (ks18 _ _ (xseq_k fun KS84 ks84 => (xregS [0, 1, 2] fun KR85 kr85 => ?_))))
 refine wpS.q 0 58 (.agg (enc .i32 (zeroA 256)).toArray) ?_
 refine wpS.only 1 (op_storeW (t := 26) (v := .agg (enc .i32 (zeroA 256)).toArray) (d := none) (by kernel_rfl) hs 11 rfl (vs := enc .i32 (zeroA 256)) (n := 256) (by kernel_rfl) (by kernel_rfl) (by kernel_rfl) (by simp [enc_len]) (by simp [enc_len]) (by intro u hu; exact enc_one _ _ u hu) ?_)
 intro w kp hs
 refine ⟨fun _ => trivial, ?_⟩
 refine wpS.only 2 (op_store1 (t := 27) (o := 0) (v := .int .i64 12) (d := none) (by kernel_rfl) hs 10 rfl (by kernel_rfl) rfl (by kernel_rfl) (by simp) ?_)
 intro w kp hs
 refine ⟨fun _ => trivial, ?_⟩
 refine wpS.fin rfl (kr85 _ _ (then_n (ks84 _ _ (xret ?_))))
 obtain ⟨q0, qr0⟩ := Prod.mk.inj (of_some h)
 have q1 := qr0
 subst q0
 subst q1
 refine qq _ _ ?_
 refine leaves_mark hs 1 rfl fun w hs => ?_
 try dsimp only [List.set] at hs
 exact leaves_end (run_results [.cell 4 26, .cell 5 27] [.agg (enc .i32 (zeroA 256)).toArray, .int .i64 12] (by kernel_rfl) (.cons (res_cellN (n := 256) hs 11 rfl (by kernel_rfl) (by kernel_rfl) (by kernel_rfl) (by exact enc_len _ _)) (.cons (res_cell1 hs 10 rfl (by kernel_rfl) (by kernel_rfl) rfl) .nil))) ⟨congrArg Ending.returned (by kernel_rfl), hs.none⟩

theorem law23_awake.ok {K : Nat} {r0 : Bool} (h : law23_awake.f K = some r0) (w0 : World) (hg0 : RowL (CA .u64 24 (by decide)) w0 (some ⟨0, 0, none⟩) 1 1 [tab_0]) (hg1 : RowL (CA .i64 24 (by decide)) w0 (some ⟨1, 0, none⟩) 1 1 [tab_1]) (hg2 : RowL (CA .i64 24 (by decide)) w0 (some ⟨2, 0, none⟩) 1 1 [tab_2]) : Ret Tryd.prog 5 #[] w0 (.bool r0) := by
 refine calls_k Tryd.func5 rfl fun Q qq => ?_
 have hs := St.startR (all_cons (RowP.ent hg0) (all_cons (RowP.ent hg1) (all_cons (RowP.ent hg2) all_nil)))
 refine wp_conv (a' := ⟨#[undef, undef, undef, undef, undef, undef, undef, undef, undef, undef, undef, undef, undef, undef, undef, undef, undef, undef, undef, undef, undef, undef, undef, undef, undef, undef, undef, undef, undef, undef, undef, undef, undef, undef, undef], []⟩) (by kernel_rfl) ?_
 refine xseq_k fun KS1 ks1 => ?_
 refine xregS [0] fun KR2 kr2 => ?_
 refine wpS.q 0 0 (.bool false) ?_
 refine wpS.fin rfl (kr2 _ _ (then_n (ks1 _ _ (xseq_k fun KS3 ks3 => (xregS [0, 1, 2, 3, 4, 5, 6] fun KR4 kr4 => ?_)))))
 obtain ⟨⟨r1, r2⟩, hg, h⟩ := of_bind h
 refine wpS.only 0 (op_call (d := (some 9)) (by kernel_rfl) hs (fun _ => by kernel_rfl) (dsamp_Small.ok hg _ (RowL.nil _) (hs.rowR 0 rfl) (hs.rowR 1 rfl) (hs.rowR 2 rfl)) ?_)
 intro w gw hs
 refine ⟨fun _ => trivial, ?_⟩
 refine wpS.qs [(1, 8, .tuple #[.agg (enc .i32 r1).toArray, .int .i64 r2]), (2, 10, .agg (enc .i32 r1).toArray), (3, 11, .int .i64 r2)] ?_
 refine wpS.only 4 (op_alloc (t := 26) (d := (some 1)) (by kernel_rfl) hs (enc .i32 (zeroA 256)) (.agg (enc .i32 (zeroA 256)).toArray) (by kernel_rfl) (by kernel_rfl) (by kernel_rfl) ?_)
 intro b3 w gw hs
 refine ⟨fun _ => trivial, ?_⟩
 refine wpS.only 5 (op_storeW (t := 26) (v := .agg (enc .i32 r1).toArray) (d := none) (by kernel_rfl) hs 0 rfl (vs := enc .i32 r1) (n := 256) (by kernel_rfl) (by kernel_rfl) (by kernel_rfl) (by simp [enc_len]) (by simp [enc_len]) (by intro u hu; exact enc_one _ _ u hu) ?_)
 intro w kp hs
 refine ⟨fun _ => trivial, ?_⟩
 refine wpS.q 6 2 (.int .i64 r2) ?_
 refine wpS.fin rfl (kr4 _ _ (then_n (ks3 _ _ (xseq_k fun KS5 ks5 => (xregS [0, 1, 2, 3, 4, 5, 6] fun KR6 kr6 => ?_)))))
 obtain ⟨⟨r4, r5⟩, hg, h⟩ := of_bind h
 refine wpS.only 0 (op_call (d := (some 13)) (by kernel_rfl) hs (fun _ => by kernel_rfl) (dsamp_Ball.ok hg _ (RowL.nil _) (hs.rowR 0 rfl) (hs.rowR 1 rfl) (hs.rowR 2 rfl)) ?_)
 intro w gw hs
 refine ⟨fun _ => trivial, ?_⟩
 refine wpS.qs [(1, 12, .tuple #[.agg (enc .i32 r4).toArray, .int .i64 r5]), (2, 14, .agg (enc .i32 r4).toArray), (3, 15, .int .i64 r5)] ?_
 refine wpS.only 4 (op_alloc (t := 26) (d := (some 3)) (by kernel_rfl) hs (enc .i32 (zeroA 256)) (.agg (enc .i32 (zeroA 256)).toArray) (by kernel_rfl) (by kernel_rfl) (by kernel_rfl) ?_)
 intro b6 w gw hs
 refine ⟨fun _ => trivial, ?_⟩
 refine wpS.only 5 (op_storeW (t := 26) (v := .agg (enc .i32 r4).toArray) (d := none) (by kernel_rfl) hs 0 rfl (vs := enc .i32 r4) (n := 256) (by kernel_rfl) (by kernel_rfl) (by kernel_rfl) (by simp [enc_len]) (by simp [enc_len]) (by intro u hu; exact enc_one _ _ u hu) ?_)
 intro w kp hs
 refine ⟨fun _ => trivial, ?_⟩
 refine wpS.q 6 4 (.int .i64 r5) ?_
 refine wpS.fin rfl (kr6 _ _ (then_n (ks5 _ _ (xseq_k fun KS7 ks7 => (xregS [0] fun KR8 kr8 => ?_)))))
 refine wpS.q 0 5 (.int .i64 0) ?_
 refine wpS.fin rfl (kr8 _ _ (then_n (ks7 _ _ (xseq_k fun KS9 ks9 => (xseq_k fun KS10 ks10 => (xregS [0, 1] fun KR11 kr11 => ?_))))))
 refine wpS.tk 0 true (some 16) (.agg (enc .i32 r4).toArray) (yld_loadW (e := 26) (n := 256) hs 0 rfl (by kernel_rfl) (by kernel_rfl) (by kernel_rfl) (by exact enc_len _ _) .grow) ?_
 refine wpS.q 1 17 (.int .i64 0) ?_
 refine wpS.fin rfl (kr11 _ _ (then_n (ks10 _ _ ?_)))
 obtain ⟨y9, hy, hk0⟩ := of_bind h
 refine wp_exq (N := fun a w => St w0 [] [.blk b6 (enc .i32 r4) 26, .blk b3 (enc .i32 r1) 26] [.rowL (CA .u64 24 (by decide)) (some ⟨0, 0, none⟩) 1 1 ([tab_0]), .rowL (CA .i64 24 (by decide)) (some ⟨1, 0, none⟩) 1 1 ([tab_1]), .rowL (CA .i64 24 (by decide)) (some ⟨2, 0, none⟩) 1 1 ([tab_2])] w ∧ ∃ g13 : Nat → Value, a = ⟨#[.bool false, .pointer (some ⟨b3, 0, none⟩), .int .i64 r2, .pointer (some ⟨b6, 0, none⟩), .int .i64 r5, .int .i64 y9, undef, (g13 7), .tuple #[.agg (enc .i32 r1).toArray, .int .i64 r2], .tuple #[.agg (enc .i32 r1).toArray, .int .i64 r2], .agg (enc .i32 r1).toArray, .int .i64 r2, .tuple #[.agg (enc .i32 r4).toArray, .int .i64 r5], .tuple #[.agg (enc .i32 r4).toArray, .int .i64 r5], .agg (enc .i32 r4).toArray, .int .i64 r5, .agg (enc .i32 r4).toArray, (g13 17), (g13 18), (g13 19), (g13 20), (g13 21), (g13 22), (g13 23), (g13 24), undef, undef, undef, undef, undef, undef, undef, undef, undef, undef], []⟩) (fun N0 nn0 => ?_) ?_
 ·clear hk0
  refine xblock ?_
  refine wp_loop_k (fun n a w => ∃ z7 z8, law23_awake.l0 K n r4 z7 z8 = some y9 ∧ St w0 [] [.blk b6 (enc .i32 r4) 26, .blk b3 (enc .i32 r1) 26] [.rowL (CA .u64 24 (by decide)) (some ⟨0, 0, none⟩) 1 1 ([tab_0]), .rowL (CA .i64 24 (by decide)) (some ⟨1, 0, none⟩) 1 1 ([tab_1]), .rowL (CA .i64 24 (by decide)) (some ⟨2, 0, none⟩) 1 1 ([tab_2])] w ∧ ∃ g12 : Nat → Value, a = ⟨#[.bool false, .pointer (some ⟨b3, 0, none⟩), .int .i64 r2, .pointer (some ⟨b6, 0, none⟩), .int .i64 r5, .int .i64 z7, undef, (g12 7), .tuple #[.agg (enc .i32 r1).toArray, .int .i64 r2], .tuple #[.agg (enc .i32 r1).toArray, .int .i64 r2], .agg (enc .i32 r1).toArray, .int .i64 r2, .tuple #[.agg (enc .i32 r4).toArray, .int .i64 r5], .tuple #[.agg (enc .i32 r4).toArray, .int .i64 r5], .agg (enc .i32 r4).toArray, .int .i64 r5, .agg (enc .i32 r4).toArray, .int .i64 z8, (g12 18), (g12 19), (g12 20), (g12 21), (g12 22), (g12 23), (g12 24), undef, undef, undef, undef, undef, undef, undef, undef, undef, undef], []⟩) K ⟨0, 0, hy, hs.conv rfl, exg (by kernel_rfl)⟩ ?_
  clear hs h hy
  rintro n a w ⟨z7, z8, h, hs, g12, rfl⟩ KL0 kl0
  cases n with
  | zero => exact nomatch (show none = some _ from h)
  | succ n =>
   refine xseq_k fun KS14 ks14 => ?_
   refine xregS [0] fun KR15 kr15 => ?_
   rcases of_if h with ⟨hc, h⟩ | ⟨hc, h⟩
   ·refine wpS.tk 0 false (some 18) (.bool true) (yld_b (dt hc) (fun _ => by kernel_rfl)) ?_
    refine wpS.fin rfl (kr15 _ _ (then_n (ks14 _ _ (xseq_k fun KS16 ks16 => (wp_cond_t (by kernel_rfl) (xskip (then_n (ks16 _ _ ?_))))))))
    obtain ⟨y10, hj, h⟩ := of_bind h
    refine xseq_k fun KS18 ks18 => wp_join (N := fun a w => St w0 [] [.blk b6 (enc .i32 r4) 26, .blk b3 (enc .i32 r1) 26] [.rowL (CA .u64 24 (by decide)) (some ⟨0, 0, none⟩) 1 1 ([tab_0]), .rowL (CA .i64 24 (by decide)) (some ⟨1, 0, none⟩) 1 1 ([tab_1]), .rowL (CA .i64 24 (by decide)) (some ⟨2, 0, none⟩) 1 1 ([tab_2])] w ∧ ∃ g17 : Nat → Value, a = ⟨#[.bool false, .pointer (some ⟨b3, 0, none⟩), .int .i64 r2, .pointer (some ⟨b6, 0, none⟩), .int .i64 r5, .int .i64 y10, undef, (g17 7), .tuple #[.agg (enc .i32 r1).toArray, .int .i64 r2], .tuple #[.agg (enc .i32 r1).toArray, .int .i64 r2], .agg (enc .i32 r1).toArray, .int .i64 r2, .tuple #[.agg (enc .i32 r4).toArray, .int .i64 r5], .tuple #[.agg (enc .i32 r4).toArray, .int .i64 r5], .agg (enc .i32 r4).toArray, .int .i64 r5, .agg (enc .i32 r4).toArray, .int .i64 z8, .bool true, (g17 19), (g17 20), (g17 21), (g17 22), (g17 23), (g12 24), undef, undef, undef, undef, undef, undef, undef, undef, undef, undef], []⟩) (fun N nj => ?_) ?_
    ·clear h
     have h := hj
     refine xblock (xseq_k fun KS19 ks19 => (xregS [0, 1] fun KR20 kr20 => ?_))
     obtain ⟨h0, h⟩ := of_chk h
     obtain ⟨h1, h⟩ := of_chk h
     refine wpS.tk 0 false (some 19) (.int .i32 (rd r4 z8)) (yld_at (t := 26) (e := 21) (k' := .i64) (by kernel_rfl) (by kernel_rfl) (by kernel_rfl) (by kernel_rfl) h0 h1) ?_
     obtain ⟨x11, hx, h⟩ := of_bind h
     refine wpS.tk 1 false (some 7) (.int .i32 x11) (yld_int hx (fun _ => by kernel_rfl)) ?_
     refine wpS.fin rfl (kr20 _ _ (then_n (ks19 _ _ (xseq_k fun KS21 ks21 => (xregS [0, 1] fun KR22 kr22 => ?_)))))
     refine wpS.q 0 20 (.int .i32 x11) ?_
     rcases of_if h with ⟨hc, h⟩ | ⟨hc, h⟩
     ·refine wpS.tk 1 false (some 21) (.bool false) (yld_b (nf hc) (fun _ => by kernel_rfl)) ?_
      refine wpS.fin rfl (kr22 _ _ (then_n (ks21 _ _ (wp_cond_f (by kernel_rfl) (xskip (inBlock_n ?_))))))
      have q0 := of_some h
      subst q0
      exact nj _ _ ⟨(hs.conv rfl), exg (by kernel_rfl)⟩
     refine wpS.tk 1 false (some 21) (.bool true) (yld_b (nt hc) (fun _ => by kernel_rfl)) ?_
     refine wpS.fin rfl (kr22 _ _ (then_n (ks21 _ _ (wp_cond_t (by kernel_rfl) (xregS [0, 1, 2] fun KR23 kr23 => ?_)))))
     refine wpS.qs [(0, 22, .int .i64 z7), (1, 23, .int .i64 (iadd .i64 z7 1))] ?_
     obtain ⟨x12, hx, h⟩ := of_bind h
     refine wpS.tk 2 false (some 5) (.int .i64 x12) (yld_int hx (fun _ => by kernel_rfl)) ?_
     refine wpS.fin rfl (kr23 _ _ (inBlock_n ?_))
     have q0 := of_some h
     subst q0
     exact nj _ _ ⟨(hs.conv rfl), exg (by kernel_rfl)⟩
    clear hj hs
    rintro a w ⟨hs, g17, rfl⟩
    refine then_n (ks18 _ _ (xregS [0, 1] fun KR24 kr24 => ?_))
    refine wpS.qs [(0, 24, .int .i64 (iadd .i64 z8 1)), (1, 17, .int .i64 (iadd .i64 z8 1))] ?_
    refine wpS.fin rfl (kr24 _ _ ?_)
    exact then_n (kl0 _ _ ⟨n, Nat.lt_succ_self n, y10, (iadd .i64 z8 1), h, (hs.conv rfl), exg (by kernel_rfl)⟩)
   refine wpS.tk 0 false (some 18) (.bool false) (yld_b (df hc) (fun _ => by kernel_rfl)) ?_
   refine wpS.fin rfl (kr15 _ _ (then_n (ks14 _ _ (xseq_k fun KS25 ks25 => (wp_cond_f (by kernel_rfl) (xexit (then_x (then_x (inBlock_hit ?_)))))))))
   have q0 := of_some h
   subst q0
   exact exq_n (nn0 _ _ ⟨(hs.conv rfl), exg (by kernel_rfl)⟩)
 clear hs h hy
 rintro a w ⟨hs, g13, rfl⟩
 have h := hk0
 refine then_n (ks9 _ _ (xseq_k fun KS26 ks26 => (xregS [0, 1, 2, 3, 4, 5, 6, 7, 8, 9, 10] fun KR27 kr27 => ?_)))
 refine wpS.q 0 25 (.int .i64 r2) ?_
 rcases of_if h with ⟨hc, h⟩ | ⟨hc, h⟩
 ·refine wpS.tk 1 false (some 26) (.bool true) (yld_b (et hc) (fun _ => by kernel_rfl)) ?_
  refine wpS.qs [(2, 27, .bool true), (3, 28, .int .i64 r5)] ?_
  rcases of_if h with ⟨hc, h⟩ | ⟨hc, h⟩
  ·refine wpS.tk 4 false (some 29) (.bool true) (yld_b (et hc) (fun _ => by kernel_rfl)) ?_
   refine wpS.qs [(5, 30, .bool true), (6, 31, .bool true), (7, 32, .int .i64 y9), (8, 33, .bool (y9 == 39)), (9, 34, .bool (y9 == 39)), (10, 0, .bool (y9 == 39))] ?_
   refine wpS.fin rfl (kr27 _ _ (then_n (ks26 _ _ (xret ?_))))
   have q0 := of_some h
   subst q0
   exact qq _ _ (post_ret (by kernel_rfl) (run_results [.tmp 0] [.bool (y9 == 39)] (by kernel_rfl) (.cons (res_tmp (by kernel_rfl)) .nil)) ⟨congrArg Ending.returned (by kernel_rfl), hs.none⟩)
  refine wpS.tk 4 false (some 29) (.bool false) (yld_b (ef hc) (fun _ => by kernel_rfl)) ?_
  refine wpS.qs [(5, 30, .bool false), (6, 31, .bool false), (7, 32, undef), (8, 33, undef), (9, 34, .bool false), (10, 0, .bool false)] ?_
  refine wpS.fin rfl (kr27 _ _ (then_n (ks26 _ _ (xret ?_))))
  have q0 := of_some h
  subst q0
  exact qq _ _ (post_ret (by kernel_rfl) (run_results [.tmp 0] [.bool false] (by kernel_rfl) (.cons (res_tmp (by kernel_rfl)) .nil)) ⟨congrArg Ending.returned (by kernel_rfl), hs.none⟩)
 refine wpS.tk 1 false (some 26) (.bool false) (yld_b (ef hc) (fun _ => by kernel_rfl)) ?_
 refine wpS.qs [(2, 27, .bool false), (3, 28, undef), (4, 29, undef), (5, 30, .bool false), (6, 31, .bool false), (7, 32, undef), (8, 33, undef), (9, 34, .bool false), (10, 0, .bool false)] ?_
 refine wpS.fin rfl (kr27 _ _ (then_n (ks26 _ _ (xret ?_))))
 have q0 := of_some h
 subst q0
 exact qq _ _ (post_ret (by kernel_rfl) (run_results [.tmp 0] [.bool false] (by kernel_rfl) (.cons (res_tmp (by kernel_rfl)) .nil)) ⟨congrArg Ending.returned (by kernel_rfl), hs.none⟩)
end Go.Proofs.YtppohhnfojalbaaDoor
