/- Printed by this work's own program: the code of each function below comes to the answer that its plain form tells. -/
import Derived.Test.YtppohhnfojalbaaDoorMd
import Derived.Test.YtppohhnfojalbaaDoorProg
import Derived.Test.YtppohhnfojalbaaDoorVF0
import Derived.Test.YtppohhnfojalbaaDoorVX0
import Derived.Test.YtppohhnfojalbaaDoorVX1
set_option linter.unusedVariables false
set_option linter.unusedSimpArgs false
set_option maxRecDepth 100000
set_option maxHeartbeats 4000000
namespace Go.Proofs.YtppohhnfojalbaaDoor
open Go.Mx
attribute [local irreducible] wpOp

theorem dsamp_Small.ok {K : Nat} {a0 : List Int} {a1 : Int} {a2 : Int} {r0 : Arr 256} {r1 : Int} {a0_A : Option Addr} {a0_n : Nat} {a0_c : Nat} (h : dsamp_Small.f K a0 a1 a2 = some (r0, r1)) (w0 : World) (hp0 : RowL (CI .u8) w0 a0_A a0_n a0_c a0) (hg0 : RowL (CA .u64 24 (by decide)) w0 (some ⟨0, 0, none⟩) 1 1 [tab_0]) (hg1 : RowL (CA .i64 24 (by decide)) w0 (some ⟨1, 0, none⟩) 1 1 [tab_1]) (hg2 : RowL (CA .i64 24 (by decide)) w0 (some ⟨2, 0, none⟩) 1 1 [tab_2]) : Ret Tryd.prog 8 #[.slice a0_A a0_n a0_c, .int .u16 a1, .int .i32 a2] w0 (.tuple #[.agg (enc .i32 r0).toArray, .int .i64 r1]) := by
 refine calls_m Tryd.func8 rfl fun Q qq qn => ?_
 have hs := St.startR (all_cons (RowP.ent hp0) (all_cons (RowP.ent hg0) (all_cons (RowP.ent hg1) (all_cons (RowP.ent hg2) all_nil))))
 refine wp_conv (a' := ⟨#[.slice a0_A a0_n a0_c, .int .u16 a1, .int .i32 a2, undef, undef, undef, undef, undef, undef, undef, undef, undef, undef, undef, undef, undef, undef, undef, undef, undef, undef, undef, undef, undef, undef, undef, undef, undef, undef, undef, undef, undef, undef, undef, undef, undef, undef, undef, undef, undef, undef, undef, undef, undef, undef, undef, undef, undef, undef, undef, undef, undef, undef, undef, undef, undef, undef, undef, undef, undef, undef, undef, undef, undef, undef, undef, undef, undef], []⟩) (by kernel_rfl) ?_
 refine xseq_k fun KS1 ks1 => ?_
 refine xregS [0, 1, 2] fun KR2 kr2 => ?_
 refine wpS.only 0 (op_box (t := 21) (v := .int .i32 a2) (d := (some 5)) (by kernel_rfl) hs ([.int .i32 a2]) (by kernel_rfl) (by kernel_rfl) ?_)
 intro b1 w gw hs
 refine ⟨fun _ => trivial, ?_⟩
 refine wpS.only 1 (op_alloc (t := 26) (d := (some 6)) (by kernel_rfl) hs (enc .i32 (zeroA 256)) (.agg (enc .i32 (zeroA 256)).toArray) (by kernel_rfl) (by kernel_rfl) (by kernel_rfl) ?_)
 intro b2 w gw hs
 refine ⟨fun _ => trivial, ?_⟩
 refine wpS.q 2 7 (.int .i64 0) ?_
 refine wpS.fin rfl (kr2 _ _ (then_n (ks1 _ _ (xseq_k fun KS3 ks3 => (xregS [0, 1, 2, 3] fun KR4 kr4 => ?_)))))
 refine wpS.only 0 (op_alloc (t := 21) (d := (some 8)) (by kernel_rfl) hs ([.int .i32 0]) (.int .i32 0) (by kernel_rfl) (by kernel_rfl) (by kernel_rfl) ?_)
 intro b3 w gw hs
 refine ⟨fun _ => trivial, ?_⟩
 refine wpS.only 1 (op_alloc (t := 21) (d := (some 9)) (by kernel_rfl) hs ([.int .i32 0]) (.int .i32 0) (by kernel_rfl) (by kernel_rfl) (by kernel_rfl) ?_)
 intro b4 w gw hs
 refine ⟨fun _ => trivial, ?_⟩
 refine wpS.only 2 (op_store1 (t := 21) (o := 0) (v := .int .i32 15) (d := none) (by kernel_rfl) hs 1 rfl (by kernel_rfl) rfl (by kernel_rfl) (by simp) ?_)
 intro w kp hs
 refine ⟨fun _ => trivial, ?_⟩
 refine wpS.only 3 (op_store1 (t := 21) (o := 0) (v := .int .i32 5) (d := none) (by kernel_rfl) hs 0 rfl (by kernel_rfl) rfl (by kernel_rfl) (by simp) ?_)
 intro w kp hs
 refine ⟨fun _ => trivial, ?_⟩
 refine wpS.fin rfl (kr4 _ _ (then_n (ks3 _ _ ?_)))
 obtain ⟨tv6, hj, hk_6⟩ := of_bind h
 refine xseq_k fun KS6 ks6 => wp_exj (N := fun a w => ∃ y5 y6 y7, tv6 = .inl (y5, y6, y7) ∧ St w0 [] [.blk b4 ([.int .i32 y5]) 21, .blk b3 ([.int .i32 y6]) 21, .blk b2 (enc .i32 y7) 26, .blk b1 ([.int .i32 a2]) 21] [.rowL (CI .u8) a0_A a0_n a0_c a0, .rowL (CA .u64 24 (by decide)) (some ⟨0, 0, none⟩) 1 1 ([tab_0]), .rowL (CA .i64 24 (by decide)) (some ⟨1, 0, none⟩) 1 1 ([tab_1]), .rowL (CA .i64 24 (by decide)) (some ⟨2, 0, none⟩) 1 1 ([tab_2])] w ∧ ∃ g5 : Nat → Value, a = ⟨#[.slice a0_A a0_n a0_c, .int .u16 a1, .int .i32 a2, undef, undef, .pointer (some ⟨b1, 0, none⟩), .pointer (some ⟨b2, 0, none⟩), (g5 7), .pointer (some ⟨b3, 0, none⟩), .pointer (some ⟨b4, 0, none⟩), undef, undef, undef, undef, (g5 14), (g5 15), (g5 16), (g5 17), (g5 18), (g5 19), undef, undef, undef, undef, undef, undef, undef, undef, undef, undef, undef, undef, undef, undef, undef, undef, undef, undef, undef, undef, undef, undef, undef, undef, undef, undef, undef, undef, undef, undef, undef, undef, undef, undef, undef, undef, undef, undef, undef, undef, undef, undef, undef, undef, undef, undef, undef, undef], []⟩) (fun N nj => ?_) ?_
 ·clear h
  have h := hj
  refine xseq_k fun KS7 ks7 => ?_
  refine xregS [0] fun KR8 kr8 => ?_
  refine wpS.tk 0 true (some 14) (.int .i32 a2) (yld_load1 (e := 21) (o := 0) hs 3 rfl (by kernel_rfl) (by kernel_rfl) (by rfl) .grow) ?_
  refine wpS.fin rfl (kr8 _ _ (then_n (ks7 _ _ (xblock (xseq_k fun KS9 ks9 => (xregS [0, 1] fun KR10 kr10 => ?_))))))
  rcases of_if h with ⟨hc, h⟩ | ⟨hc, h⟩
  ·refine wpS.tk 0 false (some 17) (.bool true) (yld_b (et hc) (fun _ => by kernel_rfl)) ?_
   refine wpS.q 1 16 (.bool true) ?_
   refine wpS.fin rfl (kr10 _ _ (then_n (ks9 _ _ (wp_cond_t (by kernel_rfl) (xskip (inBlock_n ?_))))))
   have q0 := of_some h
   subst q0
   exact exj_n (nj _ _ ⟨5, 15, (zeroA 256), rfl, (hs.conv rfl), exg (by kernel_rfl)⟩)
  refine wpS.tk 0 false (some 17) (.bool false) (yld_b (ef hc) (fun _ => by kernel_rfl)) ?_
  refine wpS.q 1 16 (.bool false) ?_
  refine wpS.fin rfl (kr10 _ _ (then_n (ks9 _ _ (wp_cond_f (by kernel_rfl) (xseq_k fun KS11 ks11 => (xregS [0, 1] fun KR12 kr12 => ?_))))))
  rcases of_if h with ⟨hc, h⟩ | ⟨hc, h⟩
  ·refine wpS.tk 0 false (some 19) (.bool true) (yld_b (et hc) (fun _ => by kernel_rfl)) ?_
   refine wpS.q 1 18 (.bool true) ?_
   refine wpS.fin rfl (kr12 _ _ (then_n (ks11 _ _ (wp_cond_t (by kernel_rfl) (xregS [0, 1] fun KR13 kr13 => ?_)))))
   refine wpS.only 0 (op_store1 (t := 21) (o := 0) (v := .int .i32 9) (d := none) (by kernel_rfl) hs 1 rfl (by kernel_rfl) rfl (by kernel_rfl) (by simp) ?_)
   intro w kp hs
   refine ⟨fun _ => trivial, ?_⟩
   refine wpS.only 1 (op_store1 (t := 21) (o := 0) (v := .int .i32 9) (d := none) (by kernel_rfl) hs 0 rfl (by kernel_rfl) rfl (by kernel_rfl) (by simp) ?_)
   intro w kp hs
   refine ⟨fun _ => trivial, ?_⟩
   refine wpS.fin rfl (kr13 _ _ (inBlock_n ?_))
   have q0 := of_some h
   subst q0
   exact exj_n (nj _ _ ⟨9, 9, (zeroA 256), rfl, (hs.conv rfl), exg (by kernel_rfl)⟩)
  refine wpS.tk 0 false (some 19) (.bool false) (yld_b (ef hc) (fun _ => by kernel_rfl)) ?_
  refine wpS.q 1 18 (.bool false) ?_
  refine wpS.fin rfl (kr12 _ _ (then_n (ks11 _ _ (wp_cond_f (by kernel_rfl) (xseq_k fun KS14 ks14 => (xregS [0, 1, 2] fun KR15 kr15 => ?_))))))
  refine wpS.q 0 15 (.agg (enc .i32 (zeroA 256)).toArray) ?_
  refine wpS.only 1 (op_storeW (t := 26) (v := .agg (enc .i32 (zeroA 256)).toArray) (d := none) (by kernel_rfl) hs 2 rfl (vs := enc .i32 (zeroA 256)) (n := 256) (by kernel_rfl) (by kernel_rfl) (by kernel_rfl) (by simp [enc_len]) (by simp [enc_len]) (by intro u hu; exact enc_one _ _ u hu) ?_)
  intro w kp hs
  refine ⟨fun _ => trivial, ?_⟩
  refine wpS.q 2 7 (.int .i64 8) ?_
  refine wpS.fin rfl (kr15 _ _ (then_n (ks14 _ _ (xret (inBlock_r ?_)))))
  have q0 := of_some h
  subst q0
  have h := hk_6
  refine exj_r ?_
  refine then_r ?_
  obtain ⟨q0, qr0⟩ := Prod.mk.inj (of_some h)
  have q1 := qr0
  subst q0
  subst q1
  refine qq _ _ ?_
  exact leaves_end (run_results [.cell 6 26, .tmp 7] [.agg (enc .i32 (zeroA 256)).toArray, .int .i64 8] (by kernel_rfl) (.cons (res_cellN (n := 256) hs 2 rfl (by kernel_rfl) (by kernel_rfl) (by kernel_rfl) (by exact enc_len _ _)) (.cons (res_tmp (by kernel_rfl)) .nil))) ⟨congrArg Ending.returned (by kernel_rfl), hs.none⟩
 clear hj hs
 rintro a w ⟨y5, y6, y7, rfl, hs, g5, rfl⟩
 have h := hk_6
 refine then_n (ks6 _ _ (xseq_k fun KS16 ks16 => (xregS [0, 1, 2, 3] fun KR17 kr17 => ?_)))
 refine wpS.q 0 20 (.agg (([] : List Value) ++ enc .i32 (zeroA 256) ++ ([.int .i64 0] : List Value)).toArray) ?_
 refine wpS.only 1 (op_box (t := 43) (v := .agg (([] : List Value) ++ enc .i32 (zeroA 256) ++ ([.int .i64 0] : List Value)).toArray) (d := (some 21)) (by kernel_rfl) hs (([] : List Value) ++ enc .i32 (zeroA 256) ++ ([.int .i64 0] : List Value)) (by kernel_rfl) (by kernel_rfl) ?_)
 intro b8 w gw hs
 refine ⟨fun _ => trivial, ?_⟩
 refine wpS.only 2 (op_alloc (t := 41) (d := (some 10)) (by kernel_rfl) hs ([.pointer none]) (.pointer none) (by kernel_rfl) (by kernel_rfl) (by kernel_rfl) ?_)
 intro b9 w gw hs
 refine ⟨fun _ => trivial, ?_⟩
 refine wpS.only 3 (op_store1 (t := 41) (o := 0) (v := .pointer (some ⟨b8, 0, none⟩)) (d := none) (by kernel_rfl) hs 0 rfl (by kernel_rfl) rfl (by kernel_rfl) (by simp) ?_)
 intro w kp hs
 refine ⟨fun _ => trivial, ?_⟩
 refine wpS.fin rfl (kr17 _ _ (then_n (ks16 _ _ ?_)))
 obtain ⟨⟨y11_0, y11_1⟩, hj, h⟩ := of_bind h
 refine xseq_k fun KS19 ks19 => wp_join (N := fun a w => ∃ (D10 : Nat), St w0 [] [.obj D10 (.deferred (some [])), .blk b9 ([.pointer (some ⟨b8, 0, none⟩)]) 41, .blk b8 (([] : List Value) ++ enc .i32 y11_0 ++ ([.int .i64 y11_1] : List Value)) 43, .blk b4 ([.int .i32 y5]) 21, .blk b3 ([.int .i32 y6]) 21, .blk b2 (enc .i32 y7) 26, .blk b1 ([.int .i32 a2]) 21] [.rowL (CI .u8) a0_A a0_n a0_c a0, .rowL (CA .u64 24 (by decide)) (some ⟨0, 0, none⟩) 1 1 ([tab_0]), .rowL (CA .i64 24 (by decide)) (some ⟨1, 0, none⟩) 1 1 ([tab_1]), .rowL (CA .i64 24 (by decide)) (some ⟨2, 0, none⟩) 1 1 ([tab_2])] w ∧ ∃ g18 : Nat → Value, a = ⟨#[.slice a0_A a0_n a0_c, .int .u16 a1, .int .i32 a2, undef, undef, .pointer (some ⟨b1, 0, none⟩), .pointer (some ⟨b2, 0, none⟩), (g5 7), .pointer (some ⟨b3, 0, none⟩), .pointer (some ⟨b4, 0, none⟩), .pointer (some ⟨b9, 0, none⟩), (g18 11), (g18 12), (g18 13), (g5 14), (g5 15), (g5 16), (g5 17), (g5 18), (g5 19), .agg (([] : List Value) ++ enc .i32 (zeroA 256) ++ ([.int .i64 0] : List Value)).toArray, .pointer (some ⟨b8, 0, none⟩), (g18 22), (g18 23), (g18 24), (g18 25), (g18 26), (g18 27), (g18 28), (g18 29), (g18 30), (g18 31), (g18 32), (g18 33), (g18 34), (g18 35), (g18 36), (g18 37), (g18 38), (g18 39), (g18 40), (g18 41), (g18 42), (g18 43), (g18 44), (g18 45), (g18 46), (g18 47), (g18 48), (g18 49), (g18 50), (g18 51), (g18 52), (g18 53), (g18 54), (g18 55), (g18 56), (g18 57), (g18 58), (g18 59), (g18 60), (g18 61), (g18 62), (g18 63), undef, undef, undef, undef], [lmark D10]⟩) (fun N nj => ?_) ?_
 ·clear h
  have h := hj
  refine xseq_k fun KS20 ks20 => ?_
  refine xregS [0, 1, 2, 3, 4, 5, 6] fun KR21 kr21 => ?_
  refine wpS.qs [(0, 22, .slice a0_A a0_n a0_c), (1, 23, .int .u16 a1), (2, 24, .int .u64 (iconv .u64 a1))] ?_
  obtain ⟨r12, hg, h⟩ := of_bind h
  refine wpS.only 3 (op_callH (d := (some 25)) (by kernel_rfl) hs (fun _ => by kernel_rfl) (bits_Le.ok hg _) ?_)
  rintro ⟨r12_A, r12_n, r12_c⟩ w gw hs
  have hs := hs.conv (L' := [.ownL (CI .u8) r12_A r12_n r12_c r12 5, .blk b9 ([.pointer (some ⟨b8, 0, none⟩)]) 41, .blk b8 (([] : List Value) ++ enc .i32 (zeroA 256) ++ ([.int .i64 0] : List Value)) 43, .blk b4 ([.int .i32 y5]) 21, .blk b3 ([.int .i32 y6]) 21, .blk b2 (enc .i32 y7) 26, .blk b1 ([.int .i32 a2]) 21]) rfl
  refine ⟨fun _ => trivial, ?_⟩
  refine wpS.only 4 (op_lit (C := CS) (t := 55) (e := 22) (len := 2) (parts := #[(0, .slice a0_A a0_n a0_c), (1, .slice r12_A r12_n r12_c)]) (l := ([(a0_A, a0_n, a0_c), (r12_A, r12_n, r12_c)] : List HS)) (d := (some 26)) (by kernel_rfl) hs (by kernel_rfl) (by kernel_rfl) (by kernel_rfl) (z := .slice none 0 0) (by kernel_rfl) rfl (by decide) (by decide) (by kernel_rfl) ?_)
  intro s13_A s13_n s13_c w gw hs
  refine ⟨fun _ => trivial, ?_⟩
  obtain ⟨⟨r14_0, r14_1, r14_2, r14_3⟩, hg, h⟩ := of_bind h
  refine wpS.only 5 (op_call (d := (some 27)) (by kernel_rfl) hs (fun _ => by kernel_rfl) (dsamp_sponge.ok hg _ (LLP.mk (hs.rowL 0 rfl) (inn_cons (hs.rowR 0 rfl) (inn_cons (hs.rowL 1 rfl) inn_nil))) (hs.rowR 1 rfl) (hs.rowR 2 rfl) (hs.rowR 3 rfl)) ?_)
  intro w gw hs
  refine ⟨fun _ => trivial, ?_⟩
  refine wpS.only 6 (op_inline (d := (some 28)) (f := 16) (args := #[.agg (([.int .i64 r14_0] : List Value) ++ enc .u64 r14_1 ++ ([.int .i64 r14_2, .bool r14_3] : List Value)).toArray, .int .i64 4096]) (by kernel_rfl) (fun _ => by kernel_rfl) fun R22 kI22 => ?_)
  refine calls_k Tryd.func16 rfl fun Q22 qq22 => ?_
  refine wp_conv (a' := ⟨#[.agg (([.int .i64 r14_0] : List Value) ++ enc .u64 r14_1 ++ ([.int .i64 r14_2, .bool r14_3] : List Value)).toArray, .int .i64 4096, undef, undef, undef, undef], []⟩) (by kernel_rfl) ?_
  refine xseq_k fun KS23 ks23 => ?_
  refine xregS [0, 1, 2] fun KR24 kr24 => ?_
  refine wpS.only 0 (op_box (t := 50) (v := .agg (([.int .i64 r14_0] : List Value) ++ enc .u64 r14_1 ++ ([.int .i64 r14_2, .bool r14_3] : List Value)).toArray) (d := (some 2)) (by kernel_rfl) hs (([.int .i64 r14_0] : List Value) ++ enc .u64 r14_1 ++ ([.int .i64 r14_2, .bool r14_3] : List Value)) (by kernel_rfl) (by kernel_rfl) ?_)
  intro b15 w gw hs
  refine ⟨fun _ => trivial, ?_⟩
  refine wpS.only 1 (op_box (t := 3) (v := .int .i64 4096) (d := (some 3)) (by kernel_rfl) hs ([.int .i64 4096]) (by kernel_rfl) (by kernel_rfl) ?_)
  intro b16 w gw hs
  refine ⟨fun _ => trivial, ?_⟩
  refine wpS.q 2 4 (.nilFunc) ?_
  refine wpS.fin rfl (kr24 _ _ (then_n (ks23 _ _ (xseq_k fun KS25 ks25 => (xregS [0, 1] fun KR26 kr26 => ?_)))))
  refine wpS.qs [(0, 5, .func (.func 32) #[] #[.pointer (some ⟨b16, 0, none⟩), .pointer (some ⟨b15, 0, none⟩)]), (1, 4, .func (.func 32) #[] #[.pointer (some ⟨b16, 0, none⟩), .pointer (some ⟨b15, 0, none⟩)])] ?_
  refine wpS.fin rfl (kr26 _ _ (then_n (ks25 _ _ (xret ?_))))
  refine qq22 _ _ (post_ret (by kernel_rfl) (run_results [.tmp 4] [.func (.func 32) #[] #[.pointer (some ⟨b16, 0, none⟩), .pointer (some ⟨b15, 0, none⟩)]] (by kernel_rfl) (.cons (res_tmp (by kernel_rfl)) .nil)) ?_)
  refine kI22 _ _ ?_
  refine ⟨fun _ => trivial, ?_⟩
  refine wpS.fin rfl (kr21 _ _ (then_n (ks20 _ _ (xblock ?_))))
  refine wp_range (gf := 32) (lb := #[.pointer (some ⟨b16, 0, none⟩), .pointer (some ⟨b15, 0, none⟩)]) hs (by kernel_rfl) (fun _ _ => by kernel_rfl) fun l27 D27 rec27 w hok27 hs R27 kR27 => ?_
  refine calls_kn Tryd.func32 rfl fun Q27 qq27 qn27 => ?_
  refine wp_conv (a' := ⟨#[.func (.yield l27) #[] #[], .pointer (some ⟨b16, 0, none⟩), .pointer (some ⟨b15, 0, none⟩), undef, undef, undef, undef, undef, undef, undef, undef, undef, undef, undef, undef, undef, undef, undef, undef, undef, undef, undef, undef, undef, undef, undef, undef, undef, undef, undef, undef], []⟩) (by kernel_rfl) ?_
  refine xseq_k fun KS28 ks28 => ?_
  refine xregS [0, 1] fun KR29 kr29 => ?_
  refine wpS.tk 0 true (some 8) (.int .i64 4096) (yld_load1 (e := 3) (o := 0) hs 2 rfl (by kernel_rfl) (by kernel_rfl) (by rfl) .grow) ?_
  refine wpS.q 1 4 (.int .i64 4096) ?_
  refine wpS.fin rfl (kr29 _ _ (then_n (ks28 _ _ ?_)))
  obtain ⟨t0, hy, hk0⟩ := of_bind h
  refine wp_exq (N := fun a w => ∃ y20_0 y20_1 y20_2 y20_3 y21_0 y21_1, t0 = .inl (y20_0, y20_1, y20_2, y20_3, y21_0, y21_1) ∧ St w0 [] [.obj l27 (.loop (rec27 .ready none)), .obj D27 (.deferred (some [])), .blk b16 ([.int .i64 4096]) 3, .blk b15 (([.int .i64 y20_0] : List Value) ++ enc .u64 y20_1 ++ ([.int .i64 y20_2, .bool y20_3] : List Value)) 50, .ownL CS s13_A s13_n s13_c ([(a0_A, a0_n, a0_c), (r12_A, r12_n, r12_c)] : List HS) 22, .ownL (CI .u8) r12_A r12_n r12_c r12 5, .blk b9 ([.pointer (some ⟨b8, 0, none⟩)]) 41, .blk b8 (([] : List Value) ++ enc .i32 y21_0 ++ ([.int .i64 y21_1] : List Value)) 43, .blk b4 ([.int .i32 y5]) 21, .blk b3 ([.int .i32 y6]) 21, .blk b2 (enc .i32 y7) 26, .blk b1 ([.int .i32 a2]) 21] [.rowL (CI .u8) a0_A a0_n a0_c a0, .rowL (CA .u64 24 (by decide)) (some ⟨0, 0, none⟩) 1 1 ([tab_0]), .rowL (CA .i64 24 (by decide)) (some ⟨1, 0, none⟩) 1 1 ([tab_1]), .rowL (CA .i64 24 (by decide)) (some ⟨2, 0, none⟩) 1 1 ([tab_2])] w ∧ ∃ g31 : Nat → Value, a = ⟨#[.func (.yield l27) #[] #[], .pointer (some ⟨b16, 0, none⟩), .pointer (some ⟨b15, 0, none⟩), undef, (g31 4), (g31 5), undef, (g31 7), .int .i64 4096, (g31 9), (g31 10), (g31 11), (g31 12), (g31 13), (g31 14), (g31 15), (g31 16), (g31 17), (g31 18), (g31 19), (g31 20), (g31 21), (g31 22), (g31 23), (g31 24), (g31 25), (g31 26), (g31 27), (g31 28), (g31 29), (g31 30)], []⟩) (fun N0 nn0 => ?_) ?_
  ·refine xblock ?_
   refine wp_loop_k (fun n a w => ∃ z17 z18_0 z18_1 z18_2 z18_3 z19_0 z19_1, dsamp_Small.l0 K n a2 y5 y6 z17 z18_0 z18_1 z18_2 z18_3 z19_0 z19_1 = some t0 ∧ St w0 [] [.obj l27 (.loop (rec27 .ready none)), .obj D27 (.deferred (some [])), .blk b16 ([.int .i64 4096]) 3, .blk b15 (([.int .i64 z18_0] : List Value) ++ enc .u64 z18_1 ++ ([.int .i64 z18_2, .bool z18_3] : List Value)) 50, .ownL CS s13_A s13_n s13_c ([(a0_A, a0_n, a0_c), (r12_A, r12_n, r12_c)] : List HS) 22, .ownL (CI .u8) r12_A r12_n r12_c r12 5, .blk b9 ([.pointer (some ⟨b8, 0, none⟩)]) 41, .blk b8 (([] : List Value) ++ enc .i32 z19_0 ++ ([.int .i64 z19_1] : List Value)) 43, .blk b4 ([.int .i32 y5]) 21, .blk b3 ([.int .i32 y6]) 21, .blk b2 (enc .i32 y7) 26, .blk b1 ([.int .i32 a2]) 21] [.rowL (CI .u8) a0_A a0_n a0_c a0, .rowL (CA .u64 24 (by decide)) (some ⟨0, 0, none⟩) 1 1 ([tab_0]), .rowL (CA .i64 24 (by decide)) (some ⟨1, 0, none⟩) 1 1 ([tab_1]), .rowL (CA .i64 24 (by decide)) (some ⟨2, 0, none⟩) 1 1 ([tab_2])] w ∧ ∃ g30 : Nat → Value, a = ⟨#[.func (.yield l27) #[] #[], .pointer (some ⟨b16, 0, none⟩), .pointer (some ⟨b15, 0, none⟩), undef, .int .i64 z17, (g30 5), undef, (g30 7), .int .i64 4096, (g30 9), (g30 10), (g30 11), (g30 12), (g30 13), (g30 14), (g30 15), (g30 16), (g30 17), (g30 18), (g30 19), (g30 20), (g30 21), (g30 22), (g30 23), (g30 24), (g30 25), (g30 26), (g30 27), (g30 28), (g30 29), (g30 30)], []⟩) K ⟨4096, r14_0, r14_1, r14_2, r14_3, (zeroA 256), 0, hy, hs.conv rfl, exg (by kernel_rfl)⟩ ?_
   clear hs h hy
   rintro n a w ⟨z17, z18_0, z18_1, z18_2, z18_3, z19_0, z19_1, h, hs, g30, rfl⟩ KL0 kl0
   cases n with
   | zero => exact nomatch (show none = some _ from h)
   | succ n =>
    refine xseq_k fun KS32 ks32 => ?_
    refine xseq_k fun KS33 ks33 => ?_
    refine xregS [0, 1] fun KR34 kr34 => ?_
    refine wpS.q 0 9 (.int .i64 z17) ?_
    rcases of_if h with ⟨hc, h⟩ | ⟨hc, h⟩
    ·refine wpS.tk 1 false (some 10) (.bool true) (yld_b (dt hc) (fun _ => by kernel_rfl)) ?_
     refine wpS.fin rfl (kr34 _ _ (then_n (ks33 _ _ (wp_cond_t (by kernel_rfl) (xskip (then_n (ks32 _ _ (xseq_k fun KS35 ks35 => (xblock (xseq_k fun KS36 ks36 => (xregS [0] fun KR37 kr37 => ?_)))))))))))
     refine wpS.q 0 5 (.slice none 0 0) ?_
     refine wpS.fin rfl (kr37 _ _ (then_n (ks36 _ _ (xseq_k fun KS38 ks38 => (xregS [0, 1, 2, 3, 4, 5, 6, 7, 8] fun KR39 kr39 => ?_)))))
     refine wpS.tk 0 true (some 14) (.agg (([.int .i64 z18_0] : List Value) ++ enc .u64 z18_1 ++ ([.int .i64 z18_2, .bool z18_3] : List Value)).toArray) (yld_loadW (e := 50) (n := 28) hs 3 rfl (by kernel_rfl) (by kernel_rfl) (by kernel_rfl) (by simp [enc_len]) .grow) ?_
     refine wpS.qs [(1, 15, .int .i64 z17), (2, 16, .int .i64 (imin 136 z17))] ?_
     obtain ⟨⟨r22_0, r22_1, r22_2, r22_3, r23⟩, hg, h⟩ := of_bind h
     refine wpS.only 3 (op_callH (d := (some 17)) (by kernel_rfl) hs (fun _ => by kernel_rfl) (keccak_Squeeze.ok hg _ (hs.rowR 1 rfl) (hs.rowR 2 rfl) (hs.rowR 3 rfl)) ?_)
     rintro ⟨r23_A, r23_n, r23_c⟩ w gw hs
     have hs := hs.conv (L' := [.ownL (CI .u8) r23_A r23_n r23_c r23 5, .obj l27 (.loop (rec27 .ready none)), .obj D27 (.deferred (some [])), .blk b16 ([.int .i64 4096]) 3, .blk b15 (([.int .i64 z18_0] : List Value) ++ enc .u64 z18_1 ++ ([.int .i64 z18_2, .bool z18_3] : List Value)) 50, .ownL CS s13_A s13_n s13_c ([(a0_A, a0_n, a0_c), (r12_A, r12_n, r12_c)] : List HS) 22, .ownL (CI .u8) r12_A r12_n r12_c r12 5, .blk b9 ([.pointer (some ⟨b8, 0, none⟩)]) 41, .blk b8 (([] : List Value) ++ enc .i32 z19_0 ++ ([.int .i64 z19_1] : List Value)) 43, .blk b4 ([.int .i32 y5]) 21, .blk b3 ([.int .i32 y6]) 21, .blk b2 (enc .i32 y7) 26, .blk b1 ([.int .i32 a2]) 21]) rfl
     refine ⟨fun _ => trivial, ?_⟩
     refine wpS.qs [(4, 13, .tuple #[.agg (([.int .i64 r22_0] : List Value) ++ enc .u64 r22_1 ++ ([.int .i64 r22_2, .bool r22_3] : List Value)).toArray, .slice r23_A r23_n r23_c]), (5, 18, .agg (([.int .i64 r22_0] : List Value) ++ enc .u64 r22_1 ++ ([.int .i64 r22_2, .bool r22_3] : List Value)).toArray), (6, 19, .slice r23_A r23_n r23_c)] ?_
     refine wpS.only 7 (op_storeW (t := 50) (v := .agg (([.int .i64 r22_0] : List Value) ++ enc .u64 r22_1 ++ ([.int .i64 r22_2, .bool r22_3] : List Value)).toArray) (d := none) (by kernel_rfl) hs 4 rfl (vs := ([.int .i64 r22_0] : List Value) ++ enc .u64 r22_1 ++ ([.int .i64 r22_2, .bool r22_3] : List Value)) (n := 28) (by kernel_rfl) (by kernel_rfl) (by kernel_rfl) (by simp [enc_len]) (by simp [enc_len]) (one_app (one_app (by simp [Value.oneCell']) (fun u hu => enc_one _ _ u hu)) (by simp [Value.oneCell'])) ?_)
     intro w kp hs
     refine ⟨fun _ => trivial, ?_⟩
     refine wpS.q 8 5 (.slice r23_A r23_n r23_c) ?_
     refine wpS.fin rfl (kr39 _ _ (then_n (ks38 _ _ (xseq_k fun KS40 ks40 => (xregS [0, 1, 2] fun KR41 kr41 => ?_)))))
     refine wpS.q 0 20 (.slice r23_A r23_n r23_c) ?_
     refine wpS.tk 1 false (some 21) (.int .i64 (r23.length : Int)) (yld_lenL (hs.rowL 0 rfl) (fun _ => by kernel_rfl)) ?_
     refine wpS.q 2 22 (.int .i64 0) ?_
     refine wpS.fin rfl (kr41 _ _ (then_n (ks40 _ _ ?_)))
     obtain ⟨t1, hy, hk1⟩ := of_bind h
     refine wp_exq (N := fun a w => ∃ y26_0 y26_1, t1 = .inl (y26_0, y26_1) ∧ St w0 [] [.ownL (CI .u8) r23_A r23_n r23_c r23 5, .obj l27 (.loop (rec27 .ready none)), .obj D27 (.deferred (some [])), .blk b16 ([.int .i64 4096]) 3, .blk b15 (([.int .i64 r22_0] : List Value) ++ enc .u64 r22_1 ++ ([.int .i64 r22_2, .bool r22_3] : List Value)) 50, .ownL CS s13_A s13_n s13_c ([(a0_A, a0_n, a0_c), (r12_A, r12_n, r12_c)] : List HS) 22, .ownL (CI .u8) r12_A r12_n r12_c r12 5, .blk b9 ([.pointer (some ⟨b8, 0, none⟩)]) 41, .blk b8 (([] : List Value) ++ enc .i32 y26_0 ++ ([.int .i64 y26_1] : List Value)) 43, .blk b4 ([.int .i32 y5]) 21, .blk b3 ([.int .i32 y6]) 21, .blk b2 (enc .i32 y7) 26, .blk b1 ([.int .i32 a2]) 21] [.rowL (CI .u8) a0_A a0_n a0_c a0, .rowL (CA .u64 24 (by decide)) (some ⟨0, 0, none⟩) 1 1 ([tab_0]), .rowL (CA .i64 24 (by decide)) (some ⟨1, 0, none⟩) 1 1 ([tab_1]), .rowL (CA .i64 24 (by decide)) (some ⟨2, 0, none⟩) 1 1 ([tab_2])] w ∧ ∃ g43 : Nat → Value, a = ⟨#[.func (.yield l27) #[] #[], .pointer (some ⟨b16, 0, none⟩), .pointer (some ⟨b15, 0, none⟩), undef, .int .i64 z17, .slice r23_A r23_n r23_c, undef, (g43 7), .int .i64 4096, .int .i64 z17, .bool true, (g30 11), (g30 12), .tuple #[.agg (([.int .i64 r22_0] : List Value) ++ enc .u64 r22_1 ++ ([.int .i64 r22_2, .bool r22_3] : List Value)).toArray, .slice r23_A r23_n r23_c], .agg (([.int .i64 z18_0] : List Value) ++ enc .u64 z18_1 ++ ([.int .i64 z18_2, .bool z18_3] : List Value)).toArray, .int .i64 z17, .int .i64 (imin 136 z17), .tuple #[.agg (([.int .i64 r22_0] : List Value) ++ enc .u64 r22_1 ++ ([.int .i64 r22_2, .bool r22_3] : List Value)).toArray, .slice r23_A r23_n r23_c], .agg (([.int .i64 r22_0] : List Value) ++ enc .u64 r22_1 ++ ([.int .i64 r22_2, .bool r22_3] : List Value)).toArray, .slice r23_A r23_n r23_c, .slice r23_A r23_n r23_c, .int .i64 (r23.length : Int), (g43 22), (g43 23), (g43 24), (g43 25), (g43 26), (g43 27), (g43 28), (g43 29), (g43 30)], []⟩) (fun N1 nn1 => ?_) ?_
     ·refine xblock ?_
      refine wp_loop_k (fun n a w => ∃ z24 z25_0 z25_1, dsamp_Small.l1 K n a2 y5 y6 r23 z24 z25_0 z25_1 = some t1 ∧ St w0 [] [.ownL (CI .u8) r23_A r23_n r23_c r23 5, .obj l27 (.loop (rec27 .ready none)), .obj D27 (.deferred (some [])), .blk b16 ([.int .i64 4096]) 3, .blk b15 (([.int .i64 r22_0] : List Value) ++ enc .u64 r22_1 ++ ([.int .i64 r22_2, .bool r22_3] : List Value)) 50, .ownL CS s13_A s13_n s13_c ([(a0_A, a0_n, a0_c), (r12_A, r12_n, r12_c)] : List HS) 22, .ownL (CI .u8) r12_A r12_n r12_c r12 5, .blk b9 ([.pointer (some ⟨b8, 0, none⟩)]) 41, .blk b8 (([] : List Value) ++ enc .i32 z25_0 ++ ([.int .i64 z25_1] : List Value)) 43, .blk b4 ([.int .i32 y5]) 21, .blk b3 ([.int .i32 y6]) 21, .blk b2 (enc .i32 y7) 26, .blk b1 ([.int .i32 a2]) 21] [.rowL (CI .u8) a0_A a0_n a0_c a0, .rowL (CA .u64 24 (by decide)) (some ⟨0, 0, none⟩) 1 1 ([tab_0]), .rowL (CA .i64 24 (by decide)) (some ⟨1, 0, none⟩) 1 1 ([tab_1]), .rowL (CA .i64 24 (by decide)) (some ⟨2, 0, none⟩) 1 1 ([tab_2])] w ∧ ∃ g42 : Nat → Value, a = ⟨#[.func (.yield l27) #[] #[], .pointer (some ⟨b16, 0, none⟩), .pointer (some ⟨b15, 0, none⟩), undef, .int .i64 z17, .slice r23_A r23_n r23_c, undef, (g42 7), .int .i64 4096, .int .i64 z17, .bool true, (g30 11), (g30 12), .tuple #[.agg (([.int .i64 r22_0] : List Value) ++ enc .u64 r22_1 ++ ([.int .i64 r22_2, .bool r22_3] : List Value)).toArray, .slice r23_A r23_n r23_c], .agg (([.int .i64 z18_0] : List Value) ++ enc .u64 z18_1 ++ ([.int .i64 z18_2, .bool z18_3] : List Value)).toArray, .int .i64 z17, .int .i64 (imin 136 z17), .tuple #[.agg (([.int .i64 r22_0] : List Value) ++ enc .u64 r22_1 ++ ([.int .i64 r22_2, .bool r22_3] : List Value)).toArray, .slice r23_A r23_n r23_c], .agg (([.int .i64 r22_0] : List Value) ++ enc .u64 r22_1 ++ ([.int .i64 r22_2, .bool r22_3] : List Value)).toArray, .slice r23_A r23_n r23_c, .slice r23_A r23_n r23_c, .int .i64 (r23.length : Int), .int .i64 z24, (g42 23), (g42 24), (g42 25), (g42 26), (g42 27), (g42 28), (g42 29), (g42 30)], []⟩) K ⟨0, z19_0, z19_1, hy, hs.conv rfl, exg (by kernel_rfl)⟩ ?_
      clear hs h hy
      rintro n a w ⟨z24, z25_0, z25_1, h, hs, g42, rfl⟩ KL1 kl1
      cases n with
      | zero => exact nomatch (show none = some _ from h)
      | succ n =>
       refine xseq_k fun KS44 ks44 => ?_
       refine xregS [0] fun KR45 kr45 => ?_
       rcases of_if h with ⟨hc, h⟩ | ⟨hc, h⟩
       ·refine wpS.tk 0 false (some 23) (.bool true) (yld_b (dt hc) (fun _ => by kernel_rfl)) ?_
        refine wpS.fin rfl (kr45 _ _ (then_n (ks44 _ _ (xseq_k fun KS46 ks46 => (wp_cond_t (by kernel_rfl) (xskip (then_n (ks46 _ _ ?_))))))))
        obtain ⟨tv48, hj, hk_48⟩ := of_bind h
        refine xseq_k fun KS48 ks48 => wp_exj (N := fun a w => ∃ y27_0 y27_1, tv48 = .inl (y27_0, y27_1) ∧ St w0 [] [.ownL (CI .u8) r23_A r23_n r23_c r23 5, .obj l27 (.loop (rec27 .ready none)), .obj D27 (.deferred (some [])), .blk b16 ([.int .i64 4096]) 3, .blk b15 (([.int .i64 r22_0] : List Value) ++ enc .u64 r22_1 ++ ([.int .i64 r22_2, .bool r22_3] : List Value)) 50, .ownL CS s13_A s13_n s13_c ([(a0_A, a0_n, a0_c), (r12_A, r12_n, r12_c)] : List HS) 22, .ownL (CI .u8) r12_A r12_n r12_c r12 5, .blk b9 ([.pointer (some ⟨b8, 0, none⟩)]) 41, .blk b8 (([] : List Value) ++ enc .i32 y27_0 ++ ([.int .i64 y27_1] : List Value)) 43, .blk b4 ([.int .i32 y5]) 21, .blk b3 ([.int .i32 y6]) 21, .blk b2 (enc .i32 y7) 26, .blk b1 ([.int .i32 a2]) 21] [.rowL (CI .u8) a0_A a0_n a0_c a0, .rowL (CA .u64 24 (by decide)) (some ⟨0, 0, none⟩) 1 1 ([tab_0]), .rowL (CA .i64 24 (by decide)) (some ⟨1, 0, none⟩) 1 1 ([tab_1]), .rowL (CA .i64 24 (by decide)) (some ⟨2, 0, none⟩) 1 1 ([tab_2])] w ∧ ∃ g47 : Nat → Value, a = ⟨#[.func (.yield l27) #[] #[], .pointer (some ⟨b16, 0, none⟩), .pointer (some ⟨b15, 0, none⟩), undef, .int .i64 z17, .slice r23_A r23_n r23_c, undef, (g47 7), .int .i64 4096, .int .i64 z17, .bool true, (g30 11), (g30 12), .tuple #[.agg (([.int .i64 r22_0] : List Value) ++ enc .u64 r22_1 ++ ([.int .i64 r22_2, .bool r22_3] : List Value)).toArray, .slice r23_A r23_n r23_c], .agg (([.int .i64 z18_0] : List Value) ++ enc .u64 z18_1 ++ ([.int .i64 z18_2, .bool z18_3] : List Value)).toArray, .int .i64 z17, .int .i64 (imin 136 z17), .tuple #[.agg (([.int .i64 r22_0] : List Value) ++ enc .u64 r22_1 ++ ([.int .i64 r22_2, .bool r22_3] : List Value)).toArray, .slice r23_A r23_n r23_c], .agg (([.int .i64 r22_0] : List Value) ++ enc .u64 r22_1 ++ ([.int .i64 r22_2, .bool r22_3] : List Value)).toArray, .slice r23_A r23_n r23_c, .slice r23_A r23_n r23_c, .int .i64 (r23.length : Int), .int .i64 z24, .bool true, (g47 24), (g47 25), (g47 26), (g47 27), (g47 28), (g47 29), (g42 30)], []⟩) (fun N nj => ?_) ?_
        ·clear h
         have h := hj
         refine xblock (xseq_k fun KS49 ks49 => (xregS [0, 1, 2] fun KR50 kr50 => ?_))
         obtain ⟨h0, h⟩ := of_chk h
         obtain ⟨h1, h⟩ := of_chk h
         have i0_51 := h0
         have i1_51 := h1
         refine wpS.tk 0 false (some 24) (.pointer (adr r23_A ((z24 : Int).toNat * Cod.size (CI .u8)))) (yld_idxL (C := (CI .u8)) (t := 22) (e := 5) (k := .i64) (x := z24) (hs.rowL 0 rfl) (by kernel_rfl) (by kernel_rfl) (by kernel_rfl) h0 h1) ?_
         refine wpS.tk 1 true (some 25) (.int .u8 (rdL (CI .u8) r23 z24)) (yld_loadL (C := (CI .u8)) (e := 5) (x := z24) (hs.rowL 0 rfl) (by kernel_rfl) rfl (by kernel_rfl) i0_51 i1_51) ?_
         obtain ⟨x28, hx, h⟩ := of_bind h
         refine wpS.tk 2 false (some 7) (.int .u8 x28) (yld_int hx (fun _ => by kernel_rfl)) ?_
         refine wpS.fin rfl (kr50 _ _ (then_n (ks49 _ _ (xseq_k fun KS52 ks52 => (xregS [0, 1, 2, 3] fun KR53 kr53 => ?_)))))
         refine wpS.qs [(0, 26, .func (.yield l27) #[] #[]), (1, 27, .int .u8 x28)] ?_
         refine wpS.onlyR 2 (op_yield (d := (some 28)) (by kernel_rfl) hs 1 rfl hok27 #[.int .u8 x28] (by kernel_rfl) rfl (tm := #[.slice a0_A a0_n a0_c, .int .u16 a1, .int .i32 a2, undef, undef, .pointer (some ⟨b1, 0, none⟩), .pointer (some ⟨b2, 0, none⟩), (g5 7), .pointer (some ⟨b3, 0, none⟩), .pointer (some ⟨b4, 0, none⟩), .pointer (some ⟨b9, 0, none⟩), undef, undef, undef, (g5 14), (g5 15), (g5 16), (g5 17), (g5 18), (g5 19), .agg (([] : List Value) ++ enc .i32 (zeroA 256) ++ ([.int .i64 0] : List Value)).toArray, .pointer (some ⟨b8, 0, none⟩), .slice a0_A a0_n a0_c, .int .u16 a1, .int .u64 (iconv .u64 a1), .slice r12_A r12_n r12_c, .slice s13_A s13_n s13_c, .agg (([.int .i64 r14_0] : List Value) ++ enc .u64 r14_1 ++ ([.int .i64 r14_2, .bool r14_3] : List Value)).toArray, .func (.func 32) #[] #[.pointer (some ⟨b16, 0, none⟩), .pointer (some ⟨b15, 0, none⟩)], .int .u8 x28, undef, undef, undef, undef, undef, undef, undef, undef, undef, undef, undef, undef, undef, undef, undef, undef, undef, undef, undef, undef, undef, undef, undef, undef, undef, undef, undef, undef, undef, undef, undef, undef, undef, undef, undef, undef, undef, undef]) (by kernel_rfl) (by kernel_rfl) fun K54 k54 => ?_)
         refine xregS [0] fun KR55 kr55 => ?_
         refine wpS.q 0 11 (.int .u8 x28) ?_
         refine wpS.fin rfl (kr55 _ _ (then_n (k54 _ _ 1 _ _ hs rfl fun w Qr54 hs qr54 => ?_)))
         try dsimp only [List.set] at hs
         refine xblock (xseq_k fun KS56 ks56 => (xregS [0, 1, 2, 3, 4, 5, 6, 7] fun KR57 kr57 => ?_))
         refine wpS.qs [(0, 30, .int .u8 x28), (1, 31, .int .u8 (iand .u8 x28 15)), (2, 32, .int .i32 (iconv .i32 (iand .u8 x28 15))), (3, 33, .int .u8 x28), (4, 34, .int .u8 (ishr .u8 x28 4)), (5, 35, .int .i32 (iconv .i32 (ishr .u8 x28 4)))] ?_
         obtain ⟨x29, hx, h⟩ := of_bind h
         refine wpS.tk 6 false (some 12) (.int .i32 x29) (yld_int hx (fun _ => by kernel_rfl)) ?_
         obtain ⟨x30, hx, h⟩ := of_bind h
         refine wpS.tk 7 false (some 13) (.int .i32 x30) (yld_int hx (fun _ => by kernel_rfl)) ?_
         refine wpS.fin rfl (kr57 _ _ (then_n (ks56 _ _ (xseq_k fun KS58 ks58 => ?_))))
         refine wp_regG [10, 24] (fun k => True) 28 (by kernel_rfl) (by kernel_rfl) (by kernel_rfl) fun KR59 kr59 => ?_
         have hs := hs.drawn1
         refine wpG.q 0 36 (.int .i32 x29) ?_
         refine wpG.take [1, 2, 3, 4, 5, 6, 7, 8, 9, 10, 11, 12, 13, 14, 15, 16, 17, 18, 19, 20, 21, 22, 23, 24, 25, 26, 27] 1 true (some 37) (.int .i32 y6) (by kernel_rfl) (by kernel_rfl) (yld_load1 (e := 21) (o := 0) hs 10 rfl (by kernel_rfl) (by kernel_rfl) (by rfl) .grow) ?_
         rcases of_if h with ⟨hc, h⟩ | ⟨hc, h⟩
         ·refine wpG.tD 2 false (some 38) (.bool true) (yld_b (dt hc) (fun _ => by kernel_rfl)) ?_
          refine wpG.q 3 39 (.bool true) ?_
          refine wpG.take [4, 10, 11, 12, 13, 14, 15, 16, 17, 18, 19, 20, 21, 22, 23, 24, 25, 26, 27] 4 true (some 40) (.pointer (some ⟨b8, 0, none⟩)) (by kernel_rfl) (by kernel_rfl) (yld_load1 (e := 41) (o := 0) hs 7 rfl (by kernel_rfl) (by kernel_rfl) (by rfl) .grow) ?_
          refine wpG.take [5, 9, 10, 11, 12, 13, 14, 15, 16, 17, 18, 19, 20, 21, 22, 23, 24, 25, 26, 27] 5 true (some 41) (.int .i32 a2) (by kernel_rfl) (by kernel_rfl) (yld_load1 (e := 21) (o := 0) hs 12 rfl (by kernel_rfl) (by kernel_rfl) (by rfl) .grow) ?_
          refine wpG.q 6 42 (.int .i32 x29) ?_
          refine wpG.take [7, 8, 9, 10, 11, 12, 13, 14, 15, 16, 17, 18, 19, 20, 21, 22, 23, 24, 25, 26, 27] 7 true (some 43) (.int .i32 y5) (by kernel_rfl) (by kernel_rfl) (yld_load1 (e := 21) (o := 0) hs 9 rfl (by kernel_rfl) (by kernel_rfl) (by rfl) .grow) ?_
          obtain ⟨h0, h⟩ := of_chk h
          refine wpG.tD 8 false (some 44) (.int .i32 (irem .i32 x29 y5)) (yld_rem (t := 21) (by kernel_rfl) h0) ?_
          refine wpG.q 9 45 (.int .i32 (isub .i32 a2 (irem .i32 x29 y5))) ?_
          obtain ⟨⟨r31, r32_0, r32_1⟩, hg, h⟩ := of_bind h
          cases r31 with
          | true =>
           have h := of_if_t h
           refine wpG.only 10 (by kernel_rfl) (op_callX (d := (some 46)) (by kernel_rfl) hs 8 rfl (fun _ => by kernel_rfl) (dsamp_filler_put.ok hg _ (hs.blkAt 8 rfl)) ?_)
           intro w kp hs
           have hs := hs.conv (L' := [.ownL (CI .u8) r23_A r23_n r23_c r23 5, .obj l27 (.loop (rec27 .busy none)), .obj D27 (.deferred (some [])), .blk b16 ([.int .i64 4096]) 3, .blk b15 (([.int .i64 r22_0] : List Value) ++ enc .u64 r22_1 ++ ([.int .i64 r22_2, .bool r22_3] : List Value)) 50, .ownL CS s13_A s13_n s13_c ([(a0_A, a0_n, a0_c), (r12_A, r12_n, r12_c)] : List HS) 22, .ownL (CI .u8) r12_A r12_n r12_c r12 5, .blk b9 ([.pointer (some ⟨b8, 0, none⟩)]) 41, .blk b8 (([] : List Value) ++ enc .i32 r32_0 ++ ([.int .i64 r32_1] : List Value)) 43, .blk b4 ([.int .i32 y5]) 21, .blk b3 ([.int .i32 y6]) 21, .blk b2 (enc .i32 y7) 26, .blk b1 ([.int .i32 a2]) 21]) rfl
           refine ⟨⟨fun hf => absurd hf (by decide), .all _ _⟩, ?_⟩
           refine wpG.q 11 47 (.bool false) ?_
           refine wpG.q 12 48 (.bool false) ?_
           refine wpG.q 13 49 (.bool false) ?_
           refine wpG.q 14 50 (.int .i32 x30) ?_
           refine wpG.take [15, 16, 17, 18, 19, 20, 21, 22, 23, 24, 25, 26, 27] 15 true (some 51) (.int .i32 y6) (by kernel_rfl) (by kernel_rfl) (yld_load1 (e := 21) (o := 0) hs 10 rfl (by kernel_rfl) (by kernel_rfl) (by rfl) .grow) ?_
           rcases of_if h with ⟨hc, h⟩ | ⟨hc, h⟩
           ·refine wpG.tD 16 false (some 52) (.bool true) (yld_b (dt hc) (fun _ => by kernel_rfl)) ?_
            refine wpG.q 17 53 (.bool true) ?_
            refine wpG.tD 18 true (some 54) (.pointer (some ⟨b8, 0, none⟩)) (yld_load1 (e := 41) (o := 0) hs 7 rfl (by kernel_rfl) (by kernel_rfl) (by rfl) .grow) ?_
            refine wpG.take [19, 23, 24, 25, 26, 27] 19 true (some 55) (.int .i32 a2) (by kernel_rfl) (by kernel_rfl) (yld_load1 (e := 21) (o := 0) hs 12 rfl (by kernel_rfl) (by kernel_rfl) (by rfl) .grow) ?_
            refine wpG.q 20 56 (.int .i32 x30) ?_
            refine wpG.take [21, 22, 23, 24, 25, 26, 27] 21 true (some 57) (.int .i32 y5) (by kernel_rfl) (by kernel_rfl) (yld_load1 (e := 21) (o := 0) hs 9 rfl (by kernel_rfl) (by kernel_rfl) (by rfl) .grow) ?_
            obtain ⟨h0, h⟩ := of_chk h
            refine wpG.tD 22 false (some 58) (.int .i32 (irem .i32 x30 y5)) (yld_rem (t := 21) (by kernel_rfl) h0) ?_
            refine wpG.q 23 59 (.int .i32 (isub .i32 a2 (irem .i32 x30 y5))) ?_
            obtain ⟨⟨r33, r34_0, r34_1⟩, hg, h⟩ := of_bind h
            cases r33 with
            | true =>
             have h := of_if_t h
             refine wpG.only 24 (by kernel_rfl) (op_callX (d := (some 60)) (by kernel_rfl) hs 8 rfl (fun _ => by kernel_rfl) (dsamp_filler_put.ok hg _ (hs.blkAt 8 rfl)) ?_)
             intro w kp hs
             have hs := hs.conv (L' := [.ownL (CI .u8) r23_A r23_n r23_c r23 5, .obj l27 (.loop (rec27 .busy none)), .obj D27 (.deferred (some [])), .blk b16 ([.int .i64 4096]) 3, .blk b15 (([.int .i64 r22_0] : List Value) ++ enc .u64 r22_1 ++ ([.int .i64 r22_2, .bool r22_3] : List Value)) 50, .ownL CS s13_A s13_n s13_c ([(a0_A, a0_n, a0_c), (r12_A, r12_n, r12_c)] : List HS) 22, .ownL (CI .u8) r12_A r12_n r12_c r12 5, .blk b9 ([.pointer (some ⟨b8, 0, none⟩)]) 41, .blk b8 (([] : List Value) ++ enc .i32 r34_0 ++ ([.int .i64 r34_1] : List Value)) 43, .blk b4 ([.int .i32 y5]) 21, .blk b3 ([.int .i32 y6]) 21, .blk b2 (enc .i32 y7) 26, .blk b1 ([.int .i32 a2]) 21]) rfl
             refine ⟨⟨fun hf => absurd hf (by decide), .all _ _⟩, ?_⟩
             refine wpG.q 25 61 (.bool false) ?_
             refine wpG.q 26 62 (.bool false) ?_
             refine wpG.q 27 63 (.bool false) ?_
             refine wpG.fin (by kernel_rfl) rfl (kr59 _ _ ?_)
             refine then_n (ks58 _ _ (wp_cond_f (by kernel_rfl) (xskip (inBlock_n ?_))))
             refine round_n qr54 hs 1 rfl fun w hs => ?_
             try dsimp only [List.set] at hs
             refine ⟨fun _ => trivial, ?_⟩
             refine wpS.q 3 29 (.bool false) ?_
             refine wpS.fin rfl (kr53 _ _ (then_n (ks52 _ _ (wp_cond_f (by kernel_rfl) (xskip (inBlock_n ?_))))))
             have q0 := of_some h
             subst q0
             exact exj_n (nj _ _ ⟨r34_0, r34_1, rfl, (hs.conv rfl), exg (by kernel_rfl)⟩)
            | false =>
             have h := of_if_f h
             refine wpG.only 24 (by kernel_rfl) (op_callX (d := (some 60)) (by kernel_rfl) hs 8 rfl (fun _ => by kernel_rfl) (dsamp_filler_put.ok hg _ (hs.blkAt 8 rfl)) ?_)
             intro w kp hs
             have hs := hs.conv (L' := [.ownL (CI .u8) r23_A r23_n r23_c r23 5, .obj l27 (.loop (rec27 .busy none)), .obj D27 (.deferred (some [])), .blk b16 ([.int .i64 4096]) 3, .blk b15 (([.int .i64 r22_0] : List Value) ++ enc .u64 r22_1 ++ ([.int .i64 r22_2, .bool r22_3] : List Value)) 50, .ownL CS s13_A s13_n s13_c ([(a0_A, a0_n, a0_c), (r12_A, r12_n, r12_c)] : List HS) 22, .ownL (CI .u8) r12_A r12_n r12_c r12 5, .blk b9 ([.pointer (some ⟨b8, 0, none⟩)]) 41, .blk b8 (([] : List Value) ++ enc .i32 r34_0 ++ ([.int .i64 r34_1] : List Value)) 43, .blk b4 ([.int .i32 y5]) 21, .blk b3 ([.int .i32 y6]) 21, .blk b2 (enc .i32 y7) 26, .blk b1 ([.int .i32 a2]) 21]) rfl
             refine ⟨⟨fun hf => absurd hf (by decide), .all _ _⟩, ?_⟩
             refine wpG.q 25 61 (.bool true) ?_
             refine wpG.q 26 62 (.bool true) ?_
             refine wpG.q 27 63 (.bool true) ?_
             refine wpG.fin (by kernel_rfl) rfl (kr59 _ _ ?_)
             refine then_n (ks58 _ _ (wp_cond_t (by kernel_rfl) (xexit (inBlock_miss (by decide) ?_))))
             refine round_x qr54 hs 1 rfl fun w hs => ?_
             try dsimp only [List.set] at hs
             refine ⟨fun _ => trivial, ?_⟩
             refine wpS.q 3 29 (.bool true) ?_
             refine wpS.fin rfl (kr53 _ _ (then_n (ks52 _ _ (wp_cond_t (by kernel_rfl) (xret (inBlock_r ?_))))))
             have q0 := of_some h
             subst q0
             have h := hk_48
             refine exj_r ?_
             refine then_r (then_r (inBlock_r (exq_r (inBlock_r (then_r (then_r (inBlock_r (exq_r ?_))))))))
             refine qq27 _ _ (post_ret (by kernel_rfl) (run_results [] [] (by kernel_rfl) .nil) ?_)
             refine range_j (a1 := ⟨#[.slice a0_A a0_n a0_c, .int .u16 a1, .int .i32 a2, undef, undef, .pointer (some ⟨b1, 0, none⟩), .pointer (some ⟨b2, 0, none⟩), (g5 7), .pointer (some ⟨b3, 0, none⟩), .pointer (some ⟨b4, 0, none⟩), .pointer (some ⟨b9, 0, none⟩), undef, undef, undef, (g5 14), (g5 15), (g5 16), (g5 17), (g5 18), (g5 19), .agg (([] : List Value) ++ enc .i32 (zeroA 256) ++ ([.int .i64 0] : List Value)).toArray, .pointer (some ⟨b8, 0, none⟩), .slice a0_A a0_n a0_c, .int .u16 a1, .int .u64 (iconv .u64 a1), .slice r12_A r12_n r12_c, .slice s13_A s13_n s13_c, .agg (([.int .i64 r14_0] : List Value) ++ enc .u64 r14_1 ++ ([.int .i64 r14_2, .bool r14_3] : List Value)).toArray, .func (.func 32) #[] #[.pointer (some ⟨b16, 0, none⟩), .pointer (some ⟨b15, 0, none⟩)], undef, undef, undef, undef, undef, undef, undef, undef, undef, undef, undef, undef, undef, undef, undef, undef, undef, undef, undef, undef, undef, undef, undef, undef, undef, undef, undef, undef, undef, undef, undef, undef, undef, undef, undef, undef, undef, undef, undef], [lmark D27]⟩) (.exit 1) kR27 (by kernel_rfl) hs 1 rfl fun w hs => ?_
             try dsimp only [List.set] at hs
             refine xexit (inBlock_hit ?_)
             have q0 := of_some h
             subst q0
             have q0 := of_some hk1
             subst q0
             obtain ⟨q0, qr0⟩ := Prod.mk.inj (of_some hk0)
             have q1 := qr0
             subst q0
             subst q1
             exact nj _ _ ⟨D27, (hs.drop (.cons _ (.cons _ (.cons_cons _ (.cons _ (.cons _ (.cons _ (.cons _ (.cons_cons _ (.cons_cons _ (.cons_cons _ (.cons_cons _ (.cons_cons _ (.cons_cons _ .slnil)))))))))))))), exg (by kernel_rfl)⟩
           refine wpG.tD 16 false (some 52) (.bool false) (yld_b (df hc) (fun _ => by kernel_rfl)) ?_
           refine wpG.q 17 53 (.bool false) ?_
           refine wpG.q 18 54 (undef) ?_
           refine wpG.q 19 55 (undef) ?_
           refine wpG.q 20 56 (undef) ?_
           refine wpG.q 21 57 (undef) ?_
           refine wpG.q 22 58 (undef) ?_
           refine wpG.q 23 59 (undef) ?_
           refine wpG.q 24 60 (undef) ?_
           refine wpG.q 25 61 (undef) ?_
           refine wpG.q 26 62 (.bool false) ?_
           refine wpG.q 27 63 (.bool false) ?_
           refine wpG.fin (by kernel_rfl) rfl (kr59 _ _ ?_)
           refine then_n (ks58 _ _ (wp_cond_f (by kernel_rfl) (xskip (inBlock_n ?_))))
           refine round_n qr54 hs 1 rfl fun w hs => ?_
           try dsimp only [List.set] at hs
           refine ⟨fun _ => trivial, ?_⟩
           refine wpS.q 3 29 (.bool false) ?_
           refine wpS.fin rfl (kr53 _ _ (then_n (ks52 _ _ (wp_cond_f (by kernel_rfl) (xskip (inBlock_n ?_))))))
           have q0 := of_some h
           subst q0
           exact exj_n (nj _ _ ⟨r32_0, r32_1, rfl, (hs.conv rfl), exg (by kernel_rfl)⟩)
          | false =>
           have h := of_if_f h
           refine wpG.only 10 (by kernel_rfl) (op_callX (d := (some 46)) (by kernel_rfl) hs 8 rfl (fun _ => by kernel_rfl) (dsamp_filler_put.ok hg _ (hs.blkAt 8 rfl)) ?_)
           intro w kp hs
           have hs := hs.conv (L' := [.ownL (CI .u8) r23_A r23_n r23_c r23 5, .obj l27 (.loop (rec27 .busy none)), .obj D27 (.deferred (some [])), .blk b16 ([.int .i64 4096]) 3, .blk b15 (([.int .i64 r22_0] : List Value) ++ enc .u64 r22_1 ++ ([.int .i64 r22_2, .bool r22_3] : List Value)) 50, .ownL CS s13_A s13_n s13_c ([(a0_A, a0_n, a0_c), (r12_A, r12_n, r12_c)] : List HS) 22, .ownL (CI .u8) r12_A r12_n r12_c r12 5, .blk b9 ([.pointer (some ⟨b8, 0, none⟩)]) 41, .blk b8 (([] : List Value) ++ enc .i32 r32_0 ++ ([.int .i64 r32_1] : List Value)) 43, .blk b4 ([.int .i32 y5]) 21, .blk b3 ([.int .i32 y6]) 21, .blk b2 (enc .i32 y7) 26, .blk b1 ([.int .i32 a2]) 21]) rfl
           refine ⟨⟨fun hf => absurd hf (by decide), .all _ _⟩, ?_⟩
           refine wpG.q 11 47 (.bool true) ?_
           refine wpG.q 12 48 (.bool true) ?_
           refine wpG.q 13 49 (.bool true) ?_
           refine wpG.q 14 50 (undef) ?_
           refine wpG.q 15 51 (undef) ?_
           refine wpG.q 16 52 (undef) ?_
           refine wpG.q 17 53 (undef) ?_
           refine wpG.q 18 54 (undef) ?_
           refine wpG.q 19 55 (undef) ?_
           refine wpG.q 20 56 (undef) ?_
           refine wpG.q 21 57 (undef) ?_
           refine wpG.q 22 58 (undef) ?_
           refine wpG.q 23 59 (undef) ?_
           refine wpG.q 24 60 (undef) ?_
           refine wpG.q 25 61 (undef) ?_
           refine wpG.q 26 62 (undef) ?_
           refine wpG.q 27 63 (.bool true) ?_
           refine wpG.fin (by kernel_rfl) rfl (kr59 _ _ ?_)
           refine then_n (ks58 _ _ (wp_cond_t (by kernel_rfl) (xexit (inBlock_miss (by decide) ?_))))
           refine round_x qr54 hs 1 rfl fun w hs => ?_
           try dsimp only [List.set] at hs
           refine ⟨fun _ => trivial, ?_⟩
           refine wpS.q 3 29 (.bool true) ?_
           refine wpS.fin rfl (kr53 _ _ (then_n (ks52 _ _ (wp_cond_t (by kernel_rfl) (xret (inBlock_r ?_))))))
           have q0 := of_some h
           subst q0
           have h := hk_48
           refine exj_r ?_
           refine then_r (then_r (inBlock_r (exq_r (inBlock_r (then_r (then_r (inBlock_r (exq_r ?_))))))))
           refine qq27 _ _ (post_ret (by kernel_rfl) (run_results [] [] (by kernel_rfl) .nil) ?_)
           refine range_j (a1 := ⟨#[.slice a0_A a0_n a0_c, .int .u16 a1, .int .i32 a2, undef, undef, .pointer (some ⟨b1, 0, none⟩), .pointer (some ⟨b2, 0, none⟩), (g5 7), .pointer (some ⟨b3, 0, none⟩), .pointer (some ⟨b4, 0, none⟩), .pointer (some ⟨b9, 0, none⟩), undef, undef, undef, (g5 14), (g5 15), (g5 16), (g5 17), (g5 18), (g5 19), .agg (([] : List Value) ++ enc .i32 (zeroA 256) ++ ([.int .i64 0] : List Value)).toArray, .pointer (some ⟨b8, 0, none⟩), .slice a0_A a0_n a0_c, .int .u16 a1, .int .u64 (iconv .u64 a1), .slice r12_A r12_n r12_c, .slice s13_A s13_n s13_c, .agg (([.int .i64 r14_0] : List Value) ++ enc .u64 r14_1 ++ ([.int .i64 r14_2, .bool r14_3] : List Value)).toArray, .func (.func 32) #[] #[.pointer (some ⟨b16, 0, none⟩), .pointer (some ⟨b15, 0, none⟩)], undef, undef, undef, undef, undef, undef, undef, undef, undef, undef, undef, undef, undef, undef, undef, undef, undef, undef, undef, undef, undef, undef, undef, undef, undef, undef, undef, undef, undef, undef, undef, undef, undef, undef, undef, undef, undef, undef, undef], [lmark D27]⟩) (.exit 1) kR27 (by kernel_rfl) hs 1 rfl fun w hs => ?_
           try dsimp only [List.set] at hs
           refine xexit (inBlock_hit ?_)
           have q0 := of_some h
           subst q0
           have q0 := of_some hk1
           subst q0
           obtain ⟨q0, qr0⟩ := Prod.mk.inj (of_some hk0)
           have q1 := qr0
           subst q0
           subst q1
           exact nj _ _ ⟨D27, (hs.drop (.cons _ (.cons _ (.cons_cons _ (.cons _ (.cons _ (.cons _ (.cons _ (.cons_cons _ (.cons_cons _ (.cons_cons _ (.cons_cons _ (.cons_cons _ (.cons_cons _ .slnil)))))))))))))), exg (by kernel_rfl)⟩
         refine wpG.tD 2 false (some 38) (.bool false) (yld_b (df hc) (fun _ => by kernel_rfl)) ?_
         refine wpG.q 3 39 (.bool false) ?_
         refine wpG.q 4 40 (undef) ?_
         refine wpG.q 5 41 (undef) ?_
         refine wpG.q 6 42 (undef) ?_
         refine wpG.q 7 43 (undef) ?_
         refine wpG.q 8 44 (undef) ?_
         refine wpG.q 9 45 (undef) ?_
         refine wpG.q 10 46 (undef) ?_
         refine wpG.q 11 47 (undef) ?_
         refine wpG.q 12 48 (.bool false) ?_
         refine wpG.q 13 49 (.bool false) ?_
         refine wpG.q 14 50 (.int .i32 x30) ?_
         refine wpG.take [15, 16, 17, 18, 19, 20, 21, 22, 23, 24, 25, 26, 27] 15 true (some 51) (.int .i32 y6) (by kernel_rfl) (by kernel_rfl) (yld_load1 (e := 21) (o := 0) hs 10 rfl (by kernel_rfl) (by kernel_rfl) (by rfl) .grow) ?_
         rcases of_if h with ⟨hc, h⟩ | ⟨hc, h⟩
         ·refine wpG.tD 16 false (some 52) (.bool true) (yld_b (dt hc) (fun _ => by kernel_rfl)) ?_
          refine wpG.q 17 53 (.bool true) ?_
          refine wpG.tD 18 true (some 54) (.pointer (some ⟨b8, 0, none⟩)) (yld_load1 (e := 41) (o := 0) hs 7 rfl (by kernel_rfl) (by kernel_rfl) (by rfl) .grow) ?_
          refine wpG.take [19, 23, 24, 25, 26, 27] 19 true (some 55) (.int .i32 a2) (by kernel_rfl) (by kernel_rfl) (yld_load1 (e := 21) (o := 0) hs 12 rfl (by kernel_rfl) (by kernel_rfl) (by rfl) .grow) ?_
          refine wpG.q 20 56 (.int .i32 x30) ?_
          refine wpG.take [21, 22, 23, 24, 25, 26, 27] 21 true (some 57) (.int .i32 y5) (by kernel_rfl) (by kernel_rfl) (yld_load1 (e := 21) (o := 0) hs 9 rfl (by kernel_rfl) (by kernel_rfl) (by rfl) .grow) ?_
          obtain ⟨h0, h⟩ := of_chk h
          refine wpG.tD 22 false (some 58) (.int .i32 (irem .i32 x30 y5)) (yld_rem (t := 21) (by kernel_rfl) h0) ?_
          refine wpG.q 23 59 (.int .i32 (isub .i32 a2 (irem .i32 x30 y5))) ?_
          obtain ⟨⟨r35, r36_0, r36_1⟩, hg, h⟩ := of_bind h
          cases r35 with
          | true =>
           have h := of_if_t h
           refine wpG.only 24 (by kernel_rfl) (op_callX (d := (some 60)) (by kernel_rfl) hs 8 rfl (fun _ => by kernel_rfl) (dsamp_filler_put.ok hg _ (hs.blkAt 8 rfl)) ?_)
           intro w kp hs
           have hs := hs.conv (L' := [.ownL (CI .u8) r23_A r23_n r23_c r23 5, .obj l27 (.loop (rec27 .busy none)), .obj D27 (.deferred (some [])), .blk b16 ([.int .i64 4096]) 3, .blk b15 (([.int .i64 r22_0] : List Value) ++ enc .u64 r22_1 ++ ([.int .i64 r22_2, .bool r22_3] : List Value)) 50, .ownL CS s13_A s13_n s13_c ([(a0_A, a0_n, a0_c), (r12_A, r12_n, r12_c)] : List HS) 22, .ownL (CI .u8) r12_A r12_n r12_c r12 5, .blk b9 ([.pointer (some ⟨b8, 0, none⟩)]) 41, .blk b8 (([] : List Value) ++ enc .i32 r36_0 ++ ([.int .i64 r36_1] : List Value)) 43, .blk b4 ([.int .i32 y5]) 21, .blk b3 ([.int .i32 y6]) 21, .blk b2 (enc .i32 y7) 26, .blk b1 ([.int .i32 a2]) 21]) rfl
           refine ⟨⟨fun hf => absurd hf (by decide), .all _ _⟩, ?_⟩
           refine wpG.q 25 61 (.bool false) ?_
           refine wpG.q 26 62 (.bool false) ?_
           refine wpG.q 27 63 (.bool false) ?_
           refine wpG.fin (by kernel_rfl) rfl (kr59 _ _ ?_)
           refine then_n (ks58 _ _ (wp_cond_f (by kernel_rfl) (xskip (inBlock_n ?_))))
           refine round_n qr54 hs 1 rfl fun w hs => ?_
           try dsimp only [List.set] at hs
           refine ⟨fun _ => trivial, ?_⟩
           refine wpS.q 3 29 (.bool false) ?_
           refine wpS.fin rfl (kr53 _ _ (then_n (ks52 _ _ (wp_cond_f (by kernel_rfl) (xskip (inBlock_n ?_))))))
           have q0 := of_some h
           subst q0
           exact exj_n (nj _ _ ⟨r36_0, r36_1, rfl, (hs.conv rfl), exg (by kernel_rfl)⟩)
          | false =>
           have h := of_if_f h
           refine wpG.only 24 (by kernel_rfl) (op_callX (d := (some 60)) (by kernel_rfl) hs 8 rfl (fun _ => by kernel_rfl) (dsamp_filler_put.ok hg _ (hs.blkAt 8 rfl)) ?_)
           intro w kp hs
           have hs := hs.conv (L' := [.ownL (CI .u8) r23_A r23_n r23_c r23 5, .obj l27 (.loop (rec27 .busy none)), .obj D27 (.deferred (some [])), .blk b16 ([.int .i64 4096]) 3, .blk b15 (([.int .i64 r22_0] : List Value) ++ enc .u64 r22_1 ++ ([.int .i64 r22_2, .bool r22_3] : List Value)) 50, .ownL CS s13_A s13_n s13_c ([(a0_A, a0_n, a0_c), (r12_A, r12_n, r12_c)] : List HS) 22, .ownL (CI .u8) r12_A r12_n r12_c r12 5, .blk b9 ([.pointer (some ⟨b8, 0, none⟩)]) 41, .blk b8 (([] : List Value) ++ enc .i32 r36_0 ++ ([.int .i64 r36_1] : List Value)) 43, .blk b4 ([.int .i32 y5]) 21, .blk b3 ([.int .i32 y6]) 21, .blk b2 (enc .i32 y7) 26, .blk b1 ([.int .i32 a2]) 21]) rfl
           refine ⟨⟨fun hf => absurd hf (by decide), .all _ _⟩, ?_⟩
           refine wpG.q 25 61 (.bool true) ?_
           refine wpG.q 26 62 (.bool true) ?_
           refine wpG.q 27 63 (.bool true) ?_
           refine wpG.fin (by kernel_rfl) rfl (kr59 _ _ ?_)
           refine then_n (ks58 _ _ (wp_cond_t (by kernel_rfl) (xexit (inBlock_miss (by decide) ?_))))
           refine round_x qr54 hs 1 rfl fun w hs => ?_
           try dsimp only [List.set] at hs
           refine ⟨fun _ => trivial, ?_⟩
           refine wpS.q 3 29 (.bool true) ?_
           refine wpS.fin rfl (kr53 _ _ (then_n (ks52 _ _ (wp_cond_t (by kernel_rfl) (xret (inBlock_r ?_))))))
           have q0 := of_some h
           subst q0
           have h := hk_48
           refine exj_r ?_
           refine then_r (then_r (inBlock_r (exq_r (inBlock_r (then_r (then_r (inBlock_r (exq_r ?_))))))))
           refine qq27 _ _ (post_ret (by kernel_rfl) (run_results [] [] (by kernel_rfl) .nil) ?_)
           refine range_j (a1 := ⟨#[.slice a0_A a0_n a0_c, .int .u16 a1, .int .i32 a2, undef, undef, .pointer (some ⟨b1, 0, none⟩), .pointer (some ⟨b2, 0, none⟩), (g5 7), .pointer (some ⟨b3, 0, none⟩), .pointer (some ⟨b4, 0, none⟩), .pointer (some ⟨b9, 0, none⟩), undef, undef, undef, (g5 14), (g5 15), (g5 16), (g5 17), (g5 18), (g5 19), .agg (([] : List Value) ++ enc .i32 (zeroA 256) ++ ([.int .i64 0] : List Value)).toArray, .pointer (some ⟨b8, 0, none⟩), .slice a0_A a0_n a0_c, .int .u16 a1, .int .u64 (iconv .u64 a1), .slice r12_A r12_n r12_c, .slice s13_A s13_n s13_c, .agg (([.int .i64 r14_0] : List Value) ++ enc .u64 r14_1 ++ ([.int .i64 r14_2, .bool r14_3] : List Value)).toArray, .func (.func 32) #[] #[.pointer (some ⟨b16, 0, none⟩), .pointer (some ⟨b15, 0, none⟩)], undef, undef, undef, undef, undef, undef, undef, undef, undef, undef, undef, undef, undef, undef, undef, undef, undef, undef, undef, undef, undef, undef, undef, undef, undef, undef, undef, undef, undef, undef, undef, undef, undef, undef, undef, undef, undef, undef, undef], [lmark D27]⟩) (.exit 1) kR27 (by kernel_rfl) hs 1 rfl fun w hs => ?_
           try dsimp only [List.set] at hs
           refine xexit (inBlock_hit ?_)
           have q0 := of_some h
           subst q0
           have q0 := of_some hk1
           subst q0
           obtain ⟨q0, qr0⟩ := Prod.mk.inj (of_some hk0)
           have q1 := qr0
           subst q0
           subst q1
           exact nj _ _ ⟨D27, (hs.drop (.cons _ (.cons _ (.cons_cons _ (.cons _ (.cons _ (.cons _ (.cons _ (.cons_cons _ (.cons_cons _ (.cons_cons _ (.cons_cons _ (.cons_cons _ (.cons_cons _ .slnil)))))))))))))), exg (by kernel_rfl)⟩
         refine wpG.tD 16 false (some 52) (.bool false) (yld_b (df hc) (fun _ => by kernel_rfl)) ?_
         refine wpG.q 17 53 (.bool false) ?_
         refine wpG.q 18 54 (undef) ?_
         refine wpG.q 19 55 (undef) ?_
         refine wpG.q 20 56 (undef) ?_
         refine wpG.q 21 57 (undef) ?_
         refine wpG.q 22 58 (undef) ?_
         refine wpG.q 23 59 (undef) ?_
         refine wpG.q 24 60 (undef) ?_
         refine wpG.q 25 61 (undef) ?_
         refine wpG.q 26 62 (.bool false) ?_
         refine wpG.q 27 63 (.bool false) ?_
         refine wpG.fin (by kernel_rfl) rfl (kr59 _ _ ?_)
         refine then_n (ks58 _ _ (wp_cond_f (by kernel_rfl) (xskip (inBlock_n ?_))))
         refine round_n qr54 hs 1 rfl fun w hs => ?_
         try dsimp only [List.set] at hs
         refine ⟨fun _ => trivial, ?_⟩
         refine wpS.q 3 29 (.bool false) ?_
         refine wpS.fin rfl (kr53 _ _ (then_n (ks52 _ _ (wp_cond_f (by kernel_rfl) (xskip (inBlock_n ?_))))))
         have q0 := of_some h
         subst q0
         exact exj_n (nj _ _ ⟨z25_0, z25_1, rfl, (hs.conv rfl), exg (by kernel_rfl)⟩)
        clear hj hs
        rintro a w ⟨y27_0, y27_1, rfl, hs, g47, rfl⟩
        have h := hk_48
        refine then_n (ks48 _ _ (xregS [0, 1] fun KR60 kr60 => ?_))
        refine wpS.qs [(0, 30, .int .i64 (iadd .i64 z24 1)), (1, 22, .int .i64 (iadd .i64 z24 1))] ?_
        refine wpS.fin rfl (kr60 _ _ ?_)
        exact then_n (kl1 _ _ ⟨n, Nat.lt_succ_self n, (iadd .i64 z24 1), y27_0, y27_1, h, (hs.conv rfl), exg (by kernel_rfl)⟩)
       refine wpS.tk 0 false (some 23) (.bool false) (yld_b (df hc) (fun _ => by kernel_rfl)) ?_
       refine wpS.fin rfl (kr45 _ _ (then_n (ks44 _ _ (xseq_k fun KS61 ks61 => (wp_cond_f (by kernel_rfl) (xexit (then_x (then_x (inBlock_hit ?_)))))))))
       have q0 := of_some h
       subst q0
       exact exq_n (nn1 _ _ ⟨z25_0, z25_1, rfl, (hs.conv rfl), exg (by kernel_rfl)⟩)
     clear hs h hy
     rintro a w ⟨y26_0, y26_1, rfl, hs, g43, rfl⟩
     have h := hk1
     refine inBlock_n (then_n (ks35 _ _ (xregS [0, 1, 2] fun KR62 kr62 => ?_)))
     refine wpS.qs [(0, 11, .int .i64 z17), (1, 12, .int .i64 (isub .i64 z17 136))] ?_
     obtain ⟨x37, hx, h⟩ := of_bind h
     refine wpS.tk 2 false (some 4) (.int .i64 x37) (yld_int hx (fun _ => by kernel_rfl)) ?_
     refine wpS.fin rfl (kr62 _ _ ?_)
     exact then_n (kl0 _ _ ⟨n, Nat.lt_succ_self n, x37, r22_0, r22_1, r22_2, r22_3, y26_0, y26_1, h, (hs.drop (.cons _ (.cons_cons _ (.cons_cons _ (.cons_cons _ (.cons_cons _ (.cons_cons _ (.cons_cons _ (.cons_cons _ (.cons_cons _ (.cons_cons _ (.cons_cons _ (.cons_cons _ (.cons_cons _ .slnil)))))))))))))), exg (by kernel_rfl)⟩)
    refine wpS.tk 1 false (some 10) (.bool false) (yld_b (df hc) (fun _ => by kernel_rfl)) ?_
    refine wpS.fin rfl (kr34 _ _ (then_n (ks33 _ _ (wp_cond_f (by kernel_rfl) (xexit (then_x (then_x (inBlock_hit ?_))))))))
    have q0 := of_some h
    subst q0
    exact exq_n (nn0 _ _ ⟨z18_0, z18_1, z18_2, z18_3, z19_0, z19_1, rfl, (hs.conv rfl), exg (by kernel_rfl)⟩)
  clear hs h hy
  rintro a w ⟨y20_0, y20_1, y20_2, y20_3, y21_0, y21_1, rfl, hs, g31, rfl⟩
  have h := hk0
  refine qn27 _ _ (post_nrm (by kernel_rfl) (run_results [] [] (by kernel_rfl) .nil) ?_)
  refine range_n (a1 := ⟨#[.slice a0_A a0_n a0_c, .int .u16 a1, .int .i32 a2, undef, undef, .pointer (some ⟨b1, 0, none⟩), .pointer (some ⟨b2, 0, none⟩), (g5 7), .pointer (some ⟨b3, 0, none⟩), .pointer (some ⟨b4, 0, none⟩), .pointer (some ⟨b9, 0, none⟩), undef, undef, undef, (g5 14), (g5 15), (g5 16), (g5 17), (g5 18), (g5 19), .agg (([] : List Value) ++ enc .i32 (zeroA 256) ++ ([.int .i64 0] : List Value)).toArray, .pointer (some ⟨b8, 0, none⟩), .slice a0_A a0_n a0_c, .int .u16 a1, .int .u64 (iconv .u64 a1), .slice r12_A r12_n r12_c, .slice s13_A s13_n s13_c, .agg (([.int .i64 r14_0] : List Value) ++ enc .u64 r14_1 ++ ([.int .i64 r14_2, .bool r14_3] : List Value)).toArray, .func (.func 32) #[] #[.pointer (some ⟨b16, 0, none⟩), .pointer (some ⟨b15, 0, none⟩)], undef, undef, undef, undef, undef, undef, undef, undef, undef, undef, undef, undef, undef, undef, undef, undef, undef, undef, undef, undef, undef, undef, undef, undef, undef, undef, undef, undef, undef, undef, undef, undef, undef, undef, undef, undef, undef, undef, undef], [lmark D27]⟩) kR27 (by kernel_rfl) hs 0 rfl fun w hs => ?_
  try dsimp only [List.set] at hs
  refine inBlock_n ?_
  obtain ⟨q0, qr0⟩ := Prod.mk.inj (of_some h)
  have q1 := qr0
  subst q0
  subst q1
  exact nj _ _ ⟨D27, (hs.drop (.cons _ (.cons_cons _ (.cons _ (.cons _ (.cons _ (.cons _ (.cons_cons _ (.cons_cons _ (.cons_cons _ (.cons_cons _ (.cons_cons _ (.cons_cons _ .slnil))))))))))))), exg (by kernel_rfl)⟩
 clear hj hs
 rintro a w ⟨D10, hs, g18, rfl⟩
 refine then_n (ks19 _ _ (xseq_k fun KS63 ks63 => (xregS [0, 1, 2, 3, 4, 5] fun KR64 kr64 => ?_)))
 refine wpS.tk 0 true (some 64) (.pointer (some ⟨b8, 0, none⟩)) (yld_load1 (e := 41) (o := 0) hs 1 rfl (by kernel_rfl) (by kernel_rfl) (by rfl) .grow) ?_
 obtain ⟨⟨r38, r39⟩, hg, h⟩ := of_bind h
 refine wpS.only 1 (op_callX (d := (some 65)) (by kernel_rfl) hs 2 rfl (fun _ => by kernel_rfl) (dsamp_filler_done.ok hg _ (hs.blkAt 2 rfl)) ?_)
 intro w kp hs
 have hs := hs.conv (L' := [.obj D10 (.deferred (some [])), .blk b9 ([.pointer (some ⟨b8, 0, none⟩)]) 41, .blk b8 (([] : List Value) ++ enc .i32 y11_0 ++ ([.int .i64 y11_1] : List Value)) 43, .blk b4 ([.int .i32 y5]) 21, .blk b3 ([.int .i32 y6]) 21, .blk b2 (enc .i32 y7) 26, .blk b1 ([.int .i32 a2]) 21]) rfl
 refine ⟨fun _ => trivial, ?_⟩
 refine wpS.qs [(2, 66, .agg (enc .i32 r38).toArray), (3, 67, .int .i64 r39)] ?_
 refine wpS.only 4 (op_storeW (t := 26) (v := .agg (enc .i32 r38).toArray) (d := none) (by kernel_rfl) hs 5 rfl (vs := enc .i32 r38) (n := 256) (by kernel_rfl) (by kernel_rfl) (by kernel_rfl) (by simp [enc_len]) (by simp [enc_len]) (by intro u hu; exact enc_one _ _ u hu) ?_)
 intro w kp hs
 refine ⟨fun _ => trivial, ?_⟩
 refine wpS.q 5 7 (.int .i64 r39) ?_
 refine wpS.fin rfl (kr64 _ _ (then_n (ks63 _ _ (xret ?_))))
 obtain ⟨q0, qr0⟩ := Prod.mk.inj (of_some h)
 have q1 := qr0
 subst q0
 subst q1
 refine qq _ _ ?_
 refine leaves_mark hs 0 rfl fun w hs => ?_
 try dsimp only [List.set] at hs
 exact leaves_end (run_results [.cell 6 26, .tmp 7] [.agg (enc .i32 r38).toArray, .int .i64 r39] (by kernel_rfl) (.cons (res_cellN (n := 256) hs 5 rfl (by kernel_rfl) (by kernel_rfl) (by kernel_rfl) (by exact enc_len _ _)) (.cons (res_tmp (by kernel_rfl)) .nil))) ⟨congrArg Ending.returned (by kernel_rfl), hs.none⟩

theorem bits_NumLe.ok {K : Nat} {a0 : List Int} {r0 : Int} {a0_A : Option Addr} {a0_n : Nat} {a0_c : Nat} (h : bits_NumLe.f K a0 = some r0) (w0 : World) (hp0 : RowL (CI .u8) w0 a0_A a0_n a0_c a0) : Ret Tryd.prog 29 #[.slice a0_A a0_n a0_c] w0 (.int .u64 r0) := by
 refine calls_k Tryd.func29 rfl fun Q qq => ?_
 have hs := St.startR (all_cons (RowP.ent hp0) all_nil)
 refine wp_conv (a' := ⟨#[.slice a0_A a0_n a0_c, undef, undef, undef, undef, undef, undef, undef, undef, undef, undef, undef, undef, undef, undef, undef, undef, undef, undef, undef, undef, undef, undef], []⟩) (by kernel_rfl) ?_
 refine xseq_k fun KS1 ks1 => ?_
 refine xregS [0] fun KR2 kr2 => ?_
 refine wpS.q 0 2 (.int .u64 0) ?_
 refine wpS.fin rfl (kr2 _ _ (then_n (ks1 _ _ (xseq_k fun KS3 ks3 => (xregS [0] fun KR4 kr4 => ?_)))))
 refine wpS.q 0 3 (.int .u64 0) ?_
 refine wpS.fin rfl (kr4 _ _ (then_n (ks3 _ _ (xseq_k fun KS5 ks5 => (xseq_k fun KS6 ks6 => (xregS [0, 1, 2, 3] fun KR7 kr7 => ?_))))))
 refine wpS.q 0 5 (.slice a0_A a0_n a0_c) ?_
 refine wpS.tk 1 false (some 6) (.int .i64 (a0.length : Int)) (yld_lenL (hs.rowR 0 rfl) (fun _ => by kernel_rfl)) ?_
 refine wpS.qs [(2, 7, .int .i64 (imin (a0.length : Int) 8)), (3, 8, .int .i64 0)] ?_
 refine wpS.fin rfl (kr7 _ _ (then_n (ks6 _ _ ?_)))
 obtain ⟨y3, hy, hk0⟩ := of_bind h
 refine wp_exq (N := fun a w => St w0 [] [] [.rowL (CI .u8) a0_A a0_n a0_c a0] w ∧ ∃ g9 : Nat → Value, a = ⟨#[.slice a0_A a0_n a0_c, undef, .int .u64 0, .int .u64 y3, (g9 4), .slice a0_A a0_n a0_c, .int .i64 (a0.length : Int), .int .i64 (imin (a0.length : Int) 8), (g9 8), (g9 9), (g9 10), (g9 11), (g9 12), (g9 13), (g9 14), (g9 15), (g9 16), (g9 17), (g9 18), (g9 19), (g9 20), (g9 21), undef], []⟩) (fun N0 nn0 => ?_) ?_
 ·clear hk0
  refine xblock ?_
  refine wp_loop_k (fun n a w => ∃ z1 z2, bits_NumLe.l0 K n a0 z1 z2 = some y3 ∧ St w0 [] [] [.rowL (CI .u8) a0_A a0_n a0_c a0] w ∧ ∃ g8 : Nat → Value, a = ⟨#[.slice a0_A a0_n a0_c, undef, .int .u64 0, .int .u64 z1, (g8 4), .slice a0_A a0_n a0_c, .int .i64 (a0.length : Int), .int .i64 (imin (a0.length : Int) 8), .int .i64 z2, (g8 9), (g8 10), (g8 11), (g8 12), (g8 13), (g8 14), (g8 15), (g8 16), (g8 17), (g8 18), (g8 19), (g8 20), (g8 21), undef], []⟩) K ⟨0, 0, hy, hs.conv rfl, exg (by kernel_rfl)⟩ ?_
  clear hs h hy
  rintro n a w ⟨z1, z2, h, hs, g8, rfl⟩ KL0 kl0
  cases n with
  | zero => exact nomatch (show none = some _ from h)
  | succ n =>
   refine xseq_k fun KS10 ks10 => ?_
   refine xregS [0] fun KR11 kr11 => ?_
   rcases of_if h with ⟨hc, h⟩ | ⟨hc, h⟩
   ·refine wpS.tk 0 false (some 9) (.bool true) (yld_b (dt hc) (fun _ => by kernel_rfl)) ?_
    refine wpS.fin rfl (kr11 _ _ (then_n (ks10 _ _ (xseq_k fun KS12 ks12 => (wp_cond_t (by kernel_rfl) (xskip (then_n (ks12 _ _ (xseq_k fun KS13 ks13 => (xblock (xseq_k fun KS14 ks14 => (xregS [0, 1] fun KR15 kr15 => ?_))))))))))))
    refine wpS.qs [(0, 10, .int .i64 z2), (1, 4, .int .i64 z2)] ?_
    refine wpS.fin rfl (kr15 _ _ (then_n (ks14 _ _ (xregS [0, 1, 2, 3, 4, 5, 6, 7, 8, 9, 10] fun KR16 kr16 => ?_))))
    refine wpS.qs [(0, 11, .int .u64 z1), (1, 12, .slice a0_A a0_n a0_c), (2, 13, .int .i64 z2)] ?_
    obtain ⟨h0, h⟩ := of_chk h
    obtain ⟨h1, h⟩ := of_chk h
    have i0_17 := h0
    have i1_17 := h1
    refine wpS.tk 3 false (some 14) (.pointer (adr a0_A ((z2 : Int).toNat * Cod.size (CI .u8)))) (yld_idxL (C := (CI .u8)) (t := 22) (e := 5) (k := .i64) (x := z2) (hs.rowR 0 rfl) (by kernel_rfl) (by kernel_rfl) (by kernel_rfl) h0 h1) ?_
    refine wpS.tk 4 true (some 15) (.int .u8 (rdL (CI .u8) a0 z2)) (yld_loadL (C := (CI .u8)) (e := 5) (x := z2) (hs.rowR 0 rfl) (by kernel_rfl) rfl (by kernel_rfl) i0_17 i1_17) ?_
    refine wpS.qs [(5, 16, .int .u64 (iconv .u64 (rdL (CI .u8) a0 z2))), (6, 17, .int .i64 z2), (7, 18, .int .i64 (imul .i64 8 z2))] ?_
    obtain ⟨h0, h⟩ := of_chk h
    refine wpS.tk 8 false (some 19) (.int .u64 (ishl .u64 (iconv .u64 (rdL (CI .u8) a0 z2)) (imul .i64 8 z2))) (yld_shl (t := 47) (k' := .i64) (by kernel_rfl) h0) ?_
    refine wpS.q 9 20 (.int .u64 (ior .u64 z1 (ishl .u64 (iconv .u64 (rdL (CI .u8) a0 z2)) (imul .i64 8 z2)))) ?_
    obtain ⟨x4, hx, h⟩ := of_bind h
    refine wpS.tk 10 false (some 3) (.int .u64 x4) (yld_int hx (fun _ => by kernel_rfl)) ?_
    refine wpS.fin rfl (kr16 _ _ (inBlock_n (then_n (ks13 _ _ (xregS [0, 1] fun KR18 kr18 => ?_)))))
    refine wpS.qs [(0, 21, .int .i64 (iadd .i64 z2 1)), (1, 8, .int .i64 (iadd .i64 z2 1))] ?_
    refine wpS.fin rfl (kr18 _ _ ?_)
    exact then_n (kl0 _ _ ⟨n, Nat.lt_succ_self n, x4, (iadd .i64 z2 1), h, (hs.conv rfl), exg (by kernel_rfl)⟩)
   refine wpS.tk 0 false (some 9) (.bool false) (yld_b (df hc) (fun _ => by kernel_rfl)) ?_
   refine wpS.fin rfl (kr11 _ _ (then_n (ks10 _ _ (xseq_k fun KS19 ks19 => (wp_cond_f (by kernel_rfl) (xexit (then_x (then_x (inBlock_hit ?_)))))))))
   have q0 := of_some h
   subst q0
   exact exq_n (nn0 _ _ ⟨(hs.conv rfl), exg (by kernel_rfl)⟩)
 clear hs h hy
 rintro a w ⟨hs, g9, rfl⟩
 have h := hk0
 refine then_n (ks5 _ _ (xseq_k fun KS20 ks20 => (xregS [0, 1] fun KR21 kr21 => ?_)))
 refine wpS.qs [(0, 22, .int .u64 y3), (1, 2, .int .u64 y3)] ?_
 refine wpS.fin rfl (kr21 _ _ (then_n (ks20 _ _ (xret ?_))))
 have q0 := of_some h
 subst q0
 exact qq _ _ (post_ret (by kernel_rfl) (run_results [.tmp 2] [.int .u64 y3] (by kernel_rfl) (.cons (res_tmp (by kernel_rfl)) .nil)) ⟨congrArg Ending.returned (by kernel_rfl), hs.none⟩)
end Go.Proofs.YtppohhnfojalbaaDoor
