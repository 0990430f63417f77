/- Printed by this work's own program: the code of each function below comes to the answer that its plain form tells. -/
import Derived.Test.YtemdbgmldljbpaaDoorMf
import Derived.Test.YtemdbgmldljbpaaDoorProg
import Derived.Test.YtemdbgmldljbpaaDoorZF0
import Derived.Test.YtemdbgmldljbpaaDoorZX1
import Derived.Test.YtemdbgmldljbpaaDoorZX2
import Derived.Test.YtemdbgmldljbpaaDoorZX3
set_option linter.unusedVariables false
set_option linter.unusedSimpArgs false
set_option maxRecDepth 100000
set_option maxHeartbeats 4000000
namespace Go.Proofs.YtemdbgmldljbpaaDoor
open Go.Mx
attribute [local irreducible] wpOp

theorem kpke_Parts.ok {K : Nat} {a0 : List Int} {a1 : Int} {a2 : Int} {r0 : Arr 256} {r1 : Int} {a0_A : Option Addr} {a0_n : Nat} {a0_c : Nat} (h : kpke_Parts.f K a0 a1 a2 = some (r0, r1)) (w0 : World) (hp0 : RowL (CI .u8) w0 a0_A a0_n a0_c a0) (hg0 : RowL (CA .u64 24 (by decide)) w0 (some ⟨0, 0, none⟩) 1 1 [tab_0]) (hg1 : RowL (CA .i64 24 (by decide)) w0 (some ⟨1, 0, none⟩) 1 1 [tab_1]) (hg2 : RowL (CA .i64 24 (by decide)) w0 (some ⟨2, 0, none⟩) 1 1 [tab_2]) : Ret Tryd.prog 14 #[.slice a0_A a0_n a0_c, .int .u8 a1, .int .u8 a2] w0 (.tuple #[.agg (enc .i32 r0).toArray, .int .i64 r1]) := by
 refine calls_m Tryd.func14 rfl fun Q qq qn => ?_
 have hs := St.startR (all_cons (RowP.ent hp0) (all_cons (RowP.ent hg0) (all_cons (RowP.ent hg1) (all_cons (RowP.ent hg2) all_nil))))
 refine wp_conv (a' := ⟨#[.slice a0_A a0_n a0_c, .int .u8 a1, .int .u8 a2, undef, undef, undef, undef, undef, undef, undef, undef, undef, undef, undef, undef, undef, undef, undef, undef, undef, undef, undef, undef, undef, undef, undef, undef, undef, undef, undef], []⟩) (by kernel_rfl) ?_
 refine xseq_k fun KS1 ks1 => ?_
 refine xregS [0, 1] fun KR2 kr2 => ?_
 refine wpS.only 0 (op_alloc (t := 32) (d := (some 6)) (by kernel_rfl) hs (enc .i32 (zeroA 256)) (.agg (enc .i32 (zeroA 256)).toArray) (by kernel_rfl) (by kernel_rfl) (by kernel_rfl) ?_)
 intro b1 w gw hs
 refine ⟨fun _ => trivial, ?_⟩
 refine wpS.only 1 (op_alloc (t := 33) (d := (some 7)) (by kernel_rfl) hs ([.int .i64 0]) (.int .i64 0) (by kernel_rfl) (by kernel_rfl) (by kernel_rfl) ?_)
 intro b2 w gw hs
 refine ⟨fun _ => trivial, ?_⟩
 refine wpS.fin rfl (kr2 _ _ (then_n (ks1 _ _ (xseq_k fun KS3 ks3 => (xregS [0] fun KR4 kr4 => ?_)))))
 refine wpS.only 0 (op_alloc (t := 32) (d := (some 8)) (by kernel_rfl) hs (enc .i32 (zeroA 256)) (.agg (enc .i32 (zeroA 256)).toArray) (by kernel_rfl) (by kernel_rfl) (by kernel_rfl) ?_)
 intro b3 w gw hs
 refine ⟨fun _ => trivial, ?_⟩
 refine wpS.fin rfl (kr4 _ _ (then_n (ks3 _ _ (xseq_k fun KS5 ks5 => (xregS [0, 1] fun KR6 kr6 => ?_)))))
 refine wpS.only 0 (op_alloc (t := 3) (d := (some 9)) (by kernel_rfl) hs ([.int .i64 0]) (.int .i64 0) (by kernel_rfl) (by kernel_rfl) (by kernel_rfl) ?_)
 intro b4 w gw hs
 refine ⟨fun _ => trivial, ?_⟩
 refine wpS.only 1 (op_store1 (t := 3) (o := 0) (v := .int .i64 0) (d := none) (by kernel_rfl) hs 0 rfl (by kernel_rfl) rfl (by kernel_rfl) (by simp) ?_)
 intro w kp hs
 refine ⟨fun _ => trivial, ?_⟩
 refine wpS.fin rfl (kr6 _ _ (then_n (ks5 _ _ (xseq_k fun KS7 ks7 => (xseq_k fun KS8 ks8 => (xregS [0, 1, 2, 3, 4, 5, 6] fun KR9 kr9 => ?_))))))
 refine wpS.qs [(0, 11, .slice a0_A a0_n a0_c), (1, 12, .int .u8 a2), (2, 13, .int .u8 a1)] ?_
 refine wpS.only 3 (op_lit (C := (CI .u8)) (t := 24) (e := 5) (len := 2) (parts := #[(0, .int .u8 a2), (1, .int .u8 a1)]) (l := [a2, a1]) (d := (some 14)) (by kernel_rfl) hs (by kernel_rfl) (by kernel_rfl) (by kernel_rfl) (z := .int .u8 0) (by kernel_rfl) rfl (by decide) (by decide) (by kernel_rfl) ?_)
 intro s5_A s5_n s5_c w gw hs
 refine ⟨fun _ => trivial, ?_⟩
 refine wpS.only 4 (op_lit (C := CS) (t := 59) (e := 24) (len := 2) (parts := #[(0, .slice a0_A a0_n a0_c), (1, .slice s5_A s5_n s5_c)]) (l := ([(a0_A, a0_n, a0_c), (s5_A, s5_n, s5_c)] : List HS)) (d := (some 15)) (by kernel_rfl) hs (by kernel_rfl) (by kernel_rfl) (by kernel_rfl) (z := .slice none 0 0) (by kernel_rfl) rfl (by decide) (by decide) (by kernel_rfl) ?_)
 intro s6_A s6_n s6_c w gw hs
 refine ⟨fun _ => trivial, ?_⟩
 obtain ⟨r7, hg, h⟩ := of_bind h
 refine wpS.only 5 (op_callH (d := (some 16)) (by kernel_rfl) hs (fun _ => by kernel_rfl) (bits_Join.ok hg _ (LLP.mk (hs.rowL 0 rfl) (inn_cons (hs.rowR 0 rfl) (inn_cons (hs.rowL 1 rfl) inn_nil)))) ?_)
 rintro ⟨r7_A, r7_n, r7_c⟩ w gw hs
 have hs := hs.conv (L' := [.ownL (CI .u8) r7_A r7_n r7_c r7 5, .ownL CS s6_A s6_n s6_c ([(a0_A, a0_n, a0_c), (s5_A, s5_n, s5_c)] : List HS) 24, .ownL (CI .u8) s5_A s5_n s5_c ([a2, a1] : List Int) 5, .blk b4 ([.int .i64 0]) 3, .blk b3 (enc .i32 (zeroA 256)) 32, .blk b2 ([.int .i64 0]) 33, .blk b1 (enc .i32 (zeroA 256)) 32]) rfl
 refine ⟨fun _ => trivial, ?_⟩
 refine wpS.only 6 (op_inline (d := (some 17)) (f := 35) (args := #[.slice r7_A r7_n r7_c]) (by kernel_rfl) (fun _ => by kernel_rfl) fun R10 kI10 => ?_)
 refine calls_k Tryd.func35 rfl fun Q10 qq10 => ?_
 refine wp_conv (a' := ⟨#[.slice r7_A r7_n r7_c, undef, undef, undef], []⟩) (by kernel_rfl) ?_
 refine xseq_k fun KS11 ks11 => ?_
 refine xregS [0, 1] fun KR12 kr12 => ?_
 refine wpS.only 0 (op_box (t := 24) (v := .slice r7_A r7_n r7_c) (d := (some 1)) (by kernel_rfl) hs ([.slice r7_A r7_n r7_c]) (by kernel_rfl) (by kernel_rfl) ?_)
 intro b8 w gw hs
 refine ⟨fun _ => trivial, ?_⟩
 refine wpS.q 1 2 (.nilFunc) ?_
 refine wpS.fin rfl (kr12 _ _ (then_n (ks11 _ _ (xseq_k fun KS13 ks13 => (xregS [0, 1] fun KR14 kr14 => ?_)))))
 refine wpS.qs [(0, 3, .func (.func 76) #[] #[.pointer (some ⟨b8, 0, none⟩)]), (1, 2, .func (.func 76) #[] #[.pointer (some ⟨b8, 0, none⟩)])] ?_
 refine wpS.fin rfl (kr14 _ _ (then_n (ks13 _ _ (xret ?_))))
 refine qq10 _ _ (post_ret (by kernel_rfl) (run_results [.tmp 2] [.func (.func 76) #[] #[.pointer (some ⟨b8, 0, none⟩)]] (by kernel_rfl) (.cons (res_tmp (by kernel_rfl)) .nil)) ?_)
 refine kI10 _ _ ?_
 refine ⟨fun _ => trivial, ?_⟩
 refine wpS.fin rfl (kr9 _ _ (then_n (ks8 _ _ (xblock ?_))))
 refine wp_range (gf := 76) (lb := #[.pointer (some ⟨b8, 0, none⟩)]) hs (by kernel_rfl) (fun _ _ => by kernel_rfl) fun l15 D15 rec15 w hok15 hs R15 kR15 => ?_
 refine calls_kn Tryd.func76 rfl fun Q15 qq15 qn15 => ?_
 refine wp_conv (a' := ⟨#[.func (.yield l15) #[] #[], .pointer (some ⟨b8, 0, none⟩), undef, undef, undef, undef, undef, undef, undef, undef, undef, undef, undef, undef, undef, undef, undef, undef, undef, undef, undef, undef, undef, undef, undef, undef, undef, undef, undef, undef, undef, undef, undef, undef, undef, undef, undef], []⟩) (by kernel_rfl) ?_
 refine xseq_k fun KS16 ks16 => ?_
 refine xregS [0, 1, 2, 3, 4, 5, 6] fun KR17 kr17 => ?_
 obtain ⟨⟨r9_0, r9_1, r9_2, r9_3, r10⟩, hg, h⟩ := of_bind h
 refine wpS.only 0 (op_call (d := (some 8)) (by kernel_rfl) hs (fun _ => by kernel_rfl) (keccak_New.ok hg _) ?_)
 intro w gw hs
 refine ⟨fun _ => trivial, ?_⟩
 refine wpS.qs [(1, 7, .tuple #[.agg (([.int .i64 r9_0] : List Value) ++ enc .u64 r9_1 ++ ([.int .i64 r9_2, .bool r9_3] : List Value)).toArray, .int .i64 r10]), (2, 9, .agg (([.int .i64 r9_0] : List Value) ++ enc .u64 r9_1 ++ ([.int .i64 r9_2, .bool r9_3] : List Value)).toArray), (3, 10, .int .i64 r10)] ?_
 refine wpS.only 4 (op_alloc (t := 115) (d := (some 3)) (by kernel_rfl) hs (([.int .i64 0] : List Value) ++ enc .u64 (zeroA 25) ++ ([.int .i64 0, .bool false] : List Value)) (.agg (([.int .i64 0] : List Value) ++ enc .u64 (zeroA 25) ++ ([.int .i64 0, .bool false] : List Value)).toArray) (by kernel_rfl) (by kernel_rfl) (by kernel_rfl) ?_)
 intro b11 w gw hs
 refine ⟨fun _ => trivial, ?_⟩
 refine wpS.only 5 (op_storeW (t := 115) (v := .agg (([.int .i64 r9_0] : List Value) ++ enc .u64 r9_1 ++ ([.int .i64 r9_2, .bool r9_3] : List Value)).toArray) (d := none) (by kernel_rfl) hs 0 rfl (vs := ([.int .i64 r9_0] : List Value) ++ enc .u64 r9_1 ++ ([.int .i64 r9_2, .bool r9_3] : List Value)) (n := 28) (by kernel_rfl) (by kernel_rfl) (by kernel_rfl) (by simp [enc_len]) (by simp [enc_len]) (one_app (one_app (by simp [Value.oneCell']) (fun u hu => enc_one _ _ u hu)) (by simp [Value.oneCell'])) ?_)
 intro w kp hs
 refine ⟨fun _ => trivial, ?_⟩
 refine wpS.q 6 4 (.int .i64 r10) ?_
 refine wpS.fin rfl (kr17 _ _ (then_n (ks16 _ _ (xseq_k fun KS18 ks18 => (xregS [0, 1, 2, 3] fun KR19 kr19 => ?_)))))
 refine wpS.tk 0 true (some 11) (.agg (([.int .i64 r9_0] : List Value) ++ enc .u64 r9_1 ++ ([.int .i64 r9_2, .bool r9_3] : List Value)).toArray) (yld_loadW (e := 115) (n := 28) hs 0 rfl (by kernel_rfl) (by kernel_rfl) (by kernel_rfl) (by simp [enc_len]) .grow) ?_
 refine wpS.tk 1 true (some 12) (.slice r7_A r7_n r7_c) (yld_load1 (e := 24) (o := 0) hs 3 rfl (by kernel_rfl) (by kernel_rfl) (by rfl) .grow) ?_
 obtain ⟨⟨r12_0, r12_1, r12_2, r12_3⟩, hg, h⟩ := of_bind h
 refine wpS.only 2 (op_call (d := (some 13)) (by kernel_rfl) hs (fun _ => by kernel_rfl) (keccak_Absorb.ok hg _ (hs.rowL 4 rfl) (hs.rowR 1 rfl) (hs.rowR 2 rfl) (hs.rowR 3 rfl)) ?_)
 intro w gw hs
 refine ⟨fun _ => trivial, ?_⟩
 refine wpS.only 3 (op_storeW (t := 115) (v := .agg (([.int .i64 r12_0] : List Value) ++ enc .u64 r12_1 ++ ([.int .i64 r12_2, .bool r12_3] : List Value)).toArray) (d := none) (by kernel_rfl) hs 0 rfl (vs := ([.int .i64 r12_0] : List Value) ++ enc .u64 r12_1 ++ ([.int .i64 r12_2, .bool r12_3] : List Value)) (n := 28) (by kernel_rfl) (by kernel_rfl) (by kernel_rfl) (by simp [enc_len]) (by simp [enc_len]) (one_app (one_app (by simp [Value.oneCell']) (fun u hu => enc_one _ _ u hu)) (by simp [Value.oneCell'])) ?_)
 intro w kp hs
 refine ⟨fun _ => trivial, ?_⟩
 refine wpS.fin rfl (kr19 _ _ (then_n (ks18 _ _ (xseq_k fun KS20 ks20 => (xregS [0] fun KR21 kr21 => ?_)))))
 refine wpS.q 0 14 (.int .i64 0) ?_
 refine wpS.fin rfl (kr21 _ _ (then_n (ks20 _ _ ?_)))
 obtain ⟨t0, hy, hk0⟩ := of_bind h
 refine wp_exq (N := fun a w => ∃ y19_0 y19_1 y19_2 y19_3 y20 y21 y22 y23, t0 = .inl (y19_0, y19_1, y19_2, y19_3, y20, y21, y22, y23) ∧ St w0 [] [.blk b11 (([.int .i64 y19_0] : List Value) ++ enc .u64 y19_1 ++ ([.int .i64 y19_2, .bool y19_3] : List Value)) 115, .obj l15 (.loop (rec15 .ready none)), .obj D15 (.deferred (some [])), .blk b8 ([.slice r7_A r7_n r7_c]) 24, .ownL (CI .u8) r7_A r7_n r7_c r7 5, .ownL CS s6_A s6_n s6_c ([(a0_A, a0_n, a0_c), (s5_A, s5_n, s5_c)] : List HS) 24, .ownL (CI .u8) s5_A s5_n s5_c ([a2, a1] : List Int) 5, .blk b4 ([.int .i64 y20]) 3, .blk b3 (enc .i32 y21) 32, .blk b2 ([.int .i64 y22]) 33, .blk b1 (enc .i32 y23) 32] [.rowL (CI .u8) a0_A a0_n a0_c a0, .rowL (CA .u64 24 (by decide)) (some ⟨0, 0, none⟩) 1 1 ([tab_0]), .rowL (CA .i64 24 (by decide)) (some ⟨1, 0, none⟩) 1 1 ([tab_1]), .rowL (CA .i64 24 (by decide)) (some ⟨2, 0, none⟩) 1 1 ([tab_2])] w ∧ ∃ g23 : Nat → Value, a = ⟨#[.func (.yield l15) #[] #[], .pointer (some ⟨b8, 0, none⟩), undef, .pointer (some ⟨b11, 0, none⟩), .int .i64 r10, (g23 5), (g23 6), .tuple #[.agg (([.int .i64 r9_0] : List Value) ++ enc .u64 r9_1 ++ ([.int .i64 r9_2, .bool r9_3] : List Value)).toArray, .int .i64 r10], .tuple #[.agg (([.int .i64 r9_0] : List Value) ++ enc .u64 r9_1 ++ ([.int .i64 r9_2, .bool r9_3] : List Value)).toArray, .int .i64 r10], .agg (([.int .i64 r9_0] : List Value) ++ enc .u64 r9_1 ++ ([.int .i64 r9_2, .bool r9_3] : List Value)).toArray, .int .i64 r10, .agg (([.int .i64 r9_0] : List Value) ++ enc .u64 r9_1 ++ ([.int .i64 r9_2, .bool r9_3] : List Value)).toArray, .slice r7_A r7_n r7_c, .agg (([.int .i64 r12_0] : List Value) ++ enc .u64 r12_1 ++ ([.int .i64 r12_2, .bool r12_3] : List Value)).toArray, (g23 14), (g23 15), (g23 16), (g23 17), (g23 18), (g23 19), (g23 20), (g23 21), (g23 22), (g23 23), (g23 24), (g23 25), (g23 26), (g23 27), (g23 28), (g23 29), (g23 30), (g23 31), (g23 32), (g23 33), (g23 34), (g23 35), (g23 36)], []⟩) (fun N0 nn0 => ?_) ?_
 ·refine xblock ?_
  refine wp_loop_k (fun n a w => ∃ z13 z14_0 z14_1 z14_2 z14_3 z15 z16 z17 z18, kpke_Parts.l0 K n z13 z14_0 z14_1 z14_2 z14_3 z15 z16 z17 z18 = some t0 ∧ St w0 [] [.blk b11 (([.int .i64 z14_0] : List Value) ++ enc .u64 z14_1 ++ ([.int .i64 z14_2, .bool z14_3] : List Value)) 115, .obj l15 (.loop (rec15 .ready none)), .obj D15 (.deferred (some [])), .blk b8 ([.slice r7_A r7_n r7_c]) 24, .ownL (CI .u8) r7_A r7_n r7_c r7 5, .ownL CS s6_A s6_n s6_c ([(a0_A, a0_n, a0_c), (s5_A, s5_n, s5_c)] : List HS) 24, .ownL (CI .u8) s5_A s5_n s5_c ([a2, a1] : List Int) 5, .blk b4 ([.int .i64 z15]) 3, .blk b3 (enc .i32 z16) 32, .blk b2 ([.int .i64 z17]) 33, .blk b1 (enc .i32 z18) 32] [.rowL (CI .u8) a0_A a0_n a0_c a0, .rowL (CA .u64 24 (by decide)) (some ⟨0, 0, none⟩) 1 1 ([tab_0]), .rowL (CA .i64 24 (by decide)) (some ⟨1, 0, none⟩) 1 1 ([tab_1]), .rowL (CA .i64 24 (by decide)) (some ⟨2, 0, none⟩) 1 1 ([tab_2])] w ∧ ∃ g22 : Nat → Value, a = ⟨#[.func (.yield l15) #[] #[], .pointer (some ⟨b8, 0, none⟩), undef, .pointer (some ⟨b11, 0, none⟩), .int .i64 r10, (g22 5), (g22 6), .tuple #[.agg (([.int .i64 r9_0] : List Value) ++ enc .u64 r9_1 ++ ([.int .i64 r9_2, .bool r9_3] : List Value)).toArray, .int .i64 r10], .tuple #[.agg (([.int .i64 r9_0] : List Value) ++ enc .u64 r9_1 ++ ([.int .i64 r9_2, .bool r9_3] : List Value)).toArray, .int .i64 r10], .agg (([.int .i64 r9_0] : List Value) ++ enc .u64 r9_1 ++ ([.int .i64 r9_2, .bool r9_3] : List Value)).toArray, .int .i64 r10, .agg (([.int .i64 r9_0] : List Value) ++ enc .u64 r9_1 ++ ([.int .i64 r9_2, .bool r9_3] : List Value)).toArray, .slice r7_A r7_n r7_c, .agg (([.int .i64 r12_0] : List Value) ++ enc .u64 r12_1 ++ ([.int .i64 r12_2, .bool r12_3] : List Value)).toArray, .int .i64 z13, (g22 15), (g22 16), (g22 17), (g22 18), (g22 19), (g22 20), (g22 21), (g22 22), (g22 23), (g22 24), (g22 25), (g22 26), (g22 27), (g22 28), (g22 29), (g22 30), (g22 31), (g22 32), (g22 33), (g22 34), (g22 35), (g22 36)], []⟩) K ⟨0, r12_0, r12_1, r12_2, r12_3, 0, (zeroA 256), 0, (zeroA 256), hy, hs.conv rfl, exg (by kernel_rfl)⟩ ?_
  clear hs h hy
  rintro n a w ⟨z13, z14_0, z14_1, z14_2, z14_3, z15, z16, z17, z18, h, hs, g22, rfl⟩ KL0 kl0
  cases n with
  | zero => exact nomatch (show none = some _ from h)
  | succ n =>
   refine xseq_k fun KS24 ks24 => ?_
   refine xregS [0] fun KR25 kr25 => ?_
   rcases of_if h with ⟨hc, h⟩ | ⟨hc, h⟩
   ·refine wpS.tk 0 false (some 15) (.bool true) (yld_b (dt hc) (fun _ => by kernel_rfl)) ?_
    refine wpS.fin rfl (kr25 _ _ (then_n (ks24 _ _ (xseq_k fun KS26 ks26 => (wp_cond_t (by kernel_rfl) (xskip (then_n (ks26 _ _ (xseq_k fun KS27 ks27 => (xblock (xseq_k fun KS28 ks28 => (xregS [0] fun KR29 kr29 => ?_))))))))))))
    refine wpS.q 0 5 (.slice none 0 0) ?_
    refine wpS.fin rfl (kr29 _ _ (then_n (ks28 _ _ (xseq_k fun KS30 ks30 => (xregS [0, 1, 2, 3, 4, 5, 6] fun KR31 kr31 => ?_)))))
    refine wpS.tk 0 true (some 17) (.agg (([.int .i64 z14_0] : List Value) ++ enc .u64 z14_1 ++ ([.int .i64 z14_2, .bool z14_3] : List Value)).toArray) (yld_loadW (e := 115) (n := 28) hs 0 rfl (by kernel_rfl) (by kernel_rfl) (by kernel_rfl) (by simp [enc_len]) .grow) ?_
    obtain ⟨⟨r24_0, r24_1, r24_2, r24_3, r25⟩, hg, h⟩ := of_bind h
    refine wpS.only 1 (op_callH (d := (some 18)) (by kernel_rfl) hs (fun _ => by kernel_rfl) (keccak_Squeeze.ok hg _ (hs.rowR 1 rfl) (hs.rowR 2 rfl) (hs.rowR 3 rfl)) ?_)
    rintro ⟨r25_A, r25_n, r25_c⟩ w gw hs
    have hs := hs.conv (L' := [.ownL (CI .u8) r25_A r25_n r25_c r25 5, .blk b11 (([.int .i64 z14_0] : List Value) ++ enc .u64 z14_1 ++ ([.int .i64 z14_2, .bool z14_3] : List Value)) 115, .obj l15 (.loop (rec15 .ready none)), .obj D15 (.deferred (some [])), .blk b8 ([.slice r7_A r7_n r7_c]) 24, .ownL (CI .u8) r7_A r7_n r7_c r7 5, .ownL CS s6_A s6_n s6_c ([(a0_A, a0_n, a0_c), (s5_A, s5_n, s5_c)] : List HS) 24, .ownL (CI .u8) s5_A s5_n s5_c ([a2, a1] : List Int) 5, .blk b4 ([.int .i64 z15]) 3, .blk b3 (enc .i32 z16) 32, .blk b2 ([.int .i64 z17]) 33, .blk b1 (enc .i32 z18) 32]) rfl
    refine ⟨fun _ => trivial, ?_⟩
    refine wpS.qs [(2, 16, .tuple #[.agg (([.int .i64 r24_0] : List Value) ++ enc .u64 r24_1 ++ ([.int .i64 r24_2, .bool r24_3] : List Value)).toArray, .slice r25_A r25_n r25_c]), (3, 19, .agg (([.int .i64 r24_0] : List Value) ++ enc .u64 r24_1 ++ ([.int .i64 r24_2, .bool r24_3] : List Value)).toArray), (4, 20, .slice r25_A r25_n r25_c)] ?_
    refine wpS.only 5 (op_storeW (t := 115) (v := .agg (([.int .i64 r24_0] : List Value) ++ enc .u64 r24_1 ++ ([.int .i64 r24_2, .bool r24_3] : List Value)).toArray) (d := none) (by kernel_rfl) hs 1 rfl (vs := ([.int .i64 r24_0] : List Value) ++ enc .u64 r24_1 ++ ([.int .i64 r24_2, .bool r24_3] : List Value)) (n := 28) (by kernel_rfl) (by kernel_rfl) (by kernel_rfl) (by simp [enc_len]) (by simp [enc_len]) (one_app (one_app (by simp [Value.oneCell']) (fun u hu => enc_one _ _ u hu)) (by simp [Value.oneCell'])) ?_)
    intro w kp hs
    refine ⟨fun _ => trivial, ?_⟩
    refine wpS.q 6 5 (.slice r25_A r25_n r25_c) ?_
    refine wpS.fin rfl (kr31 _ _ (then_n (ks30 _ _ (xseq_k fun KS32 ks32 => (xregS [0, 1, 2, 3] fun KR33 kr33 => ?_)))))
    refine wpS.q 0 21 (.slice r25_A r25_n r25_c) ?_
    obtain ⟨r26, hg, h⟩ := of_bind h
    refine wpS.only 1 (op_call (d := (some 22)) (by kernel_rfl) hs (fun _ => by kernel_rfl) (bits_NumLe.ok hg _ (hs.rowL 0 rfl)) ?_)
    intro w gw hs
    refine ⟨fun _ => trivial, ?_⟩
    refine wpS.q 2 23 (.int .i32 (iconv .i32 r26)) ?_
    obtain ⟨x27, hx, h⟩ := of_bind h
    refine wpS.tk 3 false (some 6) (.int .i32 x27) (yld_int hx (fun _ => by kernel_rfl)) ?_
    refine wpS.fin rfl (kr33 _ _ (then_n (ks32 _ _ (xseq_k fun KS34 ks34 => (xregS [0, 1, 2, 3, 4, 5, 6, 7, 8, 9, 10, 11] fun KR35 kr35 => ?_)))))
    refine wpS.qs [(0, 24, .func (.yield l15) #[] #[]), (1, 25, .int .i32 x27), (2, 26, .int .i32 (iand .i32 x27 4095))] ?_
    refine wpS.onlyR 3 (op_yield (d := (some 27)) (by kernel_rfl) hs 2 rfl hok15 #[.int .i32 (iand .i32 x27 4095)] (by kernel_rfl) rfl (tm := #[.slice a0_A a0_n a0_c, .int .u8 a1, .int .u8 a2, undef, undef, undef, .pointer (some ⟨b1, 0, none⟩), .pointer (some ⟨b2, 0, none⟩), .pointer (some ⟨b3, 0, none⟩), .pointer (some ⟨b4, 0, none⟩), undef, .slice a0_A a0_n a0_c, .int .u8 a2, .int .u8 a1, .slice s5_A s5_n s5_c, .slice s6_A s6_n s6_c, .slice r7_A r7_n r7_c, .func (.func 76) #[] #[.pointer (some ⟨b8, 0, none⟩)], .int .i32 (iand .i32 x27 4095), undef, undef, undef, undef, undef, undef, undef, undef, undef, undef, undef]) (by kernel_rfl) (by kernel_rfl) fun K36 k36 => ?_)
    refine xregS [0] fun KR37 kr37 => ?_
    obtain ⟨x28, hx, h⟩ := of_bind h
    refine wpS.tk 0 false (some 10) (.int .i32 x28) (yld_int hx (fun _ => by kernel_rfl)) ?_
    refine wpS.fin rfl (kr37 _ _ (then_n (k36 _ _ 2 _ _ hs rfl fun w Qr36 hs qr36 => ?_)))
    try dsimp only [List.set] at hs
    refine xblock (xseq_k fun KS38 ks38 => (xseq_k fun KS39 ks39 => (xregS [0, 1] fun KR40 kr40 => ?_)))
    refine wpS.q 0 19 (.int .i32 x28) ?_
    rcases of_if h with ⟨hc, h⟩ | ⟨hc, h⟩
    ·refine wpS.tk 1 false (some 20) (.bool true) (yld_b (dt hc) (fun _ => by kernel_rfl)) ?_
     refine wpS.fin rfl (kr40 _ _ (then_n (ks39 _ _ (wp_cond_t (by kernel_rfl) (xexit (then_x (inBlock_hit ?_)))))))
     refine round_n qr36 hs 2 rfl fun w hs => ?_
     try dsimp only [List.set] at hs
     refine ⟨fun _ => trivial, ?_⟩
     refine wpS.qs [(4, 28, .bool false), (5, 29, .bool false), (6, 30, .func (.yield l15) #[] #[]), (7, 31, .int .i32 x27), (8, 32, .int .i32 (ishr .i32 x27 12))] ?_
     refine wpS.onlyR 9 (op_yield (d := (some 33)) (by kernel_rfl) hs 2 rfl hok15 #[.int .i32 (ishr .i32 x27 12)] (by kernel_rfl) rfl (tm := #[.slice a0_A a0_n a0_c, .int .u8 a1, .int .u8 a2, undef, undef, undef, .pointer (some ⟨b1, 0, none⟩), .pointer (some ⟨b2, 0, none⟩), .pointer (some ⟨b3, 0, none⟩), .pointer (some ⟨b4, 0, none⟩), undef, .slice a0_A a0_n a0_c, .int .u8 a2, .int .u8 a1, .slice s5_A s5_n s5_c, .slice s6_A s6_n s6_c, .slice r7_A r7_n r7_c, .func (.func 76) #[] #[.pointer (some ⟨b8, 0, none⟩)], .int .i32 (ishr .i32 x27 12), undef, undef, undef, undef, undef, undef, undef, undef, undef, undef, undef]) (by kernel_rfl) (by kernel_rfl) fun K41 k41 => ?_)
     refine xregS [0] fun KR42 kr42 => ?_
     obtain ⟨x29, hx, h⟩ := of_bind h
     refine wpS.tk 0 false (some 10) (.int .i32 x29) (yld_int hx (fun _ => by kernel_rfl)) ?_
     refine wpS.fin rfl (kr42 _ _ (then_n (k41 _ _ 2 _ _ hs rfl fun w Qr41 hs qr41 => ?_)))
     try dsimp only [List.set] at hs
     refine xblock (xseq_k fun KS43 ks43 => (xseq_k fun KS44 ks44 => (xregS [0, 1] fun KR45 kr45 => ?_)))
     refine wpS.q 0 19 (.int .i32 x29) ?_
     rcases of_if h with ⟨hc, h⟩ | ⟨hc, h⟩
     ·refine wpS.tk 1 false (some 20) (.bool true) (yld_b (dt hc) (fun _ => by kernel_rfl)) ?_
      refine wpS.fin rfl (kr45 _ _ (then_n (ks44 _ _ (wp_cond_t (by kernel_rfl) (xexit (then_x (inBlock_hit ?_)))))))
      refine round_n qr41 hs 2 rfl fun w hs => ?_
      try dsimp only [List.set] at hs
      refine ⟨fun _ => trivial, ?_⟩
      refine wpS.qs [(10, 34, .bool false), (11, 35, .bool false)] ?_
      refine wpS.fin rfl (kr35 _ _ (then_n (ks34 _ _ (wp_cond_f (by kernel_rfl) (xskip (inBlock_n (then_n (ks27 _ _ (xregS [0, 1] fun KR46 kr46 => ?_)))))))))
      refine wpS.qs [(0, 36, .int .i64 (iadd .i64 z13 1)), (1, 14, .int .i64 (iadd .i64 z13 1))] ?_
      refine wpS.fin rfl (kr46 _ _ ?_)
      exact then_n (kl0 _ _ ⟨n, Nat.lt_succ_self n, (iadd .i64 z13 1), r24_0, r24_1, r24_2, r24_3, z15, z16, z17, z18, h, (hs.drop (.cons _ (.cons_cons _ (.cons_cons _ (.cons_cons _ (.cons_cons _ (.cons_cons _ (.cons_cons _ (.cons_cons _ (.cons_cons _ (.cons_cons _ (.cons_cons _ (.cons_cons _ .slnil))))))))))))), exg (by kernel_rfl)⟩)
     refine wpS.tk 1 false (some 20) (.bool false) (yld_b (df hc) (fun _ => by kernel_rfl)) ?_
     refine wpS.fin rfl (kr45 _ _ (then_n (ks44 _ _ (wp_cond_f (by kernel_rfl) (xskip (then_n (ks43 _ _ (xseq_k fun KS47 ks47 => (xregS [0, 1, 2, 3] fun KR48 kr48 => ?_)))))))))
     refine wpS.tk 0 true (some 21) (.int .i64 z15) (yld_load1 (e := 3) (o := 0) hs 8 rfl (by kernel_rfl) (by kernel_rfl) (by rfl) .grow) ?_
     refine wpS.q 1 22 (.int .i32 x29) ?_
     obtain ⟨i0_49, h⟩ := of_chk h
     obtain ⟨i1_49, h⟩ := of_chk h
     refine wpS.tk 2 false (some 23) (.pointer (some ⟨b3, 0 + (z15 : Int).toNat * 1, none⟩)) (yld_idx (t := 32) (e := 21) (n := 256) (sz := 1) (k := .i64) (x := z15) (by kernel_rfl) (by kernel_rfl) (by kernel_rfl) i0_49 i1_49) ?_
     refine wpS.only 3 (op_storeA (t := 21) (x := z15) (v := x29) (d := none) (by kernel_rfl) hs 9 rfl (by kernel_rfl) (by kernel_rfl) i0_49 i1_49 ?_)
     intro w kp hs
     refine ⟨fun _ => trivial, ?_⟩
     refine wpS.fin rfl (kr48 _ _ (then_n (ks47 _ _ (xseq_k fun KS50 ks50 => (xregS [0, 1, 2] fun KR51 kr51 => ?_)))))
     refine wpS.tk 0 true (some 24) (.int .i64 z15) (yld_load1 (e := 3) (o := 0) hs 8 rfl (by kernel_rfl) (by kernel_rfl) (by rfl) .grow) ?_
     refine wpS.q 1 25 (.int .i64 (iadd .i64 z15 1)) ?_
     obtain ⟨x30, hx, h⟩ := of_bind h
     refine wpS.only 2 (op_store1 (t := 3) (o := 0) (v := .int .i64 x30) (d := none) (by kernel_rfl) hs 8 rfl (by cases hx; kernel_rfl) rfl (by kernel_rfl) (by simp) ?_)
     intro w kp hs
     refine ⟨fun _ => trivial, ?_⟩
     refine wpS.fin rfl (kr51 _ _ (then_n (ks50 _ _ (xseq_k fun KS52 ks52 => (xregS [0, 1] fun KR53 kr53 => ?_)))))
     refine wpS.tk 0 true (some 26) (.int .i64 x30) (yld_load1 (e := 3) (o := 0) hs 8 rfl (by kernel_rfl) (by kernel_rfl) (by rfl) .grow) ?_
     rcases of_if h with ⟨hc, h⟩ | ⟨hc, h⟩
     ·refine wpS.tk 1 false (some 27) (.bool true) (yld_b (et hc) (fun _ => by kernel_rfl)) ?_
      refine wpS.fin rfl (kr53 _ _ (then_n (ks52 _ _ (wp_cond_t (by kernel_rfl) (xseq_k fun KS54 ks54 => (xregS [0, 1, 2] fun KR55 kr55 => ?_))))))
      refine wpS.tk 0 true (some 28) (.agg (enc .i32 (wr z16 z15 x29)).toArray) (yld_loadW (e := 32) (n := 256) hs 9 rfl (by kernel_rfl) (by kernel_rfl) (by kernel_rfl) (by exact enc_len _ _) .grow) ?_
      refine wpS.only 1 (op_storeW (t := 32) (v := .agg (enc .i32 (wr z16 z15 x29)).toArray) (d := none) (by kernel_rfl) hs 11 rfl (vs := enc .i32 (wr z16 z15 x29)) (n := 256) (by kernel_rfl) (by kernel_rfl) (by kernel_rfl) (by simp [enc_len]) (by simp [enc_len]) (by intro u hu; exact enc_one _ _ u hu) ?_)
      intro w kp hs
      refine ⟨fun _ => trivial, ?_⟩
      refine wpS.only 2 (op_store1 (t := 33) (o := 0) (v := .int .i64 0) (d := none) (by kernel_rfl) hs 10 rfl (by kernel_rfl) rfl (by kernel_rfl) (by simp) ?_)
      intro w kp hs
      refine ⟨fun _ => trivial, ?_⟩
      refine wpS.fin rfl (kr55 _ _ (then_n (ks54 _ _ (xret (inBlock_r ?_)))))
      refine round_r qr41 hs 2 rfl fun w hs => ?_
      try dsimp only [List.set] at hs
      refine ⟨fun _ => trivial, ?_⟩
      refine wpS.qs [(10, 34, .bool true), (11, 35, .bool true)] ?_
      refine wpS.fin rfl (kr35 _ _ (then_n (ks34 _ _ (wp_cond_t (by kernel_rfl) (xret (inBlock_r (then_r (then_r (inBlock_r (exq_r ?_))))))))))
      refine qq15 _ _ (post_ret (by kernel_rfl) (run_results [] [] (by kernel_rfl) .nil) ?_)
      refine range_j (a1 := ⟨#[.slice a0_A a0_n a0_c, .int .u8 a1, .int .u8 a2, undef, undef, undef, .pointer (some ⟨b1, 0, none⟩), .pointer (some ⟨b2, 0, none⟩), .pointer (some ⟨b3, 0, none⟩), .pointer (some ⟨b4, 0, none⟩), undef, .slice a0_A a0_n a0_c, .int .u8 a2, .int .u8 a1, .slice s5_A s5_n s5_c, .slice s6_A s6_n s6_c, .slice r7_A r7_n r7_c, .func (.func 76) #[] #[.pointer (some ⟨b8, 0, none⟩)], undef, undef, undef, undef, undef, undef, undef, undef, undef, undef, undef, undef], [lmark D15]⟩) .ret kR15 (by kernel_rfl) hs 2 rfl fun w hs => ?_
      try dsimp only [List.set] at hs
      refine xret (inBlock_r (then_r ?_))
      have q0 := of_some h
      subst q0
      obtain ⟨q0, qr0⟩ := Prod.mk.inj (of_some hk0)
      have q1 := qr0
      subst q0
      subst q1
      refine qq _ _ ?_
      refine leaves_mark hs 3 rfl fun w hs => ?_
      try dsimp only [List.set] at hs
      exact leaves_end (run_results [.cell 6 32, .cell 7 33] [.agg (enc .i32 (wr z16 z15 x29)).toArray, .int .i64 0] (by kernel_rfl) (.cons (res_cellN (n := 256) hs 11 rfl (by kernel_rfl) (by kernel_rfl) (by kernel_rfl) (by exact enc_len _ _)) (.cons (res_cell1 hs 10 rfl (by kernel_rfl) (by kernel_rfl) rfl) .nil))) ⟨congrArg Ending.returned (by kernel_rfl), hs.none⟩
     refine wpS.tk 1 false (some 27) (.bool false) (yld_b (ef hc) (fun _ => by kernel_rfl)) ?_
     refine wpS.fin rfl (kr53 _ _ (then_n (ks52 _ _ (wp_cond_f (by kernel_rfl) (xskip (inBlock_n ?_))))))
     refine round_n qr41 hs 2 rfl fun w hs => ?_
     try dsimp only [List.set] at hs
     refine ⟨fun _ => trivial, ?_⟩
     refine wpS.qs [(10, 34, .bool false), (11, 35, .bool false)] ?_
     refine wpS.fin rfl (kr35 _ _ (then_n (ks34 _ _ (wp_cond_f (by kernel_rfl) (xskip (inBlock_n (then_n (ks27 _ _ (xregS [0, 1] fun KR56 kr56 => ?_)))))))))
     refine wpS.qs [(0, 36, .int .i64 (iadd .i64 z13 1)), (1, 14, .int .i64 (iadd .i64 z13 1))] ?_
     refine wpS.fin rfl (kr56 _ _ ?_)
     exact then_n (kl0 _ _ ⟨n, Nat.lt_succ_self n, (iadd .i64 z13 1), r24_0, r24_1, r24_2, r24_3, x30, (wr z16 z15 x29), z17, z18, h, (hs.drop (.cons _ (.cons_cons _ (.cons_cons _ (.cons_cons _ (.cons_cons _ (.cons_cons _ (.cons_cons _ (.cons_cons _ (.cons_cons _ (.cons_cons _ (.cons_cons _ (.cons_cons _ .slnil))))))))))))), exg (by kernel_rfl)⟩)
    refine wpS.tk 1 false (some 20) (.bool false) (yld_b (df hc) (fun _ => by kernel_rfl)) ?_
    refine wpS.fin rfl (kr40 _ _ (then_n (ks39 _ _ (wp_cond_f (by kernel_rfl) (xskip (then_n (ks38 _ _ (xseq_k fun KS57 ks57 => (xregS [0, 1, 2, 3] fun KR58 kr58 => ?_)))))))))
    refine wpS.tk 0 true (some 21) (.int .i64 z15) (yld_load1 (e := 3) (o := 0) hs 8 rfl (by kernel_rfl) (by kernel_rfl) (by rfl) .grow) ?_
    refine wpS.q 1 22 (.int .i32 x28) ?_
    obtain ⟨i0_59, h⟩ := of_chk h
    obtain ⟨i1_59, h⟩ := of_chk h
    refine wpS.tk 2 false (some 23) (.pointer (some ⟨b3, 0 + (z15 : Int).toNat * 1, none⟩)) (yld_idx (t := 32) (e := 21) (n := 256) (sz := 1) (k := .i64) (x := z15) (by kernel_rfl) (by kernel_rfl) (by kernel_rfl) i0_59 i1_59) ?_
    refine wpS.only 3 (op_storeA (t := 21) (x := z15) (v := x28) (d := none) (by kernel_rfl) hs 9 rfl (by kernel_rfl) (by kernel_rfl) i0_59 i1_59 ?_)
    intro w kp hs
    refine ⟨fun _ => trivial, ?_⟩
    refine wpS.fin rfl (kr58 _ _ (then_n (ks57 _ _ (xseq_k fun KS60 ks60 => (xregS [0, 1, 2] fun KR61 kr61 => ?_)))))
    refine wpS.tk 0 true (some 24) (.int .i64 z15) (yld_load1 (e := 3) (o := 0) hs 8 rfl (by kernel_rfl) (by kernel_rfl) (by rfl) .grow) ?_
    refine wpS.q 1 25 (.int .i64 (iadd .i64 z15 1)) ?_
    obtain ⟨x31, hx, h⟩ := of_bind h
    refine wpS.only 2 (op_store1 (t := 3) (o := 0) (v := .int .i64 x31) (d := none) (by kernel_rfl) hs 8 rfl (by cases hx; kernel_rfl) rfl (by kernel_rfl) (by simp) ?_)
    intro w kp hs
    refine ⟨fun _ => trivial, ?_⟩
    refine wpS.fin rfl (kr61 _ _ (then_n (ks60 _ _ (xseq_k fun KS62 ks62 => (xregS [0, 1] fun KR63 kr63 => ?_)))))
    refine wpS.tk 0 true (some 26) (.int .i64 x31) (yld_load1 (e := 3) (o := 0) hs 8 rfl (by kernel_rfl) (by kernel_rfl) (by rfl) .grow) ?_
    rcases of_if h with ⟨hc, h⟩ | ⟨hc, h⟩
    ·refine wpS.tk 1 false (some 27) (.bool true) (yld_b (et hc) (fun _ => by kernel_rfl)) ?_
     refine wpS.fin rfl (kr63 _ _ (then_n (ks62 _ _ (wp_cond_t (by kernel_rfl) (xseq_k fun KS64 ks64 => (xregS [0, 1, 2] fun KR65 kr65 => ?_))))))
     refine wpS.tk 0 true (some 28) (.agg (enc .i32 (wr z16 z15 x28)).toArray) (yld_loadW (e := 32) (n := 256) hs 9 rfl (by kernel_rfl) (by kernel_rfl) (by kernel_rfl) (by exact enc_len _ _) .grow) ?_
     refine wpS.only 1 (op_storeW (t := 32) (v := .agg (enc .i32 (wr z16 z15 x28)).toArray) (d := none) (by kernel_rfl) hs 11 rfl (vs := enc .i32 (wr z16 z15 x28)) (n := 256) (by kernel_rfl) (by kernel_rfl) (by kernel_rfl) (by simp [enc_len]) (by simp [enc_len]) (by intro u hu; exact enc_one _ _ u hu) ?_)
     intro w kp hs
     refine ⟨fun _ => trivial, ?_⟩
     refine wpS.only 2 (op_store1 (t := 33) (o := 0) (v := .int .i64 0) (d := none) (by kernel_rfl) hs 10 rfl (by kernel_rfl) rfl (by kernel_rfl) (by simp) ?_)
     intro w kp hs
     refine ⟨fun _ => trivial, ?_⟩
     refine wpS.fin rfl (kr65 _ _ (then_n (ks64 _ _ (xret (inBlock_r ?_)))))
     refine round_r qr36 hs 2 rfl fun w hs => ?_
     try dsimp only [List.set] at hs
     refine ⟨fun _ => trivial, ?_⟩
     refine wpS.qs [(4, 28, .bool true), (5, 29, .bool true), (6, 30, undef), (7, 31, undef), (8, 32, undef), (9, 33, undef), (10, 34, undef), (11, 35, .bool true)] ?_
     refine wpS.fin rfl (kr35 _ _ (then_n (ks34 _ _ (wp_cond_t (by kernel_rfl) (xret (inBlock_r (then_r (then_r (inBlock_r (exq_r ?_))))))))))
     refine qq15 _ _ (post_ret (by kernel_rfl) (run_results [] [] (by kernel_rfl) .nil) ?_)
     refine range_j (a1 := ⟨#[.slice a0_A a0_n a0_c, .int .u8 a1, .int .u8 a2, undef, undef, undef, .pointer (some ⟨b1, 0, none⟩), .pointer (some ⟨b2, 0, none⟩), .pointer (some ⟨b3, 0, none⟩), .pointer (some ⟨b4, 0, none⟩), undef, .slice a0_A a0_n a0_c, .int .u8 a2, .int .u8 a1, .slice s5_A s5_n s5_c, .slice s6_A s6_n s6_c, .slice r7_A r7_n r7_c, .func (.func 76) #[] #[.pointer (some ⟨b8, 0, none⟩)], undef, undef, undef, undef, undef, undef, undef, undef, undef, undef, undef, undef], [lmark D15]⟩) .ret kR15 (by kernel_rfl) hs 2 rfl fun w hs => ?_
     try dsimp only [List.set] at hs
     refine xret (inBlock_r (then_r ?_))
     have q0 := of_some h
     subst q0
     obtain ⟨q0, qr0⟩ := Prod.mk.inj (of_some hk0)
     have q1 := qr0
     subst q0
     subst q1
     refine qq _ _ ?_
     refine leaves_mark hs 3 rfl fun w hs => ?_
     try dsimp only [List.set] at hs
     exact leaves_end (run_results [.cell 6 32, .cell 7 33] [.agg (enc .i32 (wr z16 z15 x28)).toArray, .int .i64 0] (by kernel_rfl) (.cons (res_cellN (n := 256) hs 11 rfl (by kernel_rfl) (by kernel_rfl) (by kernel_rfl) (by exact enc_len _ _)) (.cons (res_cell1 hs 10 rfl (by kernel_rfl) (by kernel_rfl) rfl) .nil))) ⟨congrArg Ending.returned (by kernel_rfl), hs.none⟩
    refine wpS.tk 1 false (some 27) (.bool false) (yld_b (ef hc) (fun _ => by kernel_rfl)) ?_
    refine wpS.fin rfl (kr63 _ _ (then_n (ks62 _ _ (wp_cond_f (by kernel_rfl) (xskip (inBlock_n ?_))))))
    refine round_n qr36 hs 2 rfl fun w hs => ?_
    try dsimp only [List.set] at hs
    refine ⟨fun _ => trivial, ?_⟩
    refine wpS.qs [(4, 28, .bool false), (5, 29, .bool false), (6, 30, .func (.yield l15) #[] #[]), (7, 31, .int .i32 x27), (8, 32, .int .i32 (ishr .i32 x27 12))] ?_
    refine wpS.onlyR 9 (op_yield (d := (some 33)) (by kernel_rfl) hs 2 rfl hok15 #[.int .i32 (ishr .i32 x27 12)] (by kernel_rfl) rfl (tm := #[.slice a0_A a0_n a0_c, .int .u8 a1, .int .u8 a2, undef, undef, undef, .pointer (some ⟨b1, 0, none⟩), .pointer (some ⟨b2, 0, none⟩), .pointer (some ⟨b3, 0, none⟩), .pointer (some ⟨b4, 0, none⟩), undef, .slice a0_A a0_n a0_c, .int .u8 a2, .int .u8 a1, .slice s5_A s5_n s5_c, .slice s6_A s6_n s6_c, .slice r7_A r7_n r7_c, .func (.func 76) #[] #[.pointer (some ⟨b8, 0, none⟩)], .int .i32 (ishr .i32 x27 12), undef, undef, undef, undef, undef, undef, undef, undef, undef, undef, undef]) (by kernel_rfl) (by kernel_rfl) fun K66 k66 => ?_)
    refine xregS [0] fun KR67 kr67 => ?_
    obtain ⟨x32, hx, h⟩ := of_bind h
    refine wpS.tk 0 false (some 10) (.int .i32 x32) (yld_int hx (fun _ => by kernel_rfl)) ?_
    refine wpS.fin rfl (kr67 _ _ (then_n (k66 _ _ 2 _ _ hs rfl fun w Qr66 hs qr66 => ?_)))
    try dsimp only [List.set] at hs
    refine xblock (xseq_k fun KS68 ks68 => (xseq_k fun KS69 ks69 => (xregS [0, 1] fun KR70 kr70 => ?_)))
    refine wpS.q 0 19 (.int .i32 x32) ?_
    rcases of_if h with ⟨hc, h⟩ | ⟨hc, h⟩
    ·refine wpS.tk 1 false (some 20) (.bool true) (yld_b (dt hc) (fun _ => by kernel_rfl)) ?_
     refine wpS.fin rfl (kr70 _ _ (then_n (ks69 _ _ (wp_cond_t (by kernel_rfl) (xexit (then_x (inBlock_hit ?_)))))))
     refine round_n qr66 hs 2 rfl fun w hs => ?_
     try dsimp only [List.set] at hs
     refine ⟨fun _ => trivial, ?_⟩
     refine wpS.qs [(10, 34, .bool false), (11, 35, .bool false)] ?_
     refine wpS.fin rfl (kr35 _ _ (then_n (ks34 _ _ (wp_cond_f (by kernel_rfl) (xskip (inBlock_n (then_n (ks27 _ _ (xregS [0, 1] fun KR71 kr71 => ?_)))))))))
     refine wpS.qs [(0, 36, .int .i64 (iadd .i64 z13 1)), (1, 14, .int .i64 (iadd .i64 z13 1))] ?_
     refine wpS.fin rfl (kr71 _ _ ?_)
     exact then_n (kl0 _ _ ⟨n, Nat.lt_succ_self n, (iadd .i64 z13 1), r24_0, r24_1, r24_2, r24_3, x31, (wr z16 z15 x28), z17, z18, h, (hs.drop (.cons _ (.cons_cons _ (.cons_cons _ (.cons_cons _ (.cons_cons _ (.cons_cons _ (.cons_cons _ (.cons_cons _ (.cons_cons _ (.cons_cons _ (.cons_cons _ (.cons_cons _ .slnil))))))))))))), exg (by kernel_rfl)⟩)
    refine wpS.tk 1 false (some 20) (.bool false) (yld_b (df hc) (fun _ => by kernel_rfl)) ?_
    refine wpS.fin rfl (kr70 _ _ (then_n (ks69 _ _ (wp_cond_f (by kernel_rfl) (xskip (then_n (ks68 _ _ (xseq_k fun KS72 ks72 => (xregS [0, 1, 2, 3] fun KR73 kr73 => ?_)))))))))
    refine wpS.tk 0 true (some 21) (.int .i64 x31) (yld_load1 (e := 3) (o := 0) hs 8 rfl (by kernel_rfl) (by kernel_rfl) (by rfl) .grow) ?_
    refine wpS.q 1 22 (.int .i32 x32) ?_
    obtain ⟨i0_74, h⟩ := of_chk h
    obtain ⟨i1_74, h⟩ := of_chk h
    refine wpS.tk 2 false (some 23) (.pointer (some ⟨b3, 0 + (x31 : Int).toNat * 1, none⟩)) (yld_idx (t := 32) (e := 21) (n := 256) (sz := 1) (k := .i64) (x := x31) (by kernel_rfl) (by kernel_rfl) (by kernel_rfl) i0_74 i1_74) ?_
    refine wpS.only 3 (op_storeA (t := 21) (x := x31) (v := x32) (d := none) (by kernel_rfl) hs 9 rfl (by kernel_rfl) (by kernel_rfl) i0_74 i1_74 ?_)
    intro w kp hs
    refine ⟨fun _ => trivial, ?_⟩
    refine wpS.fin rfl (kr73 _ _ (then_n (ks72 _ _ (xseq_k fun KS75 ks75 => (xregS [0, 1, 2] fun KR76 kr76 => ?_)))))
    refine wpS.tk 0 true (some 24) (.int .i64 x31) (yld_load1 (e := 3) (o := 0) hs 8 rfl (by kernel_rfl) (by kernel_rfl) (by rfl) .grow) ?_
    refine wpS.q 1 25 (.int .i64 (iadd .i64 x31 1)) ?_
    obtain ⟨x33, hx, h⟩ := of_bind h
    refine wpS.only 2 (op_store1 (t := 3) (o := 0) (v := .int .i64 x33) (d := none) (by kernel_rfl) hs 8 rfl (by cases hx; kernel_rfl) rfl (by kernel_rfl) (by simp) ?_)
    intro w kp hs
    refine ⟨fun _ => trivial, ?_⟩
    refine wpS.fin rfl (kr76 _ _ (then_n (ks75 _ _ (xseq_k fun KS77 ks77 => (xregS [0, 1] fun KR78 kr78 => ?_)))))
    refine wpS.tk 0 true (some 26) (.int .i64 x33) (yld_load1 (e := 3) (o := 0) hs 8 rfl (by kernel_rfl) (by kernel_rfl) (by rfl) .grow) ?_
    rcases of_if h with ⟨hc, h⟩ | ⟨hc, h⟩
    ·refine wpS.tk 1 false (some 27) (.bool true) (yld_b (et hc) (fun _ => by kernel_rfl)) ?_
     refine wpS.fin rfl (kr78 _ _ (then_n (ks77 _ _ (wp_cond_t (by kernel_rfl) (xseq_k fun KS79 ks79 => (xregS [0, 1, 2] fun KR80 kr80 => ?_))))))
     refine wpS.tk 0 true (some 28) (.agg (enc .i32 (wr (wr z16 z15 x28) x31 x32)).toArray) (yld_loadW (e := 32) (n := 256) hs 9 rfl (by kernel_rfl) (by kernel_rfl) (by kernel_rfl) (by exact enc_len _ _) .grow) ?_
     refine wpS.only 1 (op_storeW (t := 32) (v := .agg (enc .i32 (wr (wr z16 z15 x28) x31 x32)).toArray) (d := none) (by kernel_rfl) hs 11 rfl (vs := enc .i32 (wr (wr z16 z15 x28) x31 x32)) (n := 256) (by kernel_rfl) (by kernel_rfl) (by kernel_rfl) (by simp [enc_len]) (by simp [enc_len]) (by intro u hu; exact enc_one _ _ u hu) ?_)
     intro w kp hs
     refine ⟨fun _ => trivial, ?_⟩
     refine wpS.only 2 (op_store1 (t := 33) (o := 0) (v := .int .i64 0) (d := none) (by kernel_rfl) hs 10 rfl (by kernel_rfl) rfl (by kernel_rfl) (by simp) ?_)
     intro w kp hs
     refine ⟨fun _ => trivial, ?_⟩
     refine wpS.fin rfl (kr80 _ _ (then_n (ks79 _ _ (xret (inBlock_r ?_)))))
     refine round_r qr66 hs 2 rfl fun w hs => ?_
     try dsimp only [List.set] at hs
     refine ⟨fun _ => trivial, ?_⟩
     refine wpS.qs [(10, 34, .bool true), (11, 35, .bool true)] ?_
     refine wpS.fin rfl (kr35 _ _ (then_n (ks34 _ _ (wp_cond_t (by kernel_rfl) (xret (inBlock_r (then_r (then_r (inBlock_r (exq_r ?_))))))))))
     refine qq15 _ _ (post_ret (by kernel_rfl) (run_results [] [] (by kernel_rfl) .nil) ?_)
     refine range_j (a1 := ⟨#[.slice a0_A a0_n a0_c, .int .u8 a1, .int .u8 a2, undef, undef, undef, .pointer (some ⟨b1, 0, none⟩), .pointer (some ⟨b2, 0, none⟩), .pointer (some ⟨b3, 0, none⟩), .pointer (some ⟨b4, 0, none⟩), undef, .slice a0_A a0_n a0_c, .int .u8 a2, .int .u8 a1, .slice s5_A s5_n s5_c, .slice s6_A s6_n s6_c, .slice r7_A r7_n r7_c, .func (.func 76) #[] #[.pointer (some ⟨b8, 0, none⟩)], undef, undef, undef, undef, undef, undef, undef, undef, undef, undef, undef, undef], [lmark D15]⟩) .ret kR15 (by kernel_rfl) hs 2 rfl fun w hs => ?_
     try dsimp only [List.set] at hs
     refine xret (inBlock_r (then_r ?_))
     have q0 := of_some h
     subst q0
     obtain ⟨q0, qr0⟩ := Prod.mk.inj (of_some hk0)
     have q1 := qr0
     subst q0
     subst q1
     refine qq _ _ ?_
     refine leaves_mark hs 3 rfl fun w hs => ?_
     try dsimp only [List.set] at hs
     exact leaves_end (run_results [.cell 6 32, .cell 7 33] [.agg (enc .i32 (wr (wr z16 z15 x28) x31 x32)).toArray, .int .i64 0] (by kernel_rfl) (.cons (res_cellN (n := 256) hs 11 rfl (by kernel_rfl) (by kernel_rfl) (by kernel_rfl) (by exact enc_len _ _)) (.cons (res_cell1 hs 10 rfl (by kernel_rfl) (by kernel_rfl) rfl) .nil))) ⟨congrArg Ending.returned (by kernel_rfl), hs.none⟩
    refine wpS.tk 1 false (some 27) (.bool false) (yld_b (ef hc) (fun _ => by kernel_rfl)) ?_
    refine wpS.fin rfl (kr78 _ _ (then_n (ks77 _ _ (wp_cond_f (by kernel_rfl) (xskip (inBlock_n ?_))))))
    refine round_n qr66 hs 2 rfl fun w hs => ?_
    try dsimp only [List.set] at hs
    refine ⟨fun _ => trivial, ?_⟩
    refine wpS.qs [(10, 34, .bool false), (11, 35, .bool false)] ?_
    refine wpS.fin rfl (kr35 _ _ (then_n (ks34 _ _ (wp_cond_f (by kernel_rfl) (xskip (inBlock_n (then_n (ks27 _ _ (xregS [0, 1] fun KR81 kr81 => ?_)))))))))
    refine wpS.qs [(0, 36, .int .i64 (iadd .i64 z13 1)), (1, 14, .int .i64 (iadd .i64 z13 1))] ?_
    refine wpS.fin rfl (kr81 _ _ ?_)
    exact then_n (kl0 _ _ ⟨n, Nat.lt_succ_self n, (iadd .i64 z13 1), r24_0, r24_1, r24_2, r24_3, x33, (wr (wr z16 z15 x28) x31 x32), z17, z18, h, (hs.drop (.cons _ (.cons_cons _ (.cons_cons _ (.cons_cons _ (.cons_cons _ (.cons_cons _ (.cons_cons _ (.cons_cons _ (.cons_cons _ (.cons_cons _ (.cons_cons _ (.cons_cons _ .slnil))))))))))))), exg (by kernel_rfl)⟩)
   refine wpS.tk 0 false (some 15) (.bool false) (yld_b (df hc) (fun _ => by kernel_rfl)) ?_
   refine wpS.fin rfl (kr25 _ _ (then_n (ks24 _ _ (xseq_k fun KS82 ks82 => (wp_cond_f (by kernel_rfl) (xexit (then_x (then_x (inBlock_hit ?_)))))))))
   have q0 := of_some h
   subst q0
   exact exq_n (nn0 _ _ ⟨z14_0, z14_1, z14_2, z14_3, z15, z16, z17, z18, rfl, (hs.conv rfl), exg (by kernel_rfl)⟩)
 clear hs h hy
 rintro a w ⟨y19_0, y19_1, y19_2, y19_3, y20, y21, y22, y23, rfl, hs, g23, rfl⟩
 have h := hk0
 refine qn15 _ _ (post_nrm (by kernel_rfl) (run_results [] [] (by kernel_rfl) .nil) ?_)
 refine range_n (a1 := ⟨#[.slice a0_A a0_n a0_c, .int .u8 a1, .int .u8 a2, undef, undef, undef, .pointer (some ⟨b1, 0, none⟩), .pointer (some ⟨b2, 0, none⟩), .pointer (some ⟨b3, 0, none⟩), .pointer (some ⟨b4, 0, none⟩), undef, .slice a0_A a0_n a0_c, .int .u8 a2, .int .u8 a1, .slice s5_A s5_n s5_c, .slice s6_A s6_n s6_c, .slice r7_A r7_n r7_c, .func (.func 76) #[] #[.pointer (some ⟨b8, 0, none⟩)], undef, undef, undef, undef, undef, undef, undef, undef, undef, undef, undef, undef], [lmark D15]⟩) kR15 (by kernel_rfl) hs 1 rfl fun w hs => ?_
 try dsimp only [List.set] at hs
 refine inBlock_n (then_n (ks7 _ _ (xseq_k fun KS83 ks83 => (xregS [0, 1, 2] fun KR84 kr84 => ?_))))
 refine wpS.q 0 29 (.agg (enc .i32 (zeroA 256)).toArray) ?_
 refine wpS.only 1 (op_storeW (t := 32) (v := .agg (enc .i32 (zeroA 256)).toArray) (d := none) (by kernel_rfl) hs 10 rfl (vs := enc .i32 (zeroA 256)) (n := 256) (by kernel_rfl) (by kernel_rfl) (by kernel_rfl) (by simp [enc_len]) (by simp [enc_len]) (by intro u hu; exact enc_one _ _ u hu) ?_)
 intro w kp hs
 refine ⟨fun _ => trivial, ?_⟩
 refine wpS.only 2 (op_store1 (t := 33) (o := 0) (v := .int .i64 12) (d := none) (by kernel_rfl) hs 9 rfl (by kernel_rfl) rfl (by kernel_rfl) (by simp) ?_)
 intro w kp hs
 refine ⟨fun _ => trivial, ?_⟩
 refine wpS.fin rfl (kr84 _ _ (then_n (ks83 _ _ (xret ?_))))
 obtain ⟨q0, qr0⟩ := Prod.mk.inj (of_some h)
 have q1 := qr0
 subst q0
 subst q1
 refine qq _ _ ?_
 refine leaves_mark hs 2 rfl fun w hs => ?_
 try dsimp only [List.set] at hs
 exact leaves_end (run_results [.cell 6 32, .cell 7 33] [.agg (enc .i32 (zeroA 256)).toArray, .int .i64 12] (by kernel_rfl) (.cons (res_cellN (n := 256) hs 10 rfl (by kernel_rfl) (by kernel_rfl) (by kernel_rfl) (by exact enc_len _ _)) (.cons (res_cell1 hs 9 rfl (by kernel_rfl) (by kernel_rfl) rfl) .nil))) ⟨congrArg Ending.returned (by kernel_rfl), hs.none⟩

theorem kpke_noises.ok {K : Nat} {a0 : Int} {a1 : Int} {a2 : List Int} {a3 : Int} {r0 : List (Arr 256)} {a2_A : Option Addr} {a2_n : Nat} {a2_c : Nat} (h : kpke_noises.f K a0 a1 a2 a3 = some r0) (w0 : World) (hp2 : RowL (CI .u8) w0 a2_A a2_n a2_c a2) (hg0 : RowL (CA .u64 24 (by decide)) w0 (some ⟨0, 0, none⟩) 1 1 [tab_0]) (hg1 : RowL (CA .i64 24 (by decide)) w0 (some ⟨1, 0, none⟩) 1 1 [tab_1]) (hg2 : RowL (CA .i64 24 (by decide)) w0 (some ⟨2, 0, none⟩) 1 1 [tab_2]) : Calls Tryd.prog 44 #[.int .i64 a0, .int .i64 a1, .slice a2_A a2_n a2_c, .int .i64 a3] w0 fun e w' => ∃ h : (Option Addr × Nat × Nat), e = .returned (.slice h.1 h.2.1 h.2.2) ∧ St w0 [] [.ownL (CA .i32 256 (by decide)) h.1 h.2.1 h.2.2 r0 32] [] w' := by
 refine calls_k Tryd.func44 rfl fun Q qq => ?_
 have hs := St.startR (all_cons (RowP.ent hp2) (all_cons (RowP.ent hg0) (all_cons (RowP.ent hg1) (all_cons (RowP.ent hg2) all_nil))))
 refine wp_conv (a' := ⟨#[.int .i64 a0, .int .i64 a1, .slice a2_A a2_n a2_c, .int .i64 a3, undef, undef, undef, undef, undef, undef, undef, undef, undef, undef, undef, undef, undef, undef, undef, undef, undef, undef, undef, undef, undef, undef, undef, undef, undef, undef], []⟩) (by kernel_rfl) ?_
 refine xseq_k fun KS1 ks1 => ?_
 refine xregS [0] fun KR2 kr2 => ?_
 refine wpS.q 0 8 (.slice none 0 0) ?_
 refine wpS.fin rfl (kr2 _ _ (then_n (ks1 _ _ (xseq_k fun KS3 ks3 => (xregS [0, 1, 2] fun KR4 kr4 => ?_)))))
 refine wpS.q 0 11 (.int .i64 a0) ?_
 obtain ⟨h0, h⟩ := of_chk h
 obtain ⟨h1, h⟩ := of_chk h
 refine wpS.only 1 (op_makeT (C := (CA .i32 256 (by decide))) (t := 78) (e := 32) (bytes := 1024) (B := 137438953472) (kl := .i64) (kc := .i64) (x := a0) (d := (some 12)) (by kernel_rfl) hs (by kernel_rfl) (by kernel_rfl) (by kernel_rfl) (by kernel_rfl) (by kernel_rfl) h0 h1 (by decide) (by decide) ?_)
 intro s1_A s1_n s1_c w gw hs
 refine ⟨fun _ => trivial, ?_⟩
 refine wpS.q 2 9 (.slice s1_A s1_n s1_c) ?_
 refine wpS.fin rfl (kr4 _ _ (then_n (ks3 _ _ (xseq_k fun KS5 ks5 => (xseq_k fun KS6 ks6 => (xregS [0, 1, 2] fun KR7 kr7 => ?_))))))
 refine wpS.q 0 13 (.slice s1_A s1_n s1_c) ?_
 refine wpS.tk 1 false (some 14) (.int .i64 ((List.replicate (a0 : Int).toNat (Cod.zero (CA .i32 256 (by decide)))).length : Int)) (yld_lenL (hs.rowL 0 rfl) (fun _ => by kernel_rfl)) ?_
 refine wpS.q 2 15 (.int .i64 0) ?_
 refine wpS.fin rfl (kr7 _ _ (then_n (ks6 _ _ ?_)))
 obtain ⟨y4, hy, hk0⟩ := of_bind h
 refine wp_exq (N := fun a w => St w0 [] [.ownL (CA .i32 256 (by decide)) s1_A s1_n s1_c y4 32] [.rowL (CI .u8) a2_A a2_n a2_c a2, .rowL (CA .u64 24 (by decide)) (some ⟨0, 0, none⟩) 1 1 ([tab_0]), .rowL (CA .i64 24 (by decide)) (some ⟨1, 0, none⟩) 1 1 ([tab_1]), .rowL (CA .i64 24 (by decide)) (some ⟨2, 0, none⟩) 1 1 ([tab_2])] w ∧ ∃ g9 : Nat → Value, a = ⟨#[.int .i64 a0, .int .i64 a1, .slice a2_A a2_n a2_c, .int .i64 a3, undef, undef, undef, undef, .slice none 0 0, .slice s1_A s1_n s1_c, (g9 10), .int .i64 a0, .slice s1_A s1_n s1_c, .slice s1_A s1_n s1_c, .int .i64 ((List.replicate (a0 : Int).toNat (Cod.zero (CA .i32 256 (by decide)))).length : Int), (g9 15), (g9 16), (g9 17), (g9 18), (g9 19), (g9 20), (g9 21), (g9 22), (g9 23), (g9 24), (g9 25), (g9 26), (g9 27), (g9 28), undef], []⟩) (fun N0 nn0 => ?_) ?_
 ·clear hk0
  refine xblock ?_
  refine wp_loop_k (fun n a w => ∃ z2 z3, kpke_noises.l0 K n a0 a1 a2 a3 z2 z3 = some y4 ∧ St w0 [] [.ownL (CA .i32 256 (by decide)) s1_A s1_n s1_c z3 32] [.rowL (CI .u8) a2_A a2_n a2_c a2, .rowL (CA .u64 24 (by decide)) (some ⟨0, 0, none⟩) 1 1 ([tab_0]), .rowL (CA .i64 24 (by decide)) (some ⟨1, 0, none⟩) 1 1 ([tab_1]), .rowL (CA .i64 24 (by decide)) (some ⟨2, 0, none⟩) 1 1 ([tab_2])] w ∧ ∃ g8 : Nat → Value, a = ⟨#[.int .i64 a0, .int .i64 a1, .slice a2_A a2_n a2_c, .int .i64 a3, undef, undef, undef, undef, .slice none 0 0, .slice s1_A s1_n s1_c, (g8 10), .int .i64 a0, .slice s1_A s1_n s1_c, .slice s1_A s1_n s1_c, .int .i64 ((List.replicate (a0 : Int).toNat (Cod.zero (CA .i32 256 (by decide)))).length : Int), .int .i64 z2, (g8 16), (g8 17), (g8 18), (g8 19), (g8 20), (g8 21), (g8 22), (g8 23), (g8 24), (g8 25), (g8 26), (g8 27), (g8 28), undef], []⟩) K ⟨0, (List.replicate (a0 : Int).toNat (Cod.zero (CA .i32 256 (by decide)))), hy, hs.conv rfl, exg (by kernel_rfl)⟩ ?_
  clear hs h hy
  rintro n a w ⟨z2, z3, h, hs, g8, rfl⟩ KL0 kl0
  cases n with
  | zero => exact nomatch (show none = some _ from h)
  | succ n =>
   refine xseq_k fun KS10 ks10 => ?_
   refine xregS [0] fun KR11 kr11 => ?_
   rcases of_if h with ⟨hc, h⟩ | ⟨hc, h⟩
   ·refine wpS.tk 0 false (some 16) (.bool true) (yld_b (dt hc) (fun _ => by kernel_rfl)) ?_
    refine wpS.fin rfl (kr11 _ _ (then_n (ks10 _ _ (xseq_k fun KS12 ks12 => (wp_cond_t (by kernel_rfl) (xskip (then_n (ks12 _ _ (xseq_k fun KS13 ks13 => (xblock (xseq_k fun KS14 ks14 => (xregS [0, 1] fun KR15 kr15 => ?_))))))))))))
    refine wpS.qs [(0, 17, .int .i64 z2), (1, 10, .int .i64 z2)] ?_
    refine wpS.fin rfl (kr15 _ _ (then_n (ks14 _ _ (xregS [0, 1, 2, 3, 4, 5, 6, 7, 8, 9, 10] fun KR16 kr16 => ?_))))
    refine wpS.qs [(0, 18, .slice s1_A s1_n s1_c), (1, 19, .int .i64 z2), (2, 20, .int .i64 a1), (3, 21, .slice a2_A a2_n a2_c), (4, 22, .int .i64 a3), (5, 23, .int .i64 z2), (6, 24, .int .i64 (iadd .i64 a3 z2)), (7, 25, .int .u8 (iconv .u8 (iadd .i64 a3 z2)))] ?_
    obtain ⟨r5, hg, h⟩ := of_bind h
    refine wpS.only 8 (op_call (d := (some 26)) (by kernel_rfl) hs (fun _ => by kernel_rfl) (kpke_Noise.ok hg _ (hs.rowR 0 rfl) (hs.rowR 1 rfl) (hs.rowR 2 rfl) (hs.rowR 3 rfl)) ?_)
    intro w gw hs
    refine ⟨fun _ => trivial, ?_⟩
    obtain ⟨h0, h⟩ := of_chk h
    obtain ⟨h1, h⟩ := of_chk h
    have i0_17 := h0
    have i1_17 := h1
    refine wpS.tk 9 false (some 27) (.pointer (adr s1_A ((z2 : Int).toNat * Cod.size (CA .i32 256 (by decide))))) (yld_idxL (C := (CA .i32 256 (by decide))) (t := 78) (e := 32) (k := .i64) (x := z2) (hs.rowL 0 rfl) (by kernel_rfl) (by kernel_rfl) (by kernel_rfl) h0 h1) ?_
    refine wpS.only 10 (op_storeL (C := (CA .i32 256 (by decide))) (t := 32) (x := z2) (v := r5) (d := none) (by kernel_rfl) hs 0 rfl (by kernel_rfl) (by kernel_rfl) i0_17 i1_17 ?_)
    intro w hs
    refine ⟨fun _ => trivial, ?_⟩
    refine wpS.fin rfl (kr16 _ _ (inBlock_n (then_n (ks13 _ _ (xregS [0, 1] fun KR18 kr18 => ?_)))))
    refine wpS.qs [(0, 28, .int .i64 (iadd .i64 z2 1)), (1, 15, .int .i64 (iadd .i64 z2 1))] ?_
    refine wpS.fin rfl (kr18 _ _ ?_)
    exact then_n (kl0 _ _ ⟨n, Nat.lt_succ_self n, (iadd .i64 z2 1), (wrL z3 z2 r5), h, (hs.conv rfl), exg (by kernel_rfl)⟩)
   refine wpS.tk 0 false (some 16) (.bool false) (yld_b (df hc) (fun _ => by kernel_rfl)) ?_
   refine wpS.fin rfl (kr11 _ _ (then_n (ks10 _ _ (xseq_k fun KS19 ks19 => (wp_cond_f (by kernel_rfl) (xexit (then_x (then_x (inBlock_hit ?_)))))))))
   have q0 := of_some h
   subst q0
   exact exq_n (nn0 _ _ ⟨(hs.conv rfl), exg (by kernel_rfl)⟩)
 clear hs h hy
 rintro a w ⟨hs, g9, rfl⟩
 have h := hk0
 refine then_n (ks5 _ _ (xseq_k fun KS20 ks20 => (xregS [0, 1] fun KR21 kr21 => ?_)))
 refine wpS.qs [(0, 29, .slice s1_A s1_n s1_c), (1, 8, .slice s1_A s1_n s1_c)] ?_
 refine wpS.fin rfl (kr21 _ _ (then_n (ks20 _ _ (xret ?_))))
 have q0 := of_some h
 subst q0
 exact qq _ _ (post_ret (by kernel_rfl) (run_results [.tmp 8] [.slice s1_A s1_n s1_c] (by kernel_rfl) (.cons (res_tmp (by kernel_rfl)) .nil)) ⟨⟨s1_A, s1_n, s1_c⟩, congrArg Ending.returned (by kernel_rfl), (hs.pickR pick_nil)⟩)

theorem math_bits_Reverse8.ok {K : Nat} {a0 : Int} {r0 : Int} (h : math_bits_Reverse8.f K a0 = some r0) (w0 : World) : Ret Tryd.prog 110 #[.int .u8 a0] w0 (.int .u8 r0) := by
 refine calls_k Tryd.func110 rfl fun Q qq => ?_
 have hs := St.start w0
 refine wp_conv (a' := ⟨#[.int .u8 a0, undef, undef, undef, undef], []⟩) (by kernel_rfl) ?_
 refine xseq_k fun KS1 ks1 => ?_
 refine xregS [0] fun KR2 kr2 => ?_
 refine wpS.q 0 2 (.int .u8 0) ?_
 refine wpS.fin rfl (kr2 _ _ (then_n (ks1 _ _ (xseq_k fun KS3 ks3 => (xregS [0, 1, 2] fun KR4 kr4 => ?_)))))
 refine wpS.q 0 3 (.int .u8 a0) ?_
 obtain ⟨h0, h⟩ := of_chk h
 obtain ⟨h1, h⟩ := of_chk h
 refine wpS.tk 1 false (some 4) (.int .u8 (strAt [0, 128, 64, 192, 32, 160, 96, 224, 16, 144, 80, 208, 48, 176, 112, 240, 8, 136, 72, 200, 40, 168, 104, 232, 24, 152, 88, 216, 56, 184, 120, 248, 4, 132, 68, 196, 36, 164, 100, 228, 20, 148, 84, 212, 52, 180, 116, 244, 12, 140, 76, 204, 44, 172, 108, 236, 28, 156, 92, 220, 60, 188, 124, 252, 2, 130, 66, 194, 34, 162, 98, 226, 18, 146, 82, 210, 50, 178, 114, 242, 10, 138, 74, 202, 42, 170, 106, 234, 26, 154, 90, 218, 58, 186, 122, 250, 6, 134, 70, 198, 38, 166, 102, 230, 22, 150, 86, 214, 54, 182, 118, 246, 14, 142, 78, 206, 46, 174, 110, 238, 30, 158, 94, 222, 62, 190, 126, 254, 1, 129, 65, 193, 33, 161, 97, 225, 17, 145, 81, 209, 49, 177, 113, 241, 9, 137, 73, 201, 41, 169, 105, 233, 25, 153, 89, 217, 57, 185, 121, 249, 5, 133, 69, 197, 37, 165, 101, 229, 21, 149, 85, 213, 53, 181, 117, 245, 13, 141, 77, 205, 45, 173, 109, 237, 29, 157, 93, 221, 61, 189, 125, 253, 3, 131, 67, 195, 35, 163, 99, 227, 19, 147, 83, 211, 51, 179, 115, 243, 11, 139, 75, 203, 43, 171, 107, 235, 27, 155, 91, 219, 59, 187, 123, 251, 7, 135, 71, 199, 39, 167, 103, 231, 23, 151, 87, 215, 55, 183, 119, 247, 15, 143, 79, 207, 47, 175, 111, 239, 31, 159, 95, 223, 63, 191, 127, 255] a0)) (yld_str (t := 9) (k' := .u8) (by kernel_rfl) (by kernel_rfl) h0 h1) ?_
 obtain ⟨x1, hx, h⟩ := of_bind h
 refine wpS.tk 2 false (some 2) (.int .u8 x1) (yld_int hx (fun _ => by kernel_rfl)) ?_
 refine wpS.fin rfl (kr4 _ _ (then_n (ks3 _ _ (xret ?_))))
 have q0 := of_some h
 subst q0
 exact qq _ _ (post_ret (by kernel_rfl) (run_results [.tmp 2] [.int .u8 x1] (by kernel_rfl) (.cons (res_tmp (by kernel_rfl)) .nil)) ⟨congrArg Ending.returned (by kernel_rfl), hs.none⟩)

theorem kq_roots.ok {K : Nat} {r0 : Arr 128} (h : kq_roots.f K = some r0) (w0 : World) : Calls Tryd.prog 92 #[] w0 fun e w' => ∃ b, e = .returned (.pointer (some ⟨b, 0, none⟩)) ∧ St w0 [] [.blk b (enc .i32 r0) 142] [] w' := by
 refine calls_k Tryd.func92 rfl fun Q qq => ?_
 have hs := St.start w0
 refine wp_conv (a' := ⟨#[undef, undef, undef, undef, undef, undef, undef, undef, undef, undef, undef, undef, undef, undef, undef, undef, undef, undef, undef, undef, undef, undef, undef, undef, undef, undef, undef, undef, undef, undef], []⟩) (by kernel_rfl) ?_
 refine xseq_k fun KS1 ks1 => ?_
 refine xregS [0] fun KR2 kr2 => ?_
 refine wpS.q 0 0 (.pointer none) ?_
 refine wpS.fin rfl (kr2 _ _ (then_n (ks1 _ _ (xseq_k fun KS3 ks3 => (xregS [0, 1] fun KR4 kr4 => ?_)))))
 refine wpS.only 0 (op_alloc (t := 142) (d := (some 1)) (by kernel_rfl) hs (enc .i32 (zeroA 128)) (.agg (enc .i32 (zeroA 128)).toArray) (by kernel_rfl) (by kernel_rfl) (by kernel_rfl) ?_)
 intro b1 w gw hs
 refine ⟨fun _ => trivial, ?_⟩
 refine wpS.only 1 (op_alloc (t := 142) (d := (some 2)) (by kernel_rfl) hs (enc .i32 (zeroA 128)) (.agg (enc .i32 (zeroA 128)).toArray) (by kernel_rfl) (by kernel_rfl) (by kernel_rfl) ?_)
 intro b2 w gw hs
 refine ⟨fun _ => trivial, ?_⟩
 refine wpS.fin rfl (kr4 _ _ (then_n (ks3 _ _ (xseq_k fun KS5 ks5 => (xregS [0, 1] fun KR6 kr6 => ?_)))))
 refine wpS.tk 0 false (some 5) (.pointer (some ⟨b1, 0 + (0 : Int).toNat * 1, none⟩)) (yld_idx (t := 142) (e := 21) (n := 128) (sz := 1) (k := .i64) (x := 0) (by kernel_rfl) (by kernel_rfl) (by kernel_rfl) (by decide) (by decide)) ?_
 refine wpS.only 1 (op_storeA (t := 21) (x := 0) (v := 1) (d := none) (by kernel_rfl) hs 1 rfl (by kernel_rfl) (by kernel_rfl) (by decide) (by decide) ?_)
 intro w kp hs
 refine ⟨fun _ => trivial, ?_⟩
 refine wpS.fin rfl (kr6 _ _ (then_n (ks5 _ _ (xseq_k fun KS8 ks8 => (xseq_k fun KS9 ks9 => (xregS [0] fun KR10 kr10 => ?_))))))
 refine wpS.q 0 3 (.int .i64 1) ?_
 refine wpS.fin rfl (kr10 _ _ (then_n (ks9 _ _ ?_)))
 obtain ⟨y5, hy, hk0⟩ := of_bind h
 refine wp_exq (N := fun a w => St w0 [] [.blk b2 (enc .i32 (zeroA 128)) 142, .blk b1 (enc .i32 y5) 142] [] w ∧ ∃ g12 : Nat → Value, a = ⟨#[.pointer none, .pointer (some ⟨b1, 0, none⟩), .pointer (some ⟨b2, 0, none⟩), (g12 3), undef, .pointer (some ⟨b1, 0 + (0 : Int).toNat * 1, none⟩), (g12 6), (g12 7), (g12 8), (g12 9), (g12 10), (g12 11), (g12 12), (g12 13), (g12 14), (g12 15), (g12 16), (g12 17), undef, undef, undef, undef, undef, undef, undef, undef, undef, undef, undef, undef], []⟩) (fun N0 nn0 => ?_) ?_
 ·clear hk0
  refine xblock ?_
  refine wp_loop_k (fun n a w => ∃ z3 z4, kq_roots.l0 K n z3 z4 = some y5 ∧ St w0 [] [.blk b2 (enc .i32 (zeroA 128)) 142, .blk b1 (enc .i32 z4) 142] [] w ∧ ∃ g11 : Nat → Value, a = ⟨#[.pointer none, .pointer (some ⟨b1, 0, none⟩), .pointer (some ⟨b2, 0, none⟩), .int .i64 z3, undef, .pointer (some ⟨b1, 0 + (0 : Int).toNat * 1, none⟩), (g11 6), (g11 7), (g11 8), (g11 9), (g11 10), (g11 11), (g11 12), (g11 13), (g11 14), (g11 15), (g11 16), (g11 17), undef, undef, undef, undef, undef, undef, undef, undef, undef, undef, undef, undef], []⟩) K ⟨1, (wr (zeroA 128) 0 1), hy, hs.conv rfl, exg (by kernel_rfl)⟩ ?_
  clear hs h hy
  rintro n a w ⟨z3, z4, h, hs, g11, rfl⟩ KL0 kl0
  cases n with
  | zero => exact nomatch (show none = some _ from h)
  | succ n =>
   refine xseq_k fun KS13 ks13 => ?_
   refine xseq_k fun KS14 ks14 => ?_
   refine xregS [0, 1] fun KR15 kr15 => ?_
   refine wpS.q 0 6 (.int .i64 z3) ?_
   rcases of_if h with ⟨hc, h⟩ | ⟨hc, h⟩
   ·refine wpS.tk 1 false (some 7) (.bool true) (yld_b (dt hc) (fun _ => by kernel_rfl)) ?_
    refine wpS.fin rfl (kr15 _ _ (then_n (ks14 _ _ (wp_cond_t (by kernel_rfl) (xskip (then_n (ks13 _ _ (xseq_k fun KS16 ks16 => (xblock (xregS [0, 1, 2, 3, 4, 5, 6, 7, 8] fun KR17 kr17 => ?_))))))))))
    refine wpS.qs [(0, 10, .int .i64 z3), (1, 11, .int .i64 z3), (2, 12, .int .i64 (isub .i64 z3 1))] ?_
    obtain ⟨x6, hx, h⟩ := of_bind h
    have hx := of_some hx
    subst hx
    obtain ⟨i0_18, h⟩ := of_chk h
    obtain ⟨i1_18, h⟩ := of_chk h
    refine wpS.tk 3 false (some 13) (.pointer (some ⟨b1, 0 + ((isub .i64 z3 1) : Int).toNat * 1, none⟩)) (yld_idx (t := 142) (e := 21) (n := 128) (sz := 1) (k := .i64) (x := (isub .i64 z3 1)) (by kernel_rfl) (by kernel_rfl) (by kernel_rfl) i0_18 i1_18) ?_
    refine wpS.tk 4 true (some 14) (.int .i32 (rd z4 (isub .i64 z3 1))) (yld_loadA (e := 21) (x := (isub .i64 z3 1)) hs 1 rfl (by kernel_rfl) (by kernel_rfl) i0_18 i1_18 .grow) ?_
    refine wpS.qs [(5, 15, .int .i32 (imul .i32 (rd z4 (isub .i64 z3 1)) 17)), (6, 16, .int .i32 (irem .i32 (imul .i32 (rd z4 (isub .i64 z3 1)) 17) 3329))] ?_
    obtain ⟨i0_19, h⟩ := of_chk h
    obtain ⟨i1_19, h⟩ := of_chk h
    refine wpS.tk 7 false (some 17) (.pointer (some ⟨b1, 0 + (z3 : Int).toNat * 1, none⟩)) (yld_idx (t := 142) (e := 21) (n := 128) (sz := 1) (k := .i64) (x := z3) (by kernel_rfl) (by kernel_rfl) (by kernel_rfl) i0_19 i1_19) ?_
    obtain ⟨x7, hx, h⟩ := of_bind h
    refine wpS.only 8 (op_storeA (t := 21) (x := z3) (v := x7) (d := none) (by kernel_rfl) hs 1 rfl (by cases hx; kernel_rfl) (by kernel_rfl) i0_19 i1_19 ?_)
    intro w kp hs
    refine ⟨fun _ => trivial, ?_⟩
    refine wpS.fin rfl (kr17 _ _ (inBlock_n (then_n (ks16 _ _ (xregS [0, 1, 2] fun KR20 kr20 => ?_)))))
    refine wpS.qs [(0, 8, .int .i64 z3), (1, 9, .int .i64 (iadd .i64 z3 1))] ?_
    obtain ⟨x8, hx, h⟩ := of_bind h
    refine wpS.tk 2 false (some 3) (.int .i64 x8) (yld_int hx (fun _ => by kernel_rfl)) ?_
    refine wpS.fin rfl (kr20 _ _ ?_)
    exact then_n (kl0 _ _ ⟨n, Nat.lt_succ_self n, x8, (wr z4 z3 x7), h, (hs.conv rfl), exg (by kernel_rfl)⟩)
   refine wpS.tk 1 false (some 7) (.bool false) (yld_b (df hc) (fun _ => by kernel_rfl)) ?_
   refine wpS.fin rfl (kr15 _ _ (then_n (ks14 _ _ (wp_cond_f (by kernel_rfl) (xexit (then_x (then_x (inBlock_hit ?_))))))))
   have q0 := of_some h
   subst q0
   exact exq_n (nn0 _ _ ⟨(hs.conv rfl), exg (by kernel_rfl)⟩)
 clear hs h hy
 rintro a w ⟨hs, g12, rfl⟩
 have h := hk0
 refine then_n (ks8 _ _ (xseq_k fun KS21 ks21 => (xseq_k fun KS22 ks22 => (xregS [0] fun KR23 kr23 => ?_))))
 refine wpS.q 0 18 (.int .i64 0) ?_
 refine wpS.fin rfl (kr23 _ _ (then_n (ks22 _ _ ?_)))
 obtain ⟨y11, hy, hk1⟩ := of_bind h
 refine wp_exq (N := fun a w => St w0 [] [.blk b2 (enc .i32 y11) 142, .blk b1 (enc .i32 y5) 142] [] w ∧ ∃ g25 : Nat → Value, a = ⟨#[.pointer none, .pointer (some ⟨b1, 0, none⟩), .pointer (some ⟨b2, 0, none⟩), (g12 3), (g25 4), .pointer (some ⟨b1, 0 + (0 : Int).toNat * 1, none⟩), (g12 6), (g12 7), (g12 8), (g12 9), (g12 10), (g12 11), (g12 12), (g12 13), (g12 14), (g12 15), (g12 16), (g12 17), (g25 18), (g25 19), (g25 20), (g25 21), (g25 22), (g25 23), (g25 24), (g25 25), (g25 26), (g25 27), (g25 28), (g25 29)], []⟩) (fun N1 nn1 => ?_) ?_
 ·clear hk1
  refine xblock ?_
  refine wp_loop_k (fun n a w => ∃ z9 z10, kq_roots.l1 K n y5 z9 z10 = some y11 ∧ St w0 [] [.blk b2 (enc .i32 z10) 142, .blk b1 (enc .i32 y5) 142] [] w ∧ ∃ g24 : Nat → Value, a = ⟨#[.pointer none, .pointer (some ⟨b1, 0, none⟩), .pointer (some ⟨b2, 0, none⟩), (g12 3), (g24 4), .pointer (some ⟨b1, 0 + (0 : Int).toNat * 1, none⟩), (g12 6), (g12 7), (g12 8), (g12 9), (g12 10), (g12 11), (g12 12), (g12 13), (g12 14), (g12 15), (g12 16), (g12 17), .int .i64 z9, (g24 19), (g24 20), (g24 21), (g24 22), (g24 23), (g24 24), (g24 25), (g24 26), (g24 27), (g24 28), (g24 29)], []⟩) K ⟨0, (zeroA 128), hy, hs.conv rfl, exg (by kernel_rfl)⟩ ?_
  clear hs h hy
  rintro n a w ⟨z9, z10, h, hs, g24, rfl⟩ KL1 kl1
  cases n with
  | zero => exact nomatch (show none = some _ from h)
  | succ n =>
   refine xseq_k fun KS26 ks26 => ?_
   refine xregS [0] fun KR27 kr27 => ?_
   rcases of_if h with ⟨hc, h⟩ | ⟨hc, h⟩
   ·refine wpS.tk 0 false (some 19) (.bool true) (yld_b (dt hc) (fun _ => by kernel_rfl)) ?_
    refine wpS.fin rfl (kr27 _ _ (then_n (ks26 _ _ (xseq_k fun KS28 ks28 => (wp_cond_t (by kernel_rfl) (xskip (then_n (ks28 _ _ (xseq_k fun KS29 ks29 => (xblock (xseq_k fun KS30 ks30 => (xregS [0, 1] fun KR31 kr31 => ?_))))))))))))
    refine wpS.qs [(0, 20, .int .i64 z9), (1, 4, .int .i64 z9)] ?_
    refine wpS.fin rfl (kr31 _ _ (then_n (ks30 _ _ (xregS [0, 1, 2, 3, 4, 5, 6, 7, 8] fun KR32 kr32 => ?_))))
    refine wpS.qs [(0, 21, .int .i64 z9), (1, 22, .int .i64 z9), (2, 23, .int .u8 (iconv .u8 z9))] ?_
    obtain ⟨r12, hg, h⟩ := of_bind h
    refine wpS.only 3 (op_call (d := (some 24)) (by kernel_rfl) hs (fun _ => by kernel_rfl) (math_bits_Reverse8.ok hg _) ?_)
    intro w gw hs
    refine ⟨fun _ => trivial, ?_⟩
    refine wpS.q 4 25 (.int .u8 (ishr .u8 r12 1)) ?_
    obtain ⟨x13, hx, h⟩ := of_bind h
    have hx := of_some hx
    subst hx
    obtain ⟨i0_33, h⟩ := of_chk h
    obtain ⟨i1_33, h⟩ := of_chk h
    refine wpS.tk 5 false (some 26) (.pointer (some ⟨b1, 0 + ((ishr .u8 r12 1) : Int).toNat * 1, none⟩)) (yld_idx (t := 142) (e := 21) (n := 128) (sz := 1) (k := .u8) (x := (ishr .u8 r12 1)) (by kernel_rfl) (by kernel_rfl) (by kernel_rfl) i0_33 i1_33) ?_
    refine wpS.tk 6 true (some 27) (.int .i32 (rd y5 (ishr .u8 r12 1))) (yld_loadA (e := 21) (x := (ishr .u8 r12 1)) hs 1 rfl (by kernel_rfl) (by kernel_rfl) i0_33 i1_33 .grow) ?_
    obtain ⟨i0_34, h⟩ := of_chk h
    obtain ⟨i1_34, h⟩ := of_chk h
    refine wpS.tk 7 false (some 28) (.pointer (some ⟨b2, 0 + (z9 : Int).toNat * 1, none⟩)) (yld_idx (t := 142) (e := 21) (n := 128) (sz := 1) (k := .i64) (x := z9) (by kernel_rfl) (by kernel_rfl) (by kernel_rfl) i0_34 i1_34) ?_
    obtain ⟨x14, hx, h⟩ := of_bind h
    refine wpS.only 8 (op_storeA (t := 21) (x := z9) (v := x14) (d := none) (by kernel_rfl) hs 0 rfl (by cases hx; kernel_rfl) (by kernel_rfl) i0_34 i1_34 ?_)
    intro w kp hs
    refine ⟨fun _ => trivial, ?_⟩
    refine wpS.fin rfl (kr32 _ _ (inBlock_n (then_n (ks29 _ _ (xregS [0, 1] fun KR35 kr35 => ?_)))))
    refine wpS.qs [(0, 29, .int .i64 (iadd .i64 z9 1)), (1, 18, .int .i64 (iadd .i64 z9 1))] ?_
    refine wpS.fin rfl (kr35 _ _ ?_)
    exact then_n (kl1 _ _ ⟨n, Nat.lt_succ_self n, (iadd .i64 z9 1), (wr z10 z9 x14), h, (hs.conv rfl), exg (by kernel_rfl)⟩)
   refine wpS.tk 0 false (some 19) (.bool false) (yld_b (df hc) (fun _ => by kernel_rfl)) ?_
   refine wpS.fin rfl (kr27 _ _ (then_n (ks26 _ _ (xseq_k fun KS36 ks36 => (wp_cond_f (by kernel_rfl) (xexit (then_x (then_x (inBlock_hit ?_)))))))))
   have q0 := of_some h
   subst q0
   exact exq_n (nn1 _ _ ⟨(hs.conv rfl), exg (by kernel_rfl)⟩)
 clear hs h hy
 rintro a w ⟨hs, g25, rfl⟩
 have h := hk1
 refine then_n (ks21 _ _ (xseq_k fun KS37 ks37 => (xregS [0] fun KR38 kr38 => ?_)))
 refine wpS.q 0 0 (.pointer (some ⟨b2, 0, none⟩)) ?_
 refine wpS.fin rfl (kr38 _ _ (then_n (ks37 _ _ (xret ?_))))
 have q0 := of_some h
 subst q0
 exact qq _ _ (post_ret (by kernel_rfl) (run_results [.tmp 0] [.pointer (some ⟨b2, 0, none⟩)] (by kernel_rfl) (.cons (res_tmp (by kernel_rfl)) .nil)) ⟨_, congrArg Ending.returned (by kernel_rfl), (hs.drop (.cons_cons _ (.cons _ .slnil)))⟩)

theorem kq_Ntt.ok {K : Nat} {a0 : Arr 256} {r0 : Arr 256} (h : kq_Ntt.f K a0 = some r0) (w0 : World) : Ret Tryd.prog 87 #[.agg (enc .i32 a0).toArray] w0 (.agg (enc .i32 r0).toArray) := by
 refine calls_k Tryd.func87 rfl fun Q qq => ?_
 have hs := St.start w0
 refine wp_conv (a' := ⟨#[.agg (enc .i32 a0).toArray, undef, undef, undef, undef, undef, undef, undef, undef, undef, undef, undef, undef, undef, undef, undef, undef, undef, undef, undef, undef, undef, undef, undef, undef, undef, undef, undef, undef, undef, undef, undef, undef, undef, undef, undef, undef, undef, undef, undef, undef, undef, undef, undef, undef, undef, undef, undef, undef, undef, undef, undef, undef, undef, undef, undef, undef, undef, undef, undef, undef, undef], []⟩) (by kernel_rfl) ?_
 refine xseq_k fun KS1 ks1 => ?_
 refine xregS [0, 1] fun KR2 kr2 => ?_
 refine wpS.only 0 (op_box (t := 32) (v := .agg (enc .i32 a0).toArray) (d := (some 1)) (by kernel_rfl) hs (enc .i32 a0) (by kernel_rfl) (by kernel_rfl) ?_)
 intro b1 w gw hs
 refine ⟨fun _ => trivial, ?_⟩
 refine wpS.only 1 (op_alloc (t := 32) (d := (some 2)) (by kernel_rfl) hs (enc .i32 (zeroA 256)) (.agg (enc .i32 (zeroA 256)).toArray) (by kernel_rfl) (by kernel_rfl) (by kernel_rfl) ?_)
 intro b2 w gw hs
 refine ⟨fun _ => trivial, ?_⟩
 refine wpS.fin rfl (kr2 _ _ (then_n (ks1 _ _ (xseq_k fun KS3 ks3 => (xregS [0, 1] fun KR4 kr4 => ?_)))))
 obtain ⟨r3, hg, h⟩ := of_bind h
 refine wpS.only 0 (op_callB (d := (some 9)) (by kernel_rfl) hs (fun _ => by kernel_rfl) (kq_roots.ok hg _) ?_)
 intro b4 w gw hs
 refine ⟨fun _ => trivial, ?_⟩
 refine wpS.q 1 3 (.pointer (some ⟨b4, 0, none⟩)) ?_
 refine wpS.fin rfl (kr4 _ _ (then_n (ks3 _ _ (xseq_k fun KS5 ks5 => (xregS [0] fun KR6 kr6 => ?_)))))
 refine wpS.q 0 4 (.int .i64 0) ?_
 refine wpS.fin rfl (kr6 _ _ (then_n (ks5 _ _ (xseq_k fun KS7 ks7 => (xseq_k fun KS8 ks8 => (xregS [0] fun KR9 kr9 => ?_))))))
 refine wpS.q 0 5 (.int .i64 128) ?_
 refine wpS.fin rfl (kr9 _ _ (then_n (ks8 _ _ ?_)))
 obtain ⟨y8, hy, hk0⟩ := of_bind h
 refine wp_exq (N := fun a w => St w0 [] [.blk b4 (enc .i32 r3) 142, .blk b2 (enc .i32 (zeroA 256)) 32, .blk b1 (enc .i32 y8) 32] [] w ∧ ∃ g11 : Nat → Value, a = ⟨#[.agg (enc .i32 a0).toArray, .pointer (some ⟨b1, 0, none⟩), .pointer (some ⟨b2, 0, none⟩), .pointer (some ⟨b4, 0, none⟩), (g11 4), (g11 5), (g11 6), (g11 7), (g11 8), .pointer (some ⟨b4, 0, none⟩), (g11 10), (g11 11), (g11 12), (g11 13), (g11 14), (g11 15), (g11 16), (g11 17), (g11 18), (g11 19), (g11 20), (g11 21), (g11 22), (g11 23), (g11 24), (g11 25), (g11 26), (g11 27), (g11 28), (g11 29), (g11 30), (g11 31), (g11 32), (g11 33), (g11 34), (g11 35), (g11 36), (g11 37), (g11 38), (g11 39), (g11 40), (g11 41), (g11 42), (g11 43), (g11 44), (g11 45), (g11 46), (g11 47), (g11 48), (g11 49), (g11 50), (g11 51), (g11 52), (g11 53), (g11 54), (g11 55), (g11 56), (g11 57), (g11 58), (g11 59), (g11 60), undef], []⟩) (fun N0 nn0 => ?_) ?_
 ·clear hk0
  refine xblock ?_
  refine wp_loop_k (fun n a w => ∃ z5 z6 z7, kq_Ntt.l0 K n r3 z5 z6 z7 = some y8 ∧ St w0 [] [.blk b4 (enc .i32 r3) 142, .blk b2 (enc .i32 (zeroA 256)) 32, .blk b1 (enc .i32 z7) 32] [] w ∧ ∃ g10 : Nat → Value, a = ⟨#[.agg (enc .i32 a0).toArray, .pointer (some ⟨b1, 0, none⟩), .pointer (some ⟨b2, 0, none⟩), .pointer (some ⟨b4, 0, none⟩), .int .i64 z5, .int .i64 z6, (g10 6), (g10 7), (g10 8), .pointer (some ⟨b4, 0, none⟩), (g10 10), (g10 11), (g10 12), (g10 13), (g10 14), (g10 15), (g10 16), (g10 17), (g10 18), (g10 19), (g10 20), (g10 21), (g10 22), (g10 23), (g10 24), (g10 25), (g10 26), (g10 27), (g10 28), (g10 29), (g10 30), (g10 31), (g10 32), (g10 33), (g10 34), (g10 35), (g10 36), (g10 37), (g10 38), (g10 39), (g10 40), (g10 41), (g10 42), (g10 43), (g10 44), (g10 45), (g10 46), (g10 47), (g10 48), (g10 49), (g10 50), (g10 51), (g10 52), (g10 53), (g10 54), (g10 55), (g10 56), (g10 57), (g10 58), (g10 59), (g10 60), undef], []⟩) K ⟨0, 128, a0, hy, hs.conv rfl, exg (by kernel_rfl)⟩ ?_
  clear hs h hy
  rintro n a w ⟨z5, z6, z7, h, hs, g10, rfl⟩ KL0 kl0
  cases n with
  | zero => exact nomatch (show none = some _ from h)
  | succ n =>
   refine xseq_k fun KS12 ks12 => ?_
   refine xseq_k fun KS13 ks13 => ?_
   refine xregS [0, 1] fun KR14 kr14 => ?_
   refine wpS.q 0 10 (.int .i64 z6) ?_
   rcases of_if h with ⟨hc, h⟩ | ⟨hc, h⟩
   ·refine wpS.tk 1 false (some 11) (.bool true) (yld_b (dt hc) (fun _ => by kernel_rfl)) ?_
    refine wpS.fin rfl (kr14 _ _ (then_n (ks13 _ _ (wp_cond_t (by kernel_rfl) (xskip (then_n (ks12 _ _ (xseq_k fun KS15 ks15 => (xblock (xseq_k fun KS16 ks16 => (xregS [0] fun KR17 kr17 => ?_)))))))))))
    refine wpS.q 0 6 (.int .i64 0) ?_
    refine wpS.fin rfl (kr17 _ _ (then_n (ks16 _ _ ?_)))
    obtain ⟨⟨y12, y13⟩, hy, hk1⟩ := of_bind h
    refine wp_exq (N := fun a w => St w0 [] [.blk b4 (enc .i32 r3) 142, .blk b2 (enc .i32 (zeroA 256)) 32, .blk b1 (enc .i32 y13) 32] [] w ∧ ∃ g19 : Nat → Value, a = ⟨#[.agg (enc .i32 a0).toArray, .pointer (some ⟨b1, 0, none⟩), .pointer (some ⟨b2, 0, none⟩), .pointer (some ⟨b4, 0, none⟩), .int .i64 y12, .int .i64 z6, (g19 6), (g19 7), (g19 8), .pointer (some ⟨b4, 0, none⟩), .int .i64 z6, .bool true, (g10 12), (g10 13), (g19 14), (g19 15), (g19 16), (g19 17), (g19 18), (g19 19), (g19 20), (g19 21), (g19 22), (g19 23), (g19 24), (g19 25), (g19 26), (g19 27), (g19 28), (g19 29), (g19 30), (g19 31), (g19 32), (g19 33), (g19 34), (g19 35), (g19 36), (g19 37), (g19 38), (g19 39), (g19 40), (g19 41), (g19 42), (g19 43), (g19 44), (g19 45), (g19 46), (g19 47), (g19 48), (g19 49), (g19 50), (g19 51), (g19 52), (g19 53), (g19 54), (g19 55), (g19 56), (g19 57), (g19 58), (g19 59), (g19 60), undef], []⟩) (fun N1 nn1 => ?_) ?_
    ·clear hk1
     refine xblock ?_
     refine wp_loop_k (fun n a w => ∃ z9 z10 z11, kq_Ntt.l1 K n r3 z6 z9 z10 z11 = some (y12, y13) ∧ St w0 [] [.blk b4 (enc .i32 r3) 142, .blk b2 (enc .i32 (zeroA 256)) 32, .blk b1 (enc .i32 z11) 32] [] w ∧ ∃ g18 : Nat → Value, a = ⟨#[.agg (enc .i32 a0).toArray, .pointer (some ⟨b1, 0, none⟩), .pointer (some ⟨b2, 0, none⟩), .pointer (some ⟨b4, 0, none⟩), .int .i64 z9, .int .i64 z6, .int .i64 z10, (g18 7), (g18 8), .pointer (some ⟨b4, 0, none⟩), .int .i64 z6, .bool true, (g10 12), (g10 13), (g18 14), (g18 15), (g18 16), (g18 17), (g18 18), (g18 19), (g18 20), (g18 21), (g18 22), (g18 23), (g18 24), (g18 25), (g18 26), (g18 27), (g18 28), (g18 29), (g18 30), (g18 31), (g18 32), (g18 33), (g18 34), (g18 35), (g18 36), (g18 37), (g18 38), (g18 39), (g18 40), (g18 41), (g18 42), (g18 43), (g18 44), (g18 45), (g18 46), (g18 47), (g18 48), (g18 49), (g18 50), (g18 51), (g18 52), (g18 53), (g18 54), (g18 55), (g18 56), (g18 57), (g18 58), (g18 59), (g18 60), undef], []⟩) K ⟨z5, 0, z7, hy, hs.conv rfl, exg (by kernel_rfl)⟩ ?_
     clear hs h hy
     rintro n a w ⟨z9, z10, z11, h, hs, g18, rfl⟩ KL1 kl1
     cases n with
     | zero => exact nomatch (show none = some _ from h)
     | succ n =>
      refine xseq_k fun KS20 ks20 => ?_
      refine xseq_k fun KS21 ks21 => ?_
      refine xregS [0, 1] fun KR22 kr22 => ?_
      refine wpS.q 0 14 (.int .i64 z10) ?_
      rcases of_if h with ⟨hc, h⟩ | ⟨hc, h⟩
      ·refine wpS.tk 1 false (some 15) (.bool true) (yld_b (dt hc) (fun _ => by kernel_rfl)) ?_
       refine wpS.fin rfl (kr22 _ _ (then_n (ks21 _ _ (wp_cond_t (by kernel_rfl) (xskip (then_n (ks20 _ _ (xseq_k fun KS23 ks23 => (xblock (xseq_k fun KS24 ks24 => (xregS [0, 1, 2] fun KR25 kr25 => ?_)))))))))))
       refine wpS.qs [(0, 20, .int .i64 z9), (1, 21, .int .i64 (iadd .i64 z9 1))] ?_
       obtain ⟨x14, hx, h⟩ := of_bind h
       refine wpS.tk 2 false (some 4) (.int .i64 x14) (yld_int hx (fun _ => by kernel_rfl)) ?_
       refine wpS.fin rfl (kr25 _ _ (then_n (ks24 _ _ (xseq_k fun KS26 ks26 => (xregS [0, 1] fun KR27 kr27 => ?_)))))
       refine wpS.qs [(0, 22, .int .i64 z10), (1, 7, .int .i64 z10)] ?_
       refine wpS.fin rfl (kr27 _ _ (then_n (ks26 _ _ ?_)))
       obtain ⟨y17, hy, hk2⟩ := of_bind h
       refine wp_exq (N := fun a w => St w0 [] [.blk b4 (enc .i32 r3) 142, .blk b2 (enc .i32 (zeroA 256)) 32, .blk b1 (enc .i32 y17) 32] [] w ∧ ∃ g29 : Nat → Value, a = ⟨#[.agg (enc .i32 a0).toArray, .pointer (some ⟨b1, 0, none⟩), .pointer (some ⟨b2, 0, none⟩), .pointer (some ⟨b4, 0, none⟩), .int .i64 x14, .int .i64 z6, .int .i64 z10, (g29 7), (g29 8), .pointer (some ⟨b4, 0, none⟩), .int .i64 z6, .bool true, (g10 12), (g10 13), .int .i64 z10, .bool true, (g18 16), (g18 17), (g18 18), (g18 19), .int .i64 z9, .int .i64 (iadd .i64 z9 1), .int .i64 z10, (g29 23), (g29 24), (g29 25), (g29 26), (g29 27), (g29 28), (g29 29), (g29 30), (g29 31), (g29 32), (g29 33), (g29 34), (g29 35), (g29 36), (g29 37), (g29 38), (g29 39), (g29 40), (g29 41), (g29 42), (g29 43), (g29 44), (g29 45), (g29 46), (g29 47), (g29 48), (g29 49), (g29 50), (g29 51), (g29 52), (g29 53), (g29 54), (g29 55), (g29 56), (g29 57), (g29 58), (g29 59), (g29 60), undef], []⟩) (fun N2 nn2 => ?_) ?_
       ·clear hk2
        refine xblock ?_
        refine wp_loop_k (fun n a w => ∃ z15 z16, kq_Ntt.l2 K n r3 z6 z10 x14 z15 z16 = some y17 ∧ St w0 [] [.blk b4 (enc .i32 r3) 142, .blk b2 (enc .i32 (zeroA 256)) 32, .blk b1 (enc .i32 z16) 32] [] w ∧ ∃ g28 : Nat → Value, a = ⟨#[.agg (enc .i32 a0).toArray, .pointer (some ⟨b1, 0, none⟩), .pointer (some ⟨b2, 0, none⟩), .pointer (some ⟨b4, 0, none⟩), .int .i64 x14, .int .i64 z6, .int .i64 z10, .int .i64 z15, (g28 8), .pointer (some ⟨b4, 0, none⟩), .int .i64 z6, .bool true, (g10 12), (g10 13), .int .i64 z10, .bool true, (g18 16), (g18 17), (g18 18), (g18 19), .int .i64 z9, .int .i64 (iadd .i64 z9 1), .int .i64 z10, (g28 23), (g28 24), (g28 25), (g28 26), (g28 27), (g28 28), (g28 29), (g28 30), (g28 31), (g28 32), (g28 33), (g28 34), (g28 35), (g28 36), (g28 37), (g28 38), (g28 39), (g28 40), (g28 41), (g28 42), (g28 43), (g28 44), (g28 45), (g28 46), (g28 47), (g28 48), (g28 49), (g28 50), (g28 51), (g28 52), (g28 53), (g28 54), (g28 55), (g28 56), (g28 57), (g28 58), (g28 59), (g28 60), undef], []⟩) K ⟨z10, z11, hy, hs.conv rfl, exg (by kernel_rfl)⟩ ?_
        clear hs h hy
        rintro n a w ⟨z15, z16, h, hs, g28, rfl⟩ KL2 kl2
        cases n with
        | zero => exact nomatch (show none = some _ from h)
        | succ n =>
         refine xseq_k fun KS30 ks30 => ?_
         refine xseq_k fun KS31 ks31 => ?_
         refine xregS [0, 1, 2, 3, 4] fun KR32 kr32 => ?_
         refine wpS.qs [(0, 23, .int .i64 z15), (1, 24, .int .i64 z10), (2, 25, .int .i64 z6), (3, 26, .int .i64 (iadd .i64 z10 z6))] ?_
         rcases of_if h with ⟨hc, h⟩ | ⟨hc, h⟩
         ·refine wpS.tk 4 false (some 27) (.bool true) (yld_b (dt hc) (fun _ => by kernel_rfl)) ?_
          refine wpS.fin rfl (kr32 _ _ (then_n (ks31 _ _ (wp_cond_t (by kernel_rfl) (xskip (then_n (ks30 _ _ (xseq_k fun KS33 ks33 => (xblock (xseq_k fun KS34 ks34 => ?_))))))))))
          refine wp_regG [] (fun k => True) 13 (by kernel_rfl) (by kernel_rfl) (by kernel_rfl) fun KR35 kr35 => ?_
          have hs := hs.drawn1
          refine wpG.q 0 30 (.pointer (some ⟨b4, 0, none⟩)) ?_
          refine wpG.q 1 31 (.int .i64 x14) ?_
          refine wpG.q 2 32 (.pointer (some ⟨b4, 0, none⟩)) ?_
          obtain ⟨i0_36, h⟩ := of_chk h
          obtain ⟨i1_36, h⟩ := of_chk h
          refine wpG.tD 3 false (some 33) (.pointer (some ⟨b4, 0 + (x14 : Int).toNat * 1, none⟩)) (yld_idx (t := 142) (e := 21) (n := 128) (sz := 1) (k := .i64) (x := x14) (by kernel_rfl) (by kernel_rfl) (by kernel_rfl) i0_36 i1_36) ?_
          refine wpG.tD 4 true (some 34) (.int .i32 (rd r3 x14)) (yld_loadA (e := 21) (x := x14) hs 0 rfl (by kernel_rfl) (by kernel_rfl) i0_36 i1_36 .grow) ?_
          refine wpG.q 5 35 (.int .i64 z15) ?_
          refine wpG.q 6 36 (.int .i64 z6) ?_
          refine wpG.q 7 37 (.int .i64 (iadd .i64 z15 z6)) ?_
          obtain ⟨x18, hx, h⟩ := of_bind h
          have hx := of_some hx
          subst hx
          obtain ⟨i0_37, h⟩ := of_chk h
          obtain ⟨i1_37, h⟩ := of_chk h
          refine wpG.tD 8 false (some 38) (.pointer (some ⟨b1, 0 + ((iadd .i64 z15 z6) : Int).toNat * 1, none⟩)) (yld_idx (t := 32) (e := 21) (n := 256) (sz := 1) (k := .i64) (x := (iadd .i64 z15 z6)) (by kernel_rfl) (by kernel_rfl) (by kernel_rfl) i0_37 i1_37) ?_
          refine wpG.tD 9 true (some 39) (.int .i32 (rd z16 (iadd .i64 z15 z6))) (yld_loadA (e := 21) (x := (iadd .i64 z15 z6)) hs 2 rfl (by kernel_rfl) (by kernel_rfl) i0_37 i1_37 .grow) ?_
          refine wpG.q 10 40 (.int .i32 (imul .i32 (rd r3 x14) (rd z16 (iadd .i64 z15 z6)))) ?_
          refine wpG.q 11 41 (.int .i32 (irem .i32 (imul .i32 (rd r3 x14) (rd z16 (iadd .i64 z15 z6))) 3329)) ?_
          obtain ⟨x19, hx, h⟩ := of_bind h
          refine wpG.tD 12 false (some 8) (.int .i32 x19) (yld_int hx (fun _ => by kernel_rfl)) ?_
          refine wpG.fin (by kernel_rfl) rfl (kr35 _ _ ?_)
          refine then_n (ks34 _ _ ?_)
          refine wp_regG [18, 20] (fun k => True) 21 (by kernel_rfl) (by kernel_rfl) (by kernel_rfl) fun KR38 kr38 => ?_
          have hs := hs.drawn1
          refine wpG.q 0 42 (.int .i64 z15) ?_
          refine wpG.q 1 43 (.int .i64 z6) ?_
          refine wpG.q 2 44 (.int .i64 (iadd .i64 z15 z6)) ?_
          refine wpG.q 3 45 (.int .i64 z15) ?_
          refine wpG.q 4 46 (.int .i64 z15) ?_
          obtain ⟨i0_39, h⟩ := of_chk h
          obtain ⟨i1_39, h⟩ := of_chk h
          refine wpG.tD 5 false (some 47) (.pointer (some ⟨b1, 0 + (z15 : Int).toNat * 1, none⟩)) (yld_idx (t := 32) (e := 21) (n := 256) (sz := 1) (k := .i64) (x := z15) (by kernel_rfl) (by kernel_rfl) (by kernel_rfl) i0_39 i1_39) ?_
          refine wpG.tD 6 true (some 48) (.int .i32 (rd z16 z15)) (yld_loadA (e := 21) (x := z15) hs 2 rfl (by kernel_rfl) (by kernel_rfl) i0_39 i1_39 .grow) ?_
          refine wpG.q 7 49 (.int .i32 x19) ?_
          refine wpG.q 8 50 (.int .i32 (isub .i32 (rd z16 z15) x19)) ?_
          refine wpG.q 9 51 (.int .i32 (iadd .i32 (isub .i32 (rd z16 z15) x19) 3329)) ?_
          refine wpG.q 10 52 (.int .i32 (irem .i32 (iadd .i32 (isub .i32 (rd z16 z15) x19) 3329) 3329)) ?_
          refine wpG.q 11 53 (.int .i64 z15) ?_
          obtain ⟨i0_40, h⟩ := of_chk h
          obtain ⟨i1_40, h⟩ := of_chk h
          refine wpG.tD 12 false (some 54) (.pointer (some ⟨b1, 0 + (z15 : Int).toNat * 1, none⟩)) (yld_idx (t := 32) (e := 21) (n := 256) (sz := 1) (k := .i64) (x := z15) (by kernel_rfl) (by kernel_rfl) (by kernel_rfl) i0_40 i1_40) ?_
          refine wpG.tD 13 true (some 55) (.int .i32 (rd z16 z15)) (yld_loadA (e := 21) (x := z15) hs 2 rfl (by kernel_rfl) (by kernel_rfl) i0_40 i1_40 .grow) ?_
          refine wpG.q 14 56 (.int .i32 x19) ?_
          refine wpG.q 15 57 (.int .i32 (iadd .i32 (rd z16 z15) x19)) ?_
          refine wpG.q 16 58 (.int .i32 (irem .i32 (iadd .i32 (rd z16 z15) x19) 3329)) ?_
          obtain ⟨x20, hx, h⟩ := of_bind h
          have hx := of_some hx
          subst hx
          obtain ⟨i0_41, h⟩ := of_chk h
          obtain ⟨i1_41, h⟩ := of_chk h
          refine wpG.tD 17 false (some 59) (.pointer (some ⟨b1, 0 + ((iadd .i64 z15 z6) : Int).toNat * 1, none⟩)) (yld_idx (t := 32) (e := 21) (n := 256) (sz := 1) (k := .i64) (x := (iadd .i64 z15 z6)) (by kernel_rfl) (by kernel_rfl) (by kernel_rfl) i0_41 i1_41) ?_
          obtain ⟨x21, hx, h⟩ := of_bind h
          refine wpG.only 18 (by kernel_rfl) (op_storeA (t := 21) (x := (iadd .i64 z15 z6)) (v := x21) (d := none) (by kernel_rfl) hs 2 rfl (by cases hx; kernel_rfl) (by kernel_rfl) i0_41 i1_41 ?_)
          intro w kp hs
          refine ⟨⟨fun hf => absurd hf (by decide), .all _ _⟩, ?_⟩
          obtain ⟨i0_42, h⟩ := of_chk h
          obtain ⟨i1_42, h⟩ := of_chk h
          refine wpG.tD 19 false (some 60) (.pointer (some ⟨b1, 0 + (z15 : Int).toNat * 1, none⟩)) (yld_idx (t := 32) (e := 21) (n := 256) (sz := 1) (k := .i64) (x := z15) (by kernel_rfl) (by kernel_rfl) (by kernel_rfl) i0_42 i1_42) ?_
          obtain ⟨x22, hx, h⟩ := of_bind h
          refine wpG.only 20 (by kernel_rfl) (op_storeA (t := 21) (x := z15) (v := x22) (d := none) (by kernel_rfl) hs 2 rfl (by cases hx; kernel_rfl) (by kernel_rfl) i0_42 i1_42 ?_)
          intro w kp hs
          refine ⟨⟨fun hf => absurd hf (by decide), .all _ _⟩, ?_⟩
          refine wpG.fin (by kernel_rfl) rfl (kr38 _ _ ?_)
          refine inBlock_n (then_n (ks33 _ _ (xregS [0, 1, 2] fun KR43 kr43 => ?_)))
          refine wpS.qs [(0, 28, .int .i64 z15), (1, 29, .int .i64 (iadd .i64 z15 1))] ?_
          obtain ⟨x23, hx, h⟩ := of_bind h
          refine wpS.tk 2 false (some 7) (.int .i64 x23) (yld_int hx (fun _ => by kernel_rfl)) ?_
          refine wpS.fin rfl (kr43 _ _ ?_)
          exact then_n (kl2 _ _ ⟨n, Nat.lt_succ_self n, x23, (wr (wr z16 (iadd .i64 z15 z6) x21) z15 x22), h, (hs.conv rfl), exg (by kernel_rfl)⟩)
         refine wpS.tk 4 false (some 27) (.bool false) (yld_b (df hc) (fun _ => by kernel_rfl)) ?_
         refine wpS.fin rfl (kr32 _ _ (then_n (ks31 _ _ (wp_cond_f (by kernel_rfl) (xexit (then_x (then_x (inBlock_hit ?_))))))))
         have q0 := of_some h
         subst q0
         exact exq_n (nn2 _ _ ⟨(hs.conv rfl), exg (by kernel_rfl)⟩)
       clear hs h hy
       rintro a w ⟨hs, g29, rfl⟩
       have h := hk2
       refine inBlock_n (then_n (ks23 _ _ (xregS [0, 1, 2, 3, 4] fun KR44 kr44 => ?_)))
       refine wpS.qs [(0, 16, .int .i64 z10), (1, 17, .int .i64 z6), (2, 18, .int .i64 (imul .i64 2 z6)), (3, 19, .int .i64 (iadd .i64 z10 (imul .i64 2 z6)))] ?_
       obtain ⟨x24, hx, h⟩ := of_bind h
       refine wpS.tk 4 false (some 6) (.int .i64 x24) (yld_int hx (fun _ => by kernel_rfl)) ?_
       refine wpS.fin rfl (kr44 _ _ ?_)
       exact then_n (kl1 _ _ ⟨n, Nat.lt_succ_self n, x14, x24, y17, h, (hs.conv rfl), exg (by kernel_rfl)⟩)
      refine wpS.tk 1 false (some 15) (.bool false) (yld_b (df hc) (fun _ => by kernel_rfl)) ?_
      refine wpS.fin rfl (kr22 _ _ (then_n (ks21 _ _ (wp_cond_f (by kernel_rfl) (xexit (then_x (then_x (inBlock_hit ?_))))))))
      obtain ⟨q0, qr0⟩ := Prod.mk.inj (of_some h)
      have q1 := qr0
      subst q0
      subst q1
      exact exq_n (nn1 _ _ ⟨(hs.conv rfl), exg (by kernel_rfl)⟩)
    clear hs h hy
    rintro a w ⟨hs, g19, rfl⟩
    have h := hk1
    refine inBlock_n (then_n (ks15 _ _ (xregS [0, 1, 2] fun KR45 kr45 => ?_)))
    refine wpS.qs [(0, 12, .int .i64 z6), (1, 13, .int .i64 (iquo .i64 z6 2))] ?_
    obtain ⟨x25, hx, h⟩ := of_bind h
    refine wpS.tk 2 false (some 5) (.int .i64 x25) (yld_int hx (fun _ => by kernel_rfl)) ?_
    refine wpS.fin rfl (kr45 _ _ ?_)
    exact then_n (kl0 _ _ ⟨n, Nat.lt_succ_self n, y12, x25, y13, h, (hs.conv rfl), exg (by kernel_rfl)⟩)
   refine wpS.tk 1 false (some 11) (.bool false) (yld_b (df hc) (fun _ => by kernel_rfl)) ?_
   refine wpS.fin rfl (kr14 _ _ (then_n (ks13 _ _ (wp_cond_f (by kernel_rfl) (xexit (then_x (then_x (inBlock_hit ?_))))))))
   have q0 := of_some h
   subst q0
   exact exq_n (nn0 _ _ ⟨(hs.conv rfl), exg (by kernel_rfl)⟩)
 clear hs h hy
 rintro a w ⟨hs, g11, rfl⟩
 have h := hk0
 refine then_n (ks7 _ _ (xseq_k fun KS46 ks46 => (xregS [0, 1] fun KR47 kr47 => ?_)))
 refine wpS.tk 0 true (some 61) (.agg (enc .i32 y8).toArray) (yld_loadW (e := 32) (n := 256) hs 2 rfl (by kernel_rfl) (by kernel_rfl) (by kernel_rfl) (by exact enc_len _ _) .grow) ?_
 refine wpS.only 1 (op_storeW (t := 32) (v := .agg (enc .i32 y8).toArray) (d := none) (by kernel_rfl) hs 1 rfl (vs := enc .i32 y8) (n := 256) (by kernel_rfl) (by kernel_rfl) (by kernel_rfl) (by simp [enc_len]) (by simp [enc_len]) (by intro u hu; exact enc_one _ _ u hu) ?_)
 intro w kp hs
 refine ⟨fun _ => trivial, ?_⟩
 refine wpS.fin rfl (kr47 _ _ (then_n (ks46 _ _ (xret ?_))))
 have q0 := of_some h
 subst q0
 exact qq _ _ (post_ret (by kernel_rfl) (run_results [.cell 2 32] [.agg (enc .i32 y8).toArray] (by kernel_rfl) (.cons (res_cellN (n := 256) hs 1 rfl (by kernel_rfl) (by kernel_rfl) (by kernel_rfl) (by exact enc_len _ _)) .nil)) ⟨congrArg Ending.returned (by kernel_rfl), hs.none⟩)
end Go.Proofs.YtemdbgmldljbpaaDoor
