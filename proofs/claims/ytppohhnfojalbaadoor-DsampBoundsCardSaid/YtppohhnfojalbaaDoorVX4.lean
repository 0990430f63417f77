/- Printed by this work's own program: the code of each function below comes to the answer that its plain form tells. -/
import Derived.Test.YtppohhnfojalbaaDoorMd
import Derived.Test.YtppohhnfojalbaaDoorProg
import Derived.Test.YtppohhnfojalbaaDoorVF0
import Derived.Test.YtppohhnfojalbaaDoorVX0
import Derived.Test.YtppohhnfojalbaaDoorVX1
set_option linter.unusedVariables false
set_option linter.unusedSimpArgs false
set_option maxRecDepth 100000
set_option maxHeartbeats 4000000
namespace Go.Proofs.YtppohhnfojalbaaDoor
open Go.Mx
attribute [local irreducible] wpOp

theorem dsamp_Values.ok {K : Nat} {a0 : List Int} {a1 : Int} {a2 : Int} {r0 : Arr 256} {r1 : Int} {a0_A : Option Addr} {a0_n : Nat} {a0_c : Nat} (h : dsamp_Values.f K a0 a1 a2 = some (r0, r1)) (w0 : World) (hp0 : RowL (CI .u8) w0 a0_A a0_n a0_c a0) (hg0 : RowL (CA .u64 24 (by decide)) w0 (some ⟨0, 0, none⟩) 1 1 [tab_0]) (hg1 : RowL (CA .i64 24 (by decide)) w0 (some ⟨1, 0, none⟩) 1 1 [tab_1]) (hg2 : RowL (CA .i64 24 (by decide)) w0 (some ⟨2, 0, none⟩) 1 1 [tab_2]) : Ret Tryd.prog 6 #[.slice a0_A a0_n a0_c, .int .u8 a1, .int .u8 a2] w0 (.tuple #[.agg (enc .i32 r0).toArray, .int .i64 r1]) := by
 refine calls_m Tryd.func6 rfl fun Q qq qn => ?_
 have hs := St.startR (all_cons (RowP.ent hp0) (all_cons (RowP.ent hg0) (all_cons (RowP.ent hg1) (all_cons (RowP.ent hg2) all_nil))))
 refine wp_conv (a' := ⟨#[.slice a0_A a0_n a0_c, .int .u8 a1, .int .u8 a2, undef, undef, undef, undef, undef, undef, undef, undef, undef, undef, undef, undef, undef, undef, undef, undef, undef, undef, undef, undef, undef, undef, undef, undef, undef, undef, undef, undef, undef, undef, undef, undef, undef, undef, undef, undef, undef, undef, undef, undef, undef, undef, undef, undef, undef], []⟩) (by kernel_rfl) ?_
 refine xseq_k fun KS1 ks1 => ?_
 refine xregS [0, 1] fun KR2 kr2 => ?_
 refine wpS.only 0 (op_alloc (t := 26) (d := (some 6)) (by kernel_rfl) hs (enc .i32 (zeroA 256)) (.agg (enc .i32 (zeroA 256)).toArray) (by kernel_rfl) (by kernel_rfl) (by kernel_rfl) ?_)
 intro b1 w gw hs
 refine ⟨fun _ => trivial, ?_⟩
 refine wpS.q 1 7 (.int .i64 0) ?_
 refine wpS.fin rfl (kr2 _ _ (then_n (ks1 _ _ (xseq_k fun KS3 ks3 => (xregS [0, 1, 2, 3] fun KR4 kr4 => ?_)))))
 refine wpS.q 0 13 (.agg (([] : List Value) ++ enc .i32 (zeroA 256) ++ ([.int .i64 0] : List Value)).toArray) ?_
 refine wpS.only 1 (op_box (t := 43) (v := .agg (([] : List Value) ++ enc .i32 (zeroA 256) ++ ([.int .i64 0] : List Value)).toArray) (d := (some 14)) (by kernel_rfl) hs (([] : List Value) ++ enc .i32 (zeroA 256) ++ ([.int .i64 0] : List Value)) (by kernel_rfl) (by kernel_rfl) ?_)
 intro b2 w gw hs
 refine ⟨fun _ => trivial, ?_⟩
 refine wpS.only 2 (op_alloc (t := 41) (d := (some 8)) (by kernel_rfl) hs ([.pointer none]) (.pointer none) (by kernel_rfl) (by kernel_rfl) (by kernel_rfl) ?_)
 intro b3 w gw hs
 refine ⟨fun _ => trivial, ?_⟩
 refine wpS.only 3 (op_store1 (t := 41) (o := 0) (v := .pointer (some ⟨b2, 0, none⟩)) (d := none) (by kernel_rfl) hs 0 rfl (by kernel_rfl) rfl (by kernel_rfl) (by simp) ?_)
 intro w kp hs
 refine ⟨fun _ => trivial, ?_⟩
 refine wpS.fin rfl (kr4 _ _ (then_n (ks3 _ _ (xseq_k fun KS5 ks5 => (xregS [0, 1, 2, 3] fun KR6 kr6 => ?_)))))
 refine wpS.only 0 (op_alloc (t := 21) (d := (some 9)) (by kernel_rfl) hs ([.int .i32 0]) (.int .i32 0) (by kernel_rfl) (by kernel_rfl) (by kernel_rfl) ?_)
 intro b4 w gw hs
 refine ⟨fun _ => trivial, ?_⟩
 refine wpS.only 1 (op_alloc (t := 3) (d := (some 10)) (by kernel_rfl) hs ([.int .i64 0]) (.int .i64 0) (by kernel_rfl) (by kernel_rfl) (by kernel_rfl) ?_)
 intro b5 w gw hs
 refine ⟨fun _ => trivial, ?_⟩
 refine wpS.only 2 (op_store1 (t := 21) (o := 0) (v := .int .i32 0) (d := none) (by kernel_rfl) hs 1 rfl (by kernel_rfl) rfl (by kernel_rfl) (by simp) ?_)
 intro w kp hs
 refine ⟨fun _ => trivial, ?_⟩
 refine wpS.only 3 (op_store1 (t := 3) (o := 0) (v := .int .i64 0) (d := none) (by kernel_rfl) hs 0 rfl (by kernel_rfl) rfl (by kernel_rfl) (by simp) ?_)
 intro w kp hs
 refine ⟨fun _ => trivial, ?_⟩
 refine wpS.fin rfl (kr6 _ _ (then_n (ks5 _ _ ?_)))
 obtain ⟨⟨y7, y8, y9_0, y9_1⟩, hj, h⟩ := of_bind h
 refine xseq_k fun KS8 ks8 => wp_join (N := fun a w => ∃ (D6 : Nat), St w0 [] [.obj D6 (.deferred (some [])), .blk b5 ([.int .i64 y7]) 3, .blk b4 ([.int .i32 y8]) 21, .blk b3 ([.pointer (some ⟨b2, 0, none⟩)]) 41, .blk b2 (([] : List Value) ++ enc .i32 y9_0 ++ ([.int .i64 y9_1] : List Value)) 43, .blk b1 (enc .i32 (zeroA 256)) 26] [.rowL (CI .u8) a0_A a0_n a0_c a0, .rowL (CA .u64 24 (by decide)) (some ⟨0, 0, none⟩) 1 1 ([tab_0]), .rowL (CA .i64 24 (by decide)) (some ⟨1, 0, none⟩) 1 1 ([tab_1]), .rowL (CA .i64 24 (by decide)) (some ⟨2, 0, none⟩) 1 1 ([tab_2])] w ∧ ∃ g7 : Nat → Value, a = ⟨#[.slice a0_A a0_n a0_c, .int .u8 a1, .int .u8 a2, undef, undef, undef, .pointer (some ⟨b1, 0, none⟩), .int .i64 0, .pointer (some ⟨b3, 0, none⟩), .pointer (some ⟨b4, 0, none⟩), .pointer (some ⟨b5, 0, none⟩), (g7 11), (g7 12), .agg (([] : List Value) ++ enc .i32 (zeroA 256) ++ ([.int .i64 0] : List Value)).toArray, .pointer (some ⟨b2, 0, none⟩), (g7 15), (g7 16), (g7 17), (g7 18), (g7 19), (g7 20), (g7 21), (g7 22), (g7 23), (g7 24), (g7 25), (g7 26), (g7 27), (g7 28), (g7 29), (g7 30), (g7 31), (g7 32), (g7 33), (g7 34), (g7 35), (g7 36), (g7 37), (g7 38), (g7 39), (g7 40), (g7 41), (g7 42), (g7 43), undef, undef, undef, undef], [lmark D6]⟩) (fun N nj => ?_) ?_
 ·clear h
  have h := hj
  refine xseq_k fun KS9 ks9 => ?_
  refine xregS [0, 1, 2, 3, 4, 5, 6] fun KR10 kr10 => ?_
  refine wpS.qs [(0, 15, .slice a0_A a0_n a0_c), (1, 16, .int .u8 a2), (2, 17, .int .u8 a1)] ?_
  refine wpS.only 3 (op_lit (C := (CI .u8)) (t := 22) (e := 5) (len := 2) (parts := #[(0, .int .u8 a2), (1, .int .u8 a1)]) (l := [a2, a1]) (d := (some 18)) (by kernel_rfl) hs (by kernel_rfl) (by kernel_rfl) (by kernel_rfl) (z := .int .u8 0) (by kernel_rfl) rfl (by decide) (by decide) (by kernel_rfl) ?_)
  intro s10_A s10_n s10_c w gw hs
  refine ⟨fun _ => trivial, ?_⟩
  refine wpS.only 4 (op_lit (C := CS) (t := 55) (e := 22) (len := 2) (parts := #[(0, .slice a0_A a0_n a0_c), (1, .slice s10_A s10_n s10_c)]) (l := ([(a0_A, a0_n, a0_c), (s10_A, s10_n, s10_c)] : List HS)) (d := (some 19)) (by kernel_rfl) hs (by kernel_rfl) (by kernel_rfl) (by kernel_rfl) (z := .slice none 0 0) (by kernel_rfl) rfl (by decide) (by decide) (by kernel_rfl) ?_)
  intro s11_A s11_n s11_c w gw hs
  refine ⟨fun _ => trivial, ?_⟩
  obtain ⟨⟨r12_0, r12_1, r12_2, r12_3⟩, hg, h⟩ := of_bind h
  refine wpS.only 5 (op_call (d := (some 20)) (by kernel_rfl) hs (fun _ => by kernel_rfl) (dsamp_sponge.ok hg _ (LLP.mk (hs.rowL 0 rfl) (inn_cons (hs.rowR 0 rfl) (inn_cons (hs.rowL 1 rfl) inn_nil))) (hs.rowR 1 rfl) (hs.rowR 2 rfl) (hs.rowR 3 rfl)) ?_)
  intro w gw hs
  refine ⟨fun _ => trivial, ?_⟩
  refine wpS.only 6 (op_inline (d := (some 21)) (f := 16) (args := #[.agg (([.int .i64 r12_0] : List Value) ++ enc .u64 r12_1 ++ ([.int .i64 r12_2, .bool r12_3] : List Value)).toArray, .int .i64 12288]) (by kernel_rfl) (fun _ => by kernel_rfl) fun R11 kI11 => ?_)
  refine calls_k Tryd.func16 rfl fun Q11 qq11 => ?_
  refine wp_conv (a' := ⟨#[.agg (([.int .i64 r12_0] : List Value) ++ enc .u64 r12_1 ++ ([.int .i64 r12_2, .bool r12_3] : List Value)).toArray, .int .i64 12288, undef, undef, undef, undef], []⟩) (by kernel_rfl) ?_
  refine xseq_k fun KS12 ks12 => ?_
  refine xregS [0, 1, 2] fun KR13 kr13 => ?_
  refine wpS.only 0 (op_box (t := 50) (v := .agg (([.int .i64 r12_0] : List Value) ++ enc .u64 r12_1 ++ ([.int .i64 r12_2, .bool r12_3] : List Value)).toArray) (d := (some 2)) (by kernel_rfl) hs (([.int .i64 r12_0] : List Value) ++ enc .u64 r12_1 ++ ([.int .i64 r12_2, .bool r12_3] : List Value)) (by kernel_rfl) (by kernel_rfl) ?_)
  intro b13 w gw hs
  refine ⟨fun _ => trivial, ?_⟩
  refine wpS.only 1 (op_box (t := 3) (v := .int .i64 12288) (d := (some 3)) (by kernel_rfl) hs ([.int .i64 12288]) (by kernel_rfl) (by kernel_rfl) ?_)
  intro b14 w gw hs
  refine ⟨fun _ => trivial, ?_⟩
  refine wpS.q 2 4 (.nilFunc) ?_
  refine wpS.fin rfl (kr13 _ _ (then_n (ks12 _ _ (xseq_k fun KS14 ks14 => (xregS [0, 1] fun KR15 kr15 => ?_)))))
  refine wpS.qs [(0, 5, .func (.func 32) #[] #[.pointer (some ⟨b14, 0, none⟩), .pointer (some ⟨b13, 0, none⟩)]), (1, 4, .func (.func 32) #[] #[.pointer (some ⟨b14, 0, none⟩), .pointer (some ⟨b13, 0, none⟩)])] ?_
  refine wpS.fin rfl (kr15 _ _ (then_n (ks14 _ _ (xret ?_))))
  refine qq11 _ _ (post_ret (by kernel_rfl) (run_results [.tmp 4] [.func (.func 32) #[] #[.pointer (some ⟨b14, 0, none⟩), .pointer (some ⟨b13, 0, none⟩)]] (by kernel_rfl) (.cons (res_tmp (by kernel_rfl)) .nil)) ?_)
  refine kI11 _ _ ?_
  refine ⟨fun _ => trivial, ?_⟩
  refine wpS.fin rfl (kr10 _ _ (then_n (ks9 _ _ (xblock ?_))))
  refine wp_range (gf := 32) (lb := #[.pointer (some ⟨b14, 0, none⟩), .pointer (some ⟨b13, 0, none⟩)]) hs (by kernel_rfl) (fun _ _ => by kernel_rfl) fun l16 D16 rec16 w hok16 hs R16 kR16 => ?_
  refine calls_kn Tryd.func32 rfl fun Q16 qq16 qn16 => ?_
  refine wp_conv (a' := ⟨#[.func (.yield l16) #[] #[], .pointer (some ⟨b14, 0, none⟩), .pointer (some ⟨b13, 0, none⟩), undef, undef, undef, undef, undef, undef, undef, undef, undef, undef, undef, undef, undef, undef, undef, undef, undef, undef, undef, undef, undef, undef, undef, undef, undef, undef, undef, undef], []⟩) (by kernel_rfl) ?_
  refine xseq_k fun KS17 ks17 => ?_
  refine xregS [0, 1] fun KR18 kr18 => ?_
  refine wpS.tk 0 true (some 8) (.int .i64 12288) (yld_load1 (e := 3) (o := 0) hs 2 rfl (by kernel_rfl) (by kernel_rfl) (by rfl) .grow) ?_
  refine wpS.q 1 4 (.int .i64 12288) ?_
  refine wpS.fin rfl (kr18 _ _ (then_n (ks17 _ _ ?_)))
  obtain ⟨t0, hy, hk0⟩ := of_bind h
  refine wp_exq (N := fun a w => ∃ y20_0 y20_1 y20_2 y20_3 y21 y22 y23_0 y23_1, t0 = .inl (y20_0, y20_1, y20_2, y20_3, y21, y22, y23_0, y23_1) ∧ St w0 [] [.obj l16 (.loop (rec16 .ready none)), .obj D16 (.deferred (some [])), .blk b14 ([.int .i64 12288]) 3, .blk b13 (([.int .i64 y20_0] : List Value) ++ enc .u64 y20_1 ++ ([.int .i64 y20_2, .bool y20_3] : List Value)) 50, .ownL CS s11_A s11_n s11_c ([(a0_A, a0_n, a0_c), (s10_A, s10_n, s10_c)] : List HS) 22, .ownL (CI .u8) s10_A s10_n s10_c ([a2, a1] : List Int) 5, .blk b5 ([.int .i64 y21]) 3, .blk b4 ([.int .i32 y22]) 21, .blk b3 ([.pointer (some ⟨b2, 0, none⟩)]) 41, .blk b2 (([] : List Value) ++ enc .i32 y23_0 ++ ([.int .i64 y23_1] : List Value)) 43, .blk b1 (enc .i32 (zeroA 256)) 26] [.rowL (CI .u8) a0_A a0_n a0_c a0, .rowL (CA .u64 24 (by decide)) (some ⟨0, 0, none⟩) 1 1 ([tab_0]), .rowL (CA .i64 24 (by decide)) (some ⟨1, 0, none⟩) 1 1 ([tab_1]), .rowL (CA .i64 24 (by decide)) (some ⟨2, 0, none⟩) 1 1 ([tab_2])] w ∧ ∃ g20 : Nat → Value, a = ⟨#[.func (.yield l16) #[] #[], .pointer (some ⟨b14, 0, none⟩), .pointer (some ⟨b13, 0, none⟩), undef, (g20 4), (g20 5), undef, (g20 7), .int .i64 12288, (g20 9), (g20 10), (g20 11), (g20 12), (g20 13), (g20 14), (g20 15), (g20 16), (g20 17), (g20 18), (g20 19), (g20 20), (g20 21), (g20 22), (g20 23), (g20 24), (g20 25), (g20 26), (g20 27), (g20 28), (g20 29), (g20 30)], []⟩) (fun N0 nn0 => ?_) ?_
  ·refine xblock ?_
   refine wp_loop_k (fun n a w => ∃ z15 z16_0 z16_1 z16_2 z16_3 z17 z18 z19_0 z19_1, dsamp_Values.l0 K n z15 z16_0 z16_1 z16_2 z16_3 z17 z18 z19_0 z19_1 = some t0 ∧ St w0 [] [.obj l16 (.loop (rec16 .ready none)), .obj D16 (.deferred (some [])), .blk b14 ([.int .i64 12288]) 3, .blk b13 (([.int .i64 z16_0] : List Value) ++ enc .u64 z16_1 ++ ([.int .i64 z16_2, .bool z16_3] : List Value)) 50, .ownL CS s11_A s11_n s11_c ([(a0_A, a0_n, a0_c), (s10_A, s10_n, s10_c)] : List HS) 22, .ownL (CI .u8) s10_A s10_n s10_c ([a2, a1] : List Int) 5, .blk b5 ([.int .i64 z17]) 3, .blk b4 ([.int .i32 z18]) 21, .blk b3 ([.pointer (some ⟨b2, 0, none⟩)]) 41, .blk b2 (([] : List Value) ++ enc .i32 z19_0 ++ ([.int .i64 z19_1] : List Value)) 43, .blk b1 (enc .i32 (zeroA 256)) 26] [.rowL (CI .u8) a0_A a0_n a0_c a0, .rowL (CA .u64 24 (by decide)) (some ⟨0, 0, none⟩) 1 1 ([tab_0]), .rowL (CA .i64 24 (by decide)) (some ⟨1, 0, none⟩) 1 1 ([tab_1]), .rowL (CA .i64 24 (by decide)) (some ⟨2, 0, none⟩) 1 1 ([tab_2])] w ∧ ∃ g19 : Nat → Value, a = ⟨#[.func (.yield l16) #[] #[], .pointer (some ⟨b14, 0, none⟩), .pointer (some ⟨b13, 0, none⟩), undef, .int .i64 z15, (g19 5), undef, (g19 7), .int .i64 12288, (g19 9), (g19 10), (g19 11), (g19 12), (g19 13), (g19 14), (g19 15), (g19 16), (g19 17), (g19 18), (g19 19), (g19 20), (g19 21), (g19 22), (g19 23), (g19 24), (g19 25), (g19 26), (g19 27), (g19 28), (g19 29), (g19 30)], []⟩) K ⟨12288, r12_0, r12_1, r12_2, r12_3, 0, 0, (zeroA 256), 0, hy, hs.conv rfl, exg (by kernel_rfl)⟩ ?_
   clear hs h hy
   rintro n a w ⟨z15, z16_0, z16_1, z16_2, z16_3, z17, z18, z19_0, z19_1, h, hs, g19, rfl⟩ KL0 kl0
   cases n with
   | zero => exact nomatch (show none = some _ from h)
   | succ n =>
    refine xseq_k fun KS21 ks21 => ?_
    refine xseq_k fun KS22 ks22 => ?_
    refine xregS [0, 1] fun KR23 kr23 => ?_
    refine wpS.q 0 9 (.int .i64 z15) ?_
    rcases of_if h with ⟨hc, h⟩ | ⟨hc, h⟩
    ·refine wpS.tk 1 false (some 10) (.bool true) (yld_b (dt hc) (fun _ => by kernel_rfl)) ?_
     refine wpS.fin rfl (kr23 _ _ (then_n (ks22 _ _ (wp_cond_t (by kernel_rfl) (xskip (then_n (ks21 _ _ (xseq_k fun KS24 ks24 => (xblock (xseq_k fun KS25 ks25 => (xregS [0] fun KR26 kr26 => ?_)))))))))))
     refine wpS.q 0 5 (.slice none 0 0) ?_
     refine wpS.fin rfl (kr26 _ _ (then_n (ks25 _ _ (xseq_k fun KS27 ks27 => (xregS [0, 1, 2, 3, 4, 5, 6, 7, 8] fun KR28 kr28 => ?_)))))
     refine wpS.tk 0 true (some 14) (.agg (([.int .i64 z16_0] : List Value) ++ enc .u64 z16_1 ++ ([.int .i64 z16_2, .bool z16_3] : List Value)).toArray) (yld_loadW (e := 50) (n := 28) hs 3 rfl (by kernel_rfl) (by kernel_rfl) (by kernel_rfl) (by simp [enc_len]) .grow) ?_
     refine wpS.qs [(1, 15, .int .i64 z15), (2, 16, .int .i64 (imin 136 z15))] ?_
     obtain ⟨⟨r24_0, r24_1, r24_2, r24_3, r25⟩, hg, h⟩ := of_bind h
     refine wpS.only 3 (op_callH (d := (some 17)) (by kernel_rfl) hs (fun _ => by kernel_rfl) (keccak_Squeeze.ok hg _ (hs.rowR 1 rfl) (hs.rowR 2 rfl) (hs.rowR 3 rfl)) ?_)
     rintro ⟨r25_A, r25_n, r25_c⟩ w gw hs
     have hs := hs.conv (L' := [.ownL (CI .u8) r25_A r25_n r25_c r25 5, .obj l16 (.loop (rec16 .ready none)), .obj D16 (.deferred (some [])), .blk b14 ([.int .i64 12288]) 3, .blk b13 (([.int .i64 z16_0] : List Value) ++ enc .u64 z16_1 ++ ([.int .i64 z16_2, .bool z16_3] : List Value)) 50, .ownL CS s11_A s11_n s11_c ([(a0_A, a0_n, a0_c), (s10_A, s10_n, s10_c)] : List HS) 22, .ownL (CI .u8) s10_A s10_n s10_c ([a2, a1] : List Int) 5, .blk b5 ([.int .i64 z17]) 3, .blk b4 ([.int .i32 z18]) 21, .blk b3 ([.pointer (some ⟨b2, 0, none⟩)]) 41, .blk b2 (([] : List Value) ++ enc .i32 z19_0 ++ ([.int .i64 z19_1] : List Value)) 43, .blk b1 (enc .i32 (zeroA 256)) 26]) rfl
     refine ⟨fun _ => trivial, ?_⟩
     refine wpS.qs [(4, 13, .tuple #[.agg (([.int .i64 r24_0] : List Value) ++ enc .u64 r24_1 ++ ([.int .i64 r24_2, .bool r24_3] : List Value)).toArray, .slice r25_A r25_n r25_c]), (5, 18, .agg (([.int .i64 r24_0] : List Value) ++ enc .u64 r24_1 ++ ([.int .i64 r24_2, .bool r24_3] : List Value)).toArray), (6, 19, .slice r25_A r25_n r25_c)] ?_
     refine wpS.only 7 (op_storeW (t := 50) (v := .agg (([.int .i64 r24_0] : List Value) ++ enc .u64 r24_1 ++ ([.int .i64 r24_2, .bool r24_3] : List Value)).toArray) (d := none) (by kernel_rfl) hs 4 rfl (vs := ([.int .i64 r24_0] : List Value) ++ enc .u64 r24_1 ++ ([.int .i64 r24_2, .bool r24_3] : List Value)) (n := 28) (by kernel_rfl) (by kernel_rfl) (by kernel_rfl) (by simp [enc_len]) (by simp [enc_len]) (one_app (one_app (by simp [Value.oneCell']) (fun u hu => enc_one _ _ u hu)) (by simp [Value.oneCell'])) ?_)
     intro w kp hs
     refine ⟨fun _ => trivial, ?_⟩
     refine wpS.q 8 5 (.slice r25_A r25_n r25_c) ?_
     refine wpS.fin rfl (kr28 _ _ (then_n (ks27 _ _ (xseq_k fun KS29 ks29 => (xregS [0, 1, 2] fun KR30 kr30 => ?_)))))
     refine wpS.q 0 20 (.slice r25_A r25_n r25_c) ?_
     refine wpS.tk 1 false (some 21) (.int .i64 (r25.length : Int)) (yld_lenL (hs.rowL 0 rfl) (fun _ => by kernel_rfl)) ?_
     refine wpS.q 2 22 (.int .i64 0) ?_
     refine wpS.fin rfl (kr30 _ _ (then_n (ks29 _ _ ?_)))
     obtain ⟨t1, hy, hk1⟩ := of_bind h
     refine wp_exq (N := fun a w => ∃ y30 y31 y32_0 y32_1, t1 = .inl (y30, y31, y32_0, y32_1) ∧ St w0 [] [.ownL (CI .u8) r25_A r25_n r25_c r25 5, .obj l16 (.loop (rec16 .ready none)), .obj D16 (.deferred (some [])), .blk b14 ([.int .i64 12288]) 3, .blk b13 (([.int .i64 r24_0] : List Value) ++ enc .u64 r24_1 ++ ([.int .i64 r24_2, .bool r24_3] : List Value)) 50, .ownL CS s11_A s11_n s11_c ([(a0_A, a0_n, a0_c), (s10_A, s10_n, s10_c)] : List HS) 22, .ownL (CI .u8) s10_A s10_n s10_c ([a2, a1] : List Int) 5, .blk b5 ([.int .i64 y30]) 3, .blk b4 ([.int .i32 y31]) 21, .blk b3 ([.pointer (some ⟨b2, 0, none⟩)]) 41, .blk b2 (([] : List Value) ++ enc .i32 y32_0 ++ ([.int .i64 y32_1] : List Value)) 43, .blk b1 (enc .i32 (zeroA 256)) 26] [.rowL (CI .u8) a0_A a0_n a0_c a0, .rowL (CA .u64 24 (by decide)) (some ⟨0, 0, none⟩) 1 1 ([tab_0]), .rowL (CA .i64 24 (by decide)) (some ⟨1, 0, none⟩) 1 1 ([tab_1]), .rowL (CA .i64 24 (by decide)) (some ⟨2, 0, none⟩) 1 1 ([tab_2])] w ∧ ∃ g32 : Nat → Value, a = ⟨#[.func (.yield l16) #[] #[], .pointer (some ⟨b14, 0, none⟩), .pointer (some ⟨b13, 0, none⟩), undef, .int .i64 z15, .slice r25_A r25_n r25_c, undef, (g32 7), .int .i64 12288, .int .i64 z15, .bool true, (g19 11), (g19 12), .tuple #[.agg (([.int .i64 r24_0] : List Value) ++ enc .u64 r24_1 ++ ([.int .i64 r24_2, .bool r24_3] : List Value)).toArray, .slice r25_A r25_n r25_c], .agg (([.int .i64 z16_0] : List Value) ++ enc .u64 z16_1 ++ ([.int .i64 z16_2, .bool z16_3] : List Value)).toArray, .int .i64 z15, .int .i64 (imin 136 z15), .tuple #[.agg (([.int .i64 r24_0] : List Value) ++ enc .u64 r24_1 ++ ([.int .i64 r24_2, .bool r24_3] : List Value)).toArray, .slice r25_A r25_n r25_c], .agg (([.int .i64 r24_0] : List Value) ++ enc .u64 r24_1 ++ ([.int .i64 r24_2, .bool r24_3] : List Value)).toArray, .slice r25_A r25_n r25_c, .slice r25_A r25_n r25_c, .int .i64 (r25.length : Int), (g32 22), (g32 23), (g32 24), (g32 25), (g32 26), (g32 27), (g32 28), (g32 29), (g32 30)], []⟩) (fun N1 nn1 => ?_) ?_
     ·refine xblock ?_
      refine wp_loop_k (fun n a w => ∃ z26 z27 z28 z29_0 z29_1, dsamp_Values.l1 K n r25 z26 z27 z28 z29_0 z29_1 = some t1 ∧ St w0 [] [.ownL (CI .u8) r25_A r25_n r25_c r25 5, .obj l16 (.loop (rec16 .ready none)), .obj D16 (.deferred (some [])), .blk b14 ([.int .i64 12288]) 3, .blk b13 (([.int .i64 r24_0] : List Value) ++ enc .u64 r24_1 ++ ([.int .i64 r24_2, .bool r24_3] : List Value)) 50, .ownL CS s11_A s11_n s11_c ([(a0_A, a0_n, a0_c), (s10_A, s10_n, s10_c)] : List HS) 22, .ownL (CI .u8) s10_A s10_n s10_c ([a2, a1] : List Int) 5, .blk b5 ([.int .i64 z27]) 3, .blk b4 ([.int .i32 z28]) 21, .blk b3 ([.pointer (some ⟨b2, 0, none⟩)]) 41, .blk b2 (([] : List Value) ++ enc .i32 z29_0 ++ ([.int .i64 z29_1] : List Value)) 43, .blk b1 (enc .i32 (zeroA 256)) 26] [.rowL (CI .u8) a0_A a0_n a0_c a0, .rowL (CA .u64 24 (by decide)) (some ⟨0, 0, none⟩) 1 1 ([tab_0]), .rowL (CA .i64 24 (by decide)) (some ⟨1, 0, none⟩) 1 1 ([tab_1]), .rowL (CA .i64 24 (by decide)) (some ⟨2, 0, none⟩) 1 1 ([tab_2])] w ∧ ∃ g31 : Nat → Value, a = ⟨#[.func (.yield l16) #[] #[], .pointer (some ⟨b14, 0, none⟩), .pointer (some ⟨b13, 0, none⟩), undef, .int .i64 z15, .slice r25_A r25_n r25_c, undef, (g31 7), .int .i64 12288, .int .i64 z15, .bool true, (g19 11), (g19 12), .tuple #[.agg (([.int .i64 r24_0] : List Value) ++ enc .u64 r24_1 ++ ([.int .i64 r24_2, .bool r24_3] : List Value)).toArray, .slice r25_A r25_n r25_c], .agg (([.int .i64 z16_0] : List Value) ++ enc .u64 z16_1 ++ ([.int .i64 z16_2, .bool z16_3] : List Value)).toArray, .int .i64 z15, .int .i64 (imin 136 z15), .tuple #[.agg (([.int .i64 r24_0] : List Value) ++ enc .u64 r24_1 ++ ([.int .i64 r24_2, .bool r24_3] : List Value)).toArray, .slice r25_A r25_n r25_c], .agg (([.int .i64 r24_0] : List Value) ++ enc .u64 r24_1 ++ ([.int .i64 r24_2, .bool r24_3] : List Value)).toArray, .slice r25_A r25_n r25_c, .slice r25_A r25_n r25_c, .int .i64 (r25.length : Int), .int .i64 z26, (g31 23), (g31 24), (g31 25), (g31 26), (g31 27), (g31 28), (g31 29), (g31 30)], []⟩) K ⟨0, z17, z18, z19_0, z19_1, hy, hs.conv rfl, exg (by kernel_rfl)⟩ ?_
      clear hs h hy
      rintro n a w ⟨z26, z27, z28, z29_0, z29_1, h, hs, g31, rfl⟩ KL1 kl1
      cases n with
      | zero => exact nomatch (show none = some _ from h)
      | succ n =>
       refine xseq_k fun KS33 ks33 => ?_
       refine xregS [0] fun KR34 kr34 => ?_
       rcases of_if h with ⟨hc, h⟩ | ⟨hc, h⟩
       ·refine wpS.tk 0 false (some 23) (.bool true) (yld_b (dt hc) (fun _ => by kernel_rfl)) ?_
        refine wpS.fin rfl (kr34 _ _ (then_n (ks33 _ _ (xseq_k fun KS35 ks35 => (wp_cond_t (by kernel_rfl) (xskip (then_n (ks35 _ _ ?_))))))))
        obtain ⟨tv37, hj, hk_37⟩ := of_bind h
        refine xseq_k fun KS37 ks37 => wp_exj (N := fun a w => ∃ y33 y34 y35_0 y35_1, tv37 = .inl (y33, y34, y35_0, y35_1) ∧ St w0 [] [.ownL (CI .u8) r25_A r25_n r25_c r25 5, .obj l16 (.loop (rec16 .ready none)), .obj D16 (.deferred (some [])), .blk b14 ([.int .i64 12288]) 3, .blk b13 (([.int .i64 r24_0] : List Value) ++ enc .u64 r24_1 ++ ([.int .i64 r24_2, .bool r24_3] : List Value)) 50, .ownL CS s11_A s11_n s11_c ([(a0_A, a0_n, a0_c), (s10_A, s10_n, s10_c)] : List HS) 22, .ownL (CI .u8) s10_A s10_n s10_c ([a2, a1] : List Int) 5, .blk b5 ([.int .i64 y33]) 3, .blk b4 ([.int .i32 y34]) 21, .blk b3 ([.pointer (some ⟨b2, 0, none⟩)]) 41, .blk b2 (([] : List Value) ++ enc .i32 y35_0 ++ ([.int .i64 y35_1] : List Value)) 43, .blk b1 (enc .i32 (zeroA 256)) 26] [.rowL (CI .u8) a0_A a0_n a0_c a0, .rowL (CA .u64 24 (by decide)) (some ⟨0, 0, none⟩) 1 1 ([tab_0]), .rowL (CA .i64 24 (by decide)) (some ⟨1, 0, none⟩) 1 1 ([tab_1]), .rowL (CA .i64 24 (by decide)) (some ⟨2, 0, none⟩) 1 1 ([tab_2])] w ∧ ∃ g36 : Nat → Value, a = ⟨#[.func (.yield l16) #[] #[], .pointer (some ⟨b14, 0, none⟩), .pointer (some ⟨b13, 0, none⟩), undef, .int .i64 z15, .slice r25_A r25_n r25_c, undef, (g36 7), .int .i64 12288, .int .i64 z15, .bool true, (g19 11), (g19 12), .tuple #[.agg (([.int .i64 r24_0] : List Value) ++ enc .u64 r24_1 ++ ([.int .i64 r24_2, .bool r24_3] : List Value)).toArray, .slice r25_A r25_n r25_c], .agg (([.int .i64 z16_0] : List Value) ++ enc .u64 z16_1 ++ ([.int .i64 z16_2, .bool z16_3] : List Value)).toArray, .int .i64 z15, .int .i64 (imin 136 z15), .tuple #[.agg (([.int .i64 r24_0] : List Value) ++ enc .u64 r24_1 ++ ([.int .i64 r24_2, .bool r24_3] : List Value)).toArray, .slice r25_A r25_n r25_c], .agg (([.int .i64 r24_0] : List Value) ++ enc .u64 r24_1 ++ ([.int .i64 r24_2, .bool r24_3] : List Value)).toArray, .slice r25_A r25_n r25_c, .slice r25_A r25_n r25_c, .int .i64 (r25.length : Int), .int .i64 z26, .bool true, (g36 24), (g36 25), (g36 26), (g36 27), (g36 28), (g36 29), (g31 30)], []⟩) (fun N nj => ?_) ?_
        ·clear h
         have h := hj
         refine xblock (xseq_k fun KS38 ks38 => (xregS [0, 1, 2] fun KR39 kr39 => ?_))
         obtain ⟨h0, h⟩ := of_chk h
         obtain ⟨h1, h⟩ := of_chk h
         have i0_40 := h0
         have i1_40 := h1
         refine wpS.tk 0 false (some 24) (.pointer (adr r25_A ((z26 : Int).toNat * Cod.size (CI .u8)))) (yld_idxL (C := (CI .u8)) (t := 22) (e := 5) (k := .i64) (x := z26) (hs.rowL 0 rfl) (by kernel_rfl) (by kernel_rfl) (by kernel_rfl) h0 h1) ?_
         refine wpS.tk 1 true (some 25) (.int .u8 (rdL (CI .u8) r25 z26)) (yld_loadL (C := (CI .u8)) (e := 5) (x := z26) (hs.rowL 0 rfl) (by kernel_rfl) rfl (by kernel_rfl) i0_40 i1_40) ?_
         obtain ⟨x36, hx, h⟩ := of_bind h
         refine wpS.tk 2 false (some 7) (.int .u8 x36) (yld_int hx (fun _ => by kernel_rfl)) ?_
         refine wpS.fin rfl (kr39 _ _ (then_n (ks38 _ _ (xseq_k fun KS41 ks41 => (xregS [0, 1, 2, 3] fun KR42 kr42 => ?_)))))
         refine wpS.qs [(0, 26, .func (.yield l16) #[] #[]), (1, 27, .int .u8 x36)] ?_
         refine wpS.onlyR 2 (op_yield (d := (some 28)) (by kernel_rfl) hs 1 rfl hok16 #[.int .u8 x36] (by kernel_rfl) rfl (tm := #[.slice a0_A a0_n a0_c, .int .u8 a1, .int .u8 a2, undef, undef, undef, .pointer (some ⟨b1, 0, none⟩), .int .i64 0, .pointer (some ⟨b3, 0, none⟩), .pointer (some ⟨b4, 0, none⟩), .pointer (some ⟨b5, 0, none⟩), undef, undef, .agg (([] : List Value) ++ enc .i32 (zeroA 256) ++ ([.int .i64 0] : List Value)).toArray, .pointer (some ⟨b2, 0, none⟩), .slice a0_A a0_n a0_c, .int .u8 a2, .int .u8 a1, .slice s10_A s10_n s10_c, .slice s11_A s11_n s11_c, .agg (([.int .i64 r12_0] : List Value) ++ enc .u64 r12_1 ++ ([.int .i64 r12_2, .bool r12_3] : List Value)).toArray, .func (.func 32) #[] #[.pointer (some ⟨b14, 0, none⟩), .pointer (some ⟨b13, 0, none⟩)], .int .u8 x36, undef, undef, undef, undef, undef, undef, undef, undef, undef, undef, undef, undef, undef, undef, undef, undef, undef, undef, undef, undef, undef, undef, undef, undef, undef]) (by kernel_rfl) (by kernel_rfl) fun K43 k43 => ?_)
         refine xregS [0] fun KR44 kr44 => ?_
         refine wpS.q 0 11 (.int .u8 x36) ?_
         refine wpS.fin rfl (kr44 _ _ (then_n (k43 _ _ 1 _ _ hs rfl fun w Qr43 hs qr43 => ?_)))
         try dsimp only [List.set] at hs
         refine xblock (xseq_k fun KS45 ks45 => ?_)
         refine wp_regG [7] (fun k => True) 8 (by kernel_rfl) (by kernel_rfl) (by kernel_rfl) fun KR46 kr46 => ?_
         have hs := hs.drawn1
         refine wpG.tD 0 true (some 23) (.int .i32 z28) (yld_load1 (e := 21) (o := 0) hs 8 rfl (by kernel_rfl) (by kernel_rfl) (by rfl) .grow) ?_
         refine wpG.q 1 24 (.int .u8 x36) ?_
         refine wpG.q 2 25 (.int .i32 (iconv .i32 x36)) ?_
         refine wpG.tD 3 true (some 26) (.int .i64 z27) (yld_load1 (e := 3) (o := 0) hs 7 rfl (by kernel_rfl) (by kernel_rfl) (by rfl) .grow) ?_
         refine wpG.q 4 27 (.int .i64 (imul .i64 8 z27)) ?_
         obtain ⟨h0, h⟩ := of_chk h
         refine wpG.tD 5 false (some 28) (.int .i32 (ishl .i32 (iconv .i32 x36) (imul .i64 8 z27))) (yld_shl (t := 21) (k' := .i64) (by kernel_rfl) h0) ?_
         refine wpG.q 6 29 (.int .i32 (ior .i32 z28 (ishl .i32 (iconv .i32 x36) (imul .i64 8 z27)))) ?_
         obtain ⟨x37, hx, h⟩ := of_bind h
         refine wpG.only 7 (by kernel_rfl) (op_store1 (t := 21) (o := 0) (v := .int .i32 x37) (d := none) (by kernel_rfl) hs 8 rfl (by cases hx; kernel_rfl) rfl (by kernel_rfl) (by simp) ?_)
         intro w kp hs
         refine ⟨⟨fun hf => absurd hf (by decide), .all _ _⟩, ?_⟩
         refine wpG.fin (by kernel_rfl) rfl (kr46 _ _ ?_)
         refine then_n (ks45 _ _ (xseq_k fun KS47 ks47 => (xseq_k fun KS48 ks48 => (xregS [0, 1, 2] fun KR49 kr49 => ?_))))
         refine wpS.tk 0 true (some 30) (.int .i64 z27) (yld_load1 (e := 3) (o := 0) hs 7 rfl (by kernel_rfl) (by kernel_rfl) (by rfl) .grow) ?_
         refine wpS.q 1 31 (.int .i64 (iadd .i64 z27 1)) ?_
         obtain ⟨x38, hx, h⟩ := of_bind h
         refine wpS.only 2 (op_store1 (t := 3) (o := 0) (v := .int .i64 x38) (d := none) (by kernel_rfl) hs 7 rfl (by cases hx; kernel_rfl) rfl (by kernel_rfl) (by simp) ?_)
         intro w kp hs
         refine ⟨fun _ => trivial, ?_⟩
         refine wpS.fin rfl (kr49 _ _ (then_n (ks48 _ _ (xseq_k fun KS50 ks50 => (xregS [0, 1] fun KR51 kr51 => ?_)))))
         refine wpS.tk 0 true (some 32) (.int .i64 x38) (yld_load1 (e := 3) (o := 0) hs 7 rfl (by kernel_rfl) (by kernel_rfl) (by rfl) .grow) ?_
         rcases of_if h with ⟨hc, h⟩ | ⟨hc, h⟩
         ·refine wpS.tk 1 false (some 33) (.bool true) (yld_b (dt hc) (fun _ => by kernel_rfl)) ?_
          refine wpS.fin rfl (kr51 _ _ (then_n (ks50 _ _ (wp_cond_t (by kernel_rfl) (xexit (then_x (inBlock_hit ?_)))))))
          refine round_n qr43 hs 1 rfl fun w hs => ?_
          try dsimp only [List.set] at hs
          refine ⟨fun _ => trivial, ?_⟩
          refine wpS.q 3 29 (.bool false) ?_
          refine wpS.fin rfl (kr42 _ _ (then_n (ks41 _ _ (wp_cond_f (by kernel_rfl) (xskip (inBlock_n ?_))))))
          have q0 := of_some h
          subst q0
          exact exj_n (nj _ _ ⟨x38, x37, z29_0, z29_1, rfl, (hs.conv rfl), exg (by kernel_rfl)⟩)
         refine wpS.tk 1 false (some 33) (.bool false) (yld_b (df hc) (fun _ => by kernel_rfl)) ?_
         refine wpS.fin rfl (kr51 _ _ (then_n (ks50 _ _ (wp_cond_f (by kernel_rfl) (xskip (then_n (ks47 _ _ (xseq_k fun KS52 ks52 => (xregS [0, 1, 2] fun KR53 kr53 => ?_)))))))))
         refine wpS.tk 0 true (some 34) (.int .i32 x37) (yld_load1 (e := 21) (o := 0) hs 8 rfl (by kernel_rfl) (by kernel_rfl) (by rfl) .grow) ?_
         refine wpS.q 1 35 (.int .i32 (iand .i32 x37 8388607)) ?_
         obtain ⟨x39, hx, h⟩ := of_bind h
         refine wpS.tk 2 false (some 12) (.int .i32 x39) (yld_int hx (fun _ => by kernel_rfl)) ?_
         refine wpS.fin rfl (kr53 _ _ (then_n (ks52 _ _ (xseq_k fun KS54 ks54 => (xregS [0, 1] fun KR55 kr55 => ?_)))))
         refine wpS.only 0 (op_store1 (t := 21) (o := 0) (v := .int .i32 0) (d := none) (by kernel_rfl) hs 8 rfl (by kernel_rfl) rfl (by kernel_rfl) (by simp) ?_)
         intro w kp hs
         refine ⟨fun _ => trivial, ?_⟩
         refine wpS.only 1 (op_store1 (t := 3) (o := 0) (v := .int .i64 0) (d := none) (by kernel_rfl) hs 7 rfl (by kernel_rfl) rfl (by kernel_rfl) (by simp) ?_)
         intro w kp hs
         refine ⟨fun _ => trivial, ?_⟩
         refine wpS.fin rfl (kr55 _ _ (then_n (ks54 _ _ (xseq_k fun KS56 ks56 => (xregS [0, 1, 2, 3, 4, 5, 6, 7] fun KR57 kr57 => ?_)))))
         refine wpS.q 0 36 (.int .i32 x39) ?_
         rcases of_if h with ⟨hc, h⟩ | ⟨hc, h⟩
         ·refine wpS.tk 1 false (some 37) (.bool true) (yld_b (dt hc) (fun _ => by kernel_rfl)) ?_
          refine wpS.q 2 38 (.bool true) ?_
          refine wpS.tk 3 true (some 39) (.pointer (some ⟨b2, 0, none⟩)) (yld_load1 (e := 41) (o := 0) hs 9 rfl (by kernel_rfl) (by kernel_rfl) (by rfl) .grow) ?_
          refine wpS.q 4 40 (.int .i32 x39) ?_
          obtain ⟨⟨r40, r41_0, r41_1⟩, hg, h⟩ := of_bind h
          cases r40 with
          | true =>
           have h := of_if_t h
           refine wpS.only 5 (op_callX (d := (some 41)) (by kernel_rfl) hs 10 rfl (fun _ => by kernel_rfl) (dsamp_filler_put.ok hg _ (hs.blkAt 10 rfl)) ?_)
           intro w kp hs
           have hs := hs.conv (L' := [.ownL (CI .u8) r25_A r25_n r25_c r25 5, .obj l16 (.loop (rec16 .busy none)), .obj D16 (.deferred (some [])), .blk b14 ([.int .i64 12288]) 3, .blk b13 (([.int .i64 r24_0] : List Value) ++ enc .u64 r24_1 ++ ([.int .i64 r24_2, .bool r24_3] : List Value)) 50, .ownL CS s11_A s11_n s11_c ([(a0_A, a0_n, a0_c), (s10_A, s10_n, s10_c)] : List HS) 22, .ownL (CI .u8) s10_A s10_n s10_c ([a2, a1] : List Int) 5, .blk b5 ([.int .i64 0]) 3, .blk b4 ([.int .i32 0]) 21, .blk b3 ([.pointer (some ⟨b2, 0, none⟩)]) 41, .blk b2 (([] : List Value) ++ enc .i32 r41_0 ++ ([.int .i64 r41_1] : List Value)) 43, .blk b1 (enc .i32 (zeroA 256)) 26]) rfl
           refine ⟨fun _ => trivial, ?_⟩
           refine wpS.qs [(6, 42, .bool false), (7, 43, .bool false)] ?_
           refine wpS.fin rfl (kr57 _ _ (then_n (ks56 _ _ (wp_cond_f (by kernel_rfl) (xskip (inBlock_n ?_))))))
           refine round_n qr43 hs 1 rfl fun w hs => ?_
           try dsimp only [List.set] at hs
           refine ⟨fun _ => trivial, ?_⟩
           refine wpS.q 3 29 (.bool false) ?_
           refine wpS.fin rfl (kr42 _ _ (then_n (ks41 _ _ (wp_cond_f (by kernel_rfl) (xskip (inBlock_n ?_))))))
           have q0 := of_some h
           subst q0
           exact exj_n (nj _ _ ⟨0, 0, r41_0, r41_1, rfl, (hs.conv rfl), exg (by kernel_rfl)⟩)
          | false =>
           have h := of_if_f h
           refine wpS.only 5 (op_callX (d := (some 41)) (by kernel_rfl) hs 10 rfl (fun _ => by kernel_rfl) (dsamp_filler_put.ok hg _ (hs.blkAt 10 rfl)) ?_)
           intro w kp hs
           have hs := hs.conv (L' := [.ownL (CI .u8) r25_A r25_n r25_c r25 5, .obj l16 (.loop (rec16 .busy none)), .obj D16 (.deferred (some [])), .blk b14 ([.int .i64 12288]) 3, .blk b13 (([.int .i64 r24_0] : List Value) ++ enc .u64 r24_1 ++ ([.int .i64 r24_2, .bool r24_3] : List Value)) 50, .ownL CS s11_A s11_n s11_c ([(a0_A, a0_n, a0_c), (s10_A, s10_n, s10_c)] : List HS) 22, .ownL (CI .u8) s10_A s10_n s10_c ([a2, a1] : List Int) 5, .blk b5 ([.int .i64 0]) 3, .blk b4 ([.int .i32 0]) 21, .blk b3 ([.pointer (some ⟨b2, 0, none⟩)]) 41, .blk b2 (([] : List Value) ++ enc .i32 r41_0 ++ ([.int .i64 r41_1] : List Value)) 43, .blk b1 (enc .i32 (zeroA 256)) 26]) rfl
           refine ⟨fun _ => trivial, ?_⟩
           refine wpS.qs [(6, 42, .bool true), (7, 43, .bool true)] ?_
           refine wpS.fin rfl (kr57 _ _ (then_n (ks56 _ _ (wp_cond_t (by kernel_rfl) (xexit (inBlock_miss (by decide) ?_))))))
           refine round_x qr43 hs 1 rfl fun w hs => ?_
           try dsimp only [List.set] at hs
           refine ⟨fun _ => trivial, ?_⟩
           refine wpS.q 3 29 (.bool true) ?_
           refine wpS.fin rfl (kr42 _ _ (then_n (ks41 _ _ (wp_cond_t (by kernel_rfl) (xret (inBlock_r ?_))))))
           have q0 := of_some h
           subst q0
           have h := hk_37
           refine exj_r ?_
           refine then_r (then_r (inBlock_r (exq_r (inBlock_r (then_r (then_r (inBlock_r (exq_r ?_))))))))
           refine qq16 _ _ (post_ret (by kernel_rfl) (run_results [] [] (by kernel_rfl) .nil) ?_)
           refine range_j (a1 := ⟨#[.slice a0_A a0_n a0_c, .int .u8 a1, .int .u8 a2, undef, undef, undef, .pointer (some ⟨b1, 0, none⟩), .int .i64 0, .pointer (some ⟨b3, 0, none⟩), .pointer (some ⟨b4, 0, none⟩), .pointer (some ⟨b5, 0, none⟩), undef, undef, .agg (([] : List Value) ++ enc .i32 (zeroA 256) ++ ([.int .i64 0] : List Value)).toArray, .pointer (some ⟨b2, 0, none⟩), .slice a0_A a0_n a0_c, .int .u8 a2, .int .u8 a1, .slice s10_A s10_n s10_c, .slice s11_A s11_n s11_c, .agg (([.int .i64 r12_0] : List Value) ++ enc .u64 r12_1 ++ ([.int .i64 r12_2, .bool r12_3] : List Value)).toArray, .func (.func 32) #[] #[.pointer (some ⟨b14, 0, none⟩), .pointer (some ⟨b13, 0, none⟩)], undef, undef, undef, undef, undef, undef, undef, undef, undef, undef, undef, undef, undef, undef, undef, undef, undef, undef, undef, undef, undef, undef, undef, undef, undef, undef], [lmark D16]⟩) (.exit 0) kR16 (by kernel_rfl) hs 1 rfl fun w hs => ?_
           try dsimp only [List.set] at hs
           refine xexit (inBlock_hit ?_)
           have q0 := of_some h
           subst q0
           have q0 := of_some hk1
           subst q0
           obtain ⟨q0, qr0⟩ := Prod.mk.inj (of_some hk0)
           obtain ⟨q1, qr1⟩ := Prod.mk.inj (qr0)
           obtain ⟨q2, qr2⟩ := Prod.mk.inj (qr1)
           have q3 := qr2
           subst q0
           subst q1
           subst q2
           subst q3
           exact nj _ _ ⟨D16, (hs.drop (.cons _ (.cons _ (.cons_cons _ (.cons _ (.cons _ (.cons _ (.cons _ (.cons_cons _ (.cons_cons _ (.cons_cons _ (.cons_cons _ (.cons_cons _ .slnil))))))))))))), exg (by kernel_rfl)⟩
         refine wpS.tk 1 false (some 37) (.bool false) (yld_b (df hc) (fun _ => by kernel_rfl)) ?_
         refine wpS.qs [(2, 38, .bool false), (3, 39, undef), (4, 40, undef), (5, 41, undef), (6, 42, undef), (7, 43, .bool false)] ?_
         refine wpS.fin rfl (kr57 _ _ (then_n (ks56 _ _ (wp_cond_f (by kernel_rfl) (xskip (inBlock_n ?_))))))
         refine round_n qr43 hs 1 rfl fun w hs => ?_
         try dsimp only [List.set] at hs
         refine ⟨fun _ => trivial, ?_⟩
         refine wpS.q 3 29 (.bool false) ?_
         refine wpS.fin rfl (kr42 _ _ (then_n (ks41 _ _ (wp_cond_f (by kernel_rfl) (xskip (inBlock_n ?_))))))
         have q0 := of_some h
         subst q0
         exact exj_n (nj _ _ ⟨0, 0, z29_0, z29_1, rfl, (hs.conv rfl), exg (by kernel_rfl)⟩)
        clear hj hs
        rintro a w ⟨y33, y34, y35_0, y35_1, rfl, hs, g36, rfl⟩
        have h := hk_37
        refine then_n (ks37 _ _ (xregS [0, 1] fun KR58 kr58 => ?_))
        refine wpS.qs [(0, 30, .int .i64 (iadd .i64 z26 1)), (1, 22, .int .i64 (iadd .i64 z26 1))] ?_
        refine wpS.fin rfl (kr58 _ _ ?_)
        exact then_n (kl1 _ _ ⟨n, Nat.lt_succ_self n, (iadd .i64 z26 1), y33, y34, y35_0, y35_1, h, (hs.conv rfl), exg (by kernel_rfl)⟩)
       refine wpS.tk 0 false (some 23) (.bool false) (yld_b (df hc) (fun _ => by kernel_rfl)) ?_
       refine wpS.fin rfl (kr34 _ _ (then_n (ks33 _ _ (xseq_k fun KS59 ks59 => (wp_cond_f (by kernel_rfl) (xexit (then_x (then_x (inBlock_hit ?_)))))))))
       have q0 := of_some h
       subst q0
       exact exq_n (nn1 _ _ ⟨z27, z28, z29_0, z29_1, rfl, (hs.conv rfl), exg (by kernel_rfl)⟩)
     clear hs h hy
     rintro a w ⟨y30, y31, y32_0, y32_1, rfl, hs, g32, rfl⟩
     have h := hk1
     refine inBlock_n (then_n (ks24 _ _ (xregS [0, 1, 2] fun KR60 kr60 => ?_)))
     refine wpS.qs [(0, 11, .int .i64 z15), (1, 12, .int .i64 (isub .i64 z15 136))] ?_
     obtain ⟨x42, hx, h⟩ := of_bind h
     refine wpS.tk 2 false (some 4) (.int .i64 x42) (yld_int hx (fun _ => by kernel_rfl)) ?_
     refine wpS.fin rfl (kr60 _ _ ?_)
     exact then_n (kl0 _ _ ⟨n, Nat.lt_succ_self n, x42, r24_0, r24_1, r24_2, r24_3, y30, y31, y32_0, y32_1, h, (hs.drop (.cons _ (.cons_cons _ (.cons_cons _ (.cons_cons _ (.cons_cons _ (.cons_cons _ (.cons_cons _ (.cons_cons _ (.cons_cons _ (.cons_cons _ (.cons_cons _ (.cons_cons _ .slnil))))))))))))), exg (by kernel_rfl)⟩)
    refine wpS.tk 1 false (some 10) (.bool false) (yld_b (df hc) (fun _ => by kernel_rfl)) ?_
    refine wpS.fin rfl (kr23 _ _ (then_n (ks22 _ _ (wp_cond_f (by kernel_rfl) (xexit (then_x (then_x (inBlock_hit ?_))))))))
    have q0 := of_some h
    subst q0
    exact exq_n (nn0 _ _ ⟨z16_0, z16_1, z16_2, z16_3, z17, z18, z19_0, z19_1, rfl, (hs.conv rfl), exg (by kernel_rfl)⟩)
  clear hs h hy
  rintro a w ⟨y20_0, y20_1, y20_2, y20_3, y21, y22, y23_0, y23_1, rfl, hs, g20, rfl⟩
  have h := hk0
  refine qn16 _ _ (post_nrm (by kernel_rfl) (run_results [] [] (by kernel_rfl) .nil) ?_)
  refine range_n (a1 := ⟨#[.slice a0_A a0_n a0_c, .int .u8 a1, .int .u8 a2, undef, undef, undef, .pointer (some ⟨b1, 0, none⟩), .int .i64 0, .pointer (some ⟨b3, 0, none⟩), .pointer (some ⟨b4, 0, none⟩), .pointer (some ⟨b5, 0, none⟩), undef, undef, .agg (([] : List Value) ++ enc .i32 (zeroA 256) ++ ([.int .i64 0] : List Value)).toArray, .pointer (some ⟨b2, 0, none⟩), .slice a0_A a0_n a0_c, .int .u8 a2, .int .u8 a1, .slice s10_A s10_n s10_c, .slice s11_A s11_n s11_c, .agg (([.int .i64 r12_0] : List Value) ++ enc .u64 r12_1 ++ ([.int .i64 r12_2, .bool r12_3] : List Value)).toArray, .func (.func 32) #[] #[.pointer (some ⟨b14, 0, none⟩), .pointer (some ⟨b13, 0, none⟩)], undef, undef, undef, undef, undef, undef, undef, undef, undef, undef, undef, undef, undef, undef, undef, undef, undef, undef, undef, undef, undef, undef, undef, undef, undef, undef], [lmark D16]⟩) kR16 (by kernel_rfl) hs 0 rfl fun w hs => ?_
  try dsimp only [List.set] at hs
  refine inBlock_n ?_
  obtain ⟨q0, qr0⟩ := Prod.mk.inj (of_some h)
  obtain ⟨q1, qr1⟩ := Prod.mk.inj (qr0)
  obtain ⟨q2, qr2⟩ := Prod.mk.inj (qr1)
  have q3 := qr2
  subst q0
  subst q1
  subst q2
  subst q3
  exact nj _ _ ⟨D16, (hs.drop (.cons _ (.cons_cons _ (.cons _ (.cons _ (.cons _ (.cons _ (.cons_cons _ (.cons_cons _ (.cons_cons _ (.cons_cons _ (.cons_cons _ .slnil)))))))))))), exg (by kernel_rfl)⟩
 clear hj hs
 rintro a w ⟨D6, hs, g7, rfl⟩
 refine then_n (ks8 _ _ (xseq_k fun KS61 ks61 => (xregS [0, 1, 2, 3, 4, 5] fun KR62 kr62 => ?_)))
 refine wpS.tk 0 true (some 44) (.pointer (some ⟨b2, 0, none⟩)) (yld_load1 (e := 41) (o := 0) hs 3 rfl (by kernel_rfl) (by kernel_rfl) (by rfl) .grow) ?_
 obtain ⟨⟨r43, r44⟩, hg, h⟩ := of_bind h
 refine wpS.only 1 (op_callX (d := (some 45)) (by kernel_rfl) hs 4 rfl (fun _ => by kernel_rfl) (dsamp_filler_done.ok hg _ (hs.blkAt 4 rfl)) ?_)
 intro w kp hs
 have hs := hs.conv (L' := [.obj D6 (.deferred (some [])), .blk b5 ([.int .i64 y7]) 3, .blk b4 ([.int .i32 y8]) 21, .blk b3 ([.pointer (some ⟨b2, 0, none⟩)]) 41, .blk b2 (([] : List Value) ++ enc .i32 y9_0 ++ ([.int .i64 y9_1] : List Value)) 43, .blk b1 (enc .i32 (zeroA 256)) 26]) rfl
 refine ⟨fun _ => trivial, ?_⟩
 refine wpS.qs [(2, 46, .agg (enc .i32 r43).toArray), (3, 47, .int .i64 r44)] ?_
 refine wpS.only 4 (op_storeW (t := 26) (v := .agg (enc .i32 r43).toArray) (d := none) (by kernel_rfl) hs 5 rfl (vs := enc .i32 r43) (n := 256) (by kernel_rfl) (by kernel_rfl) (by kernel_rfl) (by simp [enc_len]) (by simp [enc_len]) (by intro u hu; exact enc_one _ _ u hu) ?_)
 intro w kp hs
 refine ⟨fun _ => trivial, ?_⟩
 refine wpS.q 5 7 (.int .i64 r44) ?_
 refine wpS.fin rfl (kr62 _ _ (then_n (ks61 _ _ (xret ?_))))
 obtain ⟨q0, qr0⟩ := Prod.mk.inj (of_some h)
 have q1 := qr0
 subst q0
 subst q1
 refine qq _ _ ?_
 refine leaves_mark hs 0 rfl fun w hs => ?_
 try dsimp only [List.set] at hs
 exact leaves_end (run_results [.cell 6 26, .tmp 7] [.agg (enc .i32 r43).toArray, .int .i64 r44] (by kernel_rfl) (.cons (res_cellN (n := 256) hs 5 rfl (by kernel_rfl) (by kernel_rfl) (by kernel_rfl) (by exact enc_len _ _)) (.cons (res_tmp (by kernel_rfl)) .nil))) ⟨congrArg Ending.returned (by kernel_rfl), hs.none⟩

theorem dpack_span_fit.ok {K : Nat} {a0_0 : Int} {a0_1 : Int} {r0 : Bool} (h : dpack_span_fit.f K a0_0 a0_1 = some r0) (w0 : World) : Ret Tryd.prog 42 #[.agg #[.int .i32 a0_0, .int .i32 a0_1]] w0 (.bool r0) := by
 refine calls_k Tryd.func42 rfl fun Q qq => ?_
 have hs := St.start w0
 refine wp_conv (a' := ⟨#[.agg #[.int .i32 a0_0, .int .i32 a0_1], undef, undef, undef, undef, undef, undef, undef, undef, undef, undef, undef, undef, undef, undef, undef, undef, undef, undef, undef, undef], []⟩) (by kernel_rfl) ?_
 refine xseq_k fun KS1 ks1 => ?_
 refine xregS [0, 1] fun KR2 kr2 => ?_
 refine wpS.only 0 (op_box (t := 79) (v := .agg #[.int .i32 a0_0, .int .i32 a0_1]) (d := (some 1)) (by kernel_rfl) hs ([.int .i32 a0_0, .int .i32 a0_1]) (by kernel_rfl) (by kernel_rfl) ?_)
 intro b1 w gw hs
 refine ⟨fun _ => trivial, ?_⟩
 refine wpS.q 1 2 (.bool false) ?_
 refine wpS.fin rfl (kr2 _ _ (then_n (ks1 _ _ (xseq_k fun KS3 ks3 => (xregS [0, 1, 2, 3, 4, 5, 6, 7, 8, 9, 10, 11, 12, 13, 14, 15, 16, 17, 18] fun KR4 kr4 => ?_)))))
 refine wpS.q 0 3 (.pointer (some ⟨b1, 0, none⟩)) ?_
 refine wpS.tk 1 true (some 4) (.int .i32 a0_0) (yld_load1 (e := 21) (o := 0) hs 0 rfl (by kernel_rfl) (by kernel_rfl) (by rfl) .grow) ?_
 rcases of_if h with ⟨hc, h⟩ | ⟨hc, h⟩
 ·refine wpS.tk 2 false (some 5) (.bool true) (yld_b (dt hc) (fun _ => by kernel_rfl)) ?_
  refine wpS.qs [(3, 6, .bool true), (4, 7, .pointer (some ⟨b1, 0, none⟩))] ?_
  refine wpS.tk 5 true (some 8) (.int .i32 a0_0) (yld_load1 (e := 21) (o := 0) hs 0 rfl (by kernel_rfl) (by kernel_rfl) (by rfl) .grow) ?_
  rcases of_if h with ⟨hc, h⟩ | ⟨hc, h⟩
  ·refine wpS.tk 6 false (some 9) (.bool true) (yld_b (dt hc) (fun _ => by kernel_rfl)) ?_
   refine wpS.qs [(7, 10, .bool true), (8, 11, .bool true), (9, 12, .pointer (some ⟨b1, 1, none⟩))] ?_
   refine wpS.tk 10 true (some 13) (.int .i32 a0_1) (yld_load1 (e := 21) (o := 1) hs 0 rfl (by kernel_rfl) (by kernel_rfl) (by rfl) .grow) ?_
   rcases of_if h with ⟨hc, h⟩ | ⟨hc, h⟩
   ·refine wpS.tk 11 false (some 14) (.bool true) (yld_b (dt hc) (fun _ => by kernel_rfl)) ?_
    refine wpS.qs [(12, 15, .bool true), (13, 16, .bool true), (14, 17, .pointer (some ⟨b1, 1, none⟩))] ?_
    refine wpS.tk 15 true (some 18) (.int .i32 a0_1) (yld_load1 (e := 21) (o := 1) hs 0 rfl (by kernel_rfl) (by kernel_rfl) (by rfl) .grow) ?_
    refine wpS.qs [(16, 19, .bool (decide (a0_1 ≤ 1048576))), (17, 20, .bool (decide (a0_1 ≤ 1048576))), (18, 2, .bool (decide (a0_1 ≤ 1048576)))] ?_
    refine wpS.fin rfl (kr4 _ _ (then_n (ks3 _ _ (xret ?_))))
    have q0 := of_some h
    subst q0
    exact qq _ _ (post_ret (by kernel_rfl) (run_results [.tmp 2] [.bool (decide (a0_1 ≤ 1048576))] (by kernel_rfl) (.cons (res_tmp (by kernel_rfl)) .nil)) ⟨congrArg Ending.returned (by kernel_rfl), hs.none⟩)
   refine wpS.tk 11 false (some 14) (.bool false) (yld_b (df hc) (fun _ => by kernel_rfl)) ?_
   refine wpS.qs [(12, 15, .bool false), (13, 16, .bool false), (14, 17, undef), (15, 18, undef), (16, 19, undef), (17, 20, .bool false), (18, 2, .bool false)] ?_
   refine wpS.fin rfl (kr4 _ _ (then_n (ks3 _ _ (xret ?_))))
   have q0 := of_some h
   subst q0
   exact qq _ _ (post_ret (by kernel_rfl) (run_results [.tmp 2] [.bool false] (by kernel_rfl) (.cons (res_tmp (by kernel_rfl)) .nil)) ⟨congrArg Ending.returned (by kernel_rfl), hs.none⟩)
  refine wpS.tk 6 false (some 9) (.bool false) (yld_b (df hc) (fun _ => by kernel_rfl)) ?_
  refine wpS.qs [(7, 10, .bool false), (8, 11, .bool false), (9, 12, undef), (10, 13, undef), (11, 14, undef), (12, 15, .bool false), (13, 16, .bool false), (14, 17, undef), (15, 18, undef), (16, 19, undef), (17, 20, .bool false), (18, 2, .bool false)] ?_
  refine wpS.fin rfl (kr4 _ _ (then_n (ks3 _ _ (xret ?_))))
  have q0 := of_some h
  subst q0
  exact qq _ _ (post_ret (by kernel_rfl) (run_results [.tmp 2] [.bool false] (by kernel_rfl) (.cons (res_tmp (by kernel_rfl)) .nil)) ⟨congrArg Ending.returned (by kernel_rfl), hs.none⟩)
 refine wpS.tk 2 false (some 5) (.bool false) (yld_b (df hc) (fun _ => by kernel_rfl)) ?_
 refine wpS.qs [(3, 6, .bool false), (4, 7, undef), (5, 8, undef), (6, 9, undef), (7, 10, .bool false), (8, 11, .bool false), (9, 12, undef), (10, 13, undef), (11, 14, undef), (12, 15, .bool false), (13, 16, .bool false), (14, 17, undef), (15, 18, undef), (16, 19, undef), (17, 20, .bool false), (18, 2, .bool false)] ?_
 refine wpS.fin rfl (kr4 _ _ (then_n (ks3 _ _ (xret ?_))))
 have q0 := of_some h
 subst q0
 exact qq _ _ (post_ret (by kernel_rfl) (run_results [.tmp 2] [.bool false] (by kernel_rfl) (.cons (res_tmp (by kernel_rfl)) .nil)) ⟨congrArg Ending.returned (by kernel_rfl), hs.none⟩)

theorem dpack_span_all.ok {K : Nat} {a0_0 : Int} {a0_1 : Int} {r0 : Int} (h : dpack_span_all.f K a0_0 a0_1 = some r0) (w0 : World) : Ret Tryd.prog 46 #[.agg #[.int .i32 a0_0, .int .i32 a0_1]] w0 (.int .i32 r0) := by
 refine calls_k Tryd.func46 rfl fun Q qq => ?_
 have hs := St.start w0
 refine wp_conv (a' := ⟨#[.agg #[.int .i32 a0_0, .int .i32 a0_1], undef, undef, undef, undef, undef, undef, undef, undef], []⟩) (by kernel_rfl) ?_
 refine xseq_k fun KS1 ks1 => ?_
 refine xregS [0, 1] fun KR2 kr2 => ?_
 refine wpS.only 0 (op_box (t := 79) (v := .agg #[.int .i32 a0_0, .int .i32 a0_1]) (d := (some 1)) (by kernel_rfl) hs ([.int .i32 a0_0, .int .i32 a0_1]) (by kernel_rfl) (by kernel_rfl) ?_)
 intro b1 w gw hs
 refine ⟨fun _ => trivial, ?_⟩
 refine wpS.q 1 2 (.int .i32 0) ?_
 refine wpS.fin rfl (kr2 _ _ (then_n (ks1 _ _ (xseq_k fun KS3 ks3 => (xregS [0, 1, 2, 3, 4, 5, 6] fun KR4 kr4 => ?_)))))
 refine wpS.q 0 3 (.pointer (some ⟨b1, 0, none⟩)) ?_
 refine wpS.tk 1 true (some 4) (.int .i32 a0_0) (yld_load1 (e := 21) (o := 0) hs 0 rfl (by kernel_rfl) (by kernel_rfl) (by rfl) .grow) ?_
 refine wpS.qs [(2, 5, .int .i32 (imax a0_0 0)), (3, 6, .pointer (some ⟨b1, 1, none⟩))] ?_
 refine wpS.tk 4 true (some 7) (.int .i32 a0_1) (yld_load1 (e := 21) (o := 1) hs 0 rfl (by kernel_rfl) (by kernel_rfl) (by rfl) .grow) ?_
 refine wpS.q 5 8 (.int .i32 (iadd .i32 (imax a0_0 0) a0_1)) ?_
 obtain ⟨x2, hx, h⟩ := of_bind h
 refine wpS.tk 6 false (some 2) (.int .i32 x2) (yld_int hx (fun _ => by kernel_rfl)) ?_
 refine wpS.fin rfl (kr4 _ _ (then_n (ks3 _ _ (xret ?_))))
 have q0 := of_some h
 subst q0
 exact qq _ _ (post_ret (by kernel_rfl) (run_results [.tmp 2] [.int .i32 x2] (by kernel_rfl) (.cons (res_tmp (by kernel_rfl)) .nil)) ⟨congrArg Ending.returned (by kernel_rfl), hs.none⟩)

theorem math_bits_Len32.ok {K : Nat} {a0 : Int} {r0 : Int} (h : math_bits_Len32.f K a0 = some r0) (w0 : World) : Ret Tryd.prog 59 #[.int .u32 a0] w0 (.int .i64 r0) := by
 refine calls_k Tryd.func59 rfl fun Q qq => ?_
 have hs := St.start w0
 refine wp_conv (a' := ⟨#[.int .u32 a0, undef, undef, undef, undef, undef, undef, undef, undef, undef, undef, undef, undef, undef, undef, undef, undef, undef, undef], []⟩) (by kernel_rfl) ?_
 refine xseq_k fun KS1 ks1 => ?_
 refine xregS [0] fun KR2 kr2 => ?_
 refine wpS.q 0 2 (.int .i64 0) ?_
 refine wpS.fin rfl (kr2 _ _ (then_n (ks1 _ _ ?_)))
 obtain ⟨⟨y1, y2⟩, hj, h⟩ := of_bind h
 refine xseq_k fun KS4 ks4 => wp_join (N := fun a w => St w0 [] [] [] w ∧ ∃ g3 : Nat → Value, a = ⟨#[.int .u32 y1, undef, .int .i64 y2, (g3 3), (g3 4), (g3 5), (g3 6), undef, undef, undef, undef, undef, undef, undef, undef, undef, undef, undef, undef], []⟩) (fun N nj => ?_) ?_
 ·clear h
  have h := hj
  refine xseq_k fun KS5 ks5 => ?_
  refine xregS [0, 1] fun KR6 kr6 => ?_
  refine wpS.q 0 3 (.int .u32 a0) ?_
  rcases of_if h with ⟨hc, h⟩ | ⟨hc, h⟩
  ·refine wpS.tk 1 false (some 4) (.bool true) (yld_b (dt hc) (fun _ => by kernel_rfl)) ?_
   refine wpS.fin rfl (kr6 _ _ (then_n (ks5 _ _ (wp_cond_t (by kernel_rfl) (xseq_k fun KS7 ks7 => (xregS [0, 1, 2] fun KR8 kr8 => ?_))))))
   refine wpS.qs [(0, 5, .int .u32 a0), (1, 6, .int .u32 (ishr .u32 a0 16))] ?_
   obtain ⟨x3, hx, h⟩ := of_bind h
   refine wpS.tk 2 false (some 0) (.int .u32 x3) (yld_int hx (fun _ => by kernel_rfl)) ?_
   refine wpS.fin rfl (kr8 _ _ (then_n (ks7 _ _ (xregS [0] fun KR9 kr9 => ?_))))
   refine wpS.q 0 2 (.int .i64 16) ?_
   refine wpS.fin rfl (kr9 _ _ ?_)
   obtain ⟨q0, qr0⟩ := Prod.mk.inj (of_some h)
   have q1 := qr0
   subst q0
   subst q1
   exact nj _ _ ⟨(hs.conv rfl), exg (by kernel_rfl)⟩
  refine wpS.tk 1 false (some 4) (.bool false) (yld_b (df hc) (fun _ => by kernel_rfl)) ?_
  refine wpS.fin rfl (kr6 _ _ (then_n (ks5 _ _ (wp_cond_f (by kernel_rfl) (xskip ?_)))))
  obtain ⟨q0, qr0⟩ := Prod.mk.inj (of_some h)
  have q1 := qr0
  subst q0
  subst q1
  exact nj _ _ ⟨(hs.conv rfl), exg (by kernel_rfl)⟩
 clear hj hs
 rintro a w ⟨hs, g3, rfl⟩
 refine then_n (ks4 _ _ ?_)
 obtain ⟨⟨y4, y5⟩, hj, h⟩ := of_bind h
 refine xseq_k fun KS11 ks11 => wp_join (N := fun a w => St w0 [] [] [] w ∧ ∃ g10 : Nat → Value, a = ⟨#[.int .u32 y4, undef, .int .i64 y5, (g3 3), (g3 4), (g3 5), (g3 6), (g10 7), (g10 8), (g10 9), (g10 10), (g10 11), (g10 12), undef, undef, undef, undef, undef, undef], []⟩) (fun N nj => ?_) ?_
 ·clear h
  have h := hj
  refine xseq_k fun KS12 ks12 => ?_
  refine xregS [0, 1] fun KR13 kr13 => ?_
  refine wpS.q 0 7 (.int .u32 y1) ?_
  rcases of_if h with ⟨hc, h⟩ | ⟨hc, h⟩
  ·refine wpS.tk 1 false (some 8) (.bool true) (yld_b (dt hc) (fun _ => by kernel_rfl)) ?_
   refine wpS.fin rfl (kr13 _ _ (then_n (ks12 _ _ (wp_cond_t (by kernel_rfl) (xseq_k fun KS14 ks14 => (xregS [0, 1, 2] fun KR15 kr15 => ?_))))))
   refine wpS.qs [(0, 9, .int .u32 y1), (1, 10, .int .u32 (ishr .u32 y1 8))] ?_
   obtain ⟨x6, hx, h⟩ := of_bind h
   refine wpS.tk 2 false (some 0) (.int .u32 x6) (yld_int hx (fun _ => by kernel_rfl)) ?_
   refine wpS.fin rfl (kr15 _ _ (then_n (ks14 _ _ (xregS [0, 1, 2] fun KR16 kr16 => ?_))))
   refine wpS.qs [(0, 11, .int .i64 y2), (1, 12, .int .i64 (iadd .i64 y2 8))] ?_
   obtain ⟨x7, hx, h⟩ := of_bind h
   refine wpS.tk 2 false (some 2) (.int .i64 x7) (yld_int hx (fun _ => by kernel_rfl)) ?_
   refine wpS.fin rfl (kr16 _ _ ?_)
   obtain ⟨q0, qr0⟩ := Prod.mk.inj (of_some h)
   have q1 := qr0
   subst q0
   subst q1
   exact nj _ _ ⟨(hs.conv rfl), exg (by kernel_rfl)⟩
  refine wpS.tk 1 false (some 8) (.bool false) (yld_b (df hc) (fun _ => by kernel_rfl)) ?_
  refine wpS.fin rfl (kr13 _ _ (then_n (ks12 _ _ (wp_cond_f (by kernel_rfl) (xskip ?_)))))
  obtain ⟨q0, qr0⟩ := Prod.mk.inj (of_some h)
  have q1 := qr0
  subst q0
  subst q1
  exact nj _ _ ⟨(hs.conv rfl), exg (by kernel_rfl)⟩
 clear hj hs
 rintro a w ⟨hs, g10, rfl⟩
 refine then_n (ks11 _ _ (xseq_k fun KS17 ks17 => (xregS [0, 1, 2, 3, 4, 5, 6] fun KR18 kr18 => ?_)))
 refine wpS.qs [(0, 13, .int .i64 y5), (1, 14, .int .u32 y4), (2, 15, .int .u8 (iconv .u8 y4))] ?_
 obtain ⟨x8, hx, h⟩ := of_bind h
 have hx := of_some hx
 subst hx
 obtain ⟨h0, h⟩ := of_chk h
 obtain ⟨h1, h⟩ := of_chk h
 refine wpS.tk 3 false (some 16) (.int .u8 (strAt [0, 1, 2, 2, 3, 3, 3, 3, 4, 4, 4, 4, 4, 4, 4, 4, 5, 5, 5, 5, 5, 5, 5, 5, 5, 5, 5, 5, 5, 5, 5, 5, 6, 6, 6, 6, 6, 6, 6, 6, 6, 6, 6, 6, 6, 6, 6, 6, 6, 6, 6, 6, 6, 6, 6, 6, 6, 6, 6, 6, 6, 6, 6, 6, 7, 7, 7, 7, 7, 7, 7, 7, 7, 7, 7, 7, 7, 7, 7, 7, 7, 7, 7, 7, 7, 7, 7, 7, 7, 7, 7, 7, 7, 7, 7, 7, 7, 7, 7, 7, 7, 7, 7, 7, 7, 7, 7, 7, 7, 7, 7, 7, 7, 7, 7, 7, 7, 7, 7, 7, 7, 7, 7, 7, 7, 7, 7, 7, 8, 8, 8, 8, 8, 8, 8, 8, 8, 8, 8, 8, 8, 8, 8, 8, 8, 8, 8, 8, 8, 8, 8, 8, 8, 8, 8, 8, 8, 8, 8, 8, 8, 8, 8, 8, 8, 8, 8, 8, 8, 8, 8, 8, 8, 8, 8, 8, 8, 8, 8, 8, 8, 8, 8, 8, 8, 8, 8, 8, 8, 8, 8, 8, 8, 8, 8, 8, 8, 8, 8, 8, 8, 8, 8, 8, 8, 8, 8, 8, 8, 8, 8, 8, 8, 8, 8, 8, 8, 8, 8, 8, 8, 8, 8, 8, 8, 8, 8, 8, 8, 8, 8, 8, 8, 8, 8, 8, 8, 8, 8, 8, 8, 8, 8, 8, 8, 8, 8, 8, 8, 8, 8, 8, 8, 8, 8, 8] (iconv .u8 y4))) (yld_str (t := 9) (k' := .u8) (by kernel_rfl) (by kernel_rfl) h0 h1) ?_
 refine wpS.qs [(4, 17, .int .i64 (iconv .i64 (strAt [0, 1, 2, 2, 3, 3, 3, 3, 4, 4, 4, 4, 4, 4, 4, 4, 5, 5, 5, 5, 5, 5, 5, 5, 5, 5, 5, 5, 5, 5, 5, 5, 6, 6, 6, 6, 6, 6, 6, 6, 6, 6, 6, 6, 6, 6, 6, 6, 6, 6, 6, 6, 6, 6, 6, 6, 6, 6, 6, 6, 6, 6, 6, 6, 7, 7, 7, 7, 7, 7, 7, 7, 7, 7, 7, 7, 7, 7, 7, 7, 7, 7, 7, 7, 7, 7, 7, 7, 7, 7, 7, 7, 7, 7, 7, 7, 7, 7, 7, 7, 7, 7, 7, 7, 7, 7, 7, 7, 7, 7, 7, 7, 7, 7, 7, 7, 7, 7, 7, 7, 7, 7, 7, 7, 7, 7, 7, 7, 8, 8, 8, 8, 8, 8, 8, 8, 8, 8, 8, 8, 8, 8, 8, 8, 8, 8, 8, 8, 8, 8, 8, 8, 8, 8, 8, 8, 8, 8, 8, 8, 8, 8, 8, 8, 8, 8, 8, 8, 8, 8, 8, 8, 8, 8, 8, 8, 8, 8, 8, 8, 8, 8, 8, 8, 8, 8, 8, 8, 8, 8, 8, 8, 8, 8, 8, 8, 8, 8, 8, 8, 8, 8, 8, 8, 8, 8, 8, 8, 8, 8, 8, 8, 8, 8, 8, 8, 8, 8, 8, 8, 8, 8, 8, 8, 8, 8, 8, 8, 8, 8, 8, 8, 8, 8, 8, 8, 8, 8, 8, 8, 8, 8, 8, 8, 8, 8, 8, 8, 8, 8, 8, 8, 8, 8, 8, 8] (iconv .u8 y4)))), (5, 18, .int .i64 (iadd .i64 y5 (iconv .i64 (strAt [0, 1, 2, 2, 3, 3, 3, 3, 4, 4, 4, 4, 4, 4, 4, 4, 5, 5, 5, 5, 5, 5, 5, 5, 5, 5, 5, 5, 5, 5, 5, 5, 6, 6, 6, 6, 6, 6, 6, 6, 6, 6, 6, 6, 6, 6, 6, 6, 6, 6, 6, 6, 6, 6, 6, 6, 6, 6, 6, 6, 6, 6, 6, 6, 7, 7, 7, 7, 7, 7, 7, 7, 7, 7, 7, 7, 7, 7, 7, 7, 7, 7, 7, 7, 7, 7, 7, 7, 7, 7, 7, 7, 7, 7, 7, 7, 7, 7, 7, 7, 7, 7, 7, 7, 7, 7, 7, 7, 7, 7, 7, 7, 7, 7, 7, 7, 7, 7, 7, 7, 7, 7, 7, 7, 7, 7, 7, 7, 8, 8, 8, 8, 8, 8, 8, 8, 8, 8, 8, 8, 8, 8, 8, 8, 8, 8, 8, 8, 8, 8, 8, 8, 8, 8, 8, 8, 8, 8, 8, 8, 8, 8, 8, 8, 8, 8, 8, 8, 8, 8, 8, 8, 8, 8, 8, 8, 8, 8, 8, 8, 8, 8, 8, 8, 8, 8, 8, 8, 8, 8, 8, 8, 8, 8, 8, 8, 8, 8, 8, 8, 8, 8, 8, 8, 8, 8, 8, 8, 8, 8, 8, 8, 8, 8, 8, 8, 8, 8, 8, 8, 8, 8, 8, 8, 8, 8, 8, 8, 8, 8, 8, 8, 8, 8, 8, 8, 8, 8, 8, 8, 8, 8, 8, 8, 8, 8, 8, 8, 8, 8, 8, 8, 8, 8, 8, 8] (iconv .u8 y4)))))] ?_
 obtain ⟨x9, hx, h⟩ := of_bind h
 refine wpS.tk 6 false (some 2) (.int .i64 x9) (yld_int hx (fun _ => by kernel_rfl)) ?_
 refine wpS.fin rfl (kr18 _ _ (then_n (ks17 _ _ (xret ?_))))
 have q0 := of_some h
 subst q0
 exact qq _ _ (post_ret (by kernel_rfl) (run_results [.tmp 2] [.int .i64 x9] (by kernel_rfl) (.cons (res_tmp (by kernel_rfl)) .nil)) ⟨congrArg Ending.returned (by kernel_rfl), hs.none⟩)

theorem dpack_span_width.ok {K : Nat} {a0_0 : Int} {a0_1 : Int} {r0 : Int} (h : dpack_span_width.f K a0_0 a0_1 = some r0) (w0 : World) : Ret Tryd.prog 45 #[.agg #[.int .i32 a0_0, .int .i32 a0_1]] w0 (.int .i64 r0) := by
 refine calls_k Tryd.func45 rfl fun Q qq => ?_
 have hs := St.start w0
 refine wp_conv (a' := ⟨#[.agg #[.int .i32 a0_0, .int .i32 a0_1], undef, undef, undef, undef, undef, undef], []⟩) (by kernel_rfl) ?_
 refine xseq_k fun KS1 ks1 => ?_
 refine xregS [0, 1] fun KR2 kr2 => ?_
 refine wpS.only 0 (op_box (t := 79) (v := .agg #[.int .i32 a0_0, .int .i32 a0_1]) (d := (some 1)) (by kernel_rfl) hs ([.int .i32 a0_0, .int .i32 a0_1]) (by kernel_rfl) (by kernel_rfl) ?_)
 intro b1 w gw hs
 refine ⟨fun _ => trivial, ?_⟩
 refine wpS.q 1 2 (.int .i64 0) ?_
 refine wpS.fin rfl (kr2 _ _ (then_n (ks1 _ _ (xseq_k fun KS3 ks3 => (xregS [0, 1, 2, 3, 4] fun KR4 kr4 => ?_)))))
 refine wpS.tk 0 true (some 3) (.agg #[.int .i32 a0_0, .int .i32 a0_1]) (yld_loadW (e := 79) (n := 2) hs 0 rfl (by kernel_rfl) (by kernel_rfl) (by kernel_rfl) (by simp [enc_len]) .grow) ?_
 obtain ⟨r2, hg, h⟩ := of_bind h
 refine wpS.only 1 (op_call (d := (some 4)) (by kernel_rfl) hs (fun _ => by kernel_rfl) (dpack_span_all.ok hg _) ?_)
 intro w gw hs
 refine ⟨fun _ => trivial, ?_⟩
 refine wpS.q 2 5 (.int .u32 (iconv .u32 r2)) ?_
 obtain ⟨r3, hg, h⟩ := of_bind h
 refine wpS.only 3 (op_call (d := (some 6)) (by kernel_rfl) hs (fun _ => by kernel_rfl) (math_bits_Len32.ok hg _) ?_)
 intro w gw hs
 refine ⟨fun _ => trivial, ?_⟩
 refine wpS.q 4 2 (.int .i64 r3) ?_
 refine wpS.fin rfl (kr4 _ _ (then_n (ks3 _ _ (xret ?_))))
 have q0 := of_some h
 subst q0
 exact qq _ _ (post_ret (by kernel_rfl) (run_results [.tmp 2] [.int .i64 r3] (by kernel_rfl) (.cons (res_tmp (by kernel_rfl)) .nil)) ⟨congrArg Ending.returned (by kernel_rfl), hs.none⟩)

theorem dpack_span_size.ok {K : Nat} {a0_0 : Int} {a0_1 : Int} {r0 : Int} (h : dpack_span_size.f K a0_0 a0_1 = some r0) (w0 : World) : Ret Tryd.prog 43 #[.agg #[.int .i32 a0_0, .int .i32 a0_1]] w0 (.int .i64 r0) := by
 refine calls_k Tryd.func43 rfl fun Q qq => ?_
 have hs := St.start w0
 refine wp_conv (a' := ⟨#[.agg #[.int .i32 a0_0, .int .i32 a0_1], undef, undef, undef, undef, undef], []⟩) (by kernel_rfl) ?_
 refine xseq_k fun KS1 ks1 => ?_
 refine xregS [0, 1] fun KR2 kr2 => ?_
 refine wpS.only 0 (op_box (t := 79) (v := .agg #[.int .i32 a0_0, .int .i32 a0_1]) (d := (some 1)) (by kernel_rfl) hs ([.int .i32 a0_0, .int .i32 a0_1]) (by kernel_rfl) (by kernel_rfl) ?_)
 intro b1 w gw hs
 refine ⟨fun _ => trivial, ?_⟩
 refine wpS.q 1 2 (.int .i64 0) ?_
 refine wpS.fin rfl (kr2 _ _ (then_n (ks1 _ _ (xseq_k fun KS3 ks3 => (xregS [0, 1, 2, 3] fun KR4 kr4 => ?_)))))
 refine wpS.tk 0 true (some 3) (.agg #[.int .i32 a0_0, .int .i32 a0_1]) (yld_loadW (e := 79) (n := 2) hs 0 rfl (by kernel_rfl) (by kernel_rfl) (by kernel_rfl) (by simp [enc_len]) .grow) ?_
 obtain ⟨r2, hg, h⟩ := of_bind h
 refine wpS.only 1 (op_call (d := (some 4)) (by kernel_rfl) hs (fun _ => by kernel_rfl) (dpack_span_width.ok hg _) ?_)
 intro w gw hs
 refine ⟨fun _ => trivial, ?_⟩
 refine wpS.q 2 5 (.int .i64 (imul .i64 32 r2)) ?_
 obtain ⟨x3, hx, h⟩ := of_bind h
 refine wpS.tk 3 false (some 2) (.int .i64 x3) (yld_int hx (fun _ => by kernel_rfl)) ?_
 refine wpS.fin rfl (kr4 _ _ (then_n (ks3 _ _ (xret ?_))))
 have q0 := of_some h
 subst q0
 exact qq _ _ (post_ret (by kernel_rfl) (run_results [.tmp 2] [.int .i64 x3] (by kernel_rfl) (.cons (res_tmp (by kernel_rfl)) .nil)) ⟨congrArg Ending.returned (by kernel_rfl), hs.none⟩)

theorem bits_such.ok {K : Nat} {a0 : List Int} {a1 : Int} {a2 : Int} {r0 : Bool} {a0_A : Option Addr} {a0_n : Nat} {a0_c : Nat} (h : bits_such.f K a0 a1 a2 = some r0) (w0 : World) (hp0 : RowL (CI .u8) w0 a0_A a0_n a0_c a0) : Ret Tryd.prog 58 #[.slice a0_A a0_n a0_c, .int .i64 a1, .int .i64 a2] w0 (.bool r0) := by
 refine calls_k Tryd.func58 rfl fun Q qq => ?_
 have hs := St.startR (all_cons (RowP.ent hp0) all_nil)
 refine wp_conv (a' := ⟨#[.slice a0_A a0_n a0_c, .int .i64 a1, .int .i64 a2, undef, undef, undef, undef, undef, undef, undef, undef, undef, undef, undef, undef, undef, undef, undef, undef, undef, undef, undef, undef, undef, undef, undef], []⟩) (by kernel_rfl) ?_
 refine xseq_k fun KS1 ks1 => ?_
 refine xregS [0] fun KR2 kr2 => ?_
 refine wpS.q 0 6 (.bool false) ?_
 refine wpS.fin rfl (kr2 _ _ (then_n (ks1 _ _ (xseq_k fun KS3 ks3 => (xregS [0, 1, 2, 3, 4, 5, 6, 7, 8, 9, 10, 11, 12, 13, 14, 15, 16, 17, 18, 19] fun KR4 kr4 => ?_)))))
 refine wpS.q 0 7 (.int .i64 a1) ?_
 rcases of_if h with ⟨hc, h⟩ | ⟨hc, h⟩
 ·refine wpS.tk 1 false (some 8) (.bool true) (yld_b (dt hc) (fun _ => by kernel_rfl)) ?_
  refine wpS.qs [(2, 9, .bool true), (3, 10, .int .i64 a1)] ?_
  rcases of_if h with ⟨hc, h⟩ | ⟨hc, h⟩
  ·refine wpS.tk 4 false (some 11) (.bool true) (yld_b (dt hc) (fun _ => by kernel_rfl)) ?_
   refine wpS.qs [(5, 12, .bool true), (6, 13, .bool true), (7, 14, .int .i64 a2)] ?_
   rcases of_if h with ⟨hc, h⟩ | ⟨hc, h⟩
   ·refine wpS.tk 8 false (some 15) (.bool true) (yld_b (dt hc) (fun _ => by kernel_rfl)) ?_
    refine wpS.qs [(9, 16, .bool true), (10, 17, .bool true), (11, 18, .int .i64 a2), (12, 19, .slice a0_A a0_n a0_c)] ?_
    refine wpS.tk 13 false (some 20) (.int .i64 (a0.length : Int)) (yld_lenL (hs.rowR 0 rfl) (fun _ => by kernel_rfl)) ?_
    refine wpS.qs [(14, 21, .int .i64 (imul .i64 (a0.length : Int) 8)), (15, 22, .int .i64 a1)] ?_
    obtain ⟨h0, h⟩ := of_chk h
    refine wpS.tk 16 false (some 23) (.int .i64 (iquo .i64 (imul .i64 (a0.length : Int) 8) a1)) (yld_quo (t := 3) (by kernel_rfl) h0) ?_
    refine wpS.qs [(17, 24, .bool (decide (a2 ≤ (iquo .i64 (imul .i64 (a0.length : Int) 8) a1)))), (18, 25, .bool (decide (a2 ≤ (iquo .i64 (imul .i64 (a0.length : Int) 8) a1)))), (19, 6, .bool (decide (a2 ≤ (iquo .i64 (imul .i64 (a0.length : Int) 8) a1))))] ?_
    refine wpS.fin rfl (kr4 _ _ (then_n (ks3 _ _ (xret ?_))))
    have q0 := of_some h
    subst q0
    exact qq _ _ (post_ret (by kernel_rfl) (run_results [.tmp 6] [.bool (decide (a2 ≤ (iquo .i64 (imul .i64 (a0.length : Int) 8) a1)))] (by kernel_rfl) (.cons (res_tmp (by kernel_rfl)) .nil)) ⟨congrArg Ending.returned (by kernel_rfl), hs.none⟩)
   refine wpS.tk 8 false (some 15) (.bool false) (yld_b (df hc) (fun _ => by kernel_rfl)) ?_
   refine wpS.qs [(9, 16, .bool false), (10, 17, .bool false), (11, 18, undef), (12, 19, undef), (13, 20, undef), (14, 21, undef), (15, 22, undef), (16, 23, undef), (17, 24, undef), (18, 25, .bool false), (19, 6, .bool false)] ?_
   refine wpS.fin rfl (kr4 _ _ (then_n (ks3 _ _ (xret ?_))))
   have q0 := of_some h
   subst q0
   exact qq _ _ (post_ret (by kernel_rfl) (run_results [.tmp 6] [.bool false] (by kernel_rfl) (.cons (res_tmp (by kernel_rfl)) .nil)) ⟨congrArg Ending.returned (by kernel_rfl), hs.none⟩)
  refine wpS.tk 4 false (some 11) (.bool false) (yld_b (df hc) (fun _ => by kernel_rfl)) ?_
  refine wpS.qs [(5, 12, .bool false), (6, 13, .bool false), (7, 14, undef), (8, 15, undef), (9, 16, .bool false), (10, 17, .bool false), (11, 18, undef), (12, 19, undef), (13, 20, undef), (14, 21, undef), (15, 22, undef), (16, 23, undef), (17, 24, undef), (18, 25, .bool false), (19, 6, .bool false)] ?_
  refine wpS.fin rfl (kr4 _ _ (then_n (ks3 _ _ (xret ?_))))
  have q0 := of_some h
  subst q0
  exact qq _ _ (post_ret (by kernel_rfl) (run_results [.tmp 6] [.bool false] (by kernel_rfl) (.cons (res_tmp (by kernel_rfl)) .nil)) ⟨congrArg Ending.returned (by kernel_rfl), hs.none⟩)
 refine wpS.tk 1 false (some 8) (.bool false) (yld_b (df hc) (fun _ => by kernel_rfl)) ?_
 refine wpS.qs [(2, 9, .bool false), (3, 10, undef), (4, 11, undef), (5, 12, .bool false), (6, 13, .bool false), (7, 14, undef), (8, 15, undef), (9, 16, .bool false), (10, 17, .bool false), (11, 18, undef), (12, 19, undef), (13, 20, undef), (14, 21, undef), (15, 22, undef), (16, 23, undef), (17, 24, undef), (18, 25, .bool false), (19, 6, .bool false)] ?_
 refine wpS.fin rfl (kr4 _ _ (then_n (ks3 _ _ (xret ?_))))
 have q0 := of_some h
 subst q0
 exact qq _ _ (post_ret (by kernel_rfl) (run_results [.tmp 6] [.bool false] (by kernel_rfl) (.cons (res_tmp (by kernel_rfl)) .nil)) ⟨congrArg Ending.returned (by kernel_rfl), hs.none⟩)

theorem bits_Unpack.ok {K : Nat} {a0 : List Int} {a1 : Int} {a2 : Int} {r0 : List Int} {a0_A : Option Addr} {a0_n : Nat} {a0_c : Nat} (h : bits_Unpack.f K a0 a1 a2 = some r0) (w0 : World) (hp0 : RowL (CI .u8) w0 a0_A a0_n a0_c a0) : Calls Tryd.prog 44 #[.slice a0_A a0_n a0_c, .int .i64 a1, .int .i64 a2] w0 fun e w' => ∃ h : (Option Addr × Nat × Nat), e = .returned (.slice h.1 h.2.1 h.2.2) ∧ St w0 [] [.ownL (CI .u32) h.1 h.2.1 h.2.2 r0 83] [] w' := by
 refine calls_k Tryd.func44 rfl fun Q qq => ?_
 have hs := St.startR (all_cons (RowP.ent hp0) all_nil)
 refine wp_conv (a' := ⟨#[.slice a0_A a0_n a0_c, .int .i64 a1, .int .i64 a2, undef, undef, undef, undef, undef, undef, undef, undef, undef, undef, undef, undef, undef, undef, undef, undef, undef, undef, undef, undef, undef, undef, undef, undef, undef, undef, undef, undef, undef, undef, undef, undef, undef, undef, undef, undef, undef, undef, undef, undef, undef, undef, undef, undef, undef, undef, undef, undef, undef, undef, undef, undef], []⟩) (by kernel_rfl) ?_
 refine xseq_k fun KS1 ks1 => ?_
 refine xregS [0] fun KR2 kr2 => ?_
 refine wpS.q 0 6 (.slice none 0 0) ?_
 refine wpS.fin rfl (kr2 _ _ (then_n (ks1 _ _ (xseq_k fun KS3 ks3 => (xseq_k fun KS4 ks4 => (xregS [0, 1, 2, 3, 4] fun KR5 kr5 => ?_))))))
 refine wpS.qs [(0, 11, .slice a0_A a0_n a0_c), (1, 12, .int .i64 a1), (2, 13, .int .i64 a2)] ?_
 obtain ⟨r1, hg, h⟩ := of_bind h
 cases r1 with
 | true =>
  have h := of_if_t h
  refine wpS.only 3 (op_call (d := (some 14)) (by kernel_rfl) hs (fun _ => by kernel_rfl) (bits_such.ok hg _ (hs.rowR 0 rfl)) ?_)
  intro w gw hs
  refine ⟨fun _ => trivial, ?_⟩
  refine wpS.q 4 15 (.bool false) ?_
  refine wpS.fin rfl (kr5 _ _ (then_n (ks4 _ _ (wp_cond_f (by kernel_rfl) (xskip (then_n (ks3 _ _ (xseq_k fun KS6 ks6 => (xregS [0, 1, 2] fun KR7 kr7 => ?_)))))))))
  refine wpS.q 0 16 (.int .i64 a2) ?_
  obtain ⟨h0, h⟩ := of_chk h
  obtain ⟨h1, h⟩ := of_chk h
  refine wpS.only 1 (op_makeT (C := (CI .u32)) (t := 81) (e := 83) (bytes := 4) (B := 35184372088832) (kl := .i64) (kc := .i64) (x := a2) (d := (some 17)) (by kernel_rfl) hs (by kernel_rfl) (by kernel_rfl) (by kernel_rfl) (by kernel_rfl) (by kernel_rfl) h0 h1 (by decide) (by decide) ?_)
  intro s2_A s2_n s2_c w gw hs
  refine ⟨fun _ => trivial, ?_⟩
  refine wpS.q 2 7 (.slice s2_A s2_n s2_c) ?_
  refine wpS.fin rfl (kr7 _ _ (then_n (ks6 _ _ (xseq_k fun KS8 ks8 => (xregS [0, 1] fun KR9 kr9 => ?_)))))
  refine wpS.qs [(0, 8, .int .u64 0), (1, 9, .int .i64 0)] ?_
  refine wpS.fin rfl (kr9 _ _ (then_n (ks8 _ _ (xseq_k fun KS10 ks10 => (xseq_k fun KS11 ks11 => (xregS [0, 1, 2] fun KR12 kr12 => ?_))))))
  refine wpS.q 0 18 (.slice s2_A s2_n s2_c) ?_
  refine wpS.tk 1 false (some 19) (.int .i64 ((List.replicate (a2 : Int).toNat (Cod.zero (CI .u32))).length : Int)) (yld_lenL (hs.rowL 0 rfl) (fun _ => by kernel_rfl)) ?_
  refine wpS.q 2 20 (.int .i64 0) ?_
  refine wpS.fin rfl (kr12 _ _ (then_n (ks11 _ _ ?_)))
  obtain ⟨y8, hy, hk0⟩ := of_bind h
  refine wp_exq (N := fun a w => St w0 [] [.ownL (CI .u32) s2_A s2_n s2_c y8 83] [.rowL (CI .u8) a0_A a0_n a0_c a0] w ∧ ∃ g14 : Nat → Value, a = ⟨#[(g14 0), .int .i64 a1, .int .i64 a2, undef, undef, undef, .slice none 0 0, .slice s2_A s2_n s2_c, (g14 8), (g14 9), (g14 10), .slice a0_A a0_n a0_c, .int .i64 a1, .int .i64 a2, .bool true, .bool false, .int .i64 a2, .slice s2_A s2_n s2_c, .slice s2_A s2_n s2_c, .int .i64 ((List.replicate (a2 : Int).toNat (Cod.zero (CI .u32))).length : Int), (g14 20), (g14 21), (g14 22), (g14 23), (g14 24), (g14 25), (g14 26), (g14 27), (g14 28), (g14 29), (g14 30), (g14 31), (g14 32), (g14 33), (g14 34), (g14 35), (g14 36), (g14 37), (g14 38), (g14 39), (g14 40), (g14 41), (g14 42), (g14 43), (g14 44), (g14 45), (g14 46), (g14 47), (g14 48), (g14 49), (g14 50), (g14 51), (g14 52), (g14 53), undef], []⟩) (fun N0 nn0 => ?_) ?_
  ·clear hk0
   refine xblock ?_
   refine wp_loop_k (fun n a w => ∃ z3 z4 z5 z6 z7, ∃ (z7_A : Option Addr) (z7_n : Nat) (z7_c : Nat), bits_Unpack.l0 K n a1 a2 z3 z4 z5 z6 z7 = some y8 ∧ St w0 [] [.ownL (CI .u32) s2_A s2_n s2_c z6 83] [.rowL (CI .u8) z7_A z7_n z7_c z7, .rowL (CI .u8) a0_A a0_n a0_c a0] w ∧ ∃ g13 : Nat → Value, a = ⟨#[.slice z7_A z7_n z7_c, .int .i64 a1, .int .i64 a2, undef, undef, undef, .slice none 0 0, .slice s2_A s2_n s2_c, .int .u64 z3, .int .i64 z4, (g13 10), .slice a0_A a0_n a0_c, .int .i64 a1, .int .i64 a2, .bool true, .bool false, .int .i64 a2, .slice s2_A s2_n s2_c, .slice s2_A s2_n s2_c, .int .i64 ((List.replicate (a2 : Int).toNat (Cod.zero (CI .u32))).length : Int), .int .i64 z5, (g13 21), (g13 22), (g13 23), (g13 24), (g13 25), (g13 26), (g13 27), (g13 28), (g13 29), (g13 30), (g13 31), (g13 32), (g13 33), (g13 34), (g13 35), (g13 36), (g13 37), (g13 38), (g13 39), (g13 40), (g13 41), (g13 42), (g13 43), (g13 44), (g13 45), (g13 46), (g13 47), (g13 48), (g13 49), (g13 50), (g13 51), (g13 52), (g13 53), undef], []⟩) K ⟨0, 0, 0, (List.replicate (a2 : Int).toNat (Cod.zero (CI .u32))), a0, a0_A, a0_n, a0_c, hy, (hs.conv (L' := [.ownL (CI .u32) s2_A s2_n s2_c (List.replicate (a2 : Int).toNat (Cod.zero (CI .u32))) 83]) rfl).pickR (pick_cons 0 rfl (pick_cons 0 rfl pick_nil)), exg (by kernel_rfl)⟩ ?_
   clear hs h hy
   rintro n a w ⟨z3, z4, z5, z6, z7, z7_A, z7_n, z7_c, h, hs, g13, rfl⟩ KL0 kl0
   cases n with
   | zero => exact nomatch (show none = some _ from h)
   | succ n =>
    refine xseq_k fun KS15 ks15 => ?_
    refine xregS [0] fun KR16 kr16 => ?_
    rcases of_if h with ⟨hc, h⟩ | ⟨hc, h⟩
    ·refine wpS.tk 0 false (some 21) (.bool true) (yld_b (dt hc) (fun _ => by kernel_rfl)) ?_
     refine wpS.fin rfl (kr16 _ _ (then_n (ks15 _ _ (xseq_k fun KS17 ks17 => (wp_cond_t (by kernel_rfl) (xskip (then_n (ks17 _ _ (xseq_k fun KS18 ks18 => (xblock (xseq_k fun KS19 ks19 => (xregS [0, 1] fun KR20 kr20 => ?_))))))))))))
     refine wpS.qs [(0, 22, .int .i64 z5), (1, 10, .int .i64 z5)] ?_
     refine wpS.fin rfl (kr20 _ _ (then_n (ks19 _ _ (xseq_k fun KS21 ks21 => ?_))))
     obtain ⟨⟨y12, y13, y14⟩, hy, hk1⟩ := of_bind h
     refine wp_exq (N := fun a w => ∃ (y14_A : Option Addr) (y14_n : Nat) (y14_c : Nat), St w0 [] [.ownL (CI .u32) s2_A s2_n s2_c z6 83] [.rowL (CI .u8) y14_A y14_n y14_c y14, .rowL (CI .u8) z7_A z7_n z7_c z7, .rowL (CI .u8) a0_A a0_n a0_c a0] w ∧ ∃ g23 : Nat → Value, a = ⟨#[.slice y14_A y14_n y14_c, .int .i64 a1, .int .i64 a2, undef, undef, undef, .slice none 0 0, .slice s2_A s2_n s2_c, .int .u64 y12, .int .i64 y13, .int .i64 z5, .slice a0_A a0_n a0_c, .int .i64 a1, .int .i64 a2, .bool true, .bool false, .int .i64 a2, .slice s2_A s2_n s2_c, .slice s2_A s2_n s2_c, .int .i64 ((List.replicate (a2 : Int).toNat (Cod.zero (CI .u32))).length : Int), .int .i64 z5, .bool true, .int .i64 z5, (g23 23), (g23 24), (g23 25), (g23 26), (g23 27), (g23 28), (g23 29), (g23 30), (g23 31), (g23 32), (g23 33), (g23 34), (g23 35), (g23 36), (g23 37), (g13 38), (g13 39), (g13 40), (g13 41), (g13 42), (g13 43), (g13 44), (g13 45), (g13 46), (g13 47), (g13 48), (g13 49), (g13 50), (g13 51), (g13 52), (g13 53), undef], []⟩) (fun N1 nn1 => ?_) ?_
     ·clear hk1
      refine xblock ?_
      refine wp_loop_k (fun n a w => ∃ z9 z10 z11, ∃ (z11_A : Option Addr) (z11_n : Nat) (z11_c : Nat), bits_Unpack.l1 K n a1 z9 z10 z11 = some (y12, y13, y14) ∧ St w0 [] [.ownL (CI .u32) s2_A s2_n s2_c z6 83] [.rowL (CI .u8) z11_A z11_n z11_c z11, .rowL (CI .u8) z7_A z7_n z7_c z7, .rowL (CI .u8) a0_A a0_n a0_c a0] w ∧ ∃ g22 : Nat → Value, a = ⟨#[.slice z11_A z11_n z11_c, .int .i64 a1, .int .i64 a2, undef, undef, undef, .slice none 0 0, .slice s2_A s2_n s2_c, .int .u64 z9, .int .i64 z10, .int .i64 z5, .slice a0_A a0_n a0_c, .int .i64 a1, .int .i64 a2, .bool true, .bool false, .int .i64 a2, .slice s2_A s2_n s2_c, .slice s2_A s2_n s2_c, .int .i64 ((List.replicate (a2 : Int).toNat (Cod.zero (CI .u32))).length : Int), .int .i64 z5, .bool true, .int .i64 z5, (g22 23), (g22 24), (g22 25), (g22 26), (g22 27), (g22 28), (g22 29), (g22 30), (g22 31), (g22 32), (g22 33), (g22 34), (g22 35), (g22 36), (g22 37), (g13 38), (g13 39), (g13 40), (g13 41), (g13 42), (g13 43), (g13 44), (g13 45), (g13 46), (g13 47), (g13 48), (g13 49), (g13 50), (g13 51), (g13 52), (g13 53), undef], []⟩) K ⟨z3, z4, z7, z7_A, z7_n, z7_c, hy, (hs.conv (L' := [.ownL (CI .u32) s2_A s2_n s2_c z6 83]) rfl).pickR (pick_cons 0 rfl (pick_cons 0 rfl (pick_cons 1 rfl pick_nil))), exg (by kernel_rfl)⟩ ?_
      clear hs h hy
      rintro n a w ⟨z9, z10, z11, z11_A, z11_n, z11_c, h, hs, g22, rfl⟩ KL1 kl1
      cases n with
      | zero => exact nomatch (show none = some _ from h)
      | succ n =>
       refine xseq_k fun KS24 ks24 => ?_
       refine xseq_k fun KS25 ks25 => ?_
       refine xregS [0, 1, 2] fun KR26 kr26 => ?_
       refine wpS.qs [(0, 23, .int .i64 z10), (1, 24, .int .i64 a1)] ?_
       rcases of_if h with ⟨hc, h⟩ | ⟨hc, h⟩
       ·refine wpS.tk 2 false (some 25) (.bool true) (yld_b (dt hc) (fun _ => by kernel_rfl)) ?_
        refine wpS.fin rfl (kr26 _ _ (then_n (ks25 _ _ (wp_cond_t (by kernel_rfl) (xskip (then_n (ks24 _ _ (xblock ?_))))))))
        refine wp_regG [] (fun k => True) 15 (by kernel_rfl) (by kernel_rfl) (by kernel_rfl) fun KR27 kr27 => ?_
        have hs := hs.drawn1
        refine wpG.q 0 26 (.int .u64 z9) ?_
        refine wpG.q 1 27 (.slice z11_A z11_n z11_c) ?_
        obtain ⟨h0, h⟩ := of_chk h
        obtain ⟨h1, h⟩ := of_chk h
        have i0_28 := h0
        have i1_28 := h1
        refine wpG.tD 2 false (some 28) (.pointer (adr z11_A ((0 : Int).toNat * Cod.size (CI .u8)))) (yld_idxL (C := (CI .u8)) (t := 22) (e := 5) (k := .i64) (x := 0) (hs.rowR 0 rfl) (by kernel_rfl) (by kernel_rfl) (by kernel_rfl) h0 h1) ?_
        refine wpG.tD 3 true (some 29) (.int .u8 (rdL (CI .u8) z11 0)) (yld_loadL (C := (CI .u8)) (e := 5) (x := 0) (hs.rowR 0 rfl) (by kernel_rfl) rfl (by kernel_rfl) i0_28 i1_28) ?_
        refine wpG.q 4 30 (.int .u64 (iconv .u64 (rdL (CI .u8) z11 0))) ?_
        refine wpG.q 5 31 (.int .i64 z10) ?_
        obtain ⟨h0, h⟩ := of_chk h
        refine wpG.tD 6 false (some 32) (.int .u64 (ishl .u64 (iconv .u64 (rdL (CI .u8) z11 0)) z10)) (yld_shl (t := 47) (k' := .i64) (by kernel_rfl) h0) ?_
        refine wpG.q 7 33 (.int .u64 (ior .u64 z9 (ishl .u64 (iconv .u64 (rdL (CI .u8) z11 0)) z10))) ?_
        refine wpG.q 8 34 (.int .i64 z10) ?_
        refine wpG.q 9 35 (.int .i64 (iadd .i64 z10 8)) ?_
        refine wpG.q 10 36 (.slice z11_A z11_n z11_c) ?_
        obtain ⟨h0, h⟩ := of_chk h
        obtain ⟨h1, h⟩ := of_chk h
        obtain ⟨h2, h⟩ := of_chk h
        obtain ⟨s15_A, hA⟩ : ∃ A, A = if z11_c = (1 : Int).toNat then z11_A else adr z11_A ((1 : Int).toNat * Cod.size (CI .u8)) := ⟨_, rfl⟩
        obtain ⟨s15_n, hn⟩ : ∃ n, n = ((z11.length : Int) : Int).toNat - (1 : Int).toNat := ⟨_, rfl⟩
        obtain ⟨s15_c, hc⟩ : ∃ c, c = z11_c - (1 : Int).toNat := ⟨_, rfl⟩
        refine wpG.tD 11 false (some 37) (.slice s15_A s15_n s15_c) (yld_sub (C := (CI .u8)) (t := 22) (e := 5) (low := some (.int .i64 1)) (high := none) (lo := 1) (hi := (z11.length : Int)) (hs.rowR 0 rfl) (by kernel_rfl) (by kernel_rfl) (by kernel_rfl) (.inr ⟨_, rfl⟩) (.inl ⟨rfl, rfl⟩) h0 h1 h2 hA hn hc) ?_
        have hs := hs.addSub (C := (CI .u8)) 0 rfl h0 h1 h2 hA hn hc
        obtain ⟨x16, hx, h⟩ := of_bind h
        refine wpG.tD 12 false (some 8) (.int .u64 x16) (yld_int hx (fun _ => by kernel_rfl)) ?_
        obtain ⟨x17, hx, h⟩ := of_bind h
        refine wpG.tD 13 false (some 9) (.int .i64 x17) (yld_int hx (fun _ => by kernel_rfl)) ?_
        refine wpG.q 14 0 (.slice s15_A s15_n s15_c) ?_
        refine wpG.fin (by kernel_rfl) rfl (kr27 _ _ ?_)
        refine inBlock_n ?_
        exact then_n (kl1 _ _ ⟨n, Nat.lt_succ_self n, x16, x17, (subL z11 1 (z11.length : Int)), s15_A, s15_n, s15_c, h, (hs.pickR (pick_cons 0 rfl (pick_cons 2 rfl (pick_cons 3 rfl pick_nil)))), exg (by kernel_rfl)⟩)
       refine wpS.tk 2 false (some 25) (.bool false) (yld_b (df hc) (fun _ => by kernel_rfl)) ?_
       refine wpS.fin rfl (kr26 _ _ (then_n (ks25 _ _ (wp_cond_f (by kernel_rfl) (xexit (then_x (then_x (inBlock_hit ?_))))))))
       obtain ⟨q0, qr0⟩ := Prod.mk.inj (of_some h)
       obtain ⟨q1, qr1⟩ := Prod.mk.inj (qr0)
       have q2 := qr1
       subst q0
       subst q1
       subst q2
       exact exq_n (nn1 _ _ ⟨z11_A, z11_n, z11_c, (hs.conv rfl), exg (by kernel_rfl)⟩)
     clear hs h hy
     rintro a w ⟨y14_A, y14_n, y14_c, hs, g23, rfl⟩
     have h := hk1
     refine then_n (ks21 _ _ (xseq_k fun KS29 ks29 => (xregS [0, 1, 2, 3, 4, 5, 6, 7, 8, 9] fun KR30 kr30 => ?_)))
     refine wpS.qs [(0, 38, .slice s2_A s2_n s2_c), (1, 39, .int .i64 z5), (2, 40, .int .u64 y12), (3, 41, .int .i64 a1)] ?_
     obtain ⟨h0, h⟩ := of_chk h
     refine wpS.tk 4 false (some 42) (.int .u64 (ishl .u64 1 a1)) (yld_shl (t := 47) (k' := .i64) (by kernel_rfl) h0) ?_
     refine wpS.qs [(5, 43, .int .u64 (isub .u64 (ishl .u64 1 a1) 1)), (6, 44, .int .u64 (iand .u64 y12 (isub .u64 (ishl .u64 1 a1) 1))), (7, 45, .int .u32 (iconv .u32 (iand .u64 y12 (isub .u64 (ishl .u64 1 a1) 1))))] ?_
     obtain ⟨h0, h⟩ := of_chk h
     obtain ⟨h1, h⟩ := of_chk h
     have i0_31 := h0
     have i1_31 := h1
     refine wpS.tk 8 false (some 46) (.pointer (adr s2_A ((z5 : Int).toNat * Cod.size (CI .u32)))) (yld_idxL (C := (CI .u32)) (t := 81) (e := 83) (k := .i64) (x := z5) (hs.rowL 0 rfl) (by kernel_rfl) (by kernel_rfl) (by kernel_rfl) h0 h1) ?_
     obtain ⟨x18, hx, h⟩ := of_bind h
     refine wpS.only 9 (op_storeL (C := (CI .u32)) (t := 83) (x := z5) (v := x18) (d := none) (by kernel_rfl) hs 0 rfl (by cases hx; kernel_rfl) (by kernel_rfl) i0_31 i1_31 ?_)
     intro w hs
     refine ⟨fun _ => trivial, ?_⟩
     refine wpS.fin rfl (kr30 _ _ (then_n (ks29 _ _ (xseq_k fun KS32 ks32 => (xregS [0, 1, 2, 3] fun KR33 kr33 => ?_)))))
     refine wpS.qs [(0, 47, .int .u64 y12), (1, 48, .int .i64 a1)] ?_
     obtain ⟨h0, h⟩ := of_chk h
     refine wpS.tk 2 false (some 49) (.int .u64 (ishr .u64 y12 a1)) (yld_shr (t := 47) (k' := .i64) (by kernel_rfl) h0) ?_
     obtain ⟨x19, hx, h⟩ := of_bind h
     refine wpS.tk 3 false (some 8) (.int .u64 x19) (yld_int hx (fun _ => by kernel_rfl)) ?_
     refine wpS.fin rfl (kr33 _ _ (then_n (ks32 _ _ (xregS [0, 1, 2, 3] fun KR34 kr34 => ?_))))
     refine wpS.qs [(0, 50, .int .i64 y13), (1, 51, .int .i64 a1), (2, 52, .int .i64 (isub .i64 y13 a1))] ?_
     obtain ⟨x20, hx, h⟩ := of_bind h
     refine wpS.tk 3 false (some 9) (.int .i64 x20) (yld_int hx (fun _ => by kernel_rfl)) ?_
     refine wpS.fin rfl (kr34 _ _ (inBlock_n (then_n (ks18 _ _ (xregS [0, 1] fun KR35 kr35 => ?_)))))
     refine wpS.qs [(0, 53, .int .i64 (iadd .i64 z5 1)), (1, 20, .int .i64 (iadd .i64 z5 1))] ?_
     refine wpS.fin rfl (kr35 _ _ ?_)
     exact then_n (kl0 _ _ ⟨n, Nat.lt_succ_self n, x19, x20, (iadd .i64 z5 1), (wrL z6 z5 x18), y14, y14_A, y14_n, y14_c, h, (hs.pickR (pick_cons 0 rfl (pick_cons 2 rfl pick_nil))), exg (by kernel_rfl)⟩)
    refine wpS.tk 0 false (some 21) (.bool false) (yld_b (df hc) (fun _ => by kernel_rfl)) ?_
    refine wpS.fin rfl (kr16 _ _ (then_n (ks15 _ _ (xseq_k fun KS36 ks36 => (wp_cond_f (by kernel_rfl) (xexit (then_x (then_x (inBlock_hit ?_)))))))))
    have q0 := of_some h
    subst q0
    exact exq_n (nn0 _ _ ⟨(hs.pickR (pick_cons 1 rfl pick_nil)), exg (by kernel_rfl)⟩)
  clear hs h hy
  rintro a w ⟨hs, g14, rfl⟩
  have h := hk0
  refine then_n (ks10 _ _ (xseq_k fun KS37 ks37 => (xregS [0, 1] fun KR38 kr38 => ?_)))
  refine wpS.qs [(0, 54, .slice s2_A s2_n s2_c), (1, 6, .slice s2_A s2_n s2_c)] ?_
  refine wpS.fin rfl (kr38 _ _ (then_n (ks37 _ _ (xret ?_))))
  have q0 := of_some h
  subst q0
  exact qq _ _ (post_ret (by kernel_rfl) (run_results [.tmp 6] [.slice s2_A s2_n s2_c] (by kernel_rfl) (.cons (res_tmp (by kernel_rfl)) .nil)) ⟨⟨s2_A, s2_n, s2_c⟩, congrArg Ending.returned (by kernel_rfl), (hs.pickR pick_nil)⟩)
 | false =>
  have h := of_if_f h
  refine wpS.only 3 (op_call (d := (some 14)) (by kernel_rfl) hs (fun _ => by kernel_rfl) (bits_such.ok hg _ (hs.rowR 0 rfl)) ?_)
  intro w gw hs
  refine ⟨fun _ => trivial, ?_⟩
  refine wpS.q 4 15 (.bool true) ?_
  refine wpS.fin rfl (kr5 _ _ (then_n (ks4 _ _ (wp_cond_t (by kernel_rfl) (xseq_k fun KS39 ks39 => (xregS [0] fun KR40 kr40 => ?_))))))
  refine wpS.q 0 6 (.slice none 0 0) ?_
  refine wpS.fin rfl (kr40 _ _ (then_n (ks39 _ _ (xret (then_r ?_)))))
  have q0 := of_some h
  subst q0
  have hs := hs.addNilL (CI .u32) 83
  exact qq _ _ (post_ret (by kernel_rfl) (run_results [.tmp 6] [.slice none 0 0] (by kernel_rfl) (.cons (res_tmp (by kernel_rfl)) .nil)) ⟨⟨none, 0, 0⟩, congrArg Ending.returned (by kernel_rfl), (hs.pickR pick_nil)⟩)

theorem dpack_span_back.ok {K : Nat} {a0_0 : Int} {a0_1 : Int} {a1 : Int} {r0 : Int} (h : dpack_span_back.f K a0_0 a0_1 a1 = some r0) (w0 : World) : Ret Tryd.prog 47 #[.agg #[.int .i32 a0_0, .int .i32 a0_1], .int .u32 a1] w0 (.int .i32 r0) := by
 refine calls_k Tryd.func47 rfl fun Q qq => ?_
 have hs := St.start w0
 refine wp_conv (a' := ⟨#[.agg #[.int .i32 a0_0, .int .i32 a0_1], .int .u32 a1, undef, undef, undef, undef, undef, undef, undef, undef, undef, undef, undef, undef, undef, undef, undef, undef, undef, undef, undef, undef, undef], []⟩) (by kernel_rfl) ?_
 refine xseq_k fun KS1 ks1 => ?_
 refine xregS [0, 1] fun KR2 kr2 => ?_
 refine wpS.only 0 (op_box (t := 79) (v := .agg #[.int .i32 a0_0, .int .i32 a0_1]) (d := (some 2)) (by kernel_rfl) hs ([.int .i32 a0_0, .int .i32 a0_1]) (by kernel_rfl) (by kernel_rfl) ?_)
 intro b1 w gw hs
 refine ⟨fun _ => trivial, ?_⟩
 refine wpS.q 1 4 (.int .i32 0) ?_
 refine wpS.fin rfl (kr2 _ _ (then_n (ks1 _ _ (xseq_k fun KS3 ks3 => (xregS [0, 1, 2, 3, 4, 5] fun KR4 kr4 => ?_)))))
 refine wpS.q 0 6 (.pointer (some ⟨b1, 1, none⟩)) ?_
 refine wpS.tk 1 true (some 7) (.int .i32 a0_1) (yld_load1 (e := 21) (o := 1) hs 0 rfl (by kernel_rfl) (by kernel_rfl) (by rfl) .grow) ?_
 refine wpS.qs [(2, 8, .int .u32 a1), (3, 9, .int .i32 (iconv .i32 a1)), (4, 10, .int .i32 (isub .i32 a0_1 (iconv .i32 a1)))] ?_
 obtain ⟨x2, hx, h⟩ := of_bind h
 refine wpS.tk 5 false (some 5) (.int .i32 x2) (yld_int hx (fun _ => by kernel_rfl)) ?_
 refine wpS.fin rfl (kr4 _ _ (then_n (ks3 _ _ (xblock (xseq_k fun KS5 ks5 => (xregS [0, 1, 2, 3] fun KR6 kr6 => ?_))))))
 refine wpS.q 0 13 (.pointer (some ⟨b1, 0, none⟩)) ?_
 refine wpS.tk 1 true (some 14) (.int .i32 a0_0) (yld_load1 (e := 21) (o := 0) hs 0 rfl (by kernel_rfl) (by kernel_rfl) (by rfl) .grow) ?_
 rcases of_if h with ⟨hc, h⟩ | ⟨hc, h⟩
 ·refine wpS.tk 2 false (some 15) (.bool true) (yld_b (dt hc) (fun _ => by kernel_rfl)) ?_
  refine wpS.q 3 12 (.bool true) ?_
  refine wpS.fin rfl (kr6 _ _ (then_n (ks5 _ _ (wp_cond_t (by kernel_rfl) (xseq_k fun KS7 ks7 => (xregS [0, 1, 2] fun KR8 kr8 => ?_))))))
  refine wpS.qs [(0, 16, .int .u32 a1), (1, 17, .int .i32 (iconv .i32 a1))] ?_
  obtain ⟨x3, hx, h⟩ := of_bind h
  refine wpS.tk 2 false (some 4) (.int .i32 x3) (yld_int hx (fun _ => by kernel_rfl)) ?_
  refine wpS.fin rfl (kr8 _ _ (then_n (ks7 _ _ (xret (inBlock_r ?_)))))
  have q0 := of_some h
  subst q0
  exact qq _ _ (post_ret (by kernel_rfl) (run_results [.tmp 4] [.int .i32 x3] (by kernel_rfl) (.cons (res_tmp (by kernel_rfl)) .nil)) ⟨congrArg Ending.returned (by kernel_rfl), hs.none⟩)
 refine wpS.tk 2 false (some 15) (.bool false) (yld_b (df hc) (fun _ => by kernel_rfl)) ?_
 refine wpS.q 3 12 (.bool false) ?_
 refine wpS.fin rfl (kr6 _ _ (then_n (ks5 _ _ (wp_cond_f (by kernel_rfl) (xseq_k fun KS9 ks9 => (xregS [0, 1, 2] fun KR10 kr10 => ?_))))))
 refine wpS.q 0 19 (.int .i32 x2) ?_
 rcases of_if h with ⟨hc, h⟩ | ⟨hc, h⟩
 ·refine wpS.tk 1 false (some 20) (.bool true) (yld_b (dt hc) (fun _ => by kernel_rfl)) ?_
  refine wpS.q 2 18 (.bool true) ?_
  refine wpS.fin rfl (kr10 _ _ (then_n (ks9 _ _ (wp_cond_t (by kernel_rfl) (xseq_k fun KS11 ks11 => (xregS [0, 1, 2] fun KR12 kr12 => ?_))))))
  refine wpS.qs [(0, 21, .int .i32 x2), (1, 22, .int .i32 (iadd .i32 x2 8380417))] ?_
  obtain ⟨x4, hx, h⟩ := of_bind h
  refine wpS.tk 2 false (some 4) (.int .i32 x4) (yld_int hx (fun _ => by kernel_rfl)) ?_
  refine wpS.fin rfl (kr12 _ _ (then_n (ks11 _ _ (xret (inBlock_r ?_)))))
  have q0 := of_some h
  subst q0
  exact qq _ _ (post_ret (by kernel_rfl) (run_results [.tmp 4] [.int .i32 x4] (by kernel_rfl) (.cons (res_tmp (by kernel_rfl)) .nil)) ⟨congrArg Ending.returned (by kernel_rfl), hs.none⟩)
 refine wpS.tk 1 false (some 20) (.bool false) (yld_b (df hc) (fun _ => by kernel_rfl)) ?_
 refine wpS.q 2 18 (.bool false) ?_
 refine wpS.fin rfl (kr10 _ _ (then_n (ks9 _ _ (wp_cond_f (by kernel_rfl) (xseq_k fun KS13 ks13 => (xregS [0, 1] fun KR14 kr14 => ?_))))))
 refine wpS.qs [(0, 11, .int .i32 x2), (1, 4, .int .i32 x2)] ?_
 refine wpS.fin rfl (kr14 _ _ (then_n (ks13 _ _ (xret (inBlock_r ?_)))))
 have q0 := of_some h
 subst q0
 exact qq _ _ (post_ret (by kernel_rfl) (run_results [.tmp 4] [.int .i32 x2] (by kernel_rfl) (.cons (res_tmp (by kernel_rfl)) .nil)) ⟨congrArg Ending.returned (by kernel_rfl), hs.none⟩)
end Go.Proofs.YtppohhnfojalbaaDoor
