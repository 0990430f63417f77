/- Printed by this work's own program: the code of each function below comes to the answer that its plain form tells. -/
import Derived.Test.YtmpagpbnpgcecaaMd
import Derived.Test.YtmpagpbnpgcecaaProg
import Derived.Test.YtmpagpbnpgcecaaRF0
import Derived.Test.YtmpagpbnpgcecaaRX0
import Derived.Test.YtmpagpbnpgcecaaRX1
import Derived.Test.YtmpagpbnpgcecaaRX2
import Derived.Test.YtmpagpbnpgcecaaRX7
set_option linter.unusedVariables false
set_option linter.unusedSimpArgs false
set_option maxRecDepth 100000
set_option maxHeartbeats 4000000
namespace Go.Proofs.Ytmpagpbnpgcecaa
open Go.Mx
attribute [local irreducible] wpOp

theorem aes_Chain.ok {K : Nat} {a0 : List Int} {a1 : List Int} {a2 : List Int} {r0 : List Int} {r1 : Int} {a0_A : Option Addr} {a0_n : Nat} {a0_c : Nat} {a1_A : Option Addr} {a1_n : Nat} {a1_c : Nat} {a2_A : Option Addr} {a2_n : Nat} {a2_c : Nat} (h : aes_Chain.f K a0 a1 a2 = some (r0, r1)) (w0 : World) (hp0 : RowL (CI .u8) w0 a0_A a0_n a0_c a0) (hp1 : RowL (CI .u8) w0 a1_A a1_n a1_c a1) (hp2 : RowL (CI .u8) w0 a2_A a2_n a2_c a2) : Calls Try.prog 34 #[.slice a0_A a0_n a0_c, .slice a1_A a1_n a1_c, .slice a2_A a2_n a2_c] w0 fun e w' => ∃ h : (Option Addr × Nat × Nat), e = .returned (.tuple #[.slice h.1 h.2.1 h.2.2, .int .i64 r1]) ∧ St w0 [] [.ownL (CI .u8) h.1 h.2.1 h.2.2 r0 5] [] w' := by
 refine calls_m Try.func34 rfl fun Q qq qn => ?_
 have hs := St.startR (all_cons (RowP.ent hp0) (all_cons (RowP.ent hp1) (all_cons (RowP.ent hp2) all_nil)))
 refine wp_conv (a' := ⟨#[.slice a0_A a0_n a0_c, .slice a1_A a1_n a1_c, .slice a2_A a2_n a2_c, undef, undef, undef, undef, undef, undef, undef, undef, undef, undef, undef, undef, undef, undef, undef, undef, undef, undef, undef, undef, undef, undef, undef, undef, undef, undef, undef, undef, undef, undef, undef, undef, undef, undef, undef, undef, undef, undef, undef, undef, undef, undef, undef, undef, undef, undef, undef, undef, undef, undef], []⟩) (by kernel_rfl) ?_
 refine xseq_k fun KS1 ks1 => ?_
 refine xregS [0, 1] fun KR2 kr2 => ?_
 refine wpS.qs [(0, 6, .slice none 0 0), (1, 7, .int .i64 0)] ?_
 refine wpS.fin rfl (kr2 _ _ (then_n (ks1 _ _ (xseq_k fun KS3 ks3 => (xseq_k fun KS4 ks4 => (xregS [0, 1, 2, 3] fun KR5 kr5 => ?_))))))
 refine wpS.qs [(0, 15, .slice a0_A a0_n a0_c), (1, 16, .slice a1_A a1_n a1_c)] ?_
 obtain ⟨r1, hg, h⟩ := of_bind h
 refine wpS.only 2 (op_call (d := (some 17)) (by kernel_rfl) hs (fun _ => by kernel_rfl) (aes_wrong.ok hg _ (hs.rowR 0 rfl) (hs.rowR 1 rfl)) ?_)
 intro w gw hs
 refine ⟨fun _ => trivial, ?_⟩
 refine wpS.q 3 8 (.int .i64 r1) ?_
 refine wpS.fin rfl (kr5 _ _ (then_n (ks4 _ _ (xseq_k fun KS6 ks6 => (xregS [0, 1] fun KR7 kr7 => ?_)))))
 refine wpS.q 0 18 (.int .i64 r1) ?_
 rcases of_if h with ⟨hc, h⟩ | ⟨hc, h⟩
 ·refine wpS.tk 1 false (some 19) (.bool false) (yld_b (nf hc) (fun _ => by kernel_rfl)) ?_
  refine wpS.fin rfl (kr7 _ _ (then_n (ks6 _ _ (wp_cond_f (by kernel_rfl) (xskip (then_n (ks3 _ _ (xseq_k fun KS8 ks8 => (xseq_k fun KS9 ks9 => (xregS [0, 1, 2] fun KR10 kr10 => ?_))))))))))
  refine wpS.q 0 21 (.slice a2_A a2_n a2_c) ?_
  refine wpS.tk 1 false (some 22) (.int .i64 (a2.length : Int)) (yld_lenL (hs.rowR 2 rfl) (fun _ => by kernel_rfl)) ?_
  rcases of_if h with ⟨hc, h⟩ | ⟨hc, h⟩
  ·refine wpS.tk 2 false (some 23) (.bool true) (yld_b (dt hc) (fun _ => by kernel_rfl)) ?_
   refine wpS.fin rfl (kr10 _ _ (then_n (ks9 _ _ (wp_cond_t (by kernel_rfl) (xseq_k fun KS11 ks11 => (xregS [0, 1] fun KR12 kr12 => ?_))))))
   refine wpS.qs [(0, 6, .slice none 0 0), (1, 7, .int .i64 2)] ?_
   refine wpS.fin rfl (kr12 _ _ (then_n (ks11 _ _ (xret (then_r ?_)))))
   obtain ⟨q0, qr0⟩ := Prod.mk.inj (of_some h)
   have q1 := qr0
   subst q0
   subst q1
   refine qq _ _ ?_
   have hs := hs.addNilL (CI .u8) 5
   exact leaves_end (run_results [.tmp 6, .tmp 7] [.slice none 0 0, .int .i64 2] (by kernel_rfl) (.cons (res_tmp (by kernel_rfl)) (.cons (res_tmp (by kernel_rfl)) .nil))) ⟨⟨none, 0, 0⟩, congrArg Ending.returned (by kernel_rfl), (hs.pickR pick_nil)⟩
  refine wpS.tk 2 false (some 23) (.bool false) (yld_b (df hc) (fun _ => by kernel_rfl)) ?_
  refine wpS.fin rfl (kr10 _ _ (then_n (ks9 _ _ (wp_cond_f (by kernel_rfl) (xskip (then_n (ks8 _ _ (xseq_k fun KS13 ks13 => (xregS [0, 1, 2, 3, 4] fun KR14 kr14 => ?_)))))))))
  refine wpS.q 0 24 (.slice a2_A a2_n a2_c) ?_
  refine wpS.tk 1 false (some 25) (.int .i64 (a2.length : Int)) (yld_lenL (hs.rowR 2 rfl) (fun _ => by kernel_rfl)) ?_
  refine wpS.qs [(2, 26, .int .i64 (irem .i64 (a2.length : Int) 16)), (3, 27, .int .i64 (isub .i64 16 (irem .i64 (a2.length : Int) 16)))] ?_
  obtain ⟨x2, hx, h⟩ := of_bind h
  refine wpS.tk 4 false (some 9) (.int .i64 x2) (yld_int hx (fun _ => by kernel_rfl)) ?_
  refine wpS.fin rfl (kr14 _ _ (then_n (ks13 _ _ (xseq_k fun KS15 ks15 => (xregS [0, 1, 2, 3, 4, 5, 6] fun KR16 kr16 => ?_)))))
  refine wpS.q 0 28 (.slice a0_A a0_n a0_c) ?_
  obtain ⟨⟨r3, r4, r5⟩, hg, h⟩ := of_bind h
  refine wpS.only 1 (wpOp_call (d := (some 29)) (by kernel_rfl) (fun _ => by kernel_rfl) (aes_began_s.ok hg hs) ?_)
  rintro e w ⟨b6, b7, y8_A, y8_n, y8_c, rfl, hs⟩
  refine ⟨_, rfl, ?_⟩
  refine ⟨fun _ => trivial, ?_⟩
  refine wpS.q 2 30 (.slice a1_A a1_n a1_c) ?_
  refine wpS.only 3 (op_alloc (t := 53) (d := (some 10)) (by kernel_rfl) hs ([.pointer none]) (.pointer none) (by kernel_rfl) (by kernel_rfl) (by kernel_rfl) ?_)
  intro b11 w gw hs
  refine ⟨fun _ => trivial, ?_⟩
  refine wpS.only 4 (op_alloc (t := 26) (d := (some 11)) (by kernel_rfl) hs ([.slice none 0 0]) (.slice none 0 0) (by kernel_rfl) (by kernel_rfl) (by kernel_rfl) ?_)
  intro b12 w gw hs
  refine ⟨fun _ => trivial, ?_⟩
  refine wpS.only 5 (op_store1 (t := 53) (o := 0) (v := .pointer (some ⟨b6, 0, none⟩)) (d := none) (by kernel_rfl) hs 1 rfl (by kernel_rfl) rfl (by kernel_rfl) (by simp) ?_)
  intro w kp hs
  refine ⟨fun _ => trivial, ?_⟩
  refine wpS.only 6 (op_store1 (t := 26) (o := 0) (v := .slice a1_A a1_n a1_c) (d := none) (by kernel_rfl) hs 0 rfl (by kernel_rfl) rfl (by kernel_rfl) (by simp) ?_)
  intro w kp hs
  refine ⟨fun _ => trivial, ?_⟩
  refine wpS.fin rfl (kr16 _ _ (then_n (ks15 _ _ (xseq_k fun KS17 ks17 => (xregS [0] fun KR18 kr18 => ?_)))))
  refine wpS.only 0 (op_alloc (t := 26) (d := (some 12)) (by kernel_rfl) hs ([.slice none 0 0]) (.slice none 0 0) (by kernel_rfl) (by kernel_rfl) (by kernel_rfl) ?_)
  intro b13 w gw hs
  refine ⟨fun _ => trivial, ?_⟩
  refine wpS.fin rfl (kr18 _ _ (then_n (ks17 _ _ (xseq_k fun KS19 ks19 => (xseq_k fun KS20 ks20 => (xregS [0, 1, 2, 3, 4, 5, 6, 7, 8] fun KR21 kr21 => ?_))))))
  refine wpS.qs [(0, 31, .slice a2_A a2_n a2_c), (1, 32, .int .i64 x2), (2, 33, .int .u8 (iconv .u8 x2))] ?_
  refine wpS.only 3 (op_lit (C := (CI .u8)) (t := 26) (e := 5) (len := 1) (parts := #[(0, .int .u8 (iconv .u8 x2))]) (l := [(iconv .u8 x2)]) (d := (some 34)) (by kernel_rfl) hs (by kernel_rfl) (by kernel_rfl) (by kernel_rfl) (z := .int .u8 0) (by kernel_rfl) rfl (by decide) (by decide) (by kernel_rfl) ?_)
  intro s14_A s14_n s14_c w gw hs
  refine ⟨fun _ => trivial, ?_⟩
  refine wpS.q 4 35 (.int .i64 x2) ?_
  obtain ⟨r15, hg, h⟩ := of_bind h
  refine wpS.only 5 (op_callH (d := (some 36)) (by kernel_rfl) hs (fun _ => by kernel_rfl) (bytes_Repeat.ok hg _ (hs.rowL 0 rfl)) ?_)
  rintro ⟨r15_A, r15_n, r15_c⟩ w gw hs
  have hs := hs.conv (L' := [.rowL (CI .u8) r15_A r15_n r15_c r15, .ownL (CI .u8) s14_A s14_n s14_c ([(iconv .u8 x2)] : List Int) 5, .blk b13 ([.slice none 0 0]) 26, .blk b12 ([.slice a1_A a1_n a1_c]) 26, .blk b11 ([.pointer (some ⟨b6, 0, none⟩)]) 53, .ownL (CA .u8 16 (by decide)) y8_A y8_n y8_c r5 42, .blk b7 (([] : List Value) ++ enc .u8 r3 ++ enc .u8 r4 ++ ([] : List Value)) 48, .blk b6 ([.pointer (some ⟨b7, 0, none⟩), .slice y8_A y8_n y8_c]) 98]) rfl
  have hs := hs.toR 0 rfl
  refine ⟨fun _ => trivial, ?_⟩
  refine wpS.only 6 (op_lit (C := CS) (t := 44) (e := 26) (len := 2) (parts := #[(0, .slice a2_A a2_n a2_c), (1, .slice r15_A r15_n r15_c)]) (l := ([(a2_A, a2_n, a2_c), (r15_A, r15_n, r15_c)] : List HS)) (d := (some 37)) (by kernel_rfl) hs (by kernel_rfl) (by kernel_rfl) (by kernel_rfl) (z := .slice none 0 0) (by kernel_rfl) rfl (by decide) (by decide) (by kernel_rfl) ?_)
  intro s16_A s16_n s16_c w gw hs
  refine ⟨fun _ => trivial, ?_⟩
  obtain ⟨r17, hg, h⟩ := of_bind h
  refine wpS.only 7 (op_callH (d := (some 38)) (by kernel_rfl) hs (fun _ => by kernel_rfl) (bits_Join.ok hg _ (LLP.mk (hs.rowL 0 rfl) (inn_cons (hs.rowR 3 rfl) (inn_cons (hs.rowR 0 rfl) inn_nil)))) ?_)
  rintro ⟨r17_A, r17_n, r17_c⟩ w gw hs
  have hs := hs.conv (L' := [.ownL (CI .u8) r17_A r17_n r17_c r17 5, .ownL CS s16_A s16_n s16_c ([(a2_A, a2_n, a2_c), (r15_A, r15_n, r15_c)] : List HS) 26, .ownL (CI .u8) s14_A s14_n s14_c ([(iconv .u8 x2)] : List Int) 5, .blk b13 ([.slice none 0 0]) 26, .blk b12 ([.slice a1_A a1_n a1_c]) 26, .blk b11 ([.pointer (some ⟨b6, 0, none⟩)]) 53, .ownL (CA .u8 16 (by decide)) y8_A y8_n y8_c r5 42, .blk b7 (([] : List Value) ++ enc .u8 r3 ++ enc .u8 r4 ++ ([] : List Value)) 48, .blk b6 ([.pointer (some ⟨b7, 0, none⟩), .slice y8_A y8_n y8_c]) 98]) rfl
  refine ⟨fun _ => trivial, ?_⟩
  refine wpS.only 8 (op_inline (d := (some 39)) (f := 71) (args := #[.slice r17_A r17_n r17_c, .int .i64 16]) (by kernel_rfl) (fun _ => by kernel_rfl) fun R22 kI22 => ?_)
  refine calls_k Try.func71 rfl fun Q22 qq22 => ?_
  refine wp_conv (a' := ⟨#[.slice r17_A r17_n r17_c, .int .i64 16, undef, undef, undef, undef, undef, undef, undef], []⟩) (by kernel_rfl) ?_
  refine xseq_k fun KS23 ks23 => ?_
  refine xregS [0, 1, 2] fun KR24 kr24 => ?_
  refine wpS.only 0 (op_box (t := 26) (v := .slice r17_A r17_n r17_c) (d := (some 2)) (by kernel_rfl) hs ([.slice r17_A r17_n r17_c]) (by kernel_rfl) (by kernel_rfl) ?_)
  intro b18 w gw hs
  refine ⟨fun _ => trivial, ?_⟩
  refine wpS.only 1 (op_box (t := 3) (v := .int .i64 16) (d := (some 3)) (by kernel_rfl) hs ([.int .i64 16]) (by kernel_rfl) (by kernel_rfl) ?_)
  intro b19 w gw hs
  refine ⟨fun _ => trivial, ?_⟩
  refine wpS.q 2 4 (.nilFunc) ?_
  refine wpS.fin rfl (kr24 _ _ (then_n (ks23 _ _ (xseq_k fun KS25 ks25 => (xseq_k fun KS26 ks26 => (xregS [0, 1] fun KR27 kr27 => ?_))))))
  refine wpS.tk 0 true (some 5) (.int .i64 16) (yld_load1 (e := 3) (o := 0) hs 0 rfl (by kernel_rfl) (by kernel_rfl) (by rfl) .grow) ?_
  refine wpS.q 1 6 (.bool false) ?_
  refine wpS.fin rfl (kr27 _ _ (then_n (ks26 _ _ (wp_cond_f (by kernel_rfl) (xskip (then_n (ks25 _ _ (xseq_k fun KS28 ks28 => (xregS [0, 1] fun KR29 kr29 => ?_)))))))))
  refine wpS.qs [(0, 8, .func (.func 102) #[] #[.pointer (some ⟨b18, 0, none⟩), .pointer (some ⟨b19, 0, none⟩)]), (1, 4, .func (.func 102) #[] #[.pointer (some ⟨b18, 0, none⟩), .pointer (some ⟨b19, 0, none⟩)])] ?_
  refine wpS.fin rfl (kr29 _ _ (then_n (ks28 _ _ (xret ?_))))
  refine qq22 _ _ (post_ret (by kernel_rfl) (run_results [.tmp 4] [.func (.func 102) #[] #[.pointer (some ⟨b18, 0, none⟩), .pointer (some ⟨b19, 0, none⟩)]] (by kernel_rfl) (.cons (res_tmp (by kernel_rfl)) .nil)) ?_)
  refine kI22 _ _ ?_
  refine ⟨fun _ => trivial, ?_⟩
  refine wpS.fin rfl (kr21 _ _ (then_n (ks20 _ _ (xblock ?_))))
  refine wp_range (gf := 102) (lb := #[.pointer (some ⟨b18, 0, none⟩), .pointer (some ⟨b19, 0, none⟩)]) hs (by kernel_rfl) (fun _ _ => by kernel_rfl) fun l30 D30 rec30 w hok30 hs R30 kR30 => ?_
  refine calls_kn Try.func102 rfl fun Q30 qq30 qn30 => ?_
  refine wp_conv (a' := ⟨#[.func (.yield l30) #[] #[], .pointer (some ⟨b18, 0, none⟩), .pointer (some ⟨b19, 0, none⟩), undef, undef, undef, undef, undef, undef, undef, undef, undef, undef, undef, undef, undef, undef, undef, undef, undef, undef, undef, undef, undef, undef, undef, undef, undef, undef, undef, undef], []⟩) (by kernel_rfl) ?_
  refine xseq_k fun KS31 ks31 => ?_
  refine xregS [0] fun KR32 kr32 => ?_
  refine wpS.q 0 4 (.int .i64 0) ?_
  refine wpS.fin rfl (kr32 _ _ (then_n (ks31 _ _ ?_)))
  have hs := hs.addNilL (CI .u8) 5
  have hs := hs.freeze 5 rfl
  obtain ⟨⟨y25, y28⟩, hy, hk0⟩ := of_bind h
  refine wp_exq (N := fun a w => ∃ (y25_A : Option Addr) (y25_n : Nat) (y25_c : Nat) (y28_A : Option Addr) (y28_n : Nat) (y28_c : Nat), St w0 [] [.ownL (CI .u8) y25_A y25_n y25_c y25 5, .obj l30 (.loop (rec30 .ready none)), .obj D30 (.deferred (some [])), .blk b19 ([.int .i64 16]) 3, .blk b18 ([.slice r17_A r17_n r17_c]) 26, .ownL CS s16_A s16_n s16_c ([(a2_A, a2_n, a2_c), (r15_A, r15_n, r15_c)] : List HS) 26, .ownL (CI .u8) s14_A s14_n s14_c ([(iconv .u8 x2)] : List Int) 5, .blk b13 ([.slice y25_A y25_n y25_c]) 26, .blk b12 ([.slice y28_A y28_n y28_c]) 26, .blk b11 ([.pointer (some ⟨b6, 0, none⟩)]) 53, .ownL (CA .u8 16 (by decide)) y8_A y8_n y8_c r5 42, .blk b7 (([] : List Value) ++ enc .u8 r3 ++ enc .u8 r4 ++ ([] : List Value)) 48, .blk b6 ([.pointer (some ⟨b7, 0, none⟩), .slice y8_A y8_n y8_c]) 98] [.rowL (CI .u8) y28_A y28_n y28_c y28, .rowL (CI .u8) r17_A r17_n r17_c r17, .rowL (CI .u8) r15_A r15_n r15_c r15, .rowL (CI .u8) a0_A a0_n a0_c a0, .rowL (CI .u8) a1_A a1_n a1_c a1, .rowL (CI .u8) a2_A a2_n a2_c a2] w ∧ ∃ g34 : Nat → Value, a = ⟨#[.func (.yield l30) #[] #[], .pointer (some ⟨b18, 0, none⟩), .pointer (some ⟨b19, 0, none⟩), undef, (g34 4), (g34 5), (g34 6), (g34 7), (g34 8), (g34 9), (g34 10), (g34 11), (g34 12), (g34 13), (g34 14), (g34 15), (g34 16), (g34 17), (g34 18), (g34 19), (g34 20), (g34 21), (g34 22), (g34 23), (g34 24), (g34 25), (g34 26), (g34 27), (g34 28), (g34 29), (g34 30)], []⟩) (fun N0 nn0 => ?_) ?_
  ·clear hk0
   refine xblock ?_
   refine wp_loop_k (fun n a w => ∃ z20 z21 z24, ∃ (z21_A : Option Addr) (z21_n : Nat) (z21_c : Nat) (z24_A : Option Addr) (z24_n : Nat) (z24_c : Nat), aes_Chain.l0 K n r3 r4 r5 r17 z20 z21 z24 = some (y25, y28) ∧ St w0 [] [.ownL (CI .u8) z21_A z21_n z21_c z21 5, .obj l30 (.loop (rec30 .ready none)), .obj D30 (.deferred (some [])), .blk b19 ([.int .i64 16]) 3, .blk b18 ([.slice r17_A r17_n r17_c]) 26, .ownL CS s16_A s16_n s16_c ([(a2_A, a2_n, a2_c), (r15_A, r15_n, r15_c)] : List HS) 26, .ownL (CI .u8) s14_A s14_n s14_c ([(iconv .u8 x2)] : List Int) 5, .blk b13 ([.slice z21_A z21_n z21_c]) 26, .blk b12 ([.slice z24_A z24_n z24_c]) 26, .blk b11 ([.pointer (some ⟨b6, 0, none⟩)]) 53, .ownL (CA .u8 16 (by decide)) y8_A y8_n y8_c r5 42, .blk b7 (([] : List Value) ++ enc .u8 r3 ++ enc .u8 r4 ++ ([] : List Value)) 48, .blk b6 ([.pointer (some ⟨b7, 0, none⟩), .slice y8_A y8_n y8_c]) 98] [.rowL (CI .u8) z24_A z24_n z24_c z24, .rowL (CI .u8) r17_A r17_n r17_c r17, .rowL (CI .u8) r15_A r15_n r15_c r15, .rowL (CI .u8) a0_A a0_n a0_c a0, .rowL (CI .u8) a1_A a1_n a1_c a1, .rowL (CI .u8) a2_A a2_n a2_c a2] w ∧ ∃ g33 : Nat → Value, a = ⟨#[.func (.yield l30) #[] #[], .pointer (some ⟨b18, 0, none⟩), .pointer (some ⟨b19, 0, none⟩), undef, .int .i64 z20, (g33 5), (g33 6), (g33 7), (g33 8), (g33 9), (g33 10), (g33 11), (g33 12), (g33 13), (g33 14), (g33 15), (g33 16), (g33 17), (g33 18), (g33 19), (g33 20), (g33 21), (g33 22), (g33 23), (g33 24), (g33 25), (g33 26), (g33 27), (g33 28), (g33 29), (g33 30)], []⟩) K ⟨0, ([] : List Int), a1, none, 0, 0, a1_A, a1_n, a1_c, hy, (hs.conv (L' := [.ownL (CI .u8) none 0 0 ([] : List Int) 5, .obj l30 (.loop (rec30 .ready none)), .obj D30 (.deferred (some [])), .blk b19 ([.int .i64 16]) 3, .blk b18 ([.slice r17_A r17_n r17_c]) 26, .ownL CS s16_A s16_n s16_c ([(a2_A, a2_n, a2_c), (r15_A, r15_n, r15_c)] : List HS) 26, .ownL (CI .u8) s14_A s14_n s14_c ([(iconv .u8 x2)] : List Int) 5, .blk b13 ([.slice none 0 0]) 26, .blk b12 ([.slice a1_A a1_n a1_c]) 26, .blk b11 ([.pointer (some ⟨b6, 0, none⟩)]) 53, .ownL (CA .u8 16 (by decide)) y8_A y8_n y8_c r5 42, .blk b7 (([] : List Value) ++ enc .u8 r3 ++ enc .u8 r4 ++ ([] : List Value)) 48, .blk b6 ([.pointer (some ⟨b7, 0, none⟩), .slice y8_A y8_n y8_c]) 98]) rfl).pickR (pick_cons 3 rfl (pick_cons 0 rfl (pick_cons 1 rfl (pick_cons 2 rfl (pick_cons 3 rfl (pick_cons 4 rfl pick_nil)))))), exg (by kernel_rfl)⟩ ?_
   clear hs h hy
   rintro n a w ⟨z20, z21, z24, z21_A, z21_n, z21_c, z24_A, z24_n, z24_c, h, hs, g33, rfl⟩ KL0 kl0
   cases n with
   | zero => exact nomatch (show none = some _ from h)
   | succ n =>
    refine xseq_k fun KS35 ks35 => ?_
    refine xseq_k fun KS36 ks36 => ?_
    refine xregS [0, 1, 2, 3] fun KR37 kr37 => ?_
    refine wpS.q 0 6 (.int .i64 z20) ?_
    refine wpS.tk 1 true (some 7) (.slice r17_A r17_n r17_c) (yld_load1 (e := 26) (o := 0) hs 4 rfl (by kernel_rfl) (by kernel_rfl) (by rfl) .grow) ?_
    refine wpS.tk 2 false (some 8) (.int .i64 (r17.length : Int)) (yld_lenL (hs.rowR 1 rfl) (fun _ => by kernel_rfl)) ?_
    rcases of_if h with ⟨hc, h⟩ | ⟨hc, h⟩
    ·refine wpS.tk 3 false (some 9) (.bool true) (yld_b (dt hc) (fun _ => by kernel_rfl)) ?_
     refine wpS.fin rfl (kr37 _ _ (then_n (ks36 _ _ (wp_cond_t (by kernel_rfl) (xskip (then_n (ks35 _ _ (xseq_k fun KS38 ks38 => (xblock (xseq_k fun KS39 ks39 => ?_))))))))))
     refine wp_regG [] (fun k => True) 7 (by kernel_rfl) (by kernel_rfl) (by kernel_rfl) fun KR40 kr40 => ?_
     have hs := hs.drawn1
     refine wpG.tD 0 true (some 13) (.int .i64 16) (yld_load1 (e := 3) (o := 0) hs 3 rfl (by kernel_rfl) (by kernel_rfl) (by rfl) .grow) ?_
     refine wpG.tD 1 true (some 14) (.slice r17_A r17_n r17_c) (yld_load1 (e := 26) (o := 0) hs 4 rfl (by kernel_rfl) (by kernel_rfl) (by rfl) .grow) ?_
     refine wpG.q 2 15 (.int .i64 z20) ?_
     obtain ⟨h0, h⟩ := of_chk h
     obtain ⟨h1, h⟩ := of_chk h
     obtain ⟨h2, h⟩ := of_chk h
     obtain ⟨s29_A, hA⟩ : ∃ A, A = if r17_c = (z20 : Int).toNat then r17_A else adr r17_A ((z20 : Int).toNat * Cod.size (CI .u8)) := ⟨_, rfl⟩
     obtain ⟨s29_n, hn⟩ : ∃ n, n = ((r17.length : Int) : Int).toNat - (z20 : Int).toNat := ⟨_, rfl⟩
     obtain ⟨s29_c, hc⟩ : ∃ c, c = r17_c - (z20 : Int).toNat := ⟨_, rfl⟩
     refine wpG.tD 3 false (some 16) (.slice s29_A s29_n s29_c) (yld_sub (C := (CI .u8)) (t := 26) (e := 5) (low := some (.int .i64 z20)) (high := none) (lo := z20) (hi := (r17.length : Int)) (hs.rowR 1 rfl) (by kernel_rfl) (by kernel_rfl) (by kernel_rfl) (.inr ⟨_, rfl⟩) (.inl ⟨rfl, rfl⟩) h0 h1 h2 hA hn hc) ?_
     have hs := hs.addSub (C := (CI .u8)) 1 rfl h0 h1 h2 hA hn hc
     refine wpG.tD 4 false (some 17) (.int .i64 ((subL r17 z20 (r17.length : Int)).length : Int)) (yld_lenL (hs.rowR 0 rfl) (fun _ => by kernel_rfl)) ?_
     refine wpG.q 5 18 (.int .i64 (imin 16 ((subL r17 z20 (r17.length : Int)).length : Int))) ?_
     obtain ⟨x30, hx, h⟩ := of_bind h
     refine wpG.tD 6 false (some 5) (.int .i64 x30) (yld_int hx (fun _ => by kernel_rfl)) ?_
     refine wpG.fin (by kernel_rfl) rfl (kr40 _ _ ?_)
     refine then_n (ks39 _ _ (xseq_k fun KS41 ks41 => (xregS [0, 1, 2, 3, 4, 5, 6, 7, 8, 9, 10, 11] fun KR42 kr42 => ?_)))
     refine wpS.q 0 19 (.func (.yield l30) #[] #[]) ?_
     refine wpS.tk 1 true (some 20) (.slice r17_A r17_n r17_c) (yld_load1 (e := 26) (o := 0) hs 4 rfl (by kernel_rfl) (by kernel_rfl) (by rfl) .grow) ?_
     refine wpS.qs [(2, 21, .int .i64 z20), (3, 22, .int .i64 z20), (4, 23, .int .i64 x30), (5, 24, .int .i64 (iadd .i64 z20 x30)), (6, 25, .int .i64 z20), (7, 26, .int .i64 x30), (8, 27, .int .i64 (iadd .i64 z20 x30))] ?_
     obtain ⟨h0, h⟩ := of_chk h
     obtain ⟨h1, h⟩ := of_chk h
     obtain ⟨h2, h⟩ := of_chk h
     obtain ⟨h3, h⟩ := of_chk h
     obtain ⟨s31_A, hA⟩ : ∃ A, A = if ((iadd .i64 z20 x30) : Int).toNat = (z20 : Int).toNat then r17_A else adr r17_A ((z20 : Int).toNat * Cod.size (CI .u8)) := ⟨_, rfl⟩
     obtain ⟨s31_n, hn⟩ : ∃ n, n = ((iadd .i64 z20 x30) : Int).toNat - (z20 : Int).toNat := ⟨_, rfl⟩
     obtain ⟨s31_c, hc⟩ : ∃ c, c = ((iadd .i64 z20 x30) : Int).toNat - (z20 : Int).toNat := ⟨_, rfl⟩
     refine wpS.tk 9 false (some 28) (.slice s31_A s31_n s31_c) (yld_sub3 (mx := (iadd .i64 z20 x30)) (k := .i64) (C := (CI .u8)) (t := 26) (e := 5) (low := some (.int .i64 z20)) (high := some (.int .i64 (iadd .i64 z20 x30))) (lo := z20) (hi := (iadd .i64 z20 x30)) (hs.rowR 2 rfl) (by kernel_rfl) (by kernel_rfl) (by kernel_rfl) (.inr ⟨_, rfl⟩) ⟨_, rfl⟩ h0 h1 h2 h3 hA hn hc) ?_
     have hs := hs.addSub3 (C := (CI .u8)) 2 rfl h0 h1 h2 h3 hA hn hc
     refine wpS.onlyR 10 (op_yield (d := (some 29)) (by kernel_rfl) hs 1 rfl hok30 #[.slice s31_A s31_n s31_c] (by kernel_rfl) rfl (tm := #[.slice a0_A a0_n a0_c, .slice a1_A a1_n a1_c, .slice a2_A a2_n a2_c, undef, undef, undef, .slice none 0 0, .int .i64 0, .int .i64 r1, .int .i64 x2, .pointer (some ⟨b11, 0, none⟩), .pointer (some ⟨b12, 0, none⟩), .pointer (some ⟨b13, 0, none⟩), undef, undef, .slice a0_A a0_n a0_c, .slice a1_A a1_n a1_c, .int .i64 r1, .int .i64 r1, .bool false, undef, .slice a2_A a2_n a2_c, .int .i64 (a2.length : Int), .bool false, .slice a2_A a2_n a2_c, .int .i64 (a2.length : Int), .int .i64 (irem .i64 (a2.length : Int) 16), .int .i64 (isub .i64 16 (irem .i64 (a2.length : Int) 16)), .slice a0_A a0_n a0_c, .pointer (some ⟨b6, 0, none⟩), .slice a1_A a1_n a1_c, .slice a2_A a2_n a2_c, .int .i64 x2, .int .u8 (iconv .u8 x2), .slice s14_A s14_n s14_c, .int .i64 x2, .slice r15_A r15_n r15_c, .slice s16_A s16_n s16_c, .slice r17_A r17_n r17_c, .func (.func 102) #[] #[.pointer (some ⟨b18, 0, none⟩), .pointer (some ⟨b19, 0, none⟩)], .slice s31_A s31_n s31_c, undef, undef, undef, undef, undef, undef, undef, undef, undef, undef, undef, undef]) (by kernel_rfl) (by kernel_rfl) fun K43 k43 => ?_)
     refine xregS [0] fun KR44 kr44 => ?_
     refine wpS.q 0 13 (.slice s31_A s31_n s31_c) ?_
     refine wpS.fin rfl (kr44 _ _ (then_n (k43 _ _ 1 _ _ hs rfl fun w Qr43 hs qr43 => ?_)))
     try dsimp only [List.set] at hs
     refine xblock (xseq_k fun KS45 ks45 => ?_)
     obtain ⟨y33, hj, h⟩ := of_bind h
     refine wp_join (N := fun a w => ∃ (b32 : Nat), St w0 [] [.blk b32 (enc .u8 y33) 42, .ownL (CI .u8) z21_A z21_n z21_c z21 5, .obj l30 (.loop (rec30 .busy none)), .obj D30 (.deferred (some [])), .blk b19 ([.int .i64 16]) 3, .blk b18 ([.slice r17_A r17_n r17_c]) 26, .ownL CS s16_A s16_n s16_c ([(a2_A, a2_n, a2_c), (r15_A, r15_n, r15_c)] : List HS) 26, .ownL (CI .u8) s14_A s14_n s14_c ([(iconv .u8 x2)] : List Int) 5, .blk b13 ([.slice z21_A z21_n z21_c]) 26, .blk b12 ([.slice z24_A z24_n z24_c]) 26, .blk b11 ([.pointer (some ⟨b6, 0, none⟩)]) 53, .ownL (CA .u8 16 (by decide)) y8_A y8_n y8_c r5 42, .blk b7 (([] : List Value) ++ enc .u8 r3 ++ enc .u8 r4 ++ ([] : List Value)) 48, .blk b6 ([.pointer (some ⟨b7, 0, none⟩), .slice y8_A y8_n y8_c]) 98] [.rowL (CI .u8) s31_A s31_n s31_c (subL r17 z20 (iadd .i64 z20 x30)), .rowL (CI .u8) s29_A s29_n s29_c (subL r17 z20 (r17.length : Int)), .rowL (CI .u8) z24_A z24_n z24_c z24, .rowL (CI .u8) r17_A r17_n r17_c r17, .rowL (CI .u8) r15_A r15_n r15_c r15, .rowL (CI .u8) a0_A a0_n a0_c a0, .rowL (CI .u8) a1_A a1_n a1_c a1, .rowL (CI .u8) a2_A a2_n a2_c a2] w ∧ ∃ g46 : Nat → Value, a = ⟨#[.slice a0_A a0_n a0_c, .slice a1_A a1_n a1_c, .slice a2_A a2_n a2_c, undef, undef, undef, .slice none 0 0, .int .i64 0, .int .i64 r1, .int .i64 x2, .pointer (some ⟨b11, 0, none⟩), .pointer (some ⟨b12, 0, none⟩), .pointer (some ⟨b13, 0, none⟩), .slice s31_A s31_n s31_c, .pointer (some ⟨b32, 0, none⟩), .slice a0_A a0_n a0_c, .slice a1_A a1_n a1_c, .int .i64 r1, .int .i64 r1, .bool false, undef, .slice a2_A a2_n a2_c, .int .i64 (a2.length : Int), .bool false, .slice a2_A a2_n a2_c, .int .i64 (a2.length : Int), .int .i64 (irem .i64 (a2.length : Int) 16), .int .i64 (isub .i64 16 (irem .i64 (a2.length : Int) 16)), .slice a0_A a0_n a0_c, .pointer (some ⟨b6, 0, none⟩), .slice a1_A a1_n a1_c, .slice a2_A a2_n a2_c, .int .i64 x2, .int .u8 (iconv .u8 x2), .slice s14_A s14_n s14_c, .int .i64 x2, .slice r15_A r15_n r15_c, .slice s16_A s16_n s16_c, .slice r17_A r17_n r17_c, .func (.func 102) #[] #[.pointer (some ⟨b18, 0, none⟩), .pointer (some ⟨b19, 0, none⟩)], .slice s31_A s31_n s31_c, (g46 41), (g46 42), (g46 43), (g46 44), (g46 45), (g46 46), (g46 47), undef, undef, undef, undef, undef], []⟩) (fun N nj => ?_) ?_
     ·clear h
      have h := hj
      refine wp_regG [6, 8] (fun k => True) 9 (by kernel_rfl) (by kernel_rfl) (by kernel_rfl) fun KR47 kr47 => ?_
      have hs := hs.drawn1
      refine wpG.tD 0 true (some 41) (.pointer (some ⟨b6, 0, none⟩)) (yld_load1 (e := 53) (o := 0) hs 9 rfl (by kernel_rfl) (by kernel_rfl) (by rfl) .grow) ?_
      refine wpG.q 1 42 (.slice s31_A s31_n s31_c) ?_
      refine wpG.take [2, 3, 4, 5, 6, 8] 2 true (some 43) (.slice z24_A z24_n z24_c) (by kernel_rfl) (by kernel_rfl) (yld_load1 (e := 26) (o := 0) hs 8 rfl (by kernel_rfl) (by kernel_rfl) (by rfl) .grow) ?_
      refine wpG.many [3, 7] (by kernel_rfl) (by decide) (forall_cons ?_ (forall_cons ?_ forall_nil))
      ·obtain ⟨r34, hg, h⟩ := of_bind h
       refine (op_callH (d := (some 44)) (by kernel_rfl) hs (fun _ => by kernel_rfl) (bits_Xor.ok hg _ (hs.rowR 0 rfl) (hs.rowR 2 rfl)) ?_)
       rintro ⟨r34_A, r34_n, r34_c⟩ w gw hs
       have hs := hs.conv (L' := [.ownL (CI .u8) r34_A r34_n r34_c r34 5, .ownL (CI .u8) z21_A z21_n z21_c z21 5, .obj l30 (.loop (rec30 .busy none)), .obj D30 (.deferred (some [])), .blk b19 ([.int .i64 16]) 3, .blk b18 ([.slice r17_A r17_n r17_c]) 26, .ownL CS s16_A s16_n s16_c ([(a2_A, a2_n, a2_c), (r15_A, r15_n, r15_c)] : List HS) 26, .ownL (CI .u8) s14_A s14_n s14_c ([(iconv .u8 x2)] : List Int) 5, .blk b13 ([.slice z21_A z21_n z21_c]) 26, .blk b12 ([.slice z24_A z24_n z24_c]) 26, .blk b11 ([.pointer (some ⟨b6, 0, none⟩)]) 53, .ownL (CA .u8 16 (by decide)) y8_A y8_n y8_c r5 42, .blk b7 (([] : List Value) ++ enc .u8 r3 ++ enc .u8 r4 ++ ([] : List Value)) 48, .blk b6 ([.pointer (some ⟨b7, 0, none⟩), .slice y8_A y8_n y8_c]) 98]) rfl
       refine ⟨.of gw, ?_⟩
       obtain ⟨i0_48, h⟩ := of_chk h
       refine wpG.tD 4 false (some 45) (.pointer r34_A) (yld_toArr (t := 42) (e := 5) (n := 16) (len := r34_n) (c := r34_c) (by kernel_rfl) (by kernel_rfl) (by rw [RowL.length (C := (CI .u8)) (hs.rowL 0 rfl)]; exact i0_48)) ?_
       refine wpG.tD 5 true (some 46) (.agg (enc .u8 (arrL 16 r34)).toArray) (yld_loadArr (e := 42) (n := 16) (by decide) (hs.rowL 0 rfl) i0_48 (by kernel_rfl) (by kernel_rfl) (by kernel_rfl)) ?_
       refine wpG.many [6, 7] (by kernel_rfl) (by decide) (forall_cons ?_ (forall_cons ?_ forall_nil))
       ·have hs := hs.front 11 rfl
        have hs := hs.front 12 rfl
        have hs := hs.front 13 rfl
        try dsimp only [List.eraseIdx] at hs
        obtain ⟨r35, hg, h⟩ := of_bind h
        refine (wpOp_call (d := (some 47)) (by kernel_rfl) (fun _ => by kernel_rfl) (aes_cipher_there_s.ok hg hs) ?_)
        rintro e w ⟨rfl, hs⟩
        refine ⟨_, rfl, ?_⟩
        refine ⟨⟨fun hf => absurd hf (by decide), .all _ _⟩, ?_⟩
        refine wpG.only 7 (by kernel_rfl) (op_alloc (t := 42) (d := (some 14)) (by kernel_rfl) hs (enc .u8 (zeroA 16)) (.agg (enc .u8 (zeroA 16)).toArray) (by kernel_rfl) (by kernel_rfl) (by kernel_rfl) ?_)
        intro b36 w gw hs
        refine ⟨.of gw, ?_⟩
        refine wpG.only 8 (by kernel_rfl) (op_storeW (t := 42) (v := .agg (enc .u8 r35).toArray) (d := none) (by kernel_rfl) hs 0 rfl (vs := enc .u8 r35) (n := 16) (by kernel_rfl) (by kernel_rfl) (by kernel_rfl) (by simp [enc_len]) (by simp [enc_len]) (by intro u hu; exact enc_one _ _ u hu) ?_)
        intro w kp hs
        refine ⟨⟨fun hf => absurd hf (by decide), .all _ _⟩, ?_⟩
        refine wpG.fin (by kernel_rfl) rfl (kr47 _ _ ?_)
        have q0 := of_some h
        subst q0
        have hs := hs.front 2 rfl
        have hs := hs.front 3 rfl
        have hs := hs.front 14 rfl
        have hs := hs.front 14 rfl
        have hs := hs.front 14 rfl
        have hs := hs.front 14 rfl
        have hs := hs.front 14 rfl
        have hs := hs.front 14 rfl
        have hs := hs.front 14 rfl
        have hs := hs.front 14 rfl
        have hs := hs.front 14 rfl
        have hs := hs.front 14 rfl
        have hs := hs.front 12 rfl
        try dsimp only [List.eraseIdx] at hs
        exact nj _ _ ⟨b36, (hs.drop (.cons_cons _ (.cons_cons _ (.cons_cons _ (.cons_cons _ (.cons_cons _ (.cons_cons _ (.cons_cons _ (.cons_cons _ (.cons_cons _ (.cons_cons _ (.cons_cons _ (.cons_cons _ (.cons_cons _ (.cons_cons _ (.cons _ .slnil)))))))))))))))), exg (by kernel_rfl)⟩
       refine (op_alloc (t := 42) (d := (some 14)) (by kernel_rfl) hs (enc .u8 (zeroA 16)) (.agg (enc .u8 (zeroA 16)).toArray) (by kernel_rfl) (by kernel_rfl) (by kernel_rfl) ?_)
       intro b37 w gw hs
       refine ⟨.of gw, ?_⟩
       have hs := hs.front 12 rfl
       have hs := hs.front 13 rfl
       have hs := hs.front 14 rfl
       try dsimp only [List.eraseIdx] at hs
       obtain ⟨r38, hg, h⟩ := of_bind h
       refine wpG.only 6 (by kernel_rfl) (wpOp_call (d := (some 47)) (by kernel_rfl) (fun _ => by kernel_rfl) (aes_cipher_there_s.ok hg hs) ?_)
       rintro e w ⟨rfl, hs⟩
       refine ⟨_, rfl, ?_⟩
       refine ⟨⟨fun hf => absurd hf (by decide), .all _ _⟩, ?_⟩
       refine wpG.only 8 (by kernel_rfl) (op_storeW (t := 42) (v := .agg (enc .u8 r38).toArray) (d := none) (by kernel_rfl) hs 3 rfl (vs := enc .u8 r38) (n := 16) (by kernel_rfl) (by kernel_rfl) (by kernel_rfl) (by simp [enc_len]) (by simp [enc_len]) (by intro u hu; exact enc_one _ _ u hu) ?_)
       intro w kp hs
       refine ⟨⟨fun hf => absurd hf (by decide), .all _ _⟩, ?_⟩
       refine wpG.fin (by kernel_rfl) rfl (kr47 _ _ ?_)
       have q0 := of_some h
       subst q0
       have hs := hs.front 1 rfl
       have hs := hs.front 2 rfl
       have hs := hs.front 14 rfl
       have hs := hs.front 14 rfl
       have hs := hs.front 14 rfl
       have hs := hs.front 14 rfl
       have hs := hs.front 14 rfl
       have hs := hs.front 14 rfl
       have hs := hs.front 14 rfl
       have hs := hs.front 14 rfl
       have hs := hs.front 14 rfl
       have hs := hs.front 14 rfl
       have hs := hs.front 13 rfl
       try dsimp only [List.eraseIdx] at hs
       exact nj _ _ ⟨b37, (hs.drop (.cons_cons _ (.cons_cons _ (.cons_cons _ (.cons_cons _ (.cons_cons _ (.cons_cons _ (.cons_cons _ (.cons_cons _ (.cons_cons _ (.cons_cons _ (.cons_cons _ (.cons_cons _ (.cons_cons _ (.cons_cons _ (.cons _ .slnil)))))))))))))))), exg (by kernel_rfl)⟩
      refine (op_alloc (t := 42) (d := (some 14)) (by kernel_rfl) hs (enc .u8 (zeroA 16)) (.agg (enc .u8 (zeroA 16)).toArray) (by kernel_rfl) (by kernel_rfl) (by kernel_rfl) ?_)
      intro b39 w gw hs
      refine ⟨.of gw, ?_⟩
      obtain ⟨r40, hg, h⟩ := of_bind h
      refine wpG.only 3 (by kernel_rfl) (op_callH (d := (some 44)) (by kernel_rfl) hs (fun _ => by kernel_rfl) (bits_Xor.ok hg _ (hs.rowR 0 rfl) (hs.rowR 2 rfl)) ?_)
      rintro ⟨r40_A, r40_n, r40_c⟩ w gw hs
      have hs := hs.conv (L' := [.ownL (CI .u8) r40_A r40_n r40_c r40 5, .blk b39 (enc .u8 (zeroA 16)) 42, .ownL (CI .u8) z21_A z21_n z21_c z21 5, .obj l30 (.loop (rec30 .busy none)), .obj D30 (.deferred (some [])), .blk b19 ([.int .i64 16]) 3, .blk b18 ([.slice r17_A r17_n r17_c]) 26, .ownL CS s16_A s16_n s16_c ([(a2_A, a2_n, a2_c), (r15_A, r15_n, r15_c)] : List HS) 26, .ownL (CI .u8) s14_A s14_n s14_c ([(iconv .u8 x2)] : List Int) 5, .blk b13 ([.slice z21_A z21_n z21_c]) 26, .blk b12 ([.slice z24_A z24_n z24_c]) 26, .blk b11 ([.pointer (some ⟨b6, 0, none⟩)]) 53, .ownL (CA .u8 16 (by decide)) y8_A y8_n y8_c r5 42, .blk b7 (([] : List Value) ++ enc .u8 r3 ++ enc .u8 r4 ++ ([] : List Value)) 48, .blk b6 ([.pointer (some ⟨b7, 0, none⟩), .slice y8_A y8_n y8_c]) 98]) rfl
      refine ⟨.of gw, ?_⟩
      obtain ⟨i0_49, h⟩ := of_chk h
      refine wpG.tD 4 false (some 45) (.pointer r40_A) (yld_toArr (t := 42) (e := 5) (n := 16) (len := r40_n) (c := r40_c) (by kernel_rfl) (by kernel_rfl) (by rw [RowL.length (C := (CI .u8)) (hs.rowL 0 rfl)]; exact i0_49)) ?_
      refine wpG.tD 5 true (some 46) (.agg (enc .u8 (arrL 16 r40)).toArray) (yld_loadArr (e := 42) (n := 16) (by decide) (hs.rowL 0 rfl) i0_49 (by kernel_rfl) (by kernel_rfl) (by kernel_rfl)) ?_
      have hs := hs.front 12 rfl
      have hs := hs.front 13 rfl
      have hs := hs.front 14 rfl
      try dsimp only [List.eraseIdx] at hs
      obtain ⟨r41, hg, h⟩ := of_bind h
      refine wpG.only 6 (by kernel_rfl) (wpOp_call (d := (some 47)) (by kernel_rfl) (fun _ => by kernel_rfl) (aes_cipher_there_s.ok hg hs) ?_)
      rintro e w ⟨rfl, hs⟩
      refine ⟨_, rfl, ?_⟩
      refine ⟨⟨fun hf => absurd hf (by decide), .all _ _⟩, ?_⟩
      refine wpG.only 8 (by kernel_rfl) (op_storeW (t := 42) (v := .agg (enc .u8 r41).toArray) (d := none) (by kernel_rfl) hs 4 rfl (vs := enc .u8 r41) (n := 16) (by kernel_rfl) (by kernel_rfl) (by kernel_rfl) (by simp [enc_len]) (by simp [enc_len]) (by intro u hu; exact enc_one _ _ u hu) ?_)
      intro w kp hs
      refine ⟨⟨fun hf => absurd hf (by decide), .all _ _⟩, ?_⟩
      refine wpG.fin (by kernel_rfl) rfl (kr47 _ _ ?_)
      have q0 := of_some h
      subst q0
      have hs := hs.front 1 rfl
      have hs := hs.front 2 rfl
      have hs := hs.front 14 rfl
      have hs := hs.front 14 rfl
      have hs := hs.front 14 rfl
      have hs := hs.front 14 rfl
      have hs := hs.front 14 rfl
      have hs := hs.front 14 rfl
      have hs := hs.front 14 rfl
      have hs := hs.front 14 rfl
      have hs := hs.front 14 rfl
      have hs := hs.front 14 rfl
      have hs := hs.front 14 rfl
      try dsimp only [List.eraseIdx] at hs
      exact nj _ _ ⟨b39, (hs.drop (.cons_cons _ (.cons_cons _ (.cons_cons _ (.cons_cons _ (.cons_cons _ (.cons_cons _ (.cons_cons _ (.cons_cons _ (.cons_cons _ (.cons_cons _ (.cons_cons _ (.cons_cons _ (.cons_cons _ (.cons_cons _ (.cons _ .slnil)))))))))))))))), exg (by kernel_rfl)⟩
     clear hj hs
     rintro a w ⟨b32, hs, g46, rfl⟩
     refine then_n (ks45 _ _ ?_)
     refine wp_regG [2, 4, 5] (fun k => True) 6 (by kernel_rfl) (by kernel_rfl) (by kernel_rfl) fun KR50 kr50 => ?_
     have hs := hs.drawn1
     refine wpG.tD 0 true (some 48) (.slice z21_A z21_n z21_c) (yld_load1 (e := 26) (o := 0) hs 8 rfl (by kernel_rfl) (by kernel_rfl) (by rfl) .grow) ?_
     refine wpG.tD 1 false (some 49) (.slice (some ⟨b32, 0 + (0 : Int).toNat * 1, none⟩) ((16 : Int).toNat - (0 : Int).toNat) (16 - (0 : Int).toNat)) (yld_slA2 (t := 42) (e := 5) (n := 16) (low := Option.none) (high := Option.none) (lo := 0) (hi := 16) (by kernel_rfl) (by kernel_rfl) (by kernel_rfl) (.inl ⟨rfl, rfl⟩) (.inl ⟨rfl, rfl⟩) (by decide) (by decide) (by decide) (by decide)) ?_
     refine wpG.tD 3 false (some 51) (.slice (some ⟨b32, 0 + (0 : Int).toNat * 1, none⟩) ((16 : Int).toNat - (0 : Int).toNat) (16 - (0 : Int).toNat)) (yld_slA2 (t := 42) (e := 5) (n := 16) (low := Option.none) (high := Option.none) (lo := 0) (hi := 16) (by kernel_rfl) (by kernel_rfl) (by kernel_rfl) (.inl ⟨rfl, rfl⟩) (.inl ⟨rfl, rfl⟩) (by decide) (by decide) (by decide) (by decide)) ?_
     obtain ⟨h0, h⟩ := of_chk h
     refine wpG.only 2 (by kernel_rfl) (op_appendT (C := (CI .u8)) (t := 26) (ty := 26) (e := 5) (bytes := 1) (B := 140737488355328) (d := (some 50)) (by kernel_rfl) hs 1 rfl (hs.rowB (lo := 0) (hi := 16) 0 rfl (by decide) (by decide) (by decide)) (by kernel_rfl) (by kernel_rfl) (by kernel_rfl) (by kernel_rfl) (by kernel_rfl) h0 (by decide) (by decide) ?_)
     intro s42_A s42_n s42_c w hs
     refine ⟨⟨fun hf => absurd hf (by decide), .all _ _⟩, ?_⟩
     refine wpG.only 4 (by kernel_rfl) (op_store1 (t := 26) (o := 0) (v := .slice s42_A s42_n s42_c) (d := none) (by kernel_rfl) hs 8 rfl (by kernel_rfl) rfl (by kernel_rfl) (by simp) ?_)
     intro w kp hs
     refine ⟨⟨fun hf => absurd hf (by decide), .all _ _⟩, ?_⟩
     refine wpG.only 5 (by kernel_rfl) (op_storeW (t := 26) (v := .slice (some ⟨b32, 0 + (0 : Int).toNat * 1, none⟩) ((16 : Int).toNat - (0 : Int).toNat) (16 - (0 : Int).toNat)) (d := none) (by kernel_rfl) hs 9 rfl (vs := [.slice (some ⟨b32, 0 + (0 : Int).toNat * 1, none⟩) ((16 : Int).toNat - (0 : Int).toNat) (16 - (0 : Int).toNat)]) (n := 1) (by kernel_rfl) (by kernel_rfl) (by kernel_rfl) (by simp [enc_len]) (by simp [enc_len]) (by simp [Value.oneCell']) ?_)
     intro w kp hs
     refine ⟨⟨fun hf => absurd hf (by decide), .all _ _⟩, ?_⟩
     refine wpG.fin (by kernel_rfl) rfl (kr50 _ _ ?_)
     refine inBlock_n ?_
     refine round_n qr43 hs 2 rfl fun w hs => ?_
     try dsimp only [List.set] at hs
     refine ⟨fun _ => trivial, ?_⟩
     refine wpS.q 11 30 (.bool false) ?_
     refine wpS.fin rfl (kr42 _ _ (then_n (ks41 _ _ (wp_cond_f (by kernel_rfl) (xskip (inBlock_n (then_n (ks38 _ _ (xregS [0, 1, 2, 3] fun KR53 kr53 => ?_)))))))))
     refine wpS.q 0 10 (.int .i64 z20) ?_
     refine wpS.tk 1 true (some 11) (.int .i64 16) (yld_load1 (e := 3) (o := 0) hs 4 rfl (by kernel_rfl) (by kernel_rfl) (by rfl) .grow) ?_
     refine wpS.q 2 12 (.int .i64 (iadd .i64 z20 16)) ?_
     obtain ⟨x43, hx, h⟩ := of_bind h
     refine wpS.tk 3 false (some 4) (.int .i64 x43) (yld_int hx (fun _ => by kernel_rfl)) ?_
     refine wpS.fin rfl (kr53 _ _ ?_)
     have hs := hs.freezeB (lo := 0) (hi := 16) 0 rfl (by decide) (by decide) (by decide)
     exact then_n (kl0 _ _ ⟨n, Nat.lt_succ_self n, x43, (z21 ++ (subL (lA y33) 0 16)), (subL (lA y33) 0 16), s42_A, s42_n, s42_c, (some ⟨b32, 0 + (0 : Int).toNat * 1, none⟩), ((16 : Int).toNat - (0 : Int).toNat), (16 - (0 : Int).toNat), h, (hs.pickR (pick_cons 0 rfl (pick_cons 4 rfl (pick_cons 5 rfl (pick_cons 6 rfl (pick_cons 7 rfl (pick_cons 8 rfl pick_nil))))))), exg (by kernel_rfl)⟩)
    refine wpS.tk 3 false (some 9) (.bool false) (yld_b (df hc) (fun _ => by kernel_rfl)) ?_
    refine wpS.fin rfl (kr37 _ _ (then_n (ks36 _ _ (wp_cond_f (by kernel_rfl) (xexit (then_x (then_x (inBlock_hit ?_))))))))
    obtain ⟨q0, qr0⟩ := Prod.mk.inj (of_some h)
    have q1 := qr0
    subst q0
    subst q1
    exact exq_n (nn0 _ _ ⟨z21_A, z21_n, z21_c, z24_A, z24_n, z24_c, (hs.conv rfl), exg (by kernel_rfl)⟩)
  clear hs h hy
  rintro a w ⟨y25_A, y25_n, y25_c, y28_A, y28_n, y28_c, hs, g34, rfl⟩
  have h := hk0
  refine qn30 _ _ (post_nrm (by kernel_rfl) (run_results [] [] (by kernel_rfl) .nil) ?_)
  refine range_n (a1 := ⟨#[.slice a0_A a0_n a0_c, .slice a1_A a1_n a1_c, .slice a2_A a2_n a2_c, undef, undef, undef, .slice none 0 0, .int .i64 0, .int .i64 r1, .int .i64 x2, .pointer (some ⟨b11, 0, none⟩), .pointer (some ⟨b12, 0, none⟩), .pointer (some ⟨b13, 0, none⟩), undef, undef, .slice a0_A a0_n a0_c, .slice a1_A a1_n a1_c, .int .i64 r1, .int .i64 r1, .bool false, undef, .slice a2_A a2_n a2_c, .int .i64 (a2.length : Int), .bool false, .slice a2_A a2_n a2_c, .int .i64 (a2.length : Int), .int .i64 (irem .i64 (a2.length : Int) 16), .int .i64 (isub .i64 16 (irem .i64 (a2.length : Int) 16)), .slice a0_A a0_n a0_c, .pointer (some ⟨b6, 0, none⟩), .slice a1_A a1_n a1_c, .slice a2_A a2_n a2_c, .int .i64 x2, .int .u8 (iconv .u8 x2), .slice s14_A s14_n s14_c, .int .i64 x2, .slice r15_A r15_n r15_c, .slice s16_A s16_n s16_c, .slice r17_A r17_n r17_c, .func (.func 102) #[] #[.pointer (some ⟨b18, 0, none⟩), .pointer (some ⟨b19, 0, none⟩)], undef, undef, undef, undef, undef, undef, undef, undef, undef, undef, undef, undef, undef], [lmark D30]⟩) kR30 (by kernel_rfl) hs 1 rfl fun w hs => ?_
  try dsimp only [List.set] at hs
  refine inBlock_n (then_n (ks19 _ _ (xseq_k fun KS54 ks54 => (xregS [0, 1, 2] fun KR55 kr55 => ?_))))
  refine wpS.tk 0 true (some 52) (.slice y25_A y25_n y25_c) (yld_load1 (e := 26) (o := 0) hs 7 rfl (by kernel_rfl) (by kernel_rfl) (by rfl) .grow) ?_
  refine wpS.qs [(1, 6, .slice y25_A y25_n y25_c), (2, 7, .int .i64 0)] ?_
  refine wpS.fin rfl (kr55 _ _ (then_n (ks54 _ _ (xret ?_))))
  obtain ⟨q0, qr0⟩ := Prod.mk.inj (of_some h)
  have q1 := qr0
  subst q0
  subst q1
  refine qq _ _ ?_
  refine leaves_mark hs 2 rfl fun w hs => ?_
  try dsimp only [List.set] at hs
  exact leaves_end (run_results [.tmp 6, .tmp 7] [.slice y25_A y25_n y25_c, .int .i64 0] (by kernel_rfl) (.cons (res_tmp (by kernel_rfl)) (.cons (res_tmp (by kernel_rfl)) .nil))) ⟨⟨y25_A, y25_n, y25_c⟩, congrArg Ending.returned (by kernel_rfl), ((hs.drop (.cons_cons _ (.cons _ (.cons _ (.cons _ (.cons _ (.cons _ (.cons _ (.cons _ (.cons _ (.cons _ (.cons _ (.cons _ (.cons _ .slnil)))))))))))))).pickR pick_nil)⟩
 refine wpS.tk 1 false (some 19) (.bool true) (yld_b (nt hc) (fun _ => by kernel_rfl)) ?_
 refine wpS.fin rfl (kr7 _ _ (then_n (ks6 _ _ (wp_cond_t (by kernel_rfl) (xseq_k fun KS56 ks56 => (xregS [0, 1, 2] fun KR57 kr57 => ?_))))))
 refine wpS.qs [(0, 20, .int .i64 r1), (1, 6, .slice none 0 0), (2, 7, .int .i64 r1)] ?_
 refine wpS.fin rfl (kr57 _ _ (then_n (ks56 _ _ (xret (then_r ?_)))))
 obtain ⟨q0, qr0⟩ := Prod.mk.inj (of_some h)
 have q1 := qr0
 subst q0
 subst q1
 refine qq _ _ ?_
 have hs := hs.addNilL (CI .u8) 5
 exact leaves_end (run_results [.tmp 6, .tmp 7] [.slice none 0 0, .int .i64 r1] (by kernel_rfl) (.cons (res_tmp (by kernel_rfl)) (.cons (res_tmp (by kernel_rfl)) .nil))) ⟨⟨none, 0, 0⟩, congrArg Ending.returned (by kernel_rfl), (hs.pickR pick_nil)⟩

theorem bytes_Equal.ok {K : Nat} {a0 : List Int} {a1 : List Int} {r0 : Bool} {a0_A : Option Addr} {a0_n : Nat} {a0_c : Nat} {a1_A : Option Addr} {a1_n : Nat} {a1_c : Nat} (h : bytes_Equal.f K a0 a1 = some r0) (w0 : World) (hp0 : RowL (CI .u8) w0 a0_A a0_n a0_c a0) (hp1 : RowL (CI .u8) w0 a1_A a1_n a1_c a1) : Ret Try.prog 74 #[.slice a0_A a0_n a0_c, .slice a1_A a1_n a1_c] w0 (.bool r0) := by
 refine calls_k Try.func74 rfl fun Q qq => ?_
 have hs := St.startR (all_cons (RowP.ent hp0) (all_cons (RowP.ent hp1) all_nil))
 refine wp_conv (a' := ⟨#[.slice a0_A a0_n a0_c, .slice a1_A a1_n a1_c, undef, undef, undef, undef, undef, undef, undef, undef], []⟩) (by kernel_rfl) ?_
 refine xseq_k fun KS1 ks1 => ?_
 refine xregS [0] fun KR2 kr2 => ?_
 refine wpS.q 0 4 (.bool false) ?_
 refine wpS.fin rfl (kr2 _ _ (then_n (ks1 _ _ (xseq_k fun KS3 ks3 => (xregS [0, 1, 2, 3, 4, 5] fun KR4 kr4 => ?_)))))
 refine wpS.q 0 5 (.slice a0_A a0_n a0_c) ?_
 refine wpS.tk 1 true (some 6) (.string (strL a0)) (yld_conv (src := 26) (dst := 9) (e := 5) (hs.rowR 0 rfl) (by kernel_rfl) (by kernel_rfl) (by kernel_rfl) (by kernel_rfl)) ?_
 refine wpS.q 2 7 (.slice a1_A a1_n a1_c) ?_
 refine wpS.tk 3 true (some 8) (.string (strL a1)) (yld_conv (src := 26) (dst := 9) (e := 5) (hs.rowR 1 rfl) (by kernel_rfl) (by kernel_rfl) (by kernel_rfl) (by kernel_rfl)) ?_
 refine wpS.qs [(4, 9, .bool ((strL a0).toList == (strL a1).toList)), (5, 4, .bool ((strL a0).toList == (strL a1).toList))] ?_
 refine wpS.fin rfl (kr4 _ _ (then_n (ks3 _ _ (xret ?_))))
 have q0 := of_some h
 subst q0
 exact qq _ _ (post_ret (by kernel_rfl) (run_results [.tmp 4] [.bool ((strL a0).toList == (strL a1).toList)] (by kernel_rfl) (.cons (res_tmp (by kernel_rfl)) .nil)) ⟨congrArg Ending.returned (by kernel_rfl), hs.none⟩)

theorem aes_Unchain.ok {K : Nat} {a0 : List Int} {a1 : List Int} {a2 : List Int} {r0 : List Int} {r1 : Int} {a0_A : Option Addr} {a0_n : Nat} {a0_c : Nat} {a1_A : Option Addr} {a1_n : Nat} {a1_c : Nat} {a2_A : Option Addr} {a2_n : Nat} {a2_c : Nat} (h : aes_Unchain.f K a0 a1 a2 = some (r0, r1)) (w0 : World) (hp0 : RowL (CI .u8) w0 a0_A a0_n a0_c a0) (hp1 : RowL (CI .u8) w0 a1_A a1_n a1_c a1) (hp2 : RowL (CI .u8) w0 a2_A a2_n a2_c a2) : Calls Try.prog 36 #[.slice a0_A a0_n a0_c, .slice a1_A a1_n a1_c, .slice a2_A a2_n a2_c] w0 fun e w' => ∃ h : (Option Addr × Nat × Nat), e = .returned (.tuple #[.slice h.1 h.2.1 h.2.2, .int .i64 r1]) ∧ St w0 [] [.rowL (CI .u8) h.1 h.2.1 h.2.2 r0] [] w' := by
 refine calls_m Try.func36 rfl fun Q qq qn => ?_
 have hs := St.startR (all_cons (RowP.ent hp0) (all_cons (RowP.ent hp1) (all_cons (RowP.ent hp2) all_nil)))
 refine wp_conv (a' := ⟨#[.slice a0_A a0_n a0_c, .slice a1_A a1_n a1_c, .slice a2_A a2_n a2_c, undef, undef, undef, undef, undef, undef, undef, undef, undef, undef, undef, undef, undef, undef, undef, undef, undef, undef, undef, undef, undef, undef, undef, undef, undef, undef, undef, undef, undef, undef, undef, undef, undef, undef, undef, undef, undef, undef, undef, undef, undef, undef, undef, undef, undef, undef, undef, undef, undef, undef, undef, undef, undef, undef, undef, undef, undef, undef, undef, undef, undef, undef, undef, undef, undef, undef, undef, undef, undef, undef, undef, undef, undef, undef, undef, undef, undef, undef, undef, undef, undef, undef, undef], []⟩) (by kernel_rfl) ?_
 refine xseq_k fun KS1 ks1 => ?_
 refine xregS [0, 1] fun KR2 kr2 => ?_
 refine wpS.qs [(0, 6, .slice none 0 0), (1, 7, .int .i64 0)] ?_
 refine wpS.fin rfl (kr2 _ _ (then_n (ks1 _ _ (xseq_k fun KS3 ks3 => (xseq_k fun KS4 ks4 => (xregS [0, 1, 2, 3] fun KR5 kr5 => ?_))))))
 refine wpS.qs [(0, 15, .slice a0_A a0_n a0_c), (1, 16, .slice a1_A a1_n a1_c)] ?_
 obtain ⟨r1, hg, h⟩ := of_bind h
 refine wpS.only 2 (op_call (d := (some 17)) (by kernel_rfl) hs (fun _ => by kernel_rfl) (aes_wrong.ok hg _ (hs.rowR 0 rfl) (hs.rowR 1 rfl)) ?_)
 intro w gw hs
 refine ⟨fun _ => trivial, ?_⟩
 refine wpS.q 3 8 (.int .i64 r1) ?_
 refine wpS.fin rfl (kr5 _ _ (then_n (ks4 _ _ (xseq_k fun KS6 ks6 => (xregS [0, 1] fun KR7 kr7 => ?_)))))
 refine wpS.q 0 18 (.int .i64 r1) ?_
 rcases of_if h with ⟨hc, h⟩ | ⟨hc, h⟩
 ·refine wpS.tk 1 false (some 19) (.bool false) (yld_b (nf hc) (fun _ => by kernel_rfl)) ?_
  refine wpS.fin rfl (kr7 _ _ (then_n (ks6 _ _ (wp_cond_f (by kernel_rfl) (xskip (then_n (ks3 _ _ (xseq_k fun KS8 ks8 => (xblock (xseq_k fun KS9 ks9 => (xregS [0, 1, 2, 3, 4, 5, 6, 7, 8, 9] fun KR10 kr10 => ?_)))))))))))
  refine wpS.q 0 22 (.slice a2_A a2_n a2_c) ?_
  refine wpS.tk 1 false (some 23) (.int .i64 (a2.length : Int)) (yld_lenL (hs.rowR 2 rfl) (fun _ => by kernel_rfl)) ?_
  rcases of_if h with ⟨hc, h⟩ | ⟨hc, h⟩
  ·refine wpS.tk 2 false (some 24) (.bool true) (yld_b (et hc) (fun _ => by kernel_rfl)) ?_
   refine wpS.qs [(3, 25, .bool true), (4, 26, undef), (5, 27, undef), (6, 28, undef), (7, 29, undef), (8, 30, .bool true), (9, 21, .bool true)] ?_
   refine wpS.fin rfl (kr10 _ _ (then_n (ks9 _ _ (wp_cond_t (by kernel_rfl) (xseq_k fun KS11 ks11 => (xregS [0, 1] fun KR12 kr12 => ?_))))))
   refine wpS.qs [(0, 6, .slice none 0 0), (1, 7, .int .i64 14)] ?_
   refine wpS.fin rfl (kr12 _ _ (then_n (ks11 _ _ (xret (inBlock_r (then_r ?_))))))
   obtain ⟨q0, qr0⟩ := Prod.mk.inj (of_some h)
   have q1 := qr0
   subst q0
   subst q1
   refine qq _ _ ?_
   have hs := hs.addNilR (CI .u8)
   exact leaves_end (run_results [.tmp 6, .tmp 7] [.slice none 0 0, .int .i64 14] (by kernel_rfl) (.cons (res_tmp (by kernel_rfl)) (.cons (res_tmp (by kernel_rfl)) .nil))) ⟨⟨none, 0, 0⟩, congrArg Ending.returned (by kernel_rfl), (hs.pickR pick_nil)⟩
  refine wpS.tk 2 false (some 24) (.bool false) (yld_b (ef hc) (fun _ => by kernel_rfl)) ?_
  refine wpS.qs [(3, 25, .bool false), (4, 26, .slice a2_A a2_n a2_c)] ?_
  refine wpS.tk 5 false (some 27) (.int .i64 (a2.length : Int)) (yld_lenL (hs.rowR 2 rfl) (fun _ => by kernel_rfl)) ?_
  refine wpS.q 6 28 (.int .i64 (irem .i64 (a2.length : Int) 16)) ?_
  rcases of_if h with ⟨hc, h⟩ | ⟨hc, h⟩
  ·refine wpS.tk 7 false (some 29) (.bool false) (yld_b (nf hc) (fun _ => by kernel_rfl)) ?_
   refine wpS.qs [(8, 30, .bool false), (9, 21, .bool false)] ?_
   refine wpS.fin rfl (kr10 _ _ (then_n (ks9 _ _ (wp_cond_f (by kernel_rfl) (xseq_k fun KS13 ks13 => (xregS [0, 1, 2, 3] fun KR14 kr14 => ?_))))))
   refine wpS.q 0 32 (.slice a2_A a2_n a2_c) ?_
   refine wpS.tk 1 false (some 33) (.int .i64 (a2.length : Int)) (yld_lenL (hs.rowR 2 rfl) (fun _ => by kernel_rfl)) ?_
   rcases of_if h with ⟨hc, h⟩ | ⟨hc, h⟩
   ·refine wpS.tk 2 false (some 34) (.bool true) (yld_b (dt hc) (fun _ => by kernel_rfl)) ?_
    refine wpS.q 3 31 (.bool true) ?_
    refine wpS.fin rfl (kr14 _ _ (then_n (ks13 _ _ (wp_cond_t (by kernel_rfl) (xseq_k fun KS15 ks15 => (xregS [0, 1] fun KR16 kr16 => ?_))))))
    refine wpS.qs [(0, 6, .slice none 0 0), (1, 7, .int .i64 2)] ?_
    refine wpS.fin rfl (kr16 _ _ (then_n (ks15 _ _ (xret (inBlock_r (then_r ?_))))))
    obtain ⟨q0, qr0⟩ := Prod.mk.inj (of_some h)
    have q1 := qr0
    subst q0
    subst q1
    refine qq _ _ ?_
    have hs := hs.addNilR (CI .u8)
    exact leaves_end (run_results [.tmp 6, .tmp 7] [.slice none 0 0, .int .i64 2] (by kernel_rfl) (.cons (res_tmp (by kernel_rfl)) (.cons (res_tmp (by kernel_rfl)) .nil))) ⟨⟨none, 0, 0⟩, congrArg Ending.returned (by kernel_rfl), (hs.pickR pick_nil)⟩
   refine wpS.tk 2 false (some 34) (.bool false) (yld_b (df hc) (fun _ => by kernel_rfl)) ?_
   refine wpS.q 3 31 (.bool false) ?_
   refine wpS.fin rfl (kr14 _ _ (then_n (ks13 _ _ (wp_cond_f (by kernel_rfl) (xskip (inBlock_n (then_n (ks8 _ _ (xseq_k fun KS17 ks17 => (xregS [0, 1, 2, 3, 4, 5, 6] fun KR18 kr18 => ?_))))))))))
   refine wpS.q 0 35 (.slice a0_A a0_n a0_c) ?_
   obtain ⟨⟨r2, r3, r4⟩, hg, h⟩ := of_bind h
   refine wpS.only 1 (wpOp_call (d := (some 36)) (by kernel_rfl) (fun _ => by kernel_rfl) (aes_began_s.ok hg hs) ?_)
   rintro e w ⟨b5, b6, y7_A, y7_n, y7_c, rfl, hs⟩
   refine ⟨_, rfl, ?_⟩
   refine ⟨fun _ => trivial, ?_⟩
   refine wpS.q 2 37 (.slice a1_A a1_n a1_c) ?_
   refine wpS.only 3 (op_alloc (t := 53) (d := (some 9)) (by kernel_rfl) hs ([.pointer none]) (.pointer none) (by kernel_rfl) (by kernel_rfl) (by kernel_rfl) ?_)
   intro b10 w gw hs
   refine ⟨fun _ => trivial, ?_⟩
   refine wpS.only 4 (op_alloc (t := 26) (d := (some 10)) (by kernel_rfl) hs ([.slice none 0 0]) (.slice none 0 0) (by kernel_rfl) (by kernel_rfl) (by kernel_rfl) ?_)
   intro b11 w gw hs
   refine ⟨fun _ => trivial, ?_⟩
   refine wpS.only 5 (op_store1 (t := 53) (o := 0) (v := .pointer (some ⟨b5, 0, none⟩)) (d := none) (by kernel_rfl) hs 1 rfl (by kernel_rfl) rfl (by kernel_rfl) (by simp) ?_)
   intro w kp hs
   refine ⟨fun _ => trivial, ?_⟩
   refine wpS.only 6 (op_store1 (t := 26) (o := 0) (v := .slice a1_A a1_n a1_c) (d := none) (by kernel_rfl) hs 0 rfl (by kernel_rfl) rfl (by kernel_rfl) (by simp) ?_)
   intro w kp hs
   refine ⟨fun _ => trivial, ?_⟩
   refine wpS.fin rfl (kr18 _ _ (then_n (ks17 _ _ (xseq_k fun KS19 ks19 => (xregS [0] fun KR20 kr20 => ?_)))))
   refine wpS.only 0 (op_alloc (t := 26) (d := (some 11)) (by kernel_rfl) hs ([.slice none 0 0]) (.slice none 0 0) (by kernel_rfl) (by kernel_rfl) (by kernel_rfl) ?_)
   intro b12 w gw hs
   refine ⟨fun _ => trivial, ?_⟩
   refine wpS.fin rfl (kr20 _ _ (then_n (ks19 _ _ (xseq_k fun KS21 ks21 => (xseq_k fun KS22 ks22 => (xregS [0, 1] fun KR23 kr23 => ?_))))))
   refine wpS.q 0 38 (.slice a2_A a2_n a2_c) ?_
   refine wpS.only 1 (op_inline (d := (some 39)) (f := 71) (args := #[.slice a2_A a2_n a2_c, .int .i64 16]) (by kernel_rfl) (fun _ => by kernel_rfl) fun R24 kI24 => ?_)
   refine calls_k Try.func71 rfl fun Q24 qq24 => ?_
   refine wp_conv (a' := ⟨#[.slice a2_A a2_n a2_c, .int .i64 16, undef, undef, undef, undef, undef, undef, undef], []⟩) (by kernel_rfl) ?_
   refine xseq_k fun KS25 ks25 => ?_
   refine xregS [0, 1, 2] fun KR26 kr26 => ?_
   refine wpS.only 0 (op_box (t := 26) (v := .slice a2_A a2_n a2_c) (d := (some 2)) (by kernel_rfl) hs ([.slice a2_A a2_n a2_c]) (by kernel_rfl) (by kernel_rfl) ?_)
   intro b13 w gw hs
   refine ⟨fun _ => trivial, ?_⟩
   refine wpS.only 1 (op_box (t := 3) (v := .int .i64 16) (d := (some 3)) (by kernel_rfl) hs ([.int .i64 16]) (by kernel_rfl) (by kernel_rfl) ?_)
   intro b14 w gw hs
   refine ⟨fun _ => trivial, ?_⟩
   refine wpS.q 2 4 (.nilFunc) ?_
   refine wpS.fin rfl (kr26 _ _ (then_n (ks25 _ _ (xseq_k fun KS27 ks27 => (xseq_k fun KS28 ks28 => (xregS [0, 1] fun KR29 kr29 => ?_))))))
   refine wpS.tk 0 true (some 5) (.int .i64 16) (yld_load1 (e := 3) (o := 0) hs 0 rfl (by kernel_rfl) (by kernel_rfl) (by rfl) .grow) ?_
   refine wpS.q 1 6 (.bool false) ?_
   refine wpS.fin rfl (kr29 _ _ (then_n (ks28 _ _ (wp_cond_f (by kernel_rfl) (xskip (then_n (ks27 _ _ (xseq_k fun KS30 ks30 => (xregS [0, 1] fun KR31 kr31 => ?_)))))))))
   refine wpS.qs [(0, 8, .func (.func 102) #[] #[.pointer (some ⟨b13, 0, none⟩), .pointer (some ⟨b14, 0, none⟩)]), (1, 4, .func (.func 102) #[] #[.pointer (some ⟨b13, 0, none⟩), .pointer (some ⟨b14, 0, none⟩)])] ?_
   refine wpS.fin rfl (kr31 _ _ (then_n (ks30 _ _ (xret ?_))))
   refine qq24 _ _ (post_ret (by kernel_rfl) (run_results [.tmp 4] [.func (.func 102) #[] #[.pointer (some ⟨b13, 0, none⟩), .pointer (some ⟨b14, 0, none⟩)]] (by kernel_rfl) (.cons (res_tmp (by kernel_rfl)) .nil)) ?_)
   refine kI24 _ _ ?_
   refine ⟨fun _ => trivial, ?_⟩
   refine wpS.fin rfl (kr23 _ _ (then_n (ks22 _ _ (xblock ?_))))
   refine wp_range (gf := 102) (lb := #[.pointer (some ⟨b13, 0, none⟩), .pointer (some ⟨b14, 0, none⟩)]) hs (by kernel_rfl) (fun _ _ => by kernel_rfl) fun l32 D32 rec32 w hok32 hs R32 kR32 => ?_
   refine calls_kn Try.func102 rfl fun Q32 qq32 qn32 => ?_
   refine wp_conv (a' := ⟨#[.func (.yield l32) #[] #[], .pointer (some ⟨b13, 0, none⟩), .pointer (some ⟨b14, 0, none⟩), undef, undef, undef, undef, undef, undef, undef, undef, undef, undef, undef, undef, undef, undef, undef, undef, undef, undef, undef, undef, undef, undef, undef, undef, undef, undef, undef, undef], []⟩) (by kernel_rfl) ?_
   refine xseq_k fun KS33 ks33 => ?_
   refine xregS [0] fun KR34 kr34 => ?_
   refine wpS.q 0 4 (.int .i64 0) ?_
   refine wpS.fin rfl (kr34 _ _ (then_n (ks33 _ _ ?_)))
   have hs := hs.addNilL (CI .u8) 5
   obtain ⟨⟨y20, y23⟩, hy, hk0⟩ := of_bind h
   refine wp_exq (N := fun a w => ∃ (y20_A : Option Addr) (y20_n : Nat) (y20_c : Nat) (y23_A : Option Addr) (y23_n : Nat) (y23_c : Nat), St w0 [] [.ownL (CI .u8) y20_A y20_n y20_c y20 5, .obj l32 (.loop (rec32 .ready none)), .obj D32 (.deferred (some [])), .blk b14 ([.int .i64 16]) 3, .blk b13 ([.slice a2_A a2_n a2_c]) 26, .blk b12 ([.slice y20_A y20_n y20_c]) 26, .blk b11 ([.slice y23_A y23_n y23_c]) 26, .blk b10 ([.pointer (some ⟨b5, 0, none⟩)]) 53, .ownL (CA .u8 16 (by decide)) y7_A y7_n y7_c r4 42, .blk b6 (([] : List Value) ++ enc .u8 r2 ++ enc .u8 r3 ++ ([] : List Value)) 48, .blk b5 ([.pointer (some ⟨b6, 0, none⟩), .slice y7_A y7_n y7_c]) 98] [.rowL (CI .u8) y23_A y23_n y23_c y23, .rowL (CI .u8) a0_A a0_n a0_c a0, .rowL (CI .u8) a1_A a1_n a1_c a1, .rowL (CI .u8) a2_A a2_n a2_c a2] w ∧ ∃ g36 : Nat → Value, a = ⟨#[.func (.yield l32) #[] #[], .pointer (some ⟨b13, 0, none⟩), .pointer (some ⟨b14, 0, none⟩), undef, (g36 4), (g36 5), (g36 6), (g36 7), (g36 8), (g36 9), (g36 10), (g36 11), (g36 12), (g36 13), (g36 14), (g36 15), (g36 16), (g36 17), (g36 18), (g36 19), (g36 20), (g36 21), (g36 22), (g36 23), (g36 24), (g36 25), (g36 26), (g36 27), (g36 28), (g36 29), (g36 30)], []⟩) (fun N0 nn0 => ?_) ?_
   ·clear hk0
    refine xblock ?_
    refine wp_loop_k (fun n a w => ∃ z15 z16 z19, ∃ (z16_A : Option Addr) (z16_n : Nat) (z16_c : Nat) (z19_A : Option Addr) (z19_n : Nat) (z19_c : Nat), aes_Unchain.l0 K n a2 r2 r3 r4 z15 z16 z19 = some (y20, y23) ∧ St w0 [] [.ownL (CI .u8) z16_A z16_n z16_c z16 5, .obj l32 (.loop (rec32 .ready none)), .obj D32 (.deferred (some [])), .blk b14 ([.int .i64 16]) 3, .blk b13 ([.slice a2_A a2_n a2_c]) 26, .blk b12 ([.slice z16_A z16_n z16_c]) 26, .blk b11 ([.slice z19_A z19_n z19_c]) 26, .blk b10 ([.pointer (some ⟨b5, 0, none⟩)]) 53, .ownL (CA .u8 16 (by decide)) y7_A y7_n y7_c r4 42, .blk b6 (([] : List Value) ++ enc .u8 r2 ++ enc .u8 r3 ++ ([] : List Value)) 48, .blk b5 ([.pointer (some ⟨b6, 0, none⟩), .slice y7_A y7_n y7_c]) 98] [.rowL (CI .u8) z19_A z19_n z19_c z19, .rowL (CI .u8) a0_A a0_n a0_c a0, .rowL (CI .u8) a1_A a1_n a1_c a1, .rowL (CI .u8) a2_A a2_n a2_c a2] w ∧ ∃ g35 : Nat → Value, a = ⟨#[.func (.yield l32) #[] #[], .pointer (some ⟨b13, 0, none⟩), .pointer (some ⟨b14, 0, none⟩), undef, .int .i64 z15, (g35 5), (g35 6), (g35 7), (g35 8), (g35 9), (g35 10), (g35 11), (g35 12), (g35 13), (g35 14), (g35 15), (g35 16), (g35 17), (g35 18), (g35 19), (g35 20), (g35 21), (g35 22), (g35 23), (g35 24), (g35 25), (g35 26), (g35 27), (g35 28), (g35 29), (g35 30)], []⟩) K ⟨0, ([] : List Int), a1, none, 0, 0, a1_A, a1_n, a1_c, hy, (hs.conv (L' := [.ownL (CI .u8) none 0 0 ([] : List Int) 5, .obj l32 (.loop (rec32 .ready none)), .obj D32 (.deferred (some [])), .blk b14 ([.int .i64 16]) 3, .blk b13 ([.slice a2_A a2_n a2_c]) 26, .blk b12 ([.slice none 0 0]) 26, .blk b11 ([.slice a1_A a1_n a1_c]) 26, .blk b10 ([.pointer (some ⟨b5, 0, none⟩)]) 53, .ownL (CA .u8 16 (by decide)) y7_A y7_n y7_c r4 42, .blk b6 (([] : List Value) ++ enc .u8 r2 ++ enc .u8 r3 ++ ([] : List Value)) 48, .blk b5 ([.pointer (some ⟨b6, 0, none⟩), .slice y7_A y7_n y7_c]) 98]) rfl).pickR (pick_cons 1 rfl (pick_cons 0 rfl (pick_cons 1 rfl (pick_cons 2 rfl pick_nil)))), exg (by kernel_rfl)⟩ ?_
    clear hs h hy
    rintro n a w ⟨z15, z16, z19, z16_A, z16_n, z16_c, z19_A, z19_n, z19_c, h, hs, g35, rfl⟩ KL0 kl0
    cases n with
    | zero => exact nomatch (show none = some _ from h)
    | succ n =>
     refine xseq_k fun KS37 ks37 => ?_
     refine xseq_k fun KS38 ks38 => ?_
     refine xregS [0, 1, 2, 3] fun KR39 kr39 => ?_
     refine wpS.q 0 6 (.int .i64 z15) ?_
     refine wpS.tk 1 true (some 7) (.slice a2_A a2_n a2_c) (yld_load1 (e := 26) (o := 0) hs 4 rfl (by kernel_rfl) (by kernel_rfl) (by rfl) .grow) ?_
     refine wpS.tk 2 false (some 8) (.int .i64 (a2.length : Int)) (yld_lenL (hs.rowR 3 rfl) (fun _ => by kernel_rfl)) ?_
     rcases of_if h with ⟨hc, h⟩ | ⟨hc, h⟩
     ·refine wpS.tk 3 false (some 9) (.bool true) (yld_b (dt hc) (fun _ => by kernel_rfl)) ?_
      refine wpS.fin rfl (kr39 _ _ (then_n (ks38 _ _ (wp_cond_t (by kernel_rfl) (xskip (then_n (ks37 _ _ (xseq_k fun KS40 ks40 => (xblock (xseq_k fun KS41 ks41 => ?_))))))))))
      refine wp_regG [] (fun k => True) 7 (by kernel_rfl) (by kernel_rfl) (by kernel_rfl) fun KR42 kr42 => ?_
      have hs := hs.drawn1
      refine wpG.tD 0 true (some 13) (.int .i64 16) (yld_load1 (e := 3) (o := 0) hs 3 rfl (by kernel_rfl) (by kernel_rfl) (by rfl) .grow) ?_
      refine wpG.tD 1 true (some 14) (.slice a2_A a2_n a2_c) (yld_load1 (e := 26) (o := 0) hs 4 rfl (by kernel_rfl) (by kernel_rfl) (by rfl) .grow) ?_
      refine wpG.q 2 15 (.int .i64 z15) ?_
      obtain ⟨h0, h⟩ := of_chk h
      obtain ⟨h1, h⟩ := of_chk h
      obtain ⟨h2, h⟩ := of_chk h
      obtain ⟨s24_A, hA⟩ : ∃ A, A = if a2_c = (z15 : Int).toNat then a2_A else adr a2_A ((z15 : Int).toNat * Cod.size (CI .u8)) := ⟨_, rfl⟩
      obtain ⟨s24_n, hn⟩ : ∃ n, n = ((a2.length : Int) : Int).toNat - (z15 : Int).toNat := ⟨_, rfl⟩
      obtain ⟨s24_c, hc⟩ : ∃ c, c = a2_c - (z15 : Int).toNat := ⟨_, rfl⟩
      refine wpG.tD 3 false (some 16) (.slice s24_A s24_n s24_c) (yld_sub (C := (CI .u8)) (t := 26) (e := 5) (low := some (.int .i64 z15)) (high := none) (lo := z15) (hi := (a2.length : Int)) (hs.rowR 3 rfl) (by kernel_rfl) (by kernel_rfl) (by kernel_rfl) (.inr ⟨_, rfl⟩) (.inl ⟨rfl, rfl⟩) h0 h1 h2 hA hn hc) ?_
      have hs := hs.addSub (C := (CI .u8)) 3 rfl h0 h1 h2 hA hn hc
      refine wpG.tD 4 false (some 17) (.int .i64 ((subL a2 z15 (a2.length : Int)).length : Int)) (yld_lenL (hs.rowR 0 rfl) (fun _ => by kernel_rfl)) ?_
      refine wpG.q 5 18 (.int .i64 (imin 16 ((subL a2 z15 (a2.length : Int)).length : Int))) ?_
      obtain ⟨x25, hx, h⟩ := of_bind h
      refine wpG.tD 6 false (some 5) (.int .i64 x25) (yld_int hx (fun _ => by kernel_rfl)) ?_
      refine wpG.fin (by kernel_rfl) rfl (kr42 _ _ ?_)
      refine then_n (ks41 _ _ (xseq_k fun KS43 ks43 => (xregS [0, 1, 2, 3, 4, 5, 6, 7, 8, 9, 10, 11] fun KR44 kr44 => ?_)))
      refine wpS.q 0 19 (.func (.yield l32) #[] #[]) ?_
      refine wpS.tk 1 true (some 20) (.slice a2_A a2_n a2_c) (yld_load1 (e := 26) (o := 0) hs 4 rfl (by kernel_rfl) (by kernel_rfl) (by rfl) .grow) ?_
      refine wpS.qs [(2, 21, .int .i64 z15), (3, 22, .int .i64 z15), (4, 23, .int .i64 x25), (5, 24, .int .i64 (iadd .i64 z15 x25)), (6, 25, .int .i64 z15), (7, 26, .int .i64 x25), (8, 27, .int .i64 (iadd .i64 z15 x25))] ?_
      obtain ⟨h0, h⟩ := of_chk h
      obtain ⟨h1, h⟩ := of_chk h
      obtain ⟨h2, h⟩ := of_chk h
      obtain ⟨h3, h⟩ := of_chk h
      obtain ⟨s26_A, hA⟩ : ∃ A, A = if ((iadd .i64 z15 x25) : Int).toNat = (z15 : Int).toNat then a2_A else adr a2_A ((z15 : Int).toNat * Cod.size (CI .u8)) := ⟨_, rfl⟩
      obtain ⟨s26_n, hn⟩ : ∃ n, n = ((iadd .i64 z15 x25) : Int).toNat - (z15 : Int).toNat := ⟨_, rfl⟩
      obtain ⟨s26_c, hc⟩ : ∃ c, c = ((iadd .i64 z15 x25) : Int).toNat - (z15 : Int).toNat := ⟨_, rfl⟩
      refine wpS.tk 9 false (some 28) (.slice s26_A s26_n s26_c) (yld_sub3 (mx := (iadd .i64 z15 x25)) (k := .i64) (C := (CI .u8)) (t := 26) (e := 5) (low := some (.int .i64 z15)) (high := some (.int .i64 (iadd .i64 z15 x25))) (lo := z15) (hi := (iadd .i64 z15 x25)) (hs.rowR 4 rfl) (by kernel_rfl) (by kernel_rfl) (by kernel_rfl) (.inr ⟨_, rfl⟩) ⟨_, rfl⟩ h0 h1 h2 h3 hA hn hc) ?_
      have hs := hs.addSub3 (C := (CI .u8)) 4 rfl h0 h1 h2 h3 hA hn hc
      refine wpS.onlyR 10 (op_yield (d := (some 29)) (by kernel_rfl) hs 1 rfl hok32 #[.slice s26_A s26_n s26_c] (by kernel_rfl) rfl (tm := #[.slice a0_A a0_n a0_c, .slice a1_A a1_n a1_c, .slice a2_A a2_n a2_c, undef, undef, undef, .slice none 0 0, .int .i64 0, .int .i64 r1, .pointer (some ⟨b10, 0, none⟩), .pointer (some ⟨b11, 0, none⟩), .pointer (some ⟨b12, 0, none⟩), undef, undef, undef, .slice a0_A a0_n a0_c, .slice a1_A a1_n a1_c, .int .i64 r1, .int .i64 r1, .bool false, undef, .bool false, .slice a2_A a2_n a2_c, .int .i64 (a2.length : Int), .bool false, .bool false, .slice a2_A a2_n a2_c, .int .i64 (a2.length : Int), .int .i64 (irem .i64 (a2.length : Int) 16), .bool false, .bool false, .bool false, .slice a2_A a2_n a2_c, .int .i64 (a2.length : Int), .bool false, .slice a0_A a0_n a0_c, .pointer (some ⟨b5, 0, none⟩), .slice a1_A a1_n a1_c, .slice a2_A a2_n a2_c, .func (.func 102) #[] #[.pointer (some ⟨b13, 0, none⟩), .pointer (some ⟨b14, 0, none⟩)], .slice s26_A s26_n s26_c, undef, undef, undef, undef, undef, undef, undef, undef, undef, undef, undef, undef, undef, undef, undef, undef, undef, undef, undef, undef, undef, undef, undef, undef, undef, undef, undef, undef, undef, undef, undef, undef, undef, undef, undef, undef, undef, undef, undef, undef, undef, undef, undef, undef, undef]) (by kernel_rfl) (by kernel_rfl) fun K45 k45 => ?_)
      refine xregS [0] fun KR46 kr46 => ?_
      refine wpS.q 0 12 (.slice s26_A s26_n s26_c) ?_
      refine wpS.fin rfl (kr46 _ _ (then_n (k45 _ _ 1 _ _ hs rfl fun w Qr45 hs qr45 => ?_)))
      try dsimp only [List.set] at hs
      refine xblock (xseq_k fun KS47 ks47 => ?_)
      obtain ⟨y28, hj, h⟩ := of_bind h
      refine wp_join (N := fun a w => ∃ (b27 : Nat), St w0 [] [.blk b27 (enc .u8 y28) 42, .ownL (CI .u8) z16_A z16_n z16_c z16 5, .obj l32 (.loop (rec32 .busy none)), .obj D32 (.deferred (some [])), .blk b14 ([.int .i64 16]) 3, .blk b13 ([.slice a2_A a2_n a2_c]) 26, .blk b12 ([.slice z16_A z16_n z16_c]) 26, .blk b11 ([.slice z19_A z19_n z19_c]) 26, .blk b10 ([.pointer (some ⟨b5, 0, none⟩)]) 53, .ownL (CA .u8 16 (by decide)) y7_A y7_n y7_c r4 42, .blk b6 (([] : List Value) ++ enc .u8 r2 ++ enc .u8 r3 ++ ([] : List Value)) 48, .blk b5 ([.pointer (some ⟨b6, 0, none⟩), .slice y7_A y7_n y7_c]) 98] [.rowL (CI .u8) s26_A s26_n s26_c (subL a2 z15 (iadd .i64 z15 x25)), .rowL (CI .u8) s24_A s24_n s24_c (subL a2 z15 (a2.length : Int)), .rowL (CI .u8) z19_A z19_n z19_c z19, .rowL (CI .u8) a0_A a0_n a0_c a0, .rowL (CI .u8) a1_A a1_n a1_c a1, .rowL (CI .u8) a2_A a2_n a2_c a2] w ∧ ∃ g48 : Nat → Value, a = ⟨#[.slice a0_A a0_n a0_c, .slice a1_A a1_n a1_c, .slice a2_A a2_n a2_c, undef, undef, undef, .slice none 0 0, .int .i64 0, .int .i64 r1, .pointer (some ⟨b10, 0, none⟩), .pointer (some ⟨b11, 0, none⟩), .pointer (some ⟨b12, 0, none⟩), .slice s26_A s26_n s26_c, .pointer (some ⟨b27, 0, none⟩), undef, .slice a0_A a0_n a0_c, .slice a1_A a1_n a1_c, .int .i64 r1, .int .i64 r1, .bool false, undef, .bool false, .slice a2_A a2_n a2_c, .int .i64 (a2.length : Int), .bool false, .bool false, .slice a2_A a2_n a2_c, .int .i64 (a2.length : Int), .int .i64 (irem .i64 (a2.length : Int) 16), .bool false, .bool false, .bool false, .slice a2_A a2_n a2_c, .int .i64 (a2.length : Int), .bool false, .slice a0_A a0_n a0_c, .pointer (some ⟨b5, 0, none⟩), .slice a1_A a1_n a1_c, .slice a2_A a2_n a2_c, .func (.func 102) #[] #[.pointer (some ⟨b13, 0, none⟩), .pointer (some ⟨b14, 0, none⟩)], .slice s26_A s26_n s26_c, (g48 41), (g48 42), (g48 43), (g48 44), (g48 45), undef, undef, undef, undef, undef, undef, undef, undef, undef, undef, undef, undef, undef, undef, undef, undef, undef, undef, undef, undef, undef, undef, undef, undef, undef, undef, undef, undef, undef, undef, undef, undef, undef, undef, undef, undef, undef, undef, undef, undef], []⟩) (fun N nj => ?_) ?_
      ·clear h
       have h := hj
       refine wp_regG [4, 6] (fun k => True) 7 (by kernel_rfl) (by kernel_rfl) (by kernel_rfl) fun KR49 kr49 => ?_
       have hs := hs.drawn1
       refine wpG.tD 0 true (some 41) (.pointer (some ⟨b5, 0, none⟩)) (yld_load1 (e := 53) (o := 0) hs 7 rfl (by kernel_rfl) (by kernel_rfl) (by rfl) .grow) ?_
       refine wpG.q 1 42 (.slice s26_A s26_n s26_c) ?_
       obtain ⟨i0_50, h⟩ := of_chk h
       refine wpG.tD 2 false (some 43) (.pointer s26_A) (yld_toArr (t := 42) (e := 5) (n := 16) (len := s26_n) (c := s26_c) (by kernel_rfl) (by kernel_rfl) (by rw [RowL.length (C := (CI .u8)) (hs.rowR 0 rfl)]; exact i0_50)) ?_
       refine wpG.tD 3 true (some 44) (.agg (enc .u8 (arrL 16 (subL a2 z15 (iadd .i64 z15 x25)))).toArray) (yld_loadArr (e := 42) (n := 16) (by decide) (hs.rowR 0 rfl) i0_50 (by kernel_rfl) (by kernel_rfl) (by kernel_rfl)) ?_
       refine wpG.many [4, 5] (by kernel_rfl) (by decide) (forall_cons ?_ (forall_cons ?_ forall_nil))
       ·have hs := hs.front 8 rfl
        have hs := hs.front 9 rfl
        have hs := hs.front 10 rfl
        try dsimp only [List.eraseIdx] at hs
        obtain ⟨r29, hg, h⟩ := of_bind h
        refine (wpOp_call (d := (some 45)) (by kernel_rfl) (fun _ => by kernel_rfl) (aes_cipher_undo_s.ok hg hs) ?_)
        rintro e w ⟨rfl, hs⟩
        refine ⟨_, rfl, ?_⟩
        refine ⟨⟨fun hf => absurd hf (by decide), .all _ _⟩, ?_⟩
        refine wpG.only 5 (by kernel_rfl) (op_alloc (t := 42) (d := (some 13)) (by kernel_rfl) hs (enc .u8 (zeroA 16)) (.agg (enc .u8 (zeroA 16)).toArray) (by kernel_rfl) (by kernel_rfl) (by kernel_rfl) ?_)
        intro b30 w gw hs
        refine ⟨.of gw, ?_⟩
        refine wpG.only 6 (by kernel_rfl) (op_storeW (t := 42) (v := .agg (enc .u8 r29).toArray) (d := none) (by kernel_rfl) hs 0 rfl (vs := enc .u8 r29) (n := 16) (by kernel_rfl) (by kernel_rfl) (by kernel_rfl) (by simp [enc_len]) (by simp [enc_len]) (by intro u hu; exact enc_one _ _ u hu) ?_)
        intro w kp hs
        refine ⟨⟨fun hf => absurd hf (by decide), .all _ _⟩, ?_⟩
        refine wpG.fin (by kernel_rfl) rfl (kr49 _ _ ?_)
        have q0 := of_some h
        subst q0
        have hs := hs.front 2 rfl
        have hs := hs.front 3 rfl
        have hs := hs.front 11 rfl
        have hs := hs.front 11 rfl
        have hs := hs.front 11 rfl
        have hs := hs.front 11 rfl
        have hs := hs.front 11 rfl
        have hs := hs.front 11 rfl
        have hs := hs.front 11 rfl
        have hs := hs.front 11 rfl
        have hs := hs.front 10 rfl
        try dsimp only [List.eraseIdx] at hs
        exact nj _ _ ⟨b30, (hs.conv rfl), exg (by kernel_rfl)⟩
       refine (op_alloc (t := 42) (d := (some 13)) (by kernel_rfl) hs (enc .u8 (zeroA 16)) (.agg (enc .u8 (zeroA 16)).toArray) (by kernel_rfl) (by kernel_rfl) (by kernel_rfl) ?_)
       intro b31 w gw hs
       refine ⟨.of gw, ?_⟩
       have hs := hs.front 9 rfl
       have hs := hs.front 10 rfl
       have hs := hs.front 11 rfl
       try dsimp only [List.eraseIdx] at hs
       obtain ⟨r32, hg, h⟩ := of_bind h
       refine wpG.only 4 (by kernel_rfl) (wpOp_call (d := (some 45)) (by kernel_rfl) (fun _ => by kernel_rfl) (aes_cipher_undo_s.ok hg hs) ?_)
       rintro e w ⟨rfl, hs⟩
       refine ⟨_, rfl, ?_⟩
       refine ⟨⟨fun hf => absurd hf (by decide), .all _ _⟩, ?_⟩
       refine wpG.only 6 (by kernel_rfl) (op_storeW (t := 42) (v := .agg (enc .u8 r32).toArray) (d := none) (by kernel_rfl) hs 3 rfl (vs := enc .u8 r32) (n := 16) (by kernel_rfl) (by kernel_rfl) (by kernel_rfl) (by simp [enc_len]) (by simp [enc_len]) (by intro u hu; exact enc_one _ _ u hu) ?_)
       intro w kp hs
       refine ⟨⟨fun hf => absurd hf (by decide), .all _ _⟩, ?_⟩
       refine wpG.fin (by kernel_rfl) rfl (kr49 _ _ ?_)
       have q0 := of_some h
       subst q0
       have hs := hs.front 1 rfl
       have hs := hs.front 2 rfl
       have hs := hs.front 11 rfl
       have hs := hs.front 11 rfl
       have hs := hs.front 11 rfl
       have hs := hs.front 11 rfl
       have hs := hs.front 11 rfl
       have hs := hs.front 11 rfl
       have hs := hs.front 11 rfl
       have hs := hs.front 11 rfl
       have hs := hs.front 11 rfl
       try dsimp only [List.eraseIdx] at hs
       exact nj _ _ ⟨b31, (hs.conv rfl), exg (by kernel_rfl)⟩
      clear hj hs
      rintro a w ⟨b27, hs, g48, rfl⟩
      refine then_n (ks47 _ _ ?_)
      refine wp_regG [4, 6, 7] (fun k => True) 8 (by kernel_rfl) (by kernel_rfl) (by kernel_rfl) fun KR51 kr51 => ?_
      have hs := hs.drawn1
      refine wpG.tD 0 true (some 46) (.slice z16_A z16_n z16_c) (yld_load1 (e := 26) (o := 0) hs 6 rfl (by kernel_rfl) (by kernel_rfl) (by rfl) .grow) ?_
      refine wpG.tD 1 false (some 47) (.slice (some ⟨b27, 0 + (0 : Int).toNat * 1, none⟩) ((16 : Int).toNat - (0 : Int).toNat) (16 - (0 : Int).toNat)) (yld_slA2 (t := 42) (e := 5) (n := 16) (low := Option.none) (high := Option.none) (lo := 0) (hi := 16) (by kernel_rfl) (by kernel_rfl) (by kernel_rfl) (.inl ⟨rfl, rfl⟩) (.inl ⟨rfl, rfl⟩) (by decide) (by decide) (by decide) (by decide)) ?_
      refine wpG.take [2, 3, 4, 6, 7] 2 true (some 48) (.slice z19_A z19_n z19_c) (by kernel_rfl) (by kernel_rfl) (yld_load1 (e := 26) (o := 0) hs 7 rfl (by kernel_rfl) (by kernel_rfl) (by rfl) .grow) ?_
      refine wpG.q 5 51 (.slice s26_A s26_n s26_c) ?_
      obtain ⟨r33, hg, h⟩ := of_bind h
      refine wpG.only 3 (by kernel_rfl) (op_callH (d := (some 49)) (by kernel_rfl) hs (fun _ => by kernel_rfl) (bits_Xor.ok hg _ (hs.rowB (lo := 0) (hi := 16) 0 rfl (by decide) (by decide) (by decide)) (hs.rowR 2 rfl)) ?_)
      rintro ⟨r33_A, r33_n, r33_c⟩ w gw hs
      have hs := hs.conv (L' := [.ownL (CI .u8) r33_A r33_n r33_c r33 5, .blk b27 (enc .u8 y28) 42, .ownL (CI .u8) z16_A z16_n z16_c z16 5, .obj l32 (.loop (rec32 .busy none)), .obj D32 (.deferred (some [])), .blk b14 ([.int .i64 16]) 3, .blk b13 ([.slice a2_A a2_n a2_c]) 26, .blk b12 ([.slice z16_A z16_n z16_c]) 26, .blk b11 ([.slice z19_A z19_n z19_c]) 26, .blk b10 ([.pointer (some ⟨b5, 0, none⟩)]) 53, .ownL (CA .u8 16 (by decide)) y7_A y7_n y7_c r4 42, .blk b6 (([] : List Value) ++ enc .u8 r2 ++ enc .u8 r3 ++ ([] : List Value)) 48, .blk b5 ([.pointer (some ⟨b6, 0, none⟩), .slice y7_A y7_n y7_c]) 98]) rfl
      refine ⟨.of gw, ?_⟩
      obtain ⟨h0, h⟩ := of_chk h
      refine wpG.only 4 (by kernel_rfl) (op_appendT (C := (CI .u8)) (t := 26) (ty := 26) (e := 5) (bytes := 1) (B := 140737488355328) (d := (some 50)) (by kernel_rfl) hs 2 rfl (hs.rowL 0 rfl) (by kernel_rfl) (by kernel_rfl) (by kernel_rfl) (by kernel_rfl) (by kernel_rfl) h0 (by decide) (by decide) ?_)
      intro s34_A s34_n s34_c w hs
      refine ⟨⟨fun hf => absurd hf (by decide), .all _ _⟩, ?_⟩
      refine wpG.only 6 (by kernel_rfl) (op_store1 (t := 26) (o := 0) (v := .slice s34_A s34_n s34_c) (d := none) (by kernel_rfl) hs 7 rfl (by kernel_rfl) rfl (by kernel_rfl) (by simp) ?_)
      intro w kp hs
      refine ⟨⟨fun hf => absurd hf (by decide), .all _ _⟩, ?_⟩
      refine wpG.only 7 (by kernel_rfl) (op_store1 (t := 26) (o := 0) (v := .slice s26_A s26_n s26_c) (d := none) (by kernel_rfl) hs 8 rfl (by kernel_rfl) rfl (by kernel_rfl) (by simp) ?_)
      intro w kp hs
      refine ⟨⟨fun hf => absurd hf (by decide), .all _ _⟩, ?_⟩
      refine wpG.fin (by kernel_rfl) rfl (kr51 _ _ ?_)
      refine inBlock_n ?_
      refine round_n qr45 hs 3 rfl fun w hs => ?_
      try dsimp only [List.set] at hs
      refine ⟨fun _ => trivial, ?_⟩
      refine wpS.q 11 30 (.bool false) ?_
      refine wpS.fin rfl (kr44 _ _ (then_n (ks43 _ _ (wp_cond_f (by kernel_rfl) (xskip (inBlock_n (then_n (ks40 _ _ (xregS [0, 1, 2, 3] fun KR53 kr53 => ?_)))))))))
      refine wpS.q 0 10 (.int .i64 z15) ?_
      refine wpS.tk 1 true (some 11) (.int .i64 16) (yld_load1 (e := 3) (o := 0) hs 5 rfl (by kernel_rfl) (by kernel_rfl) (by rfl) .grow) ?_
      refine wpS.q 2 12 (.int .i64 (iadd .i64 z15 16)) ?_
      obtain ⟨x35, hx, h⟩ := of_bind h
      refine wpS.tk 3 false (some 4) (.int .i64 x35) (yld_int hx (fun _ => by kernel_rfl)) ?_
      refine wpS.fin rfl (kr53 _ _ ?_)
      exact then_n (kl0 _ _ ⟨n, Nat.lt_succ_self n, x35, (z16 ++ r33), (subL a2 z15 (iadd .i64 z15 x25)), s34_A, s34_n, s34_c, s26_A, s26_n, s26_c, h, ((hs.drop (.cons _ (.cons _ (.cons_cons _ (.cons_cons _ (.cons_cons _ (.cons_cons _ (.cons_cons _ (.cons_cons _ (.cons_cons _ (.cons_cons _ (.cons_cons _ (.cons_cons _ (.cons_cons _ .slnil)))))))))))))).pickR (pick_cons 0 rfl (pick_cons 3 rfl (pick_cons 4 rfl (pick_cons 5 rfl pick_nil))))), exg (by kernel_rfl)⟩)
     refine wpS.tk 3 false (some 9) (.bool false) (yld_b (df hc) (fun _ => by kernel_rfl)) ?_
     refine wpS.fin rfl (kr39 _ _ (then_n (ks38 _ _ (wp_cond_f (by kernel_rfl) (xexit (then_x (then_x (inBlock_hit ?_))))))))
     obtain ⟨q0, qr0⟩ := Prod.mk.inj (of_some h)
     have q1 := qr0
     subst q0
     subst q1
     exact exq_n (nn0 _ _ ⟨z16_A, z16_n, z16_c, z19_A, z19_n, z19_c, (hs.conv rfl), exg (by kernel_rfl)⟩)
   clear hs h hy
   rintro a w ⟨y20_A, y20_n, y20_c, y23_A, y23_n, y23_c, hs, g36, rfl⟩
   have h := hk0
   refine qn32 _ _ (post_nrm (by kernel_rfl) (run_results [] [] (by kernel_rfl) .nil) ?_)
   refine range_n (a1 := ⟨#[.slice a0_A a0_n a0_c, .slice a1_A a1_n a1_c, .slice a2_A a2_n a2_c, undef, undef, undef, .slice none 0 0, .int .i64 0, .int .i64 r1, .pointer (some ⟨b10, 0, none⟩), .pointer (some ⟨b11, 0, none⟩), .pointer (some ⟨b12, 0, none⟩), undef, undef, undef, .slice a0_A a0_n a0_c, .slice a1_A a1_n a1_c, .int .i64 r1, .int .i64 r1, .bool false, undef, .bool false, .slice a2_A a2_n a2_c, .int .i64 (a2.length : Int), .bool false, .bool false, .slice a2_A a2_n a2_c, .int .i64 (a2.length : Int), .int .i64 (irem .i64 (a2.length : Int) 16), .bool false, .bool false, .bool false, .slice a2_A a2_n a2_c, .int .i64 (a2.length : Int), .bool false, .slice a0_A a0_n a0_c, .pointer (some ⟨b5, 0, none⟩), .slice a1_A a1_n a1_c, .slice a2_A a2_n a2_c, .func (.func 102) #[] #[.pointer (some ⟨b13, 0, none⟩), .pointer (some ⟨b14, 0, none⟩)], undef, undef, undef, undef, undef, undef, undef, undef, undef, undef, undef, undef, undef, undef, undef, undef, undef, undef, undef, undef, undef, undef, undef, undef, undef, undef, undef, undef, undef, undef, undef, undef, undef, undef, undef, undef, undef, undef, undef, undef, undef, undef, undef, undef, undef, undef], [lmark D32]⟩) kR32 (by kernel_rfl) hs 1 rfl fun w hs => ?_
   try dsimp only [List.set] at hs
   refine inBlock_n (then_n (ks21 _ _ (xseq_k fun KS54 ks54 => (xregS [0, 1, 2, 3, 4, 5, 6, 7] fun KR55 kr55 => ?_))))
   refine wpS.tk 0 true (some 52) (.slice y20_A y20_n y20_c) (yld_load1 (e := 26) (o := 0) hs 5 rfl (by kernel_rfl) (by kernel_rfl) (by rfl) .grow) ?_
   refine wpS.tk 1 true (some 53) (.slice y20_A y20_n y20_c) (yld_load1 (e := 26) (o := 0) hs 5 rfl (by kernel_rfl) (by kernel_rfl) (by rfl) .grow) ?_
   refine wpS.tk 2 false (some 54) (.int .i64 (y20.length : Int)) (yld_lenL (hs.rowL 0 rfl) (fun _ => by kernel_rfl)) ?_
   refine wpS.q 3 55 (.int .i64 (isub .i64 (y20.length : Int) 1)) ?_
   obtain ⟨x36, hx, h⟩ := of_bind h
   have hx := of_some hx
   subst hx
   obtain ⟨h0, h⟩ := of_chk h
   obtain ⟨h1, h⟩ := of_chk h
   have i0_56 := h0
   have i1_56 := h1
   refine wpS.tk 4 false (some 56) (.pointer (adr y20_A (((isub .i64 (y20.length : Int) 1) : Int).toNat * Cod.size (CI .u8)))) (yld_idxL (C := (CI .u8)) (t := 26) (e := 5) (k := .i64) (x := (isub .i64 (y20.length : Int) 1)) (hs.rowL 0 rfl) (by kernel_rfl) (by kernel_rfl) (by kernel_rfl) h0 h1) ?_
   refine wpS.tk 5 true (some 57) (.int .u8 (rdL (CI .u8) y20 (isub .i64 (y20.length : Int) 1))) (yld_loadL (C := (CI .u8)) (e := 5) (x := (isub .i64 (y20.length : Int) 1)) (hs.rowL 0 rfl) (by kernel_rfl) rfl (by kernel_rfl) i0_56 i1_56) ?_
   refine wpS.q 6 58 (.int .i64 (iconv .i64 (rdL (CI .u8) y20 (isub .i64 (y20.length : Int) 1)))) ?_
   obtain ⟨x37, hx, h⟩ := of_bind h
   refine wpS.tk 7 false (some 14) (.int .i64 x37) (yld_int hx (fun _ => by kernel_rfl)) ?_
   refine wpS.fin rfl (kr55 _ _ (then_n (ks54 _ _ (xseq_k fun KS57 ks57 => (xseq_k fun KS58 ks58 => ?_)))))
   refine wp_regG [] (fun k => True) 21 (by kernel_rfl) (by kernel_rfl) (by kernel_rfl) fun KR59 kr59 => ?_
   have hs := hs.drawn1
   refine wpG.q 0 59 (.int .i64 x37) ?_
   rcases of_if h with ⟨hc, h⟩ | ⟨hc, h⟩
   ·refine wpG.tD 1 false (some 60) (.bool true) (yld_b (dt hc) (fun _ => by kernel_rfl)) ?_
    refine wpG.q 2 61 (.bool true) ?_
    refine wpG.q 3 62 (undef) ?_
    refine wpG.q 4 63 (undef) ?_
    refine wpG.q 5 64 (.bool true) ?_
    refine wpG.q 6 65 (.bool true) ?_
    refine wpG.q 7 66 (undef) ?_
    refine wpG.q 8 67 (undef) ?_
    refine wpG.q 9 68 (undef) ?_
    refine wpG.q 10 69 (undef) ?_
    refine wpG.q 11 70 (undef) ?_
    refine wpG.q 12 71 (undef) ?_
    refine wpG.q 13 72 (undef) ?_
    refine wpG.q 14 73 (undef) ?_
    refine wpG.q 16 75 (undef) ?_
    refine wpG.q 15 74 (undef) ?_
    refine wpG.q 17 76 (undef) ?_
    refine wpG.q 18 77 (undef) ?_
    refine wpG.q 19 78 (undef) ?_
    refine wpG.q 20 79 (.bool true) ?_
    refine wpG.fin (by kernel_rfl) rfl (kr59 _ _ ?_)
    refine then_n (ks58 _ _ (wp_cond_t (by kernel_rfl) (xseq_k fun KS60 ks60 => (xregS [0, 1] fun KR61 kr61 => ?_))))
    refine wpS.qs [(0, 6, .slice none 0 0), (1, 7, .int .i64 15)] ?_
    refine wpS.fin rfl (kr61 _ _ (then_n (ks60 _ _ (xret (then_r ?_)))))
    obtain ⟨q0, qr0⟩ := Prod.mk.inj (of_some h)
    have q1 := qr0
    subst q0
    subst q1
    refine qq _ _ ?_
    refine leaves_mark hs 2 rfl fun w hs => ?_
    try dsimp only [List.set] at hs
    have hs := hs.addNilR (CI .u8)
    exact leaves_end (run_results [.tmp 6, .tmp 7] [.slice none 0 0, .int .i64 15] (by kernel_rfl) (.cons (res_tmp (by kernel_rfl)) (.cons (res_tmp (by kernel_rfl)) .nil))) ⟨⟨none, 0, 0⟩, congrArg Ending.returned (by kernel_rfl), ((hs.drop (.cons_cons _ (.cons _ (.cons _ (.cons _ (.cons _ (.cons _ (.cons _ (.cons _ (.cons _ (.cons _ (.cons _ (.cons _ .slnil))))))))))))).pickR pick_nil)⟩
   refine wpG.tD 1 false (some 60) (.bool false) (yld_b (df hc) (fun _ => by kernel_rfl)) ?_
   refine wpG.q 2 61 (.bool false) ?_
   refine wpG.q 3 62 (.int .i64 x37) ?_
   rcases of_if h with ⟨hc, h⟩ | ⟨hc, h⟩
   ·refine wpG.tD 4 false (some 63) (.bool true) (yld_b (dt hc) (fun _ => by kernel_rfl)) ?_
    refine wpG.q 5 64 (.bool true) ?_
    refine wpG.q 6 65 (.bool true) ?_
    refine wpG.q 7 66 (undef) ?_
    refine wpG.q 8 67 (undef) ?_
    refine wpG.q 9 68 (undef) ?_
    refine wpG.q 10 69 (undef) ?_
    refine wpG.q 11 70 (undef) ?_
    refine wpG.q 12 71 (undef) ?_
    refine wpG.q 13 72 (undef) ?_
    refine wpG.q 14 73 (undef) ?_
    refine wpG.q 16 75 (undef) ?_
    refine wpG.q 15 74 (undef) ?_
    refine wpG.q 17 76 (undef) ?_
    refine wpG.q 18 77 (undef) ?_
    refine wpG.q 19 78 (undef) ?_
    refine wpG.q 20 79 (.bool true) ?_
    refine wpG.fin (by kernel_rfl) rfl (kr59 _ _ ?_)
    refine then_n (ks58 _ _ (wp_cond_t (by kernel_rfl) (xseq_k fun KS62 ks62 => (xregS [0, 1] fun KR63 kr63 => ?_))))
    refine wpS.qs [(0, 6, .slice none 0 0), (1, 7, .int .i64 15)] ?_
    refine wpS.fin rfl (kr63 _ _ (then_n (ks62 _ _ (xret (then_r ?_)))))
    obtain ⟨q0, qr0⟩ := Prod.mk.inj (of_some h)
    have q1 := qr0
    subst q0
    subst q1
    refine qq _ _ ?_
    refine leaves_mark hs 2 rfl fun w hs => ?_
    try dsimp only [List.set] at hs
    have hs := hs.addNilR (CI .u8)
    exact leaves_end (run_results [.tmp 6, .tmp 7] [.slice none 0 0, .int .i64 15] (by kernel_rfl) (.cons (res_tmp (by kernel_rfl)) (.cons (res_tmp (by kernel_rfl)) .nil))) ⟨⟨none, 0, 0⟩, congrArg Ending.returned (by kernel_rfl), ((hs.drop (.cons_cons _ (.cons _ (.cons _ (.cons _ (.cons _ (.cons _ (.cons _ (.cons _ (.cons _ (.cons _ (.cons _ (.cons _ .slnil))))))))))))).pickR pick_nil)⟩
   refine wpG.tD 4 false (some 63) (.bool false) (yld_b (df hc) (fun _ => by kernel_rfl)) ?_
   refine wpG.q 5 64 (.bool false) ?_
   refine wpG.q 6 65 (.bool false) ?_
   refine wpG.tD 7 true (some 66) (.slice y20_A y20_n y20_c) (yld_load1 (e := 26) (o := 0) hs 5 rfl (by kernel_rfl) (by kernel_rfl) (by rfl) .grow) ?_
   refine wpG.tD 8 true (some 67) (.slice y20_A y20_n y20_c) (yld_load1 (e := 26) (o := 0) hs 5 rfl (by kernel_rfl) (by kernel_rfl) (by rfl) .grow) ?_
   refine wpG.tD 9 false (some 68) (.int .i64 (y20.length : Int)) (yld_lenL (hs.rowL 0 rfl) (fun _ => by kernel_rfl)) ?_
   refine wpG.q 10 69 (.int .i64 x37) ?_
   refine wpG.q 11 70 (.int .i64 (isub .i64 (y20.length : Int) x37)) ?_
   obtain ⟨hs, hfr64⟩ := hs.freezeF 0 rfl
   obtain ⟨h0, h⟩ := of_chk h
   obtain ⟨h1, h⟩ := of_chk h
   obtain ⟨h2, h⟩ := of_chk h
   obtain ⟨s38_A, hA⟩ : ∃ A, A = if y20_c = ((isub .i64 (y20.length : Int) x37) : Int).toNat then y20_A else adr y20_A (((isub .i64 (y20.length : Int) x37) : Int).toNat * Cod.size (CI .u8)) := ⟨_, rfl⟩
   obtain ⟨s38_n, hn⟩ : ∃ n, n = ((y20.length : Int) : Int).toNat - ((isub .i64 (y20.length : Int) x37) : Int).toNat := ⟨_, rfl⟩
   obtain ⟨s38_c, hc⟩ : ∃ c, c = y20_c - ((isub .i64 (y20.length : Int) x37) : Int).toNat := ⟨_, rfl⟩
   refine wpG.tD 12 false (some 71) (.slice s38_A s38_n s38_c) (yld_sub (C := (CI .u8)) (t := 26) (e := 5) (low := some (.int .i64 (isub .i64 (y20.length : Int) x37))) (high := none) (lo := (isub .i64 (y20.length : Int) x37)) (hi := (y20.length : Int)) (hs.rowF 0 rfl) (by kernel_rfl) (by kernel_rfl) (by kernel_rfl) (.inr ⟨_, rfl⟩) (.inl ⟨rfl, rfl⟩) h0 h1 h2 hA hn hc) ?_
   have hs := hs.addSubF (C := (CI .u8)) 0 rfl h0 h1 h2 hA hn hc
   refine wpG.q 13 72 (.int .i64 x37) ?_
   refine wpG.q 14 73 (.int .u8 (iconv .u8 x37)) ?_
   refine wpG.q 16 75 (.int .i64 x37) ?_
   refine wpG.only 15 (by kernel_rfl) (op_lit (C := (CI .u8)) (t := 26) (e := 5) (len := 1) (parts := #[(0, .int .u8 (iconv .u8 x37))]) (l := [(iconv .u8 x37)]) (d := (some 74)) (by kernel_rfl) hs (by kernel_rfl) (by kernel_rfl) (by kernel_rfl) (z := .int .u8 0) (by kernel_rfl) rfl (by decide) (by decide) (by kernel_rfl) ?_)
   intro s39_A s39_n s39_c w gw hs
   refine ⟨.of gw, ?_⟩
   obtain ⟨r40, hg, h⟩ := of_bind h
   refine wpG.only 17 (by kernel_rfl) (op_callH (d := (some 76)) (by kernel_rfl) hs (fun _ => by kernel_rfl) (bytes_Repeat.ok hg _ (hs.rowL 0 rfl)) ?_)
   rintro ⟨r40_A, r40_n, r40_c⟩ w gw hs
   have hs := hs.conv (L' := [.rowL (CI .u8) r40_A r40_n r40_c r40, .ownL (CI .u8) s39_A s39_n s39_c ([(iconv .u8 x37)] : List Int) 5, .obj l32 (.loop (rec32 .exhausted none)), .obj D32 (.deferred (some [])), .blk b14 ([.int .i64 16]) 3, .blk b13 ([.slice a2_A a2_n a2_c]) 26, .blk b12 ([.slice y20_A y20_n y20_c]) 26, .blk b11 ([.slice y23_A y23_n y23_c]) 26, .blk b10 ([.pointer (some ⟨b5, 0, none⟩)]) 53, .ownL (CA .u8 16 (by decide)) y7_A y7_n y7_c r4 42, .blk b6 (([] : List Value) ++ enc .u8 r2 ++ enc .u8 r3 ++ ([] : List Value)) 48, .blk b5 ([.pointer (some ⟨b6, 0, none⟩), .slice y7_A y7_n y7_c]) 98]) rfl
   obtain ⟨hs, hfr65⟩ := hs.toRF 0 rfl
   refine ⟨.of gw, ?_⟩
   obtain ⟨r41, hg, h⟩ := of_bind h
   cases r41 with
   | true =>
    have h := of_if_t h
    refine wpG.only 18 (by kernel_rfl) (op_call (d := (some 77)) (by kernel_rfl) hs (fun _ => by kernel_rfl) (bytes_Equal.ok hg _ (hs.rowF 1 rfl) (hs.rowF 0 rfl)) ?_)
    intro w gw hs
    refine ⟨.of gw, ?_⟩
    refine wpG.q 19 78 (.bool false) ?_
    refine wpG.q 20 79 (.bool false) ?_
    refine wpG.fin (by kernel_rfl) rfl (kr59 _ _ ?_)
    refine then_n (ks58 _ _ (wp_cond_f (by kernel_rfl) (xskip (then_n (ks57 _ _ (xseq_k fun KS66 ks66 => (xregS [0, 1, 2, 3, 4, 5, 6, 7] fun KR67 kr67 => ?_)))))))
    refine wpS.tk 0 true (some 80) (.slice y20_A y20_n y20_c) (yld_load1 (e := 26) (o := 0) hs 5 rfl (by kernel_rfl) (by kernel_rfl) (by rfl) .grow) ?_
    refine wpS.tk 1 true (some 81) (.slice y20_A y20_n y20_c) (yld_load1 (e := 26) (o := 0) hs 5 rfl (by kernel_rfl) (by kernel_rfl) (by rfl) .grow) ?_
    refine wpS.tk 2 false (some 82) (.int .i64 (y20.length : Int)) (yld_lenL (hs.rowF 2 rfl) (fun _ => by kernel_rfl)) ?_
    refine wpS.qs [(3, 83, .int .i64 x37), (4, 84, .int .i64 (isub .i64 (y20.length : Int) x37))] ?_
    obtain ⟨h0, h⟩ := of_chk h
    obtain ⟨h1, h⟩ := of_chk h
    obtain ⟨h2, h⟩ := of_chk h
    obtain ⟨s42_A, hA⟩ : ∃ A, A = if y20_c = (0 : Int).toNat then y20_A else adr y20_A ((0 : Int).toNat * Cod.size (CI .u8)) := ⟨_, rfl⟩
    obtain ⟨s42_n, hn⟩ : ∃ n, n = ((isub .i64 (y20.length : Int) x37) : Int).toNat - (0 : Int).toNat := ⟨_, rfl⟩
    obtain ⟨s42_c, hc⟩ : ∃ c, c = y20_c - (0 : Int).toNat := ⟨_, rfl⟩
    refine wpS.tk 5 false (some 85) (.slice s42_A s42_n s42_c) (yld_sub (C := (CI .u8)) (t := 26) (e := 5) (low := none) (high := some (.int .i64 (isub .i64 (y20.length : Int) x37))) (lo := 0) (hi := (isub .i64 (y20.length : Int) x37)) (hs.rowF 2 rfl) (by kernel_rfl) (by kernel_rfl) (by kernel_rfl) (.inl ⟨rfl, rfl⟩) (.inr ⟨_, rfl⟩) h0 h1 h2 hA hn hc) ?_
    have hs := hs.addSubF (C := (CI .u8)) 2 rfl h0 h1 h2 hA hn hc
    refine wpS.qs [(6, 6, .slice s42_A s42_n s42_c), (7, 7, .int .i64 0)] ?_
    refine wpS.fin rfl (kr67 _ _ (then_n (ks66 _ _ (xret ?_))))
    obtain ⟨q0, qr0⟩ := Prod.mk.inj (of_some h)
    have q1 := qr0
    subst q0
    subst q1
    refine qq _ _ ?_
    refine leaves_mark hs 2 rfl fun w hs => ?_
    try dsimp only [List.set] at hs
    have hs := hs.promote 0 rfl hfr64
    exact leaves_end (run_results [.tmp 6, .tmp 7] [.slice s42_A s42_n s42_c, .int .i64 0] (by kernel_rfl) (.cons (res_tmp (by kernel_rfl)) (.cons (res_tmp (by kernel_rfl)) .nil))) ⟨⟨s42_A, s42_n, s42_c⟩, congrArg Ending.returned (by kernel_rfl), (hs.drop (.cons_cons _ (.cons _ (.cons _ (.cons _ (.cons _ (.cons _ (.cons _ (.cons _ (.cons _ (.cons _ (.cons _ (.cons _ .slnil)))))))))))))⟩
   | false =>
    have h := of_if_f h
    refine wpG.only 18 (by kernel_rfl) (op_call (d := (some 77)) (by kernel_rfl) hs (fun _ => by kernel_rfl) (bytes_Equal.ok hg _ (hs.rowF 1 rfl) (hs.rowF 0 rfl)) ?_)
    intro w gw hs
    refine ⟨.of gw, ?_⟩
    refine wpG.q 19 78 (.bool true) ?_
    refine wpG.q 20 79 (.bool true) ?_
    refine wpG.fin (by kernel_rfl) rfl (kr59 _ _ ?_)
    refine then_n (ks58 _ _ (wp_cond_t (by kernel_rfl) (xseq_k fun KS68 ks68 => (xregS [0, 1] fun KR69 kr69 => ?_))))
    refine wpS.qs [(0, 6, .slice none 0 0), (1, 7, .int .i64 15)] ?_
    refine wpS.fin rfl (kr69 _ _ (then_n (ks68 _ _ (xret (then_r ?_)))))
    obtain ⟨q0, qr0⟩ := Prod.mk.inj (of_some h)
    have q1 := qr0
    subst q0
    subst q1
    refine qq _ _ ?_
    refine leaves_mark hs 2 rfl fun w hs => ?_
    try dsimp only [List.set] at hs
    have hs := hs.addNilR (CI .u8)
    exact leaves_end (run_results [.tmp 6, .tmp 7] [.slice none 0 0, .int .i64 15] (by kernel_rfl) (.cons (res_tmp (by kernel_rfl)) (.cons (res_tmp (by kernel_rfl)) .nil))) ⟨⟨none, 0, 0⟩, congrArg Ending.returned (by kernel_rfl), ((hs.drop (.cons_cons _ (.cons _ (.cons _ (.cons _ (.cons _ (.cons _ (.cons _ (.cons _ (.cons _ (.cons _ (.cons _ (.cons _ .slnil))))))))))))).pickR pick_nil)⟩
  refine wpS.tk 7 false (some 29) (.bool true) (yld_b (nt hc) (fun _ => by kernel_rfl)) ?_
  refine wpS.qs [(8, 30, .bool true), (9, 21, .bool true)] ?_
  refine wpS.fin rfl (kr10 _ _ (then_n (ks9 _ _ (wp_cond_t (by kernel_rfl) (xseq_k fun KS70 ks70 => (xregS [0, 1] fun KR71 kr71 => ?_))))))
  refine wpS.qs [(0, 6, .slice none 0 0), (1, 7, .int .i64 14)] ?_
  refine wpS.fin rfl (kr71 _ _ (then_n (ks70 _ _ (xret (inBlock_r (then_r ?_))))))
  obtain ⟨q0, qr0⟩ := Prod.mk.inj (of_some h)
  have q1 := qr0
  subst q0
  subst q1
  refine qq _ _ ?_
  have hs := hs.addNilR (CI .u8)
  exact leaves_end (run_results [.tmp 6, .tmp 7] [.slice none 0 0, .int .i64 14] (by kernel_rfl) (.cons (res_tmp (by kernel_rfl)) (.cons (res_tmp (by kernel_rfl)) .nil))) ⟨⟨none, 0, 0⟩, congrArg Ending.returned (by kernel_rfl), (hs.pickR pick_nil)⟩
 refine wpS.tk 1 false (some 19) (.bool true) (yld_b (nt hc) (fun _ => by kernel_rfl)) ?_
 refine wpS.fin rfl (kr7 _ _ (then_n (ks6 _ _ (wp_cond_t (by kernel_rfl) (xseq_k fun KS72 ks72 => (xregS [0, 1, 2] fun KR73 kr73 => ?_))))))
 refine wpS.qs [(0, 20, .int .i64 r1), (1, 6, .slice none 0 0), (2, 7, .int .i64 r1)] ?_
 refine wpS.fin rfl (kr73 _ _ (then_n (ks72 _ _ (xret (then_r ?_)))))
 obtain ⟨q0, qr0⟩ := Prod.mk.inj (of_some h)
 have q1 := qr0
 subst q0
 subst q1
 refine qq _ _ ?_
 have hs := hs.addNilR (CI .u8)
 exact leaves_end (run_results [.tmp 6, .tmp 7] [.slice none 0 0, .int .i64 r1] (by kernel_rfl) (.cons (res_tmp (by kernel_rfl)) (.cons (res_tmp (by kernel_rfl)) .nil))) ⟨⟨none, 0, 0⟩, congrArg Ending.returned (by kernel_rfl), (hs.pickR pick_nil)⟩
end Go.Proofs.Ytmpagpbnpgcecaa
