/- Printed by this work's own program: the code of each function below comes to the answer that its plain form tells. -/
import Derived.Test.YtmpagpbnpgcecaaMd
import Derived.Test.YtmpagpbnpgcecaaProg
import Derived.Test.YtmpagpbnpgcecaaGF0
import Derived.Test.YtmpagpbnpgcecaaGX0
set_option linter.unusedVariables false
set_option linter.unusedSimpArgs false
set_option maxRecDepth 100000
set_option maxHeartbeats 4000000
namespace Go.Proofs.Ytmpagpbnpgcecaa
open Go.Mx
attribute [local irreducible] wpOp

theorem aes_began_s.ok {K : Nat} {ca0 : List Int} {y4_0 : Arr 256} {y4_1 : Arr 256} {y5 : List (Arr 16)} {ca0_A : Option Addr} {ca0_n : Nat} {ca0_c : Nat} (h : aes_began_s.f K ca0 = some (y4_0, y4_1, y5)) {w0 w : World} {X : List Nat} {Lt Rt : List Ent} (hs : St w0 X Lt (.rowL (CI .u8) ca0_A ca0_n ca0_c ca0 :: Rt) w) : Calls Try.prog 47 #[.slice ca0_A ca0_n ca0_c] w fun e w' => ∃ (b1 : Nat) (b3 : Nat) (y5_A : Option Addr) (y5_n : Nat) (y5_c : Nat), e = .returned (.pointer (some ⟨b1, 0, none⟩)) ∧ St w0 X (.ownL (CA .u8 16 (by decide)) y5_A y5_n y5_c y5 42 :: .blk b3 (([] : List Value) ++ enc .u8 y4_0 ++ enc .u8 y4_1 ++ ([] : List Value)) 48 :: .blk b1 ([.pointer (some ⟨b3, 0, none⟩), .slice y5_A y5_n y5_c]) 98 :: Lt) (.rowL (CI .u8) ca0_A ca0_n ca0_c ca0 :: Rt) w' := by
 refine calls_m Try.func47 rfl fun Q qq qn => ?_
 refine wp_conv (a' := ⟨#[.slice ca0_A ca0_n ca0_c, undef, undef, undef, undef, undef, undef, undef, undef, undef, undef, undef, undef, undef, undef, undef, undef, undef, undef, undef, undef, undef, undef, undef, undef, undef, undef, undef, undef, undef, undef, undef, undef, undef, undef, undef, undef, undef, undef, undef, undef, undef, undef, undef, undef, undef, undef, undef, undef, undef, undef, undef, undef, undef, undef, undef, undef, undef, undef, undef, undef, undef, undef, undef, undef, undef, undef, undef, undef, undef, undef, undef, undef, undef, undef, undef, undef, undef, undef, undef, undef, undef, undef, undef, undef, undef, undef, undef, undef, undef, undef, undef, undef, undef, undef, undef, undef, undef, undef, undef, undef, undef, undef, undef, undef, undef, undef, undef, undef, undef, undef, undef, undef, undef, undef, undef, undef, undef, undef, undef, undef, undef], []⟩) (by kernel_rfl) ?_
 refine xseq_k fun KS1 ks1 => ?_
 refine xregS [0] fun KR2 kr2 => ?_
 refine wpS.q 0 2 (.pointer none) ?_
 refine wpS.fin rfl (kr2 _ _ (then_n (ks1 _ _ (xseq_k fun KS3 ks3 => (xregS [0, 1, 2, 3, 4] fun KR4 kr4 => ?_)))))
 obtain ⟨⟨r6_0, r6_1⟩, hg, h⟩ := of_bind h
 refine wpS.only 0 (op_callB (d := (some 14)) (by kernel_rfl) hs (fun _ => by kernel_rfl) (aes_made.ok hg _) ?_)
 intro b7 w gw hs
 refine ⟨fun _ => trivial, ?_⟩
 refine wpS.q 1 15 (.agg #[.pointer (some ⟨b7, 0, none⟩), .slice none 0 0]) ?_
 refine wpS.only 2 (op_box (t := 98) (v := .agg #[.pointer (some ⟨b7, 0, none⟩), .slice none 0 0]) (d := (some 16)) (by kernel_rfl) hs ([.pointer (some ⟨b7, 0, none⟩), .slice none 0 0]) (by kernel_rfl) (by kernel_rfl) ?_)
 intro b8 w gw hs
 refine ⟨fun _ => trivial, ?_⟩
 refine wpS.only 3 (op_alloc (t := 53) (d := (some 3)) (by kernel_rfl) hs ([.pointer none]) (.pointer none) (by kernel_rfl) (by kernel_rfl) (by kernel_rfl) ?_)
 intro b9 w gw hs
 refine ⟨fun _ => trivial, ?_⟩
 refine wpS.only 4 (op_store1 (t := 53) (o := 0) (v := .pointer (some ⟨b8, 0, none⟩)) (d := none) (by kernel_rfl) hs 0 rfl (by kernel_rfl) rfl (by kernel_rfl) (by simp) ?_)
 intro w kp hs
 refine ⟨fun _ => trivial, ?_⟩
 refine wpS.fin rfl (kr4 _ _ (then_n (ks3 _ _ (xseq_k fun KS5 ks5 => (xregS [0, 1, 2, 3] fun KR6 kr6 => ?_)))))
 refine wpS.q 0 17 (.slice ca0_A ca0_n ca0_c) ?_
 refine wpS.tk 1 false (some 18) (.int .i64 (ca0.length : Int)) (yld_lenL (hs.rowR 0 rfl) (fun _ => by kernel_rfl)) ?_
 refine wpS.q 2 19 (.int .i64 (iquo .i64 (ca0.length : Int) 4)) ?_
 obtain ⟨x10, hx, h⟩ := of_bind h
 refine wpS.tk 3 false (some 4) (.int .i64 x10) (yld_int hx (fun _ => by kernel_rfl)) ?_
 refine wpS.fin rfl (kr6 _ _ (then_n (ks5 _ _ (xseq_k fun KS7 ks7 => (xregS [0, 1, 2, 3, 4, 5] fun KR8 kr8 => ?_)))))
 refine wpS.qs [(0, 20, .int .i64 x10), (1, 21, .int .i64 (iadd .i64 x10 7)), (2, 22, .int .i64 (imul .i64 4 (iadd .i64 x10 7)))] ?_
 obtain ⟨h0, h⟩ := of_chk h
 obtain ⟨h1, h⟩ := of_chk h
 refine wpS.only 3 (op_makeT0 (C := (CA .u8 4 (by decide))) (t := 99) (e := 101) (bytes := 4) (B := 35184372088832) (kl := .i64) (kc := .i64) (x := (imul .i64 4 (iadd .i64 x10 7))) (d := (some 23)) (by kernel_rfl) hs (by kernel_rfl) (by kernel_rfl) (by kernel_rfl) (by kernel_rfl) (by kernel_rfl) h0 h1 (by decide) (by decide) ?_)
 intro s11_A s11_n s11_c w gw hs
 refine ⟨fun _ => trivial, ?_⟩
 refine wpS.only 4 (op_alloc (t := 99) (d := (some 5)) (by kernel_rfl) hs ([.slice none 0 0]) (.slice none 0 0) (by kernel_rfl) (by kernel_rfl) (by kernel_rfl) ?_)
 intro b12 w gw hs
 refine ⟨fun _ => trivial, ?_⟩
 refine wpS.only 5 (op_store1 (t := 99) (o := 0) (v := .slice s11_A s11_n s11_c) (d := none) (by kernel_rfl) hs 0 rfl (by kernel_rfl) rfl (by kernel_rfl) (by simp) ?_)
 intro w kp hs
 refine ⟨fun _ => trivial, ?_⟩
 refine wpS.fin rfl (kr8 _ _ (then_n (ks7 _ _ (xseq_k fun KS9 ks9 => (xseq_k fun KS10 ks10 => (xregS [0, 1] fun KR11 kr11 => ?_))))))
 refine wpS.q 0 24 (.slice ca0_A ca0_n ca0_c) ?_
 refine wpS.only 1 (op_inline (d := (some 25)) (f := 71) (args := #[.slice ca0_A ca0_n ca0_c, .int .i64 4]) (by kernel_rfl) (fun _ => by kernel_rfl) fun R12 kI12 => ?_)
 refine calls_k Try.func71 rfl fun Q12 qq12 => ?_
 refine wp_conv (a' := ⟨#[.slice ca0_A ca0_n ca0_c, .int .i64 4, undef, undef, undef, undef, undef, undef, undef], []⟩) (by kernel_rfl) ?_
 refine xseq_k fun KS13 ks13 => ?_
 refine xregS [0, 1, 2] fun KR14 kr14 => ?_
 refine wpS.only 0 (op_box (t := 26) (v := .slice ca0_A ca0_n ca0_c) (d := (some 2)) (by kernel_rfl) hs ([.slice ca0_A ca0_n ca0_c]) (by kernel_rfl) (by kernel_rfl) ?_)
 intro b13 w gw hs
 refine ⟨fun _ => trivial, ?_⟩
 refine wpS.only 1 (op_box (t := 3) (v := .int .i64 4) (d := (some 3)) (by kernel_rfl) hs ([.int .i64 4]) (by kernel_rfl) (by kernel_rfl) ?_)
 intro b14 w gw hs
 refine ⟨fun _ => trivial, ?_⟩
 refine wpS.q 2 4 (.nilFunc) ?_
 refine wpS.fin rfl (kr14 _ _ (then_n (ks13 _ _ (xseq_k fun KS15 ks15 => (xseq_k fun KS16 ks16 => (xregS [0, 1] fun KR17 kr17 => ?_))))))
 refine wpS.tk 0 true (some 5) (.int .i64 4) (yld_load1 (e := 3) (o := 0) hs 0 rfl (by kernel_rfl) (by kernel_rfl) (by rfl) .grow) ?_
 refine wpS.q 1 6 (.bool false) ?_
 refine wpS.fin rfl (kr17 _ _ (then_n (ks16 _ _ (wp_cond_f (by kernel_rfl) (xskip (then_n (ks15 _ _ (xseq_k fun KS18 ks18 => (xregS [0, 1] fun KR19 kr19 => ?_)))))))))
 refine wpS.qs [(0, 8, .func (.func 102) #[] #[.pointer (some ⟨b13, 0, none⟩), .pointer (some ⟨b14, 0, none⟩)]), (1, 4, .func (.func 102) #[] #[.pointer (some ⟨b13, 0, none⟩), .pointer (some ⟨b14, 0, none⟩)])] ?_
 refine wpS.fin rfl (kr19 _ _ (then_n (ks18 _ _ (xret ?_))))
 refine qq12 _ _ (post_ret (by kernel_rfl) (run_results [.tmp 4] [.func (.func 102) #[] #[.pointer (some ⟨b13, 0, none⟩), .pointer (some ⟨b14, 0, none⟩)]] (by kernel_rfl) (.cons (res_tmp (by kernel_rfl)) .nil)) ?_)
 refine kI12 _ _ ?_
 refine ⟨fun _ => trivial, ?_⟩
 refine wpS.fin rfl (kr11 _ _ (then_n (ks10 _ _ (xblock ?_))))
 refine wp_range (gf := 102) (lb := #[.pointer (some ⟨b13, 0, none⟩), .pointer (some ⟨b14, 0, none⟩)]) hs (by kernel_rfl) (fun _ _ => by kernel_rfl) fun l20 D20 rec20 w hok20 hs R20 kR20 => ?_
 refine calls_kn Try.func102 rfl fun Q20 qq20 qn20 => ?_
 refine wp_conv (a' := ⟨#[.func (.yield l20) #[] #[], .pointer (some ⟨b13, 0, none⟩), .pointer (some ⟨b14, 0, none⟩), undef, undef, undef, undef, undef, undef, undef, undef, undef, undef, undef, undef, undef, undef, undef, undef, undef, undef, undef, undef, undef, undef, undef, undef, undef, undef, undef, undef], []⟩) (by kernel_rfl) ?_
 refine xseq_k fun KS21 ks21 => ?_
 refine xregS [0] fun KR22 kr22 => ?_
 refine wpS.q 0 4 (.int .i64 0) ?_
 refine wpS.fin rfl (kr22 _ _ (then_n (ks21 _ _ ?_)))
 obtain ⟨y19, hy, hk0⟩ := of_bind h
 refine wp_exq (N := fun a w => ∃ (y19_A : Option Addr) (y19_n : Nat) (y19_c : Nat), St w0 X (.obj l20 (.loop (rec20 .ready none)) :: .obj D20 (.deferred (some [])) :: .blk b14 ([.int .i64 4]) 3 :: .blk b13 ([.slice ca0_A ca0_n ca0_c]) 26 :: .blk b12 ([.slice y19_A y19_n y19_c]) 99 :: .ownL (CA .u8 4 (by decide)) y19_A y19_n y19_c y19 101 :: .blk b9 ([.pointer (some ⟨b8, 0, none⟩)]) 53 :: .blk b8 ([.pointer (some ⟨b7, 0, none⟩), .slice none 0 0]) 98 :: .blk b7 (([] : List Value) ++ enc .u8 r6_0 ++ enc .u8 r6_1 ++ ([] : List Value)) 48 :: Lt) (.rowL (CI .u8) ca0_A ca0_n ca0_c ca0 :: Rt) w ∧ ∃ g24 : Nat → Value, a = ⟨#[.func (.yield l20) #[] #[], .pointer (some ⟨b13, 0, none⟩), .pointer (some ⟨b14, 0, none⟩), undef, (g24 4), (g24 5), (g24 6), (g24 7), (g24 8), (g24 9), (g24 10), (g24 11), (g24 12), (g24 13), (g24 14), (g24 15), (g24 16), (g24 17), (g24 18), (g24 19), (g24 20), (g24 21), (g24 22), (g24 23), (g24 24), (g24 25), (g24 26), (g24 27), (g24 28), (g24 29), (g24 30)], []⟩) (fun N0 nn0 => ?_) ?_
 ·clear hk0
  refine xblock ?_
  refine wp_loop_k (fun n a w => ∃ z15 z17, ∃ (z17_A : Option Addr) (z17_n : Nat) (z17_c : Nat), aes_began_s.l0 K n ca0 z15 z17 = some y19 ∧ St w0 X (.obj l20 (.loop (rec20 .ready none)) :: .obj D20 (.deferred (some [])) :: .blk b14 ([.int .i64 4]) 3 :: .blk b13 ([.slice ca0_A ca0_n ca0_c]) 26 :: .blk b12 ([.slice z17_A z17_n z17_c]) 99 :: .ownL (CA .u8 4 (by decide)) z17_A z17_n z17_c z17 101 :: .blk b9 ([.pointer (some ⟨b8, 0, none⟩)]) 53 :: .blk b8 ([.pointer (some ⟨b7, 0, none⟩), .slice none 0 0]) 98 :: .blk b7 (([] : List Value) ++ enc .u8 r6_0 ++ enc .u8 r6_1 ++ ([] : List Value)) 48 :: Lt) (.rowL (CI .u8) ca0_A ca0_n ca0_c ca0 :: Rt) w ∧ ∃ g23 : Nat → Value, a = ⟨#[.func (.yield l20) #[] #[], .pointer (some ⟨b13, 0, none⟩), .pointer (some ⟨b14, 0, none⟩), undef, .int .i64 z15, (g23 5), (g23 6), (g23 7), (g23 8), (g23 9), (g23 10), (g23 11), (g23 12), (g23 13), (g23 14), (g23 15), (g23 16), (g23 17), (g23 18), (g23 19), (g23 20), (g23 21), (g23 22), (g23 23), (g23 24), (g23 25), (g23 26), (g23 27), (g23 28), (g23 29), (g23 30)], []⟩) K ⟨0, ([] : List (Arr 4)), s11_A, s11_n, s11_c, hy, hs.conv rfl, exg (by kernel_rfl)⟩ ?_
  clear hs h hy
  rintro n a w ⟨z15, z17, z17_A, z17_n, z17_c, h, hs, g23, rfl⟩ KL0 kl0
  cases n with
  | zero => exact nomatch (show none = some _ from h)
  | succ n =>
   refine xseq_k fun KS25 ks25 => ?_
   refine xseq_k fun KS26 ks26 => ?_
   refine xregS [0, 1, 2, 3] fun KR27 kr27 => ?_
   refine wpS.q 0 6 (.int .i64 z15) ?_
   refine wpS.tk 1 true (some 7) (.slice ca0_A ca0_n ca0_c) (yld_load1 (e := 26) (o := 0) hs 3 rfl (by kernel_rfl) (by kernel_rfl) (by rfl) .grow) ?_
   refine wpS.tk 2 false (some 8) (.int .i64 (ca0.length : Int)) (yld_lenL (hs.rowR 0 rfl) (fun _ => by kernel_rfl)) ?_
   rcases of_if h with ⟨hc, h⟩ | ⟨hc, h⟩
   ·refine wpS.tk 3 false (some 9) (.bool true) (yld_b (dt hc) (fun _ => by kernel_rfl)) ?_
    refine wpS.fin rfl (kr27 _ _ (then_n (ks26 _ _ (wp_cond_t (by kernel_rfl) (xskip (then_n (ks25 _ _ (xseq_k fun KS28 ks28 => (xblock (xseq_k fun KS29 ks29 => ?_))))))))))
    refine wp_regG [] (fun k => True) 7 (by kernel_rfl) (by kernel_rfl) (by kernel_rfl) fun KR30 kr30 => ?_
    have hs := hs.drawn1
    refine wpG.tD 0 true (some 13) (.int .i64 4) (yld_load1 (e := 3) (o := 0) hs 2 rfl (by kernel_rfl) (by kernel_rfl) (by rfl) .grow) ?_
    refine wpG.tD 1 true (some 14) (.slice ca0_A ca0_n ca0_c) (yld_load1 (e := 26) (o := 0) hs 3 rfl (by kernel_rfl) (by kernel_rfl) (by rfl) .grow) ?_
    refine wpG.q 2 15 (.int .i64 z15) ?_
    obtain ⟨h0, h⟩ := of_chk h
    obtain ⟨h1, h⟩ := of_chk h
    obtain ⟨h2, h⟩ := of_chk h
    obtain ⟨s20_A, hA⟩ : ∃ A, A = if ca0_c = (z15 : Int).toNat then ca0_A else adr ca0_A ((z15 : Int).toNat * Cod.size (CI .u8)) := ⟨_, rfl⟩
    obtain ⟨s20_n, hn⟩ : ∃ n, n = ((ca0.length : Int) : Int).toNat - (z15 : Int).toNat := ⟨_, rfl⟩
    obtain ⟨s20_c, hc⟩ : ∃ c, c = ca0_c - (z15 : Int).toNat := ⟨_, rfl⟩
    refine wpG.tD 3 false (some 16) (.slice s20_A s20_n s20_c) (yld_sub (C := (CI .u8)) (t := 26) (e := 5) (low := some (.int .i64 z15)) (high := none) (lo := z15) (hi := (ca0.length : Int)) (hs.rowR 0 rfl) (by kernel_rfl) (by kernel_rfl) (by kernel_rfl) (.inr ⟨_, rfl⟩) (.inl ⟨rfl, rfl⟩) h0 h1 h2 hA hn hc) ?_
    have hs := hs.addSub (C := (CI .u8)) 0 rfl h0 h1 h2 hA hn hc
    refine wpG.tD 4 false (some 17) (.int .i64 ((subL ca0 z15 (ca0.length : Int)).length : Int)) (yld_lenL (hs.rowR 0 rfl) (fun _ => by kernel_rfl)) ?_
    refine wpG.q 5 18 (.int .i64 (imin 4 ((subL ca0 z15 (ca0.length : Int)).length : Int))) ?_
    obtain ⟨x21, hx, h⟩ := of_bind h
    refine wpG.tD 6 false (some 5) (.int .i64 x21) (yld_int hx (fun _ => by kernel_rfl)) ?_
    refine wpG.fin (by kernel_rfl) rfl (kr30 _ _ ?_)
    refine then_n (ks29 _ _ (xseq_k fun KS31 ks31 => (xregS [0, 1, 2, 3, 4, 5, 6, 7, 8, 9, 10, 11] fun KR32 kr32 => ?_)))
    refine wpS.q 0 19 (.func (.yield l20) #[] #[]) ?_
    refine wpS.tk 1 true (some 20) (.slice ca0_A ca0_n ca0_c) (yld_load1 (e := 26) (o := 0) hs 3 rfl (by kernel_rfl) (by kernel_rfl) (by rfl) .grow) ?_
    refine wpS.qs [(2, 21, .int .i64 z15), (3, 22, .int .i64 z15), (4, 23, .int .i64 x21), (5, 24, .int .i64 (iadd .i64 z15 x21)), (6, 25, .int .i64 z15), (7, 26, .int .i64 x21), (8, 27, .int .i64 (iadd .i64 z15 x21))] ?_
    obtain ⟨h0, h⟩ := of_chk h
    obtain ⟨h1, h⟩ := of_chk h
    obtain ⟨h2, h⟩ := of_chk h
    obtain ⟨h3, h⟩ := of_chk h
    obtain ⟨s22_A, hA⟩ : ∃ A, A = if ((iadd .i64 z15 x21) : Int).toNat = (z15 : Int).toNat then ca0_A else adr ca0_A ((z15 : Int).toNat * Cod.size (CI .u8)) := ⟨_, rfl⟩
    obtain ⟨s22_n, hn⟩ : ∃ n, n = ((iadd .i64 z15 x21) : Int).toNat - (z15 : Int).toNat := ⟨_, rfl⟩
    obtain ⟨s22_c, hc⟩ : ∃ c, c = ((iadd .i64 z15 x21) : Int).toNat - (z15 : Int).toNat := ⟨_, rfl⟩
    refine wpS.tk 9 false (some 28) (.slice s22_A s22_n s22_c) (yld_sub3 (mx := (iadd .i64 z15 x21)) (k := .i64) (C := (CI .u8)) (t := 26) (e := 5) (low := some (.int .i64 z15)) (high := some (.int .i64 (iadd .i64 z15 x21))) (lo := z15) (hi := (iadd .i64 z15 x21)) (hs.rowR 1 rfl) (by kernel_rfl) (by kernel_rfl) (by kernel_rfl) (.inr ⟨_, rfl⟩) ⟨_, rfl⟩ h0 h1 h2 h3 hA hn hc) ?_
    have hs := hs.addSub3 (C := (CI .u8)) 1 rfl h0 h1 h2 h3 hA hn hc
    refine wpS.onlyR 10 (op_yield (d := (some 29)) (by kernel_rfl) hs 0 rfl hok20 #[.slice s22_A s22_n s22_c] (by kernel_rfl) rfl (tm := #[.slice ca0_A ca0_n ca0_c, undef, .pointer none, .pointer (some ⟨b9, 0, none⟩), .int .i64 x10, .pointer (some ⟨b12, 0, none⟩), undef, undef, undef, undef, undef, undef, undef, undef, .pointer (some ⟨b7, 0, none⟩), .agg #[.pointer (some ⟨b7, 0, none⟩), .slice none 0 0], .pointer (some ⟨b8, 0, none⟩), .slice ca0_A ca0_n ca0_c, .int .i64 (ca0.length : Int), .int .i64 (iquo .i64 (ca0.length : Int) 4), .int .i64 x10, .int .i64 (iadd .i64 x10 7), .int .i64 (imul .i64 4 (iadd .i64 x10 7)), .slice s11_A s11_n s11_c, .slice ca0_A ca0_n ca0_c, .func (.func 102) #[] #[.pointer (some ⟨b13, 0, none⟩), .pointer (some ⟨b14, 0, none⟩)], .slice s22_A s22_n s22_c, undef, undef, undef, undef, undef, undef, undef, undef, undef, undef, undef, undef, undef, undef, undef, undef, undef, undef, undef, undef, undef, undef, undef, undef, undef, undef, undef, undef, undef, undef, undef, undef, undef, undef, undef, undef, undef, undef, undef, undef, undef, undef, undef, undef, undef, undef, undef, undef, undef, undef, undef, undef, undef, undef, undef, undef, undef, undef, undef, undef, undef, undef, undef, undef, undef, undef, undef, undef, undef, undef, undef, undef, undef, undef, undef, undef, undef, undef, undef, undef, undef, undef, undef, undef, undef, undef, undef, undef, undef, undef, undef, undef, undef, undef, undef]) (by kernel_rfl) (by kernel_rfl) fun K33 k33 => ?_)
    refine xregS [0] fun KR34 kr34 => ?_
    refine wpS.q 0 6 (.slice s22_A s22_n s22_c) ?_
    refine wpS.fin rfl (kr34 _ _ (then_n (k33 _ _ 0 _ _ hs rfl fun w Qr33 hs qr33 => ?_)))
    try dsimp only [List.set] at hs
    refine xblock ?_
    refine wp_regG [5, 6] (fun k => True) 7 (by kernel_rfl) (by kernel_rfl) (by kernel_rfl) fun KR35 kr35 => ?_
    have hs := hs.drawn1
    refine wpG.tD 0 true (some 27) (.slice z17_A z17_n z17_c) (yld_load1 (e := 99) (o := 0) hs 4 rfl (by kernel_rfl) (by kernel_rfl) (by rfl) .grow) ?_
    refine wpG.q 1 28 (.slice s22_A s22_n s22_c) ?_
    obtain ⟨i0_36, h⟩ := of_chk h
    refine wpG.tD 2 false (some 29) (.pointer s22_A) (yld_toArr (t := 101) (e := 5) (n := 4) (len := s22_n) (c := s22_c) (by kernel_rfl) (by kernel_rfl) (by rw [RowL.length (C := (CI .u8)) (hs.rowR 0 rfl)]; exact i0_36)) ?_
    refine wpG.take [3, 4, 5, 6] 3 true (some 30) (.agg (enc .u8 (arrL 4 (subL ca0 z15 (iadd .i64 z15 x21)))).toArray) (by kernel_rfl) (by kernel_rfl) (yld_loadArr (e := 101) (n := 4) (by decide) (hs.rowR 0 rfl) i0_36 (by kernel_rfl) (by kernel_rfl) (by kernel_rfl)) ?_
    refine wpG.only 4 (by kernel_rfl) (op_litL (C := (CA .u8 4 (by decide))) (t := 99) (e := 101) (len := 1) (parts := #[(0, .agg (enc .u8 (arrL 4 (subL ca0 z15 (iadd .i64 z15 x21)))).toArray)]) (l := [(arrL 4 (subL ca0 z15 (iadd .i64 z15 x21)))]) (d := (some 31)) (by kernel_rfl) hs (by kernel_rfl) rfl (by kernel_rfl) (by kernel_rfl) (z := .agg (enc .u8 (zeroA 4)).toArray) (by kernel_rfl) rfl (by decide) (by decide) ?_)
    intro s23_A s23_n s23_c w gw hs
    refine ⟨.of gw, ?_⟩
    obtain ⟨h0, h⟩ := of_chk h
    refine wpG.only 5 (by kernel_rfl) (op_appendT (C := (CA .u8 4 (by decide))) (t := 99) (ty := 99) (e := 101) (bytes := 4) (B := 35184372088832) (d := (some 32)) (by kernel_rfl) hs 6 rfl (hs.rowL 0 rfl) (by kernel_rfl) (by kernel_rfl) (by kernel_rfl) (by kernel_rfl) (by kernel_rfl) h0 (by decide) (by decide) ?_)
    intro s24_A s24_n s24_c w hs
    refine ⟨⟨fun hf => absurd hf (by decide), .all _ _⟩, ?_⟩
    refine wpG.only 6 (by kernel_rfl) (op_store1 (t := 99) (o := 0) (v := .slice s24_A s24_n s24_c) (d := none) (by kernel_rfl) hs 5 rfl (by kernel_rfl) rfl (by kernel_rfl) (by simp) ?_)
    intro w kp hs
    refine ⟨⟨fun hf => absurd hf (by decide), .all _ _⟩, ?_⟩
    refine wpG.fin (by kernel_rfl) rfl (kr35 _ _ ?_)
    refine inBlock_n ?_
    refine round_n qr33 hs 1 rfl fun w hs => ?_
    try dsimp only [List.set] at hs
    refine ⟨fun _ => trivial, ?_⟩
    refine wpS.q 11 30 (.bool false) ?_
    refine wpS.fin rfl (kr32 _ _ (then_n (ks31 _ _ (wp_cond_f (by kernel_rfl) (xskip (inBlock_n (then_n (ks28 _ _ (xregS [0, 1, 2, 3] fun KR37 kr37 => ?_)))))))))
    refine wpS.q 0 10 (.int .i64 z15) ?_
    refine wpS.tk 1 true (some 11) (.int .i64 4) (yld_load1 (e := 3) (o := 0) hs 3 rfl (by kernel_rfl) (by kernel_rfl) (by rfl) .grow) ?_
    refine wpS.q 2 12 (.int .i64 (iadd .i64 z15 4)) ?_
    obtain ⟨x25, hx, h⟩ := of_bind h
    refine wpS.tk 3 false (some 4) (.int .i64 x25) (yld_int hx (fun _ => by kernel_rfl)) ?_
    refine wpS.fin rfl (kr37 _ _ ?_)
    exact then_n (kl0 _ _ ⟨n, Nat.lt_succ_self n, x25, (z17 ++ ([(arrL 4 (subL ca0 z15 (iadd .i64 z15 x21)))] : List (Arr 4))), s24_A, s24_n, s24_c, h, ((hs.drop (.cons _ (.cons_cons _ (.cons_cons _ (.cons_cons _ (.cons_cons _ (.cons_cons _ (.cons_cons _ (.cons_cons _ (.cons_cons _ (.cons_cons _ (.refl _)))))))))))).pickR (pick_cons 2 rfl (fun _ he => .tail _ (.tail _ (.tail _ (he)))))), exg (by kernel_rfl)⟩)
   refine wpS.tk 3 false (some 9) (.bool false) (yld_b (df hc) (fun _ => by kernel_rfl)) ?_
   refine wpS.fin rfl (kr27 _ _ (then_n (ks26 _ _ (wp_cond_f (by kernel_rfl) (xexit (then_x (then_x (inBlock_hit ?_))))))))
   have q0 := of_some h
   subst q0
   exact exq_n (nn0 _ _ ⟨z17_A, z17_n, z17_c, (hs.conv rfl), exg (by kernel_rfl)⟩)
 clear hs h hy
 rintro a w ⟨y19_A, y19_n, y19_c, hs, g24, rfl⟩
 have h := hk0
 refine qn20 _ _ (post_nrm (by kernel_rfl) (run_results [] [] (by kernel_rfl) .nil) ?_)
 refine range_n (a1 := ⟨#[.slice ca0_A ca0_n ca0_c, undef, .pointer none, .pointer (some ⟨b9, 0, none⟩), .int .i64 x10, .pointer (some ⟨b12, 0, none⟩), undef, undef, undef, undef, undef, undef, undef, undef, .pointer (some ⟨b7, 0, none⟩), .agg #[.pointer (some ⟨b7, 0, none⟩), .slice none 0 0], .pointer (some ⟨b8, 0, none⟩), .slice ca0_A ca0_n ca0_c, .int .i64 (ca0.length : Int), .int .i64 (iquo .i64 (ca0.length : Int) 4), .int .i64 x10, .int .i64 (iadd .i64 x10 7), .int .i64 (imul .i64 4 (iadd .i64 x10 7)), .slice s11_A s11_n s11_c, .slice ca0_A ca0_n ca0_c, .func (.func 102) #[] #[.pointer (some ⟨b13, 0, none⟩), .pointer (some ⟨b14, 0, none⟩)], undef, undef, undef, undef, undef, undef, undef, undef, undef, undef, undef, undef, undef, undef, undef, undef, undef, undef, undef, undef, undef, undef, undef, undef, undef, undef, undef, undef, undef, undef, undef, undef, undef, undef, undef, undef, undef, undef, undef, undef, undef, undef, undef, undef, undef, undef, undef, undef, undef, undef, undef, undef, undef, undef, undef, undef, undef, undef, undef, undef, undef, undef, undef, undef, undef, undef, undef, undef, undef, undef, undef, undef, undef, undef, undef, undef, undef, undef, undef, undef, undef, undef, undef, undef, undef, undef, undef, undef, undef, undef, undef, undef, undef, undef, undef, undef], [lmark D20]⟩) kR20 (by kernel_rfl) hs 0 rfl fun w hs => ?_
 try dsimp only [List.set] at hs
 refine inBlock_n (then_n (ks9 _ _ (xseq_k fun KS38 ks38 => (xseq_k fun KS39 ks39 => (xregS [0, 1, 2] fun KR40 kr40 => ?_)))))
 refine wpS.qs [(0, 33, .int .i64 x10), (1, 7, .int .i64 x10), (2, 8, .int .u8 1)] ?_
 refine wpS.fin rfl (kr40 _ _ (then_n (ks39 _ _ ?_)))
 obtain ⟨y31, hy, hk1⟩ := of_bind h
 refine wp_exq (N := fun a w => ∃ (y31_A : Option Addr) (y31_n : Nat) (y31_c : Nat), St w0 X (.obj l20 (.loop (rec20 .exhausted none)) :: .obj D20 (.deferred (some [])) :: .blk b14 ([.int .i64 4]) 3 :: .blk b13 ([.slice ca0_A ca0_n ca0_c]) 26 :: .blk b12 ([.slice y31_A y31_n y31_c]) 99 :: .ownL (CA .u8 4 (by decide)) y31_A y31_n y31_c y31 101 :: .blk b9 ([.pointer (some ⟨b8, 0, none⟩)]) 53 :: .blk b8 ([.pointer (some ⟨b7, 0, none⟩), .slice none 0 0]) 98 :: .blk b7 (([] : List Value) ++ enc .u8 r6_0 ++ enc .u8 r6_1 ++ ([] : List Value)) 48 :: Lt) (.rowL (CI .u8) ca0_A ca0_n ca0_c ca0 :: Rt) w ∧ ∃ g42 : Nat → Value, a = ⟨#[.slice ca0_A ca0_n ca0_c, undef, .pointer none, .pointer (some ⟨b9, 0, none⟩), .int .i64 x10, .pointer (some ⟨b12, 0, none⟩), undef, (g42 7), (g42 8), (g42 9), undef, undef, undef, undef, .pointer (some ⟨b7, 0, none⟩), .agg #[.pointer (some ⟨b7, 0, none⟩), .slice none 0 0], .pointer (some ⟨b8, 0, none⟩), .slice ca0_A ca0_n ca0_c, .int .i64 (ca0.length : Int), .int .i64 (iquo .i64 (ca0.length : Int) 4), .int .i64 x10, .int .i64 (iadd .i64 x10 7), .int .i64 (imul .i64 4 (iadd .i64 x10 7)), .slice s11_A s11_n s11_c, .slice ca0_A ca0_n ca0_c, .func (.func 102) #[] #[.pointer (some ⟨b13, 0, none⟩), .pointer (some ⟨b14, 0, none⟩)], undef, undef, undef, undef, undef, undef, undef, .int .i64 x10, (g42 34), (g42 35), (g42 36), (g42 37), (g42 38), (g42 39), (g42 40), (g42 41), (g42 42), (g42 43), (g42 44), (g42 45), (g42 46), (g42 47), (g42 48), (g42 49), (g42 50), (g42 51), (g42 52), (g42 53), (g42 54), (g42 55), (g42 56), (g42 57), (g42 58), (g42 59), (g42 60), (g42 61), (g42 62), (g42 63), (g42 64), (g42 65), (g42 66), (g42 67), (g42 68), (g42 69), (g42 70), (g42 71), (g42 72), (g42 73), (g42 74), (g42 75), (g42 76), (g42 77), (g42 78), (g42 79), (g42 80), (g42 81), (g42 82), (g42 83), (g42 84), (g42 85), (g42 86), (g42 87), (g42 88), (g42 89), (g42 90), (g42 91), (g42 92), (g42 93), (g42 94), undef, undef, undef, undef, undef, undef, undef, undef, undef, undef, undef, undef, undef, undef, undef, undef, undef, undef, undef, undef, undef, undef, undef, undef, undef, undef, undef], [lmark D20]⟩) (fun N1 nn1 => ?_) ?_
 ·clear hk1
  refine xblock ?_
  refine wp_loop_k (fun n a w => ∃ z26 z27 z29, ∃ (z29_A : Option Addr) (z29_n : Nat) (z29_c : Nat), aes_began_s.l1 K n r6_0 r6_1 x10 z26 z27 z29 = some y31 ∧ St w0 X (.obj l20 (.loop (rec20 .exhausted none)) :: .obj D20 (.deferred (some [])) :: .blk b14 ([.int .i64 4]) 3 :: .blk b13 ([.slice ca0_A ca0_n ca0_c]) 26 :: .blk b12 ([.slice z29_A z29_n z29_c]) 99 :: .ownL (CA .u8 4 (by decide)) z29_A z29_n z29_c z29 101 :: .blk b9 ([.pointer (some ⟨b8, 0, none⟩)]) 53 :: .blk b8 ([.pointer (some ⟨b7, 0, none⟩), .slice none 0 0]) 98 :: .blk b7 (([] : List Value) ++ enc .u8 r6_0 ++ enc .u8 r6_1 ++ ([] : List Value)) 48 :: Lt) (.rowL (CI .u8) ca0_A ca0_n ca0_c ca0 :: Rt) w ∧ ∃ g41 : Nat → Value, a = ⟨#[.slice ca0_A ca0_n ca0_c, undef, .pointer none, .pointer (some ⟨b9, 0, none⟩), .int .i64 x10, .pointer (some ⟨b12, 0, none⟩), undef, .int .i64 z26, .int .u8 z27, (g41 9), undef, undef, undef, undef, .pointer (some ⟨b7, 0, none⟩), .agg #[.pointer (some ⟨b7, 0, none⟩), .slice none 0 0], .pointer (some ⟨b8, 0, none⟩), .slice ca0_A ca0_n ca0_c, .int .i64 (ca0.length : Int), .int .i64 (iquo .i64 (ca0.length : Int) 4), .int .i64 x10, .int .i64 (iadd .i64 x10 7), .int .i64 (imul .i64 4 (iadd .i64 x10 7)), .slice s11_A s11_n s11_c, .slice ca0_A ca0_n ca0_c, .func (.func 102) #[] #[.pointer (some ⟨b13, 0, none⟩), .pointer (some ⟨b14, 0, none⟩)], undef, undef, undef, undef, undef, undef, undef, .int .i64 x10, (g41 34), (g41 35), (g41 36), (g41 37), (g41 38), (g41 39), (g41 40), (g41 41), (g41 42), (g41 43), (g41 44), (g41 45), (g41 46), (g41 47), (g41 48), (g41 49), (g41 50), (g41 51), (g41 52), (g41 53), (g41 54), (g41 55), (g41 56), (g41 57), (g41 58), (g41 59), (g41 60), (g41 61), (g41 62), (g41 63), (g41 64), (g41 65), (g41 66), (g41 67), (g41 68), (g41 69), (g41 70), (g41 71), (g41 72), (g41 73), (g41 74), (g41 75), (g41 76), (g41 77), (g41 78), (g41 79), (g41 80), (g41 81), (g41 82), (g41 83), (g41 84), (g41 85), (g41 86), (g41 87), (g41 88), (g41 89), (g41 90), (g41 91), (g41 92), (g41 93), (g41 94), undef, undef, undef, undef, undef, undef, undef, undef, undef, undef, undef, undef, undef, undef, undef, undef, undef, undef, undef, undef, undef, undef, undef, undef, undef, undef, undef], [lmark D20]⟩) K ⟨x10, 1, y19, y19_A, y19_n, y19_c, hy, hs.conv rfl, exg (by kernel_rfl)⟩ ?_
  clear hs h hy
  rintro n a w ⟨z26, z27, z29, z29_A, z29_n, z29_c, h, hs, g41, rfl⟩ KL1 kl1
  cases n with
  | zero => exact nomatch (show none = some _ from h)
  | succ n =>
   refine xseq_k fun KS43 ks43 => ?_
   refine xseq_k fun KS44 ks44 => ?_
   refine xregS [0, 1, 2, 3, 4] fun KR45 kr45 => ?_
   refine wpS.qs [(0, 34, .int .i64 z26), (1, 35, .int .i64 x10), (2, 36, .int .i64 (iadd .i64 x10 7)), (3, 37, .int .i64 (imul .i64 4 (iadd .i64 x10 7)))] ?_
   rcases of_if h with ⟨hc, h⟩ | ⟨hc, h⟩
   ·refine wpS.tk 4 false (some 38) (.bool true) (yld_b (dt hc) (fun _ => by kernel_rfl)) ?_
    refine wpS.fin rfl (kr45 _ _ (then_n (ks44 _ _ (wp_cond_t (by kernel_rfl) (xskip (then_n (ks43 _ _ (xseq_k fun KS46 ks46 => (xblock (xseq_k fun KS47 ks47 => (xregS [0, 1, 2, 3, 4, 5, 6] fun KR48 kr48 => ?_)))))))))))
    refine wpS.tk 0 true (some 41) (.slice z29_A z29_n z29_c) (yld_load1 (e := 99) (o := 0) hs 4 rfl (by kernel_rfl) (by kernel_rfl) (by rfl) .grow) ?_
    refine wpS.qs [(1, 42, .int .i64 z26), (2, 43, .int .i64 (isub .i64 z26 1))] ?_
    obtain ⟨x32, hx, h⟩ := of_bind h
    have hx := of_some hx
    subst hx
    obtain ⟨h0, h⟩ := of_chk h
    obtain ⟨h1, h⟩ := of_chk h
    have i0_49 := h0
    have i1_49 := h1
    refine wpS.tk 3 false (some 44) (.pointer (adr z29_A (((isub .i64 z26 1) : Int).toNat * Cod.size (CA .u8 4 (by decide))))) (yld_idxL (C := (CA .u8 4 (by decide))) (t := 99) (e := 101) (k := .i64) (x := (isub .i64 z26 1)) (hs.rowL 5 rfl) (by kernel_rfl) (by kernel_rfl) (by kernel_rfl) h0 h1) ?_
    refine wpS.tk 4 true (some 45) (.agg (enc .u8 (rdL (CA .u8 4 (by decide)) z29 (isub .i64 z26 1))).toArray) (yld_loadLA (C := (CA .u8 4 (by decide))) (e := 101) (x := (isub .i64 z26 1)) (hs.rowL 5 rfl) (by kernel_rfl) rfl (by kernel_rfl) (by kernel_rfl) i0_49 i1_49) ?_
    refine wpS.only 5 (op_alloc (t := 101) (d := (some 9)) (by kernel_rfl) hs (enc .u8 (zeroA 4)) (.agg (enc .u8 (zeroA 4)).toArray) (by kernel_rfl) (by kernel_rfl) (by kernel_rfl) ?_)
    intro b33 w gw hs
    refine ⟨fun _ => trivial, ?_⟩
    refine wpS.only 6 (op_storeW (t := 101) (v := .agg (enc .u8 (rdL (CA .u8 4 (by decide)) z29 (isub .i64 z26 1))).toArray) (d := none) (by kernel_rfl) hs 0 rfl (vs := enc .u8 (rdL (CA .u8 4 (by decide)) z29 (isub .i64 z26 1))) (n := 4) (by kernel_rfl) (by kernel_rfl) (by kernel_rfl) (by simp [enc_len]) (by simp [enc_len]) (by intro u hu; exact enc_one _ _ u hu) ?_)
    intro w kp hs
    refine ⟨fun _ => trivial, ?_⟩
    refine wpS.fin rfl (kr48 _ _ (then_n (ks47 _ _ ?_)))
    obtain ⟨⟨y34, y35⟩, hj, h⟩ := of_bind h
    refine xseq_k fun KS51 ks51 => wp_join (N := fun a w => St w0 X (.blk b33 (enc .u8 y35) 101 :: .obj l20 (.loop (rec20 .exhausted none)) :: .obj D20 (.deferred (some [])) :: .blk b14 ([.int .i64 4]) 3 :: .blk b13 ([.slice ca0_A ca0_n ca0_c]) 26 :: .blk b12 ([.slice z29_A z29_n z29_c]) 99 :: .ownL (CA .u8 4 (by decide)) z29_A z29_n z29_c z29 101 :: .blk b9 ([.pointer (some ⟨b8, 0, none⟩)]) 53 :: .blk b8 ([.pointer (some ⟨b7, 0, none⟩), .slice none 0 0]) 98 :: .blk b7 (([] : List Value) ++ enc .u8 r6_0 ++ enc .u8 r6_1 ++ ([] : List Value)) 48 :: Lt) (.rowL (CI .u8) ca0_A ca0_n ca0_c ca0 :: Rt) w ∧ ∃ g50 : Nat → Value, a = ⟨#[.slice ca0_A ca0_n ca0_c, undef, .pointer none, .pointer (some ⟨b9, 0, none⟩), .int .i64 x10, .pointer (some ⟨b12, 0, none⟩), undef, .int .i64 z26, .int .u8 y34, .pointer (some ⟨b33, 0, none⟩), undef, undef, undef, undef, .pointer (some ⟨b7, 0, none⟩), .agg #[.pointer (some ⟨b7, 0, none⟩), .slice none 0 0], .pointer (some ⟨b8, 0, none⟩), .slice ca0_A ca0_n ca0_c, .int .i64 (ca0.length : Int), .int .i64 (iquo .i64 (ca0.length : Int) 4), .int .i64 x10, .int .i64 (iadd .i64 x10 7), .int .i64 (imul .i64 4 (iadd .i64 x10 7)), .slice s11_A s11_n s11_c, .slice ca0_A ca0_n ca0_c, .func (.func 102) #[] #[.pointer (some ⟨b13, 0, none⟩), .pointer (some ⟨b14, 0, none⟩)], undef, undef, undef, undef, undef, undef, undef, .int .i64 x10, .int .i64 z26, .int .i64 x10, .int .i64 (iadd .i64 x10 7), .int .i64 (imul .i64 4 (iadd .i64 x10 7)), .bool true, (g41 39), (g41 40), .slice z29_A z29_n z29_c, .int .i64 z26, .int .i64 (isub .i64 z26 1), .pointer (adr z29_A (((isub .i64 z26 1) : Int).toNat * Cod.size (CA .u8 4 (by decide)))), .agg (enc .u8 (rdL (CA .u8 4 (by decide)) z29 (isub .i64 z26 1))).toArray, (g50 46), (g50 47), (g50 48), (g50 49), (g50 50), (g50 51), (g50 52), (g50 53), (g50 54), (g50 55), (g50 56), (g50 57), (g50 58), (g50 59), (g50 60), (g50 61), (g50 62), (g50 63), (g50 64), (g50 65), (g50 66), (g50 67), (g50 68), (g50 69), (g50 70), (g50 71), (g50 72), (g50 73), (g50 74), (g50 75), (g50 76), (g50 77), (g50 78), (g50 79), (g50 80), (g50 81), (g50 82), (g50 83), (g41 84), (g41 85), (g41 86), (g41 87), (g41 88), (g41 89), (g41 90), (g41 91), (g41 92), (g41 93), (g41 94), undef, undef, undef, undef, undef, undef, undef, undef, undef, undef, undef, undef, undef, undef, undef, undef, undef, undef, undef, undef, undef, undef, undef, undef, undef, undef, undef], [lmark D20]⟩) (fun N nj => ?_) ?_
    ·clear h
     have h := hj
     refine xblock (xseq_k fun KS52 ks52 => (xregS [0, 1, 2, 3, 4] fun KR53 kr53 => ?_))
     refine wpS.qs [(0, 47, .int .i64 z26), (1, 48, .int .i64 x10)] ?_
     obtain ⟨h0, h⟩ := of_chk h
     refine wpS.tk 2 false (some 49) (.int .i64 (irem .i64 z26 x10)) (yld_rem (t := 3) (by kernel_rfl) h0) ?_
     rcases of_if h with ⟨hc, h⟩ | ⟨hc, h⟩
     ·refine wpS.tk 3 false (some 50) (.bool true) (yld_b (et hc) (fun _ => by kernel_rfl)) ?_
      refine wpS.q 4 46 (.bool true) ?_
      refine wpS.fin rfl (kr53 _ _ (then_n (ks52 _ _ (wp_cond_t (by kernel_rfl) (xseq_k fun KS54 ks54 => ?_)))))
      refine wp_regG [13, 17] (fun k => True) 18 (by kernel_rfl) (by kernel_rfl) (by kernel_rfl) fun KR55 kr55 => ?_
      have hs := hs.drawn1
      refine wpG.take [0, 1, 2, 3, 13, 16, 17] 0 true (some 51) (.pointer (some ⟨b8, 0, none⟩)) (by kernel_rfl) (by kernel_rfl) (yld_load1 (e := 53) (o := 0) hs 7 rfl (by kernel_rfl) (by kernel_rfl) (by rfl) .grow) ?_
      refine wpG.q 1 52 (.pointer (some ⟨b8, 0, none⟩)) ?_
      refine wpG.q 2 53 (.pointer (some ⟨b8, 0, none⟩)) ?_
      refine wpG.tD 3 true (some 54) (.pointer (some ⟨b7, 0, none⟩)) (yld_load1 (e := 49) (o := 0) hs 8 rfl (by kernel_rfl) (by kernel_rfl) (by rfl) .grow) ?_
      refine wpG.tD 4 false (some 55) (.pointer (some ⟨b33, 0 + (1 : Int).toNat * 1, none⟩)) (yld_idx (t := 101) (e := 5) (n := 4) (sz := 1) (k := .i64) (x := 1) (by kernel_rfl) (by kernel_rfl) (by kernel_rfl) (by decide) (by decide)) ?_
      refine wpG.take [5, 12, 13, 16, 17] 5 true (some 56) (.int .u8 (rd (rdL (CA .u8 4 (by decide)) z29 (isub .i64 z26 1)) 1)) (by kernel_rfl) (by kernel_rfl) (yld_loadA (e := 5) (x := 1) hs 0 rfl (by kernel_rfl) (by kernel_rfl) (by decide) (by decide) .grow) ?_
      refine wpG.tD 6 false (some 57) (.pointer (some ⟨b33, 0 + (2 : Int).toNat * 1, none⟩)) (yld_idx (t := 101) (e := 5) (n := 4) (sz := 1) (k := .i64) (x := 2) (by kernel_rfl) (by kernel_rfl) (by kernel_rfl) (by decide) (by decide)) ?_
      refine wpG.take [7, 12, 13, 16, 17] 7 true (some 58) (.int .u8 (rd (rdL (CA .u8 4 (by decide)) z29 (isub .i64 z26 1)) 2)) (by kernel_rfl) (by kernel_rfl) (yld_loadA (e := 5) (x := 2) hs 0 rfl (by kernel_rfl) (by kernel_rfl) (by decide) (by decide) .grow) ?_
      refine wpG.tD 8 false (some 59) (.pointer (some ⟨b33, 0 + (3 : Int).toNat * 1, none⟩)) (yld_idx (t := 101) (e := 5) (n := 4) (sz := 1) (k := .i64) (x := 3) (by kernel_rfl) (by kernel_rfl) (by kernel_rfl) (by decide) (by decide)) ?_
      refine wpG.take [9, 12, 13, 16, 17] 9 true (some 60) (.int .u8 (rd (rdL (CA .u8 4 (by decide)) z29 (isub .i64 z26 1)) 3)) (by kernel_rfl) (by kernel_rfl) (yld_loadA (e := 5) (x := 3) hs 0 rfl (by kernel_rfl) (by kernel_rfl) (by decide) (by decide) .grow) ?_
      refine wpG.tD 10 false (some 61) (.pointer (some ⟨b33, 0 + (0 : Int).toNat * 1, none⟩)) (yld_idx (t := 101) (e := 5) (n := 4) (sz := 1) (k := .i64) (x := 0) (by kernel_rfl) (by kernel_rfl) (by kernel_rfl) (by decide) (by decide)) ?_
      refine wpG.take [11, 12, 13, 16, 17] 11 true (some 62) (.int .u8 (rd (rdL (CA .u8 4 (by decide)) z29 (isub .i64 z26 1)) 0)) (by kernel_rfl) (by kernel_rfl) (yld_loadA (e := 5) (x := 0) hs 0 rfl (by kernel_rfl) (by kernel_rfl) (by decide) (by decide) .grow) ?_
      refine wpG.q 12 63 (.agg (enc .u8 (wr (wr (wr (wr (zeroA 4) 0 (rd (rdL (CA .u8 4 (by decide)) z29 (isub .i64 z26 1)) 1)) 1 (rd (rdL (CA .u8 4 (by decide)) z29 (isub .i64 z26 1)) 2)) 2 (rd (rdL (CA .u8 4 (by decide)) z29 (isub .i64 z26 1)) 3)) 3 (rd (rdL (CA .u8 4 (by decide)) z29 (isub .i64 z26 1)) 0))).toArray) ?_
      refine wpG.q 14 65 (.int .u8 z27) ?_
      refine wpG.q 15 66 (.agg (enc .u8 (wr (zeroA 4) 0 z27)).toArray) ?_
      obtain ⟨r36, hg, h⟩ := of_bind h
      refine wpG.only 13 (by kernel_rfl) (op_callX (d := (some 64)) (by kernel_rfl) hs 9 rfl (fun _ => by kernel_rfl) (aes_tables_boxed.ok hg _ (hs.blkAt 9 rfl)) ?_)
      intro w kp hs
      have hs := hs.conv (L' := (.blk b33 (enc .u8 (rdL (CA .u8 4 (by decide)) z29 (isub .i64 z26 1))) 101 :: .obj l20 (.loop (rec20 .exhausted none)) :: .obj D20 (.deferred (some [])) :: .blk b14 ([.int .i64 4]) 3 :: .blk b13 ([.slice ca0_A ca0_n ca0_c]) 26 :: .blk b12 ([.slice z29_A z29_n z29_c]) 99 :: .ownL (CA .u8 4 (by decide)) z29_A z29_n z29_c z29 101 :: .blk b9 ([.pointer (some ⟨b8, 0, none⟩)]) 53 :: .blk b8 ([.pointer (some ⟨b7, 0, none⟩), .slice none 0 0]) 98 :: .blk b7 (([] : List Value) ++ enc .u8 r6_0 ++ enc .u8 r6_1 ++ ([] : List Value)) 48 :: Lt)) rfl
      refine ⟨⟨fun hf => absurd hf (by decide), .all _ _⟩, ?_⟩
      obtain ⟨r37, hg, h⟩ := of_bind h
      refine wpG.only 16 (by kernel_rfl) (op_call (d := (some 67)) (by kernel_rfl) hs (fun _ => by kernel_rfl) (aes_word_xor.ok hg _) ?_)
      intro w gw hs
      refine ⟨.of gw, ?_⟩
      refine wpG.only 17 (by kernel_rfl) (op_storeW (t := 101) (v := .agg (enc .u8 r37).toArray) (d := none) (by kernel_rfl) hs 0 rfl (vs := enc .u8 r37) (n := 4) (by kernel_rfl) (by kernel_rfl) (by kernel_rfl) (by simp [enc_len]) (by simp [enc_len]) (by intro u hu; exact enc_one _ _ u hu) ?_)
      intro w kp hs
      refine ⟨⟨fun hf => absurd hf (by decide), .all _ _⟩, ?_⟩
      refine wpG.fin (by kernel_rfl) rfl (kr55 _ _ ?_)
      refine then_n (ks54 _ _ (xregS [0, 1, 2] fun KR60 kr60 => ?_))
      refine wpS.q 0 68 (.int .u8 z27) ?_
      obtain ⟨r38, hg, h⟩ := of_bind h
      refine wpS.only 1 (op_call (d := (some 69)) (by kernel_rfl) hs (fun _ => by kernel_rfl) (aes_Mul.ok hg _) ?_)
      intro w gw hs
      refine ⟨fun _ => trivial, ?_⟩
      refine wpS.q 2 8 (.int .u8 r38) ?_
      refine wpS.fin rfl (kr60 _ _ (inBlock_n ?_))
      obtain ⟨q0, qr0⟩ := Prod.mk.inj (of_some h)
      have q1 := qr0
      subst q0
      subst q1
      exact nj _ _ ⟨(hs.conv rfl), exg (by kernel_rfl)⟩
     refine wpS.tk 3 false (some 50) (.bool false) (yld_b (ef hc) (fun _ => by kernel_rfl)) ?_
     refine wpS.q 4 46 (.bool false) ?_
     refine wpS.fin rfl (kr53 _ _ (then_n (ks52 _ _ (wp_cond_f (by kernel_rfl) (xseq_k fun KS61 ks61 => (xregS [0, 1, 2, 3, 4, 5, 6, 7] fun KR62 kr62 => ?_))))))
     refine wpS.q 0 71 (.int .i64 x10) ?_
     rcases of_if h with ⟨hc, h⟩ | ⟨hc, h⟩
     ·refine wpS.tk 1 false (some 72) (.bool true) (yld_b (et hc) (fun _ => by kernel_rfl)) ?_
      refine wpS.qs [(2, 73, .bool true), (3, 74, .int .i64 z26), (4, 75, .int .i64 (irem .i64 z26 8))] ?_
      rcases of_if h with ⟨hc, h⟩ | ⟨hc, h⟩
      ·refine wpS.tk 5 false (some 76) (.bool true) (yld_b (et hc) (fun _ => by kernel_rfl)) ?_
       refine wpS.qs [(6, 77, .bool true), (7, 70, .bool true)] ?_
       refine wpS.fin rfl (kr62 _ _ (then_n (ks61 _ _ (wp_cond_t (by kernel_rfl) ?_))))
       refine wp_regG [5, 6] (fun k => True) 7 (by kernel_rfl) (by kernel_rfl) (by kernel_rfl) fun KR63 kr63 => ?_
       have hs := hs.drawn1
       refine wpG.take [0, 1, 2, 3, 5, 6] 0 true (some 78) (.pointer (some ⟨b8, 0, none⟩)) (by kernel_rfl) (by kernel_rfl) (yld_load1 (e := 53) (o := 0) hs 7 rfl (by kernel_rfl) (by kernel_rfl) (by rfl) .grow) ?_
       refine wpG.q 1 79 (.pointer (some ⟨b8, 0, none⟩)) ?_
       refine wpG.q 2 80 (.pointer (some ⟨b8, 0, none⟩)) ?_
       refine wpG.tD 3 true (some 81) (.pointer (some ⟨b7, 0, none⟩)) (yld_load1 (e := 49) (o := 0) hs 8 rfl (by kernel_rfl) (by kernel_rfl) (by rfl) .grow) ?_
       refine wpG.tD 4 true (some 82) (.agg (enc .u8 (rdL (CA .u8 4 (by decide)) z29 (isub .i64 z26 1))).toArray) (yld_loadW (e := 101) (n := 4) hs 0 rfl (by kernel_rfl) (by kernel_rfl) (by kernel_rfl) (by exact enc_len _ _) .grow) ?_
       obtain ⟨r39, hg, h⟩ := of_bind h
       refine wpG.only 5 (by kernel_rfl) (op_callX (d := (some 83)) (by kernel_rfl) hs 9 rfl (fun _ => by kernel_rfl) (aes_tables_boxed.ok hg _ (hs.blkAt 9 rfl)) ?_)
       intro w kp hs
       have hs := hs.conv (L' := (.blk b33 (enc .u8 (rdL (CA .u8 4 (by decide)) z29 (isub .i64 z26 1))) 101 :: .obj l20 (.loop (rec20 .exhausted none)) :: .obj D20 (.deferred (some [])) :: .blk b14 ([.int .i64 4]) 3 :: .blk b13 ([.slice ca0_A ca0_n ca0_c]) 26 :: .blk b12 ([.slice z29_A z29_n z29_c]) 99 :: .ownL (CA .u8 4 (by decide)) z29_A z29_n z29_c z29 101 :: .blk b9 ([.pointer (some ⟨b8, 0, none⟩)]) 53 :: .blk b8 ([.pointer (some ⟨b7, 0, none⟩), .slice none 0 0]) 98 :: .blk b7 (([] : List Value) ++ enc .u8 r6_0 ++ enc .u8 r6_1 ++ ([] : List Value)) 48 :: Lt)) rfl
       refine ⟨⟨fun hf => absurd hf (by decide), .all _ _⟩, ?_⟩
       refine wpG.only 6 (by kernel_rfl) (op_storeW (t := 101) (v := .agg (enc .u8 r39).toArray) (d := none) (by kernel_rfl) hs 0 rfl (vs := enc .u8 r39) (n := 4) (by kernel_rfl) (by kernel_rfl) (by kernel_rfl) (by simp [enc_len]) (by simp [enc_len]) (by intro u hu; exact enc_one _ _ u hu) ?_)
       intro w kp hs
       refine ⟨⟨fun hf => absurd hf (by decide), .all _ _⟩, ?_⟩
       refine wpG.fin (by kernel_rfl) rfl (kr63 _ _ ?_)
       refine inBlock_n ?_
       obtain ⟨q0, qr0⟩ := Prod.mk.inj (of_some h)
       have q1 := qr0
       subst q0
       subst q1
       exact nj _ _ ⟨(hs.conv rfl), exg (by kernel_rfl)⟩
      refine wpS.tk 5 false (some 76) (.bool false) (yld_b (ef hc) (fun _ => by kernel_rfl)) ?_
      refine wpS.qs [(6, 77, .bool false), (7, 70, .bool false)] ?_
      refine wpS.fin rfl (kr62 _ _ (then_n (ks61 _ _ (wp_cond_f (by kernel_rfl) (xskip (inBlock_n ?_))))))
      obtain ⟨q0, qr0⟩ := Prod.mk.inj (of_some h)
      have q1 := qr0
      subst q0
      subst q1
      exact nj _ _ ⟨(hs.conv rfl), exg (by kernel_rfl)⟩
     refine wpS.tk 1 false (some 72) (.bool false) (yld_b (ef hc) (fun _ => by kernel_rfl)) ?_
     refine wpS.qs [(2, 73, .bool false), (3, 74, undef), (4, 75, undef), (5, 76, undef), (6, 77, .bool false), (7, 70, .bool false)] ?_
     refine wpS.fin rfl (kr62 _ _ (then_n (ks61 _ _ (wp_cond_f (by kernel_rfl) (xskip (inBlock_n ?_))))))
     obtain ⟨q0, qr0⟩ := Prod.mk.inj (of_some h)
     have q1 := qr0
     subst q0
     subst q1
     exact nj _ _ ⟨(hs.conv rfl), exg (by kernel_rfl)⟩
    clear hj hs
    rintro a w ⟨hs, g50, rfl⟩
    refine then_n (ks51 _ _ ?_)
    refine wp_regG [10, 11] (fun k => True) 12 (by kernel_rfl) (by kernel_rfl) (by kernel_rfl) fun KR64 kr64 => ?_
    have hs := hs.drawn1
    refine wpG.tD 0 true (some 84) (.slice z29_A z29_n z29_c) (yld_load1 (e := 99) (o := 0) hs 5 rfl (by kernel_rfl) (by kernel_rfl) (by rfl) .grow) ?_
    refine wpG.take [1, 5, 6, 8, 9, 10, 11] 1 true (some 85) (.slice z29_A z29_n z29_c) (by kernel_rfl) (by kernel_rfl) (yld_load1 (e := 99) (o := 0) hs 5 rfl (by kernel_rfl) (by kernel_rfl) (by rfl) .grow) ?_
    refine wpG.q 2 86 (.int .i64 z26) ?_
    refine wpG.q 3 87 (.int .i64 x10) ?_
    refine wpG.q 4 88 (.int .i64 (isub .i64 z26 x10)) ?_
    obtain ⟨x40, hx, h⟩ := of_bind h
    have hx := of_some hx
    subst hx
    obtain ⟨h0, h⟩ := of_chk h
    obtain ⟨h1, h⟩ := of_chk h
    have i0_65 := h0
    have i1_65 := h1
    refine wpG.tD 5 false (some 89) (.pointer (adr z29_A (((isub .i64 z26 x10) : Int).toNat * Cod.size (CA .u8 4 (by decide))))) (yld_idxL (C := (CA .u8 4 (by decide))) (t := 99) (e := 101) (k := .i64) (x := (isub .i64 z26 x10)) (hs.rowL 6 rfl) (by kernel_rfl) (by kernel_rfl) (by kernel_rfl) h0 h1) ?_
    refine wpG.take [6, 8, 9, 10, 11] 6 true (some 90) (.agg (enc .u8 (rdL (CA .u8 4 (by decide)) z29 (isub .i64 z26 x10))).toArray) (by kernel_rfl) (by kernel_rfl) (yld_loadLA (C := (CA .u8 4 (by decide))) (e := 101) (x := (isub .i64 z26 x10)) (hs.rowL 6 rfl) (by kernel_rfl) rfl (by kernel_rfl) (by kernel_rfl) i0_65 i1_65) ?_
    refine wpG.take [7, 8, 9, 10, 11] 7 true (some 91) (.agg (enc .u8 y35).toArray) (by kernel_rfl) (by kernel_rfl) (yld_loadW (e := 101) (n := 4) hs 0 rfl (by kernel_rfl) (by kernel_rfl) (by kernel_rfl) (by exact enc_len _ _) .grow) ?_
    obtain ⟨r41, hg, h⟩ := of_bind h
    refine wpG.only 8 (by kernel_rfl) (op_call (d := (some 92)) (by kernel_rfl) hs (fun _ => by kernel_rfl) (aes_word_xor.ok hg _) ?_)
    intro w gw hs
    refine ⟨.of gw, ?_⟩
    refine wpG.only 9 (by kernel_rfl) (op_litL (C := (CA .u8 4 (by decide))) (t := 99) (e := 101) (len := 1) (parts := #[(0, .agg (enc .u8 r41).toArray)]) (l := [r41]) (d := (some 93)) (by kernel_rfl) hs (by kernel_rfl) rfl (by kernel_rfl) (by kernel_rfl) (z := .agg (enc .u8 (zeroA 4)).toArray) (by kernel_rfl) rfl (by decide) (by decide) ?_)
    intro s42_A s42_n s42_c w gw hs
    refine ⟨.of gw, ?_⟩
    obtain ⟨h0, h⟩ := of_chk h
    refine wpG.only 10 (by kernel_rfl) (op_appendT (C := (CA .u8 4 (by decide))) (t := 99) (ty := 99) (e := 101) (bytes := 4) (B := 35184372088832) (d := (some 94)) (by kernel_rfl) hs 7 rfl (hs.rowL 0 rfl) (by kernel_rfl) (by kernel_rfl) (by kernel_rfl) (by kernel_rfl) (by kernel_rfl) h0 (by decide) (by decide) ?_)
    intro s43_A s43_n s43_c w hs
    refine ⟨⟨fun hf => absurd hf (by decide), .all _ _⟩, ?_⟩
    refine wpG.only 11 (by kernel_rfl) (op_store1 (t := 99) (o := 0) (v := .slice s43_A s43_n s43_c) (d := none) (by kernel_rfl) hs 6 rfl (by kernel_rfl) rfl (by kernel_rfl) (by simp) ?_)
    intro w kp hs
    refine ⟨⟨fun hf => absurd hf (by decide), .all _ _⟩, ?_⟩
    refine wpG.fin (by kernel_rfl) rfl (kr64 _ _ ?_)
    refine inBlock_n (then_n (ks46 _ _ (xregS [0, 1, 2] fun KR66 kr66 => ?_)))
    refine wpS.qs [(0, 39, .int .i64 z26), (1, 40, .int .i64 (iadd .i64 z26 1))] ?_
    obtain ⟨x44, hx, h⟩ := of_bind h
    refine wpS.tk 2 false (some 7) (.int .i64 x44) (yld_int hx (fun _ => by kernel_rfl)) ?_
    refine wpS.fin rfl (kr66 _ _ ?_)
    exact then_n (kl1 _ _ ⟨n, Nat.lt_succ_self n, x44, y34, (z29 ++ ([r41] : List (Arr 4))), s43_A, s43_n, s43_c, h, (hs.drop (.cons _ (.cons _ (.cons_cons _ (.cons_cons _ (.cons_cons _ (.cons_cons _ (.cons_cons _ (.cons_cons _ (.cons_cons _ (.cons_cons _ (.cons_cons _ (.refl _))))))))))))), exg (by kernel_rfl)⟩)
   refine wpS.tk 4 false (some 38) (.bool false) (yld_b (df hc) (fun _ => by kernel_rfl)) ?_
   refine wpS.fin rfl (kr45 _ _ (then_n (ks44 _ _ (wp_cond_f (by kernel_rfl) (xexit (then_x (then_x (inBlock_hit ?_))))))))
   have q0 := of_some h
   subst q0
   exact exq_n (nn1 _ _ ⟨z29_A, z29_n, z29_c, (hs.conv rfl), exg (by kernel_rfl)⟩)
 clear hs h hy
 rintro a w ⟨y31_A, y31_n, y31_c, hs, g42, rfl⟩
 have h := hk1
 refine then_n (ks38 _ _ (xseq_k fun KS67 ks67 => (xseq_k fun KS68 ks68 => (xregS [0, 1] fun KR69 kr69 => ?_))))
 refine wpS.tk 0 true (some 95) (.slice y31_A y31_n y31_c) (yld_load1 (e := 99) (o := 0) hs 4 rfl (by kernel_rfl) (by kernel_rfl) (by rfl) .grow) ?_
 refine wpS.only 1 (op_inline (d := (some 96)) (f := 85) (args := #[.slice y31_A y31_n y31_c, .int .i64 4]) (by kernel_rfl) (fun _ => by kernel_rfl) fun R70 kI70 => ?_)
 refine calls_k Try.func85 rfl fun Q70 qq70 => ?_
 refine wp_conv (a' := ⟨#[.slice y31_A y31_n y31_c, .int .i64 4, undef, undef, undef, undef, undef, undef, undef], []⟩) (by kernel_rfl) ?_
 refine xseq_k fun KS71 ks71 => ?_
 refine xregS [0, 1, 2] fun KR72 kr72 => ?_
 refine wpS.only 0 (op_box (t := 99) (v := .slice y31_A y31_n y31_c) (d := (some 2)) (by kernel_rfl) hs ([.slice y31_A y31_n y31_c]) (by kernel_rfl) (by kernel_rfl) ?_)
 intro b45 w gw hs
 refine ⟨fun _ => trivial, ?_⟩
 refine wpS.only 1 (op_box (t := 3) (v := .int .i64 4) (d := (some 3)) (by kernel_rfl) hs ([.int .i64 4]) (by kernel_rfl) (by kernel_rfl) ?_)
 intro b46 w gw hs
 refine ⟨fun _ => trivial, ?_⟩
 refine wpS.q 2 4 (.nilFunc) ?_
 refine wpS.fin rfl (kr72 _ _ (then_n (ks71 _ _ (xseq_k fun KS73 ks73 => (xseq_k fun KS74 ks74 => (xregS [0, 1] fun KR75 kr75 => ?_))))))
 refine wpS.tk 0 true (some 5) (.int .i64 4) (yld_load1 (e := 3) (o := 0) hs 0 rfl (by kernel_rfl) (by kernel_rfl) (by rfl) .grow) ?_
 refine wpS.q 1 6 (.bool false) ?_
 refine wpS.fin rfl (kr75 _ _ (then_n (ks74 _ _ (wp_cond_f (by kernel_rfl) (xskip (then_n (ks73 _ _ (xseq_k fun KS76 ks76 => (xregS [0, 1] fun KR77 kr77 => ?_)))))))))
 refine wpS.qs [(0, 8, .func (.func 108) #[] #[.pointer (some ⟨b45, 0, none⟩), .pointer (some ⟨b46, 0, none⟩)]), (1, 4, .func (.func 108) #[] #[.pointer (some ⟨b45, 0, none⟩), .pointer (some ⟨b46, 0, none⟩)])] ?_
 refine wpS.fin rfl (kr77 _ _ (then_n (ks76 _ _ (xret ?_))))
 refine qq70 _ _ (post_ret (by kernel_rfl) (run_results [.tmp 4] [.func (.func 108) #[] #[.pointer (some ⟨b45, 0, none⟩), .pointer (some ⟨b46, 0, none⟩)]] (by kernel_rfl) (.cons (res_tmp (by kernel_rfl)) .nil)) ?_)
 refine kI70 _ _ ?_
 refine ⟨fun _ => trivial, ?_⟩
 refine wpS.fin rfl (kr69 _ _ (then_n (ks68 _ _ (xblock ?_))))
 refine wp_range (gf := 108) (lb := #[.pointer (some ⟨b45, 0, none⟩), .pointer (some ⟨b46, 0, none⟩)]) hs (by kernel_rfl) (fun _ _ => by kernel_rfl) fun l78 D78 rec78 w hok78 hs R78 kR78 => ?_
 refine calls_kn Try.func108 rfl fun Q78 qq78 qn78 => ?_
 refine wp_conv (a' := ⟨#[.func (.yield l78) #[] #[], .pointer (some ⟨b45, 0, none⟩), .pointer (some ⟨b46, 0, none⟩), undef, undef, undef, undef, undef, undef, undef, undef, undef, undef, undef, undef, undef, undef, undef, undef, undef, undef, undef, undef, undef, undef, undef, undef, undef, undef, undef, undef], []⟩) (by kernel_rfl) ?_
 refine xseq_k fun KS79 ks79 => ?_
 refine xregS [0] fun KR80 kr80 => ?_
 refine wpS.q 0 4 (.int .i64 0) ?_
 refine wpS.fin rfl (kr80 _ _ (then_n (ks79 _ _ ?_)))
 have hs := hs.addNilL (CA .u8 16 (by decide)) 42
 have hs := hs.freeze 10 rfl
 obtain ⟨y50, hy, hk2⟩ := of_bind h
 refine wp_exq (N := fun a w => ∃ (y50_A : Option Addr) (y50_n : Nat) (y50_c : Nat), St w0 X (.ownL (CA .u8 16 (by decide)) y50_A y50_n y50_c y50 42 :: .obj l78 (.loop (rec78 .ready none)) :: .obj D78 (.deferred (some [])) :: .blk b46 ([.int .i64 4]) 3 :: .blk b45 ([.slice y31_A y31_n y31_c]) 99 :: .obj l20 (.loop (rec20 .exhausted none)) :: .obj D20 (.deferred (some [])) :: .blk b14 ([.int .i64 4]) 3 :: .blk b13 ([.slice ca0_A ca0_n ca0_c]) 26 :: .blk b12 ([.slice y31_A y31_n y31_c]) 99 :: .blk b9 ([.pointer (some ⟨b8, 0, none⟩)]) 53 :: .blk b8 ([.pointer (some ⟨b7, 0, none⟩), .slice y50_A y50_n y50_c]) 98 :: .blk b7 (([] : List Value) ++ enc .u8 r6_0 ++ enc .u8 r6_1 ++ ([] : List Value)) 48 :: Lt) (.rowL (CA .u8 4 (by decide)) y31_A y31_n y31_c y31 :: .rowL (CI .u8) ca0_A ca0_n ca0_c ca0 :: Rt) w ∧ ∃ g82 : Nat → Value, a = ⟨#[.func (.yield l78) #[] #[], .pointer (some ⟨b45, 0, none⟩), .pointer (some ⟨b46, 0, none⟩), undef, (g82 4), (g82 5), (g82 6), (g82 7), (g82 8), (g82 9), (g82 10), (g82 11), (g82 12), (g82 13), (g82 14), (g82 15), (g82 16), (g82 17), (g82 18), (g82 19), (g82 20), (g82 21), (g82 22), (g82 23), (g82 24), (g82 25), (g82 26), (g82 27), (g82 28), (g82 29), (g82 30)], []⟩) (fun N2 nn2 => ?_) ?_
 ·clear hk2
  refine xblock ?_
  refine wp_loop_k (fun n a w => ∃ z47 z48, ∃ (z48_A : Option Addr) (z48_n : Nat) (z48_c : Nat), aes_began_s.l2 K n y31 z47 z48 = some y50 ∧ St w0 X (.ownL (CA .u8 16 (by decide)) z48_A z48_n z48_c z48 42 :: .obj l78 (.loop (rec78 .ready none)) :: .obj D78 (.deferred (some [])) :: .blk b46 ([.int .i64 4]) 3 :: .blk b45 ([.slice y31_A y31_n y31_c]) 99 :: .obj l20 (.loop (rec20 .exhausted none)) :: .obj D20 (.deferred (some [])) :: .blk b14 ([.int .i64 4]) 3 :: .blk b13 ([.slice ca0_A ca0_n ca0_c]) 26 :: .blk b12 ([.slice y31_A y31_n y31_c]) 99 :: .blk b9 ([.pointer (some ⟨b8, 0, none⟩)]) 53 :: .blk b8 ([.pointer (some ⟨b7, 0, none⟩), .slice z48_A z48_n z48_c]) 98 :: .blk b7 (([] : List Value) ++ enc .u8 r6_0 ++ enc .u8 r6_1 ++ ([] : List Value)) 48 :: Lt) (.rowL (CA .u8 4 (by decide)) y31_A y31_n y31_c y31 :: .rowL (CI .u8) ca0_A ca0_n ca0_c ca0 :: Rt) w ∧ ∃ g81 : Nat → Value, a = ⟨#[.func (.yield l78) #[] #[], .pointer (some ⟨b45, 0, none⟩), .pointer (some ⟨b46, 0, none⟩), undef, .int .i64 z47, (g81 5), (g81 6), (g81 7), (g81 8), (g81 9), (g81 10), (g81 11), (g81 12), (g81 13), (g81 14), (g81 15), (g81 16), (g81 17), (g81 18), (g81 19), (g81 20), (g81 21), (g81 22), (g81 23), (g81 24), (g81 25), (g81 26), (g81 27), (g81 28), (g81 29), (g81 30)], []⟩) K ⟨0, ([] : List (Arr 16)), none, 0, 0, hy, hs.conv rfl, exg (by kernel_rfl)⟩ ?_
  clear hs h hy
  rintro n a w ⟨z47, z48, z48_A, z48_n, z48_c, h, hs, g81, rfl⟩ KL2 kl2
  cases n with
  | zero => exact nomatch (show none = some _ from h)
  | succ n =>
   refine xseq_k fun KS83 ks83 => ?_
   refine xseq_k fun KS84 ks84 => ?_
   refine xregS [0, 1, 2, 3] fun KR85 kr85 => ?_
   refine wpS.q 0 6 (.int .i64 z47) ?_
   refine wpS.tk 1 true (some 7) (.slice y31_A y31_n y31_c) (yld_load1 (e := 99) (o := 0) hs 4 rfl (by kernel_rfl) (by kernel_rfl) (by rfl) .grow) ?_
   refine wpS.tk 2 false (some 8) (.int .i64 (y31.length : Int)) (yld_lenL (hs.rowR 0 rfl) (fun _ => by kernel_rfl)) ?_
   rcases of_if h with ⟨hc, h⟩ | ⟨hc, h⟩
   ·refine wpS.tk 3 false (some 9) (.bool true) (yld_b (dt hc) (fun _ => by kernel_rfl)) ?_
    refine wpS.fin rfl (kr85 _ _ (then_n (ks84 _ _ (wp_cond_t (by kernel_rfl) (xskip (then_n (ks83 _ _ (xseq_k fun KS86 ks86 => (xblock (xseq_k fun KS87 ks87 => ?_))))))))))
    refine wp_regG [] (fun k => True) 7 (by kernel_rfl) (by kernel_rfl) (by kernel_rfl) fun KR88 kr88 => ?_
    have hs := hs.drawn1
    refine wpG.tD 0 true (some 13) (.int .i64 4) (yld_load1 (e := 3) (o := 0) hs 3 rfl (by kernel_rfl) (by kernel_rfl) (by rfl) .grow) ?_
    refine wpG.tD 1 true (some 14) (.slice y31_A y31_n y31_c) (yld_load1 (e := 99) (o := 0) hs 4 rfl (by kernel_rfl) (by kernel_rfl) (by rfl) .grow) ?_
    refine wpG.q 2 15 (.int .i64 z47) ?_
    obtain ⟨h0, h⟩ := of_chk h
    obtain ⟨h1, h⟩ := of_chk h
    obtain ⟨h2, h⟩ := of_chk h
    obtain ⟨s52_A, hA⟩ : ∃ A, A = if y31_c = (z47 : Int).toNat then y31_A else adr y31_A ((z47 : Int).toNat * Cod.size (CA .u8 4 (by decide))) := ⟨_, rfl⟩
    obtain ⟨s52_n, hn⟩ : ∃ n, n = ((y31.length : Int) : Int).toNat - (z47 : Int).toNat := ⟨_, rfl⟩
    obtain ⟨s52_c, hc⟩ : ∃ c, c = y31_c - (z47 : Int).toNat := ⟨_, rfl⟩
    refine wpG.tD 3 false (some 16) (.slice s52_A s52_n s52_c) (yld_sub (C := (CA .u8 4 (by decide))) (t := 99) (e := 101) (low := some (.int .i64 z47)) (high := none) (lo := z47) (hi := (y31.length : Int)) (hs.rowR 0 rfl) (by kernel_rfl) (by kernel_rfl) (by kernel_rfl) (.inr ⟨_, rfl⟩) (.inl ⟨rfl, rfl⟩) h0 h1 h2 hA hn hc) ?_
    have hs := hs.addSub (C := (CA .u8 4 (by decide))) 0 rfl h0 h1 h2 hA hn hc
    refine wpG.tD 4 false (some 17) (.int .i64 ((subL y31 z47 (y31.length : Int)).length : Int)) (yld_lenL (hs.rowR 0 rfl) (fun _ => by kernel_rfl)) ?_
    refine wpG.q 5 18 (.int .i64 (imin 4 ((subL y31 z47 (y31.length : Int)).length : Int))) ?_
    obtain ⟨x53, hx, h⟩ := of_bind h
    refine wpG.tD 6 false (some 5) (.int .i64 x53) (yld_int hx (fun _ => by kernel_rfl)) ?_
    refine wpG.fin (by kernel_rfl) rfl (kr88 _ _ ?_)
    refine then_n (ks87 _ _ (xseq_k fun KS89 ks89 => (xregS [0, 1, 2, 3, 4, 5, 6, 7, 8, 9, 10, 11] fun KR90 kr90 => ?_)))
    refine wpS.q 0 19 (.func (.yield l78) #[] #[]) ?_
    refine wpS.tk 1 true (some 20) (.slice y31_A y31_n y31_c) (yld_load1 (e := 99) (o := 0) hs 4 rfl (by kernel_rfl) (by kernel_rfl) (by rfl) .grow) ?_
    refine wpS.qs [(2, 21, .int .i64 z47), (3, 22, .int .i64 z47), (4, 23, .int .i64 x53), (5, 24, .int .i64 (iadd .i64 z47 x53)), (6, 25, .int .i64 z47), (7, 26, .int .i64 x53), (8, 27, .int .i64 (iadd .i64 z47 x53))] ?_
    obtain ⟨h0, h⟩ := of_chk h
    obtain ⟨h1, h⟩ := of_chk h
    obtain ⟨h2, h⟩ := of_chk h
    obtain ⟨h3, h⟩ := of_chk h
    obtain ⟨s54_A, hA⟩ : ∃ A, A = if ((iadd .i64 z47 x53) : Int).toNat = (z47 : Int).toNat then y31_A else adr y31_A ((z47 : Int).toNat * Cod.size (CA .u8 4 (by decide))) := ⟨_, rfl⟩
    obtain ⟨s54_n, hn⟩ : ∃ n, n = ((iadd .i64 z47 x53) : Int).toNat - (z47 : Int).toNat := ⟨_, rfl⟩
    obtain ⟨s54_c, hc⟩ : ∃ c, c = ((iadd .i64 z47 x53) : Int).toNat - (z47 : Int).toNat := ⟨_, rfl⟩
    refine wpS.tk 9 false (some 28) (.slice s54_A s54_n s54_c) (yld_sub3 (mx := (iadd .i64 z47 x53)) (k := .i64) (C := (CA .u8 4 (by decide))) (t := 99) (e := 101) (low := some (.int .i64 z47)) (high := some (.int .i64 (iadd .i64 z47 x53))) (lo := z47) (hi := (iadd .i64 z47 x53)) (hs.rowR 1 rfl) (by kernel_rfl) (by kernel_rfl) (by kernel_rfl) (.inr ⟨_, rfl⟩) ⟨_, rfl⟩ h0 h1 h2 h3 hA hn hc) ?_
    have hs := hs.addSub3 (C := (CA .u8 4 (by decide))) 1 rfl h0 h1 h2 h3 hA hn hc
    refine wpS.onlyR 10 (op_yield (d := (some 29)) (by kernel_rfl) hs 1 rfl hok78 #[.slice s54_A s54_n s54_c] (by kernel_rfl) rfl (tm := #[.slice ca0_A ca0_n ca0_c, undef, .pointer none, .pointer (some ⟨b9, 0, none⟩), .int .i64 x10, .pointer (some ⟨b12, 0, none⟩), undef, (g42 7), (g42 8), (g42 9), undef, undef, undef, undef, .pointer (some ⟨b7, 0, none⟩), .agg #[.pointer (some ⟨b7, 0, none⟩), .slice none 0 0], .pointer (some ⟨b8, 0, none⟩), .slice ca0_A ca0_n ca0_c, .int .i64 (ca0.length : Int), .int .i64 (iquo .i64 (ca0.length : Int) 4), .int .i64 x10, .int .i64 (iadd .i64 x10 7), .int .i64 (imul .i64 4 (iadd .i64 x10 7)), .slice s11_A s11_n s11_c, .slice ca0_A ca0_n ca0_c, .func (.func 102) #[] #[.pointer (some ⟨b13, 0, none⟩), .pointer (some ⟨b14, 0, none⟩)], undef, undef, undef, undef, undef, undef, undef, .int .i64 x10, (g42 34), (g42 35), (g42 36), (g42 37), (g42 38), (g42 39), (g42 40), (g42 41), (g42 42), (g42 43), (g42 44), (g42 45), (g42 46), (g42 47), (g42 48), (g42 49), (g42 50), (g42 51), (g42 52), (g42 53), (g42 54), (g42 55), (g42 56), (g42 57), (g42 58), (g42 59), (g42 60), (g42 61), (g42 62), (g42 63), (g42 64), (g42 65), (g42 66), (g42 67), (g42 68), (g42 69), (g42 70), (g42 71), (g42 72), (g42 73), (g42 74), (g42 75), (g42 76), (g42 77), (g42 78), (g42 79), (g42 80), (g42 81), (g42 82), (g42 83), (g42 84), (g42 85), (g42 86), (g42 87), (g42 88), (g42 89), (g42 90), (g42 91), (g42 92), (g42 93), (g42 94), .slice y31_A y31_n y31_c, .func (.func 108) #[] #[.pointer (some ⟨b45, 0, none⟩), .pointer (some ⟨b46, 0, none⟩)], .slice s54_A s54_n s54_c, undef, undef, undef, undef, undef, undef, undef, undef, undef, undef, undef, undef, undef, undef, undef, undef, undef, undef, undef, undef, undef, undef, undef, undef]) (by kernel_rfl) (by kernel_rfl) fun K91 k91 => ?_)
    refine xregS [0] fun KR92 kr92 => ?_
    refine wpS.q 0 10 (.slice s54_A s54_n s54_c) ?_
    refine wpS.fin rfl (kr92 _ _ (then_n (k91 _ _ 1 _ _ hs rfl fun w Qr91 hs qr91 => ?_)))
    try dsimp only [List.set] at hs
    refine xblock (xseq_k fun KS93 ks93 => (xregS [0] fun KR94 kr94 => ?_))
    refine wpS.only 0 (op_alloc (t := 42) (d := (some 11)) (by kernel_rfl) hs (enc .u8 (zeroA 16)) (.agg (enc .u8 (zeroA 16)).toArray) (by kernel_rfl) (by kernel_rfl) (by kernel_rfl) ?_)
    intro b55 w gw hs
    refine ⟨fun _ => trivial, ?_⟩
    refine wpS.fin rfl (kr94 _ _ (then_n (ks93 _ _ (xseq_k fun KS95 ks95 => (xseq_k fun KS96 ks96 => (xregS [0, 1, 2] fun KR97 kr97 => ?_))))))
    refine wpS.q 0 98 (.slice s54_A s54_n s54_c) ?_
    refine wpS.tk 1 false (some 99) (.int .i64 ((subL y31 z47 (iadd .i64 z47 x53)).length : Int)) (yld_lenL (hs.rowR 0 rfl) (fun _ => by kernel_rfl)) ?_
    refine wpS.q 2 100 (.int .i64 0) ?_
    refine wpS.fin rfl (kr97 _ _ (then_n (ks96 _ _ ?_)))
    obtain ⟨y58, hy, hk3⟩ := of_bind h
    refine wp_exq (N := fun a w => St w0 X (.blk b55 (enc .u8 y58) 42 :: .ownL (CA .u8 16 (by decide)) z48_A z48_n z48_c z48 42 :: .obj l78 (.loop (rec78 .busy none)) :: .obj D78 (.deferred (some [])) :: .blk b46 ([.int .i64 4]) 3 :: .blk b45 ([.slice y31_A y31_n y31_c]) 99 :: .obj l20 (.loop (rec20 .exhausted none)) :: .obj D20 (.deferred (some [])) :: .blk b14 ([.int .i64 4]) 3 :: .blk b13 ([.slice ca0_A ca0_n ca0_c]) 26 :: .blk b12 ([.slice y31_A y31_n y31_c]) 99 :: .blk b9 ([.pointer (some ⟨b8, 0, none⟩)]) 53 :: .blk b8 ([.pointer (some ⟨b7, 0, none⟩), .slice z48_A z48_n z48_c]) 98 :: .blk b7 (([] : List Value) ++ enc .u8 r6_0 ++ enc .u8 r6_1 ++ ([] : List Value)) 48 :: Lt) (.rowL (CA .u8 4 (by decide)) s54_A s54_n s54_c (subL y31 z47 (iadd .i64 z47 x53)) :: .rowL (CA .u8 4 (by decide)) s52_A s52_n s52_c (subL y31 z47 (y31.length : Int)) :: .rowL (CA .u8 4 (by decide)) y31_A y31_n y31_c y31 :: .rowL (CI .u8) ca0_A ca0_n ca0_c ca0 :: Rt) w ∧ ∃ g99 : Nat → Value, a = ⟨#[.slice ca0_A ca0_n ca0_c, undef, .pointer none, .pointer (some ⟨b9, 0, none⟩), .int .i64 x10, .pointer (some ⟨b12, 0, none⟩), undef, (g42 7), (g42 8), (g42 9), .slice s54_A s54_n s54_c, .pointer (some ⟨b55, 0, none⟩), (g99 12), (g99 13), .pointer (some ⟨b7, 0, none⟩), .agg #[.pointer (some ⟨b7, 0, none⟩), .slice none 0 0], .pointer (some ⟨b8, 0, none⟩), .slice ca0_A ca0_n ca0_c, .int .i64 (ca0.length : Int), .int .i64 (iquo .i64 (ca0.length : Int) 4), .int .i64 x10, .int .i64 (iadd .i64 x10 7), .int .i64 (imul .i64 4 (iadd .i64 x10 7)), .slice s11_A s11_n s11_c, .slice ca0_A ca0_n ca0_c, .func (.func 102) #[] #[.pointer (some ⟨b13, 0, none⟩), .pointer (some ⟨b14, 0, none⟩)], undef, undef, undef, undef, undef, undef, undef, .int .i64 x10, (g42 34), (g42 35), (g42 36), (g42 37), (g42 38), (g42 39), (g42 40), (g42 41), (g42 42), (g42 43), (g42 44), (g42 45), (g42 46), (g42 47), (g42 48), (g42 49), (g42 50), (g42 51), (g42 52), (g42 53), (g42 54), (g42 55), (g42 56), (g42 57), (g42 58), (g42 59), (g42 60), (g42 61), (g42 62), (g42 63), (g42 64), (g42 65), (g42 66), (g42 67), (g42 68), (g42 69), (g42 70), (g42 71), (g42 72), (g42 73), (g42 74), (g42 75), (g42 76), (g42 77), (g42 78), (g42 79), (g42 80), (g42 81), (g42 82), (g42 83), (g42 84), (g42 85), (g42 86), (g42 87), (g42 88), (g42 89), (g42 90), (g42 91), (g42 92), (g42 93), (g42 94), .slice y31_A y31_n y31_c, .func (.func 108) #[] #[.pointer (some ⟨b45, 0, none⟩), .pointer (some ⟨b46, 0, none⟩)], .slice s54_A s54_n s54_c, .slice s54_A s54_n s54_c, .int .i64 ((subL y31 z47 (iadd .i64 z47 x53)).length : Int), (g99 100), (g99 101), (g99 102), (g99 103), (g99 104), (g99 105), (g99 106), (g99 107), (g99 108), (g99 109), (g99 110), undef, undef, undef, undef, undef, undef, undef, undef, undef, undef, undef], []⟩) (fun N3 nn3 => ?_) ?_
    ·clear hk3
     refine xblock ?_
     refine wp_loop_k (fun n a w => ∃ z56 z57, aes_began_s.l3 K n y31 z47 x53 z56 z57 = some y58 ∧ St w0 X (.blk b55 (enc .u8 z57) 42 :: .ownL (CA .u8 16 (by decide)) z48_A z48_n z48_c z48 42 :: .obj l78 (.loop (rec78 .busy none)) :: .obj D78 (.deferred (some [])) :: .blk b46 ([.int .i64 4]) 3 :: .blk b45 ([.slice y31_A y31_n y31_c]) 99 :: .obj l20 (.loop (rec20 .exhausted none)) :: .obj D20 (.deferred (some [])) :: .blk b14 ([.int .i64 4]) 3 :: .blk b13 ([.slice ca0_A ca0_n ca0_c]) 26 :: .blk b12 ([.slice y31_A y31_n y31_c]) 99 :: .blk b9 ([.pointer (some ⟨b8, 0, none⟩)]) 53 :: .blk b8 ([.pointer (some ⟨b7, 0, none⟩), .slice z48_A z48_n z48_c]) 98 :: .blk b7 (([] : List Value) ++ enc .u8 r6_0 ++ enc .u8 r6_1 ++ ([] : List Value)) 48 :: Lt) (.rowL (CA .u8 4 (by decide)) s54_A s54_n s54_c (subL y31 z47 (iadd .i64 z47 x53)) :: .rowL (CA .u8 4 (by decide)) s52_A s52_n s52_c (subL y31 z47 (y31.length : Int)) :: .rowL (CA .u8 4 (by decide)) y31_A y31_n y31_c y31 :: .rowL (CI .u8) ca0_A ca0_n ca0_c ca0 :: Rt) w ∧ ∃ g98 : Nat → Value, a = ⟨#[.slice ca0_A ca0_n ca0_c, undef, .pointer none, .pointer (some ⟨b9, 0, none⟩), .int .i64 x10, .pointer (some ⟨b12, 0, none⟩), undef, (g42 7), (g42 8), (g42 9), .slice s54_A s54_n s54_c, .pointer (some ⟨b55, 0, none⟩), (g98 12), (g98 13), .pointer (some ⟨b7, 0, none⟩), .agg #[.pointer (some ⟨b7, 0, none⟩), .slice none 0 0], .pointer (some ⟨b8, 0, none⟩), .slice ca0_A ca0_n ca0_c, .int .i64 (ca0.length : Int), .int .i64 (iquo .i64 (ca0.length : Int) 4), .int .i64 x10, .int .i64 (iadd .i64 x10 7), .int .i64 (imul .i64 4 (iadd .i64 x10 7)), .slice s11_A s11_n s11_c, .slice ca0_A ca0_n ca0_c, .func (.func 102) #[] #[.pointer (some ⟨b13, 0, none⟩), .pointer (some ⟨b14, 0, none⟩)], undef, undef, undef, undef, undef, undef, undef, .int .i64 x10, (g42 34), (g42 35), (g42 36), (g42 37), (g42 38), (g42 39), (g42 40), (g42 41), (g42 42), (g42 43), (g42 44), (g42 45), (g42 46), (g42 47), (g42 48), (g42 49), (g42 50), (g42 51), (g42 52), (g42 53), (g42 54), (g42 55), (g42 56), (g42 57), (g42 58), (g42 59), (g42 60), (g42 61), (g42 62), (g42 63), (g42 64), (g42 65), (g42 66), (g42 67), (g42 68), (g42 69), (g42 70), (g42 71), (g42 72), (g42 73), (g42 74), (g42 75), (g42 76), (g42 77), (g42 78), (g42 79), (g42 80), (g42 81), (g42 82), (g42 83), (g42 84), (g42 85), (g42 86), (g42 87), (g42 88), (g42 89), (g42 90), (g42 91), (g42 92), (g42 93), (g42 94), .slice y31_A y31_n y31_c, .func (.func 108) #[] #[.pointer (some ⟨b45, 0, none⟩), .pointer (some ⟨b46, 0, none⟩)], .slice s54_A s54_n s54_c, .slice s54_A s54_n s54_c, .int .i64 ((subL y31 z47 (iadd .i64 z47 x53)).length : Int), .int .i64 z56, (g98 101), (g98 102), (g98 103), (g98 104), (g98 105), (g98 106), (g98 107), (g98 108), (g98 109), (g98 110), undef, undef, undef, undef, undef, undef, undef, undef, undef, undef, undef], []⟩) K ⟨0, (zeroA 16), hy, hs.conv rfl, exg (by kernel_rfl)⟩ ?_
     clear hs h hy
     rintro n a w ⟨z56, z57, h, hs, g98, rfl⟩ KL3 kl3
     cases n with
     | zero => exact nomatch (show none = some _ from h)
     | succ n =>
      refine xseq_k fun KS100 ks100 => ?_
      refine xregS [0] fun KR101 kr101 => ?_
      rcases of_if h with ⟨hc, h⟩ | ⟨hc, h⟩
      ·refine wpS.tk 0 false (some 101) (.bool true) (yld_b (dt hc) (fun _ => by kernel_rfl)) ?_
       refine wpS.fin rfl (kr101 _ _ (then_n (ks100 _ _ (xseq_k fun KS102 ks102 => (wp_cond_t (by kernel_rfl) (xskip (then_n (ks102 _ _ (xseq_k fun KS103 ks103 => (xblock (xseq_k fun KS104 ks104 => (xregS [0, 1, 2, 3, 4, 5] fun KR105 kr105 => ?_))))))))))))
       refine wpS.q 0 102 (.int .i64 z56) ?_
       obtain ⟨h0, h⟩ := of_chk h
       obtain ⟨h1, h⟩ := of_chk h
       have i0_106 := h0
       have i1_106 := h1
       refine wpS.tk 1 false (some 103) (.pointer (adr s54_A ((z56 : Int).toNat * Cod.size (CA .u8 4 (by decide))))) (yld_idxL (C := (CA .u8 4 (by decide))) (t := 99) (e := 101) (k := .i64) (x := z56) (hs.rowR 0 rfl) (by kernel_rfl) (by kernel_rfl) (by kernel_rfl) h0 h1) ?_
       refine wpS.tk 2 true (some 104) (.agg (enc .u8 (rdL (CA .u8 4 (by decide)) (subL y31 z47 (iadd .i64 z47 x53)) z56)).toArray) (yld_loadLA (C := (CA .u8 4 (by decide))) (e := 101) (x := z56) (hs.rowR 0 rfl) (by kernel_rfl) rfl (by kernel_rfl) (by kernel_rfl) i0_106 i1_106) ?_
       refine wpS.only 3 (op_alloc (t := 101) (d := (some 13)) (by kernel_rfl) hs (enc .u8 (zeroA 4)) (.agg (enc .u8 (zeroA 4)).toArray) (by kernel_rfl) (by kernel_rfl) (by kernel_rfl) ?_)
       intro b59 w gw hs
       refine ⟨fun _ => trivial, ?_⟩
       refine wpS.q 4 12 (.int .i64 z56) ?_
       refine wpS.only 5 (op_storeW (t := 101) (v := .agg (enc .u8 (rdL (CA .u8 4 (by decide)) (subL y31 z47 (iadd .i64 z47 x53)) z56)).toArray) (d := none) (by kernel_rfl) hs 0 rfl (vs := enc .u8 (rdL (CA .u8 4 (by decide)) (subL y31 z47 (iadd .i64 z47 x53)) z56)) (n := 4) (by kernel_rfl) (by kernel_rfl) (by kernel_rfl) (by simp [enc_len]) (by simp [enc_len]) (by intro u hu; exact enc_one _ _ u hu) ?_)
       intro w kp hs
       refine ⟨fun _ => trivial, ?_⟩
       refine wpS.fin rfl (kr105 _ _ (then_n (ks104 _ _ ?_)))
       refine wp_regG [4] (fun k => True) 5 (by kernel_rfl) (by kernel_rfl) (by kernel_rfl) fun KR107 kr107 => ?_
       have hs := hs.drawn1
       refine wpG.q 0 105 (.int .i64 z56) ?_
       refine wpG.q 1 106 (.int .i64 (imul .i64 4 z56)) ?_
       obtain ⟨b0_108, h⟩ := of_chk h
       obtain ⟨b1_108, h⟩ := of_chk h
       obtain ⟨b3_108, h⟩ := of_chk h
       refine wpG.tD 2 false (some 107) (.slice (some ⟨b55, 0 + ((imul .i64 4 z56) : Int).toNat * 1, none⟩) ((16 : Int).toNat - ((imul .i64 4 z56) : Int).toNat) (16 - ((imul .i64 4 z56) : Int).toNat)) (yld_slA2 (t := 42) (e := 5) (n := 16) (low := some (.int .i64 (imul .i64 4 z56))) (high := Option.none) (lo := (imul .i64 4 z56)) (hi := 16) (by kernel_rfl) (by kernel_rfl) (by kernel_rfl) (.inr ⟨_, rfl⟩) (.inl ⟨rfl, rfl⟩) b0_108 b1_108 (by decide) b3_108) ?_
       refine wpG.tD 3 false (some 108) (.slice (some ⟨b59, 0 + (0 : Int).toNat * 1, none⟩) ((4 : Int).toNat - (0 : Int).toNat) (4 - (0 : Int).toNat)) (yld_slA2 (t := 101) (e := 5) (n := 4) (low := Option.none) (high := Option.none) (lo := 0) (hi := 4) (by kernel_rfl) (by kernel_rfl) (by kernel_rfl) (.inl ⟨rfl, rfl⟩) (.inl ⟨rfl, rfl⟩) (by decide) (by decide) (by decide) (by decide)) ?_
       refine wpG.only 4 (by kernel_rfl) (op_copyA (td := 26) (ts := 26) (ty := 3) (e := 5) (n := 16) (k := .u8) (c := z57) (lo := (imul .i64 4 z56)) (hi := 16) (d := (some 109)) (by kernel_rfl) hs 1 rfl (hs.rowB (lo := 0) (hi := 4) 0 rfl (by decide) (by decide) (by decide)) (by kernel_rfl) (by kernel_rfl) (by kernel_rfl) b0_108 b1_108 (by decide) ?_)
       intro w kp hs
       refine ⟨⟨fun hf => absurd hf (by decide), .all _ _⟩, ?_⟩
       refine wpG.fin (by kernel_rfl) rfl (kr107 _ _ ?_)
       refine inBlock_n (then_n (ks103 _ _ (xregS [0, 1] fun KR110 kr110 => ?_)))
       refine wpS.qs [(0, 110, .int .i64 (iadd .i64 z56 1)), (1, 100, .int .i64 (iadd .i64 z56 1))] ?_
       refine wpS.fin rfl (kr110 _ _ ?_)
       exact then_n (kl3 _ _ ⟨n, Nat.lt_succ_self n, (iadd .i64 z56 1), (cpA z57 (imul .i64 4 z56) ((subL (lA (rdL (CA .u8 4 (by decide)) (subL y31 z47 (iadd .i64 z47 x53)) z56)) 0 4).take ((16 : Int).toNat - ((imul .i64 4 z56) : Int).toNat))), h, (hs.drop (.cons _ (.cons_cons _ (.cons_cons _ (.cons_cons _ (.cons_cons _ (.cons_cons _ (.cons_cons _ (.cons_cons _ (.cons_cons _ (.cons_cons _ (.cons_cons _ (.cons_cons _ (.cons_cons _ (.cons_cons _ (.cons_cons _ (.refl _))))))))))))))))), exg (by kernel_rfl)⟩)
      refine wpS.tk 0 false (some 101) (.bool false) (yld_b (df hc) (fun _ => by kernel_rfl)) ?_
      refine wpS.fin rfl (kr101 _ _ (then_n (ks100 _ _ (xseq_k fun KS111 ks111 => (wp_cond_f (by kernel_rfl) (xexit (then_x (then_x (inBlock_hit ?_)))))))))
      have q0 := of_some h
      subst q0
      exact exq_n (nn3 _ _ ⟨(hs.conv rfl), exg (by kernel_rfl)⟩)
    clear hs h hy
    rintro a w ⟨hs, g99, rfl⟩
    have h := hk3
    refine then_n (ks95 _ _ ?_)
    refine wp_regG [7, 10] (fun k => ¬ k = b9) 11 (by kernel_rfl) (by kernel_rfl) (by kernel_rfl) fun KR112 kr112 => ?_
    have hs := hs.drawn1
    refine wpG.takeK [0, 8, 9, 10] 0 (some 111) (.pointer (some ⟨b8, 0, none⟩)) (by kernel_rfl) (by kernel_rfl) (yld_load1 (e := 53) (o := 0) hs 11 rfl (by kernel_rfl) (by kernel_rfl) (by rfl) (.keep (fun hn => hn rfl))) ?_
    refine wpG.take [1, 2, 3, 4, 7, 8, 9, 10] 1 true (some 112) (.pointer (some ⟨b8, 0, none⟩)) (by kernel_rfl) (by kernel_rfl) (yld_load1 (e := 53) (o := 0) hs 11 rfl (by kernel_rfl) (by kernel_rfl) (by rfl) .grow) ?_
    refine wpG.q 2 113 (.pointer (some ⟨b8, 0, none⟩)) ?_
    refine wpG.q 3 114 (.pointer (some ⟨b8, 1, none⟩)) ?_
    refine wpG.tD 4 true (some 115) (.slice z48_A z48_n z48_c) (yld_load1 (e := 96) (o := 1) hs 12 rfl (by kernel_rfl) (by kernel_rfl) (by rfl) .grow) ?_
    refine wpG.take [5, 6, 7, 8, 9, 10] 5 true (some 116) (.agg (enc .u8 y58).toArray) (by kernel_rfl) (by kernel_rfl) (yld_loadW (e := 42) (n := 16) hs 0 rfl (by kernel_rfl) (by kernel_rfl) (by kernel_rfl) (by exact enc_len _ _) .grow) ?_
    refine wpG.only 6 (by kernel_rfl) (op_litL (C := (CA .u8 16 (by decide))) (t := 96) (e := 42) (len := 1) (parts := #[(0, .agg (enc .u8 y58).toArray)]) (l := [y58]) (d := (some 117)) (by kernel_rfl) hs (by kernel_rfl) rfl (by kernel_rfl) (by kernel_rfl) (z := .agg (enc .u8 (zeroA 16)).toArray) (by kernel_rfl) rfl (by decide) (by decide) ?_)
    intro s60_A s60_n s60_c w gw hs
    refine ⟨.of gw, ?_⟩
    obtain ⟨h0, h⟩ := of_chk h
    have hsB115 := hs
    refine wpG.only 7 (by kernel_rfl) (op_appendT (C := (CA .u8 16 (by decide))) (t := 96) (ty := 96) (e := 42) (bytes := 16) (B := 8796093022208) (d := (some 118)) (by kernel_rfl) hs 2 rfl (hs.rowL 0 rfl) (by kernel_rfl) (by kernel_rfl) (by kernel_rfl) (by kernel_rfl) (by kernel_rfl) h0 (by decide) (by decide) ?_)
    intro s61_A s61_n s61_c w hs
    refine ⟨⟨fun hf => absurd hf (by decide), (keepB1 (hsB115.blkAt 12 rfl) (hs.blkAt 12 rfl))⟩, ?_⟩
    refine wpG.q 8 119 (.pointer (some ⟨b8, 0, none⟩)) ?_
    refine wpG.q 9 120 (.pointer (some ⟨b8, 1, none⟩)) ?_
    have hsB114 := hs
    refine wpG.only 10 (by kernel_rfl) (op_store1 (t := 96) (o := 1) (v := .slice s61_A s61_n s61_c) (d := none) (by kernel_rfl) hs 13 rfl (by kernel_rfl) rfl (by kernel_rfl) (by simp) ?_)
    intro w kp hs
    refine ⟨⟨fun hf => absurd hf (by decide), (keepB1 (hsB114.blkAt 12 rfl) (hs.blkAt 12 rfl))⟩, ?_⟩
    refine wpG.fin (by kernel_rfl) rfl (kr112 _ _ ?_)
    refine inBlock_n ?_
    refine round_n qr91 hs 3 rfl fun w hs => ?_
    try dsimp only [List.set] at hs
    refine ⟨fun _ => trivial, ?_⟩
    refine wpS.q 11 30 (.bool false) ?_
    refine wpS.fin rfl (kr90 _ _ (then_n (ks89 _ _ (wp_cond_f (by kernel_rfl) (xskip (inBlock_n (then_n (ks86 _ _ (xregS [0, 1, 2, 3] fun KR113 kr113 => ?_)))))))))
    refine wpS.q 0 10 (.int .i64 z47) ?_
    refine wpS.tk 1 true (some 11) (.int .i64 4) (yld_load1 (e := 3) (o := 0) hs 5 rfl (by kernel_rfl) (by kernel_rfl) (by rfl) .grow) ?_
    refine wpS.q 2 12 (.int .i64 (iadd .i64 z47 4)) ?_
    obtain ⟨x62, hx, h⟩ := of_bind h
    refine wpS.tk 3 false (some 4) (.int .i64 x62) (yld_int hx (fun _ => by kernel_rfl)) ?_
    refine wpS.fin rfl (kr113 _ _ ?_)
    exact then_n (kl2 _ _ ⟨n, Nat.lt_succ_self n, x62, (z48 ++ ([y58] : List (Arr 16))), s61_A, s61_n, s61_c, h, ((hs.drop (.cons _ (.cons _ (.cons_cons _ (.cons_cons _ (.cons_cons _ (.cons_cons _ (.cons_cons _ (.cons_cons _ (.cons_cons _ (.cons_cons _ (.cons_cons _ (.cons_cons _ (.cons_cons _ (.cons_cons _ (.cons_cons _ (.refl _))))))))))))))))).pickR (pick_cons 2 rfl (pick_cons 3 rfl (fun _ he => .tail _ (.tail _ (.tail _ (.tail _ (he)))))))), exg (by kernel_rfl)⟩)
   refine wpS.tk 3 false (some 9) (.bool false) (yld_b (df hc) (fun _ => by kernel_rfl)) ?_
   refine wpS.fin rfl (kr85 _ _ (then_n (ks84 _ _ (wp_cond_f (by kernel_rfl) (xexit (then_x (then_x (inBlock_hit ?_))))))))
   have q0 := of_some h
   subst q0
   exact exq_n (nn2 _ _ ⟨z48_A, z48_n, z48_c, (hs.conv rfl), exg (by kernel_rfl)⟩)
 clear hs h hy
 rintro a w ⟨y50_A, y50_n, y50_c, hs, g82, rfl⟩
 have h := hk2
 refine qn78 _ _ (post_nrm (by kernel_rfl) (run_results [] [] (by kernel_rfl) .nil) ?_)
 refine range_n (a1 := ⟨#[.slice ca0_A ca0_n ca0_c, undef, .pointer none, .pointer (some ⟨b9, 0, none⟩), .int .i64 x10, .pointer (some ⟨b12, 0, none⟩), undef, (g42 7), (g42 8), (g42 9), undef, undef, undef, undef, .pointer (some ⟨b7, 0, none⟩), .agg #[.pointer (some ⟨b7, 0, none⟩), .slice none 0 0], .pointer (some ⟨b8, 0, none⟩), .slice ca0_A ca0_n ca0_c, .int .i64 (ca0.length : Int), .int .i64 (iquo .i64 (ca0.length : Int) 4), .int .i64 x10, .int .i64 (iadd .i64 x10 7), .int .i64 (imul .i64 4 (iadd .i64 x10 7)), .slice s11_A s11_n s11_c, .slice ca0_A ca0_n ca0_c, .func (.func 102) #[] #[.pointer (some ⟨b13, 0, none⟩), .pointer (some ⟨b14, 0, none⟩)], undef, undef, undef, undef, undef, undef, undef, .int .i64 x10, (g42 34), (g42 35), (g42 36), (g42 37), (g42 38), (g42 39), (g42 40), (g42 41), (g42 42), (g42 43), (g42 44), (g42 45), (g42 46), (g42 47), (g42 48), (g42 49), (g42 50), (g42 51), (g42 52), (g42 53), (g42 54), (g42 55), (g42 56), (g42 57), (g42 58), (g42 59), (g42 60), (g42 61), (g42 62), (g42 63), (g42 64), (g42 65), (g42 66), (g42 67), (g42 68), (g42 69), (g42 70), (g42 71), (g42 72), (g42 73), (g42 74), (g42 75), (g42 76), (g42 77), (g42 78), (g42 79), (g42 80), (g42 81), (g42 82), (g42 83), (g42 84), (g42 85), (g42 86), (g42 87), (g42 88), (g42 89), (g42 90), (g42 91), (g42 92), (g42 93), (g42 94), .slice y31_A y31_n y31_c, .func (.func 108) #[] #[.pointer (some ⟨b45, 0, none⟩), .pointer (some ⟨b46, 0, none⟩)], undef, undef, undef, undef, undef, undef, undef, undef, undef, undef, undef, undef, undef, undef, undef, undef, undef, undef, undef, undef, undef, undef, undef, undef, undef], [lmark D78, lmark D20]⟩) kR78 (by kernel_rfl) hs 1 rfl fun w hs => ?_
 try dsimp only [List.set] at hs
 refine inBlock_n (then_n (ks67 _ _ (xseq_k fun KS116 ks116 => (xregS [0, 1] fun KR117 kr117 => ?_))))
 refine wpS.tk 0 true (some 121) (.pointer (some ⟨b8, 0, none⟩)) (yld_load1 (e := 53) (o := 0) hs 10 rfl (by kernel_rfl) (by kernel_rfl) (by rfl) .grow) ?_
 refine wpS.q 1 2 (.pointer (some ⟨b8, 0, none⟩)) ?_
 refine wpS.fin rfl (kr117 _ _ (then_n (ks116 _ _ (xret ?_))))
 obtain ⟨q0, qr0⟩ := Prod.mk.inj (of_some h)
 obtain ⟨q1, qr1⟩ := Prod.mk.inj (qr0)
 have q2 := qr1
 subst q0
 subst q1
 subst q2
 refine qq _ _ ?_
 refine leaves_mark hs 2 rfl fun w hs => ?_
 try dsimp only [List.set] at hs
 refine leaves_mark hs 6 rfl fun w hs => ?_
 try dsimp only [List.set] at hs
 have hs := hs.front 12 rfl
 have hs := hs.front 1 rfl
 try dsimp only [List.eraseIdx] at hs
 exact leaves_end (run_results [.tmp 2] [.pointer (some ⟨b8, 0, none⟩)] (by kernel_rfl) (.cons (res_tmp (by kernel_rfl)) .nil)) ⟨b8, b7, y50_A, y50_n, y50_c, rfl, ((hs.drop (.cons_cons _ (.cons_cons _ (.cons _ (.cons _ (.cons _ (.cons _ (.cons _ (.cons _ (.cons _ (.cons _ (.cons _ (.cons _ (.cons_cons _ (.refl _))))))))))))))).pickR (pick_cons 1 rfl (fun _ he => .tail _ (.tail _ (he)))))⟩

theorem aes_cipher_add_s.ok {K : Nat} {ca0 : Arr 256} {ca1 : Arr 256} {ca2 : List (Arr 16)} {ca3 : Arr 16} {ca4 : Int} {y1 : Arr 16} {cb0 : Nat} {cb1 : Nat} {ca2_A : Option Addr} {ca2_n : Nat} {ca2_c : Nat} {cb3 : Nat} (h : aes_cipher_add_s.f K ca0 ca1 ca2 ca3 ca4 = some y1) {w0 w : World} {X : List Nat} {Lt Rt : List Ent} (hs : St w0 X (.blk cb0 ([.pointer (some ⟨cb1, 0, none⟩), .slice ca2_A ca2_n ca2_c]) 98 :: .blk cb1 (([] : List Value) ++ enc .u8 ca0 ++ enc .u8 ca1 ++ ([] : List Value)) 48 :: .ownL (CA .u8 16 (by decide)) ca2_A ca2_n ca2_c ca2 42 :: .blk cb3 (enc .u8 ca3) 42 :: Lt) Rt w) : Calls Try.prog 86 #[.pointer (some ⟨cb0, 0, none⟩), .pointer (some ⟨cb3, 0, none⟩), .int .i64 ca4] w fun e w' => e = .returned (.tuple #[]) ∧ St w0 X (.blk cb0 ([.pointer (some ⟨cb1, 0, none⟩), .slice ca2_A ca2_n ca2_c]) 98 :: .blk cb1 (([] : List Value) ++ enc .u8 ca0 ++ enc .u8 ca1 ++ ([] : List Value)) 48 :: .ownL (CA .u8 16 (by decide)) ca2_A ca2_n ca2_c ca2 42 :: .blk cb3 (enc .u8 y1) 42 :: Lt) Rt w' := by
 refine calls_kn Try.func86 rfl fun Q qq qn => ?_
 refine wp_conv (a' := ⟨#[.pointer (some ⟨cb0, 0, none⟩), .pointer (some ⟨cb3, 0, none⟩), .int .i64 ca4, undef, undef, undef, undef, undef, undef, undef, undef, undef, undef, undef, undef, undef, undef, undef, undef, undef, undef, undef, undef, undef, undef, undef, undef, undef, undef], []⟩) (by kernel_rfl) ?_
 refine xseq_k fun KS1 ks1 => ?_
 refine xregS [0, 1, 2, 3, 4, 5, 6, 7] fun KR2 kr2 => ?_
 refine wpS.qs [(0, 8, .pointer (some ⟨cb0, 0, none⟩)), (1, 9, .pointer (some ⟨cb0, 0, none⟩)), (2, 10, .pointer (some ⟨cb0, 1, none⟩))] ?_
 refine wpS.tk 3 true (some 11) (.slice ca2_A ca2_n ca2_c) (yld_load1 (e := 96) (o := 1) hs 0 rfl (by kernel_rfl) (by kernel_rfl) (by rfl) .grow) ?_
 refine wpS.q 4 12 (.int .i64 ca4) ?_
 obtain ⟨h0, h⟩ := of_chk h
 obtain ⟨h1, h⟩ := of_chk h
 have i0_3 := h0
 have i1_3 := h1
 refine wpS.tk 5 false (some 13) (.pointer (adr ca2_A ((ca4 : Int).toNat * Cod.size (CA .u8 16 (by decide))))) (yld_idxL (C := (CA .u8 16 (by decide))) (t := 96) (e := 42) (k := .i64) (x := ca4) (hs.rowL 2 rfl) (by kernel_rfl) (by kernel_rfl) (by kernel_rfl) h0 h1) ?_
 refine wpS.tk 6 true (some 14) (.agg (enc .u8 (rdL (CA .u8 16 (by decide)) ca2 ca4)).toArray) (yld_loadLA (C := (CA .u8 16 (by decide))) (e := 42) (x := ca4) (hs.rowL 2 rfl) (by kernel_rfl) rfl (by kernel_rfl) (by kernel_rfl) i0_3 i1_3) ?_
 refine wpS.q 7 15 (.int .i64 0) ?_
 refine wpS.fin rfl (kr2 _ _ (then_n (ks1 _ _ ?_)))
 obtain ⟨y4, hy, hk0⟩ := of_bind h
 refine wp_exq (N := fun a w => St w0 X (.blk cb0 ([.pointer (some ⟨cb1, 0, none⟩), .slice ca2_A ca2_n ca2_c]) 98 :: .blk cb1 (([] : List Value) ++ enc .u8 ca0 ++ enc .u8 ca1 ++ ([] : List Value)) 48 :: .ownL (CA .u8 16 (by decide)) ca2_A ca2_n ca2_c ca2 42 :: .blk cb3 (enc .u8 y4) 42 :: Lt) Rt w ∧ ∃ g5 : Nat → Value, a = ⟨#[.pointer (some ⟨cb0, 0, none⟩), .pointer (some ⟨cb3, 0, none⟩), .int .i64 ca4, undef, undef, undef, (g5 6), (g5 7), .pointer (some ⟨cb0, 0, none⟩), .pointer (some ⟨cb0, 0, none⟩), .pointer (some ⟨cb0, 1, none⟩), .slice ca2_A ca2_n ca2_c, .int .i64 ca4, .pointer (adr ca2_A ((ca4 : Int).toNat * Cod.size (CA .u8 16 (by decide)))), .agg (enc .u8 (rdL (CA .u8 16 (by decide)) ca2 ca4)).toArray, (g5 15), (g5 16), (g5 17), (g5 18), (g5 19), (g5 20), (g5 21), (g5 22), (g5 23), (g5 24), (g5 25), (g5 26), (g5 27), (g5 28)], []⟩) (fun N0 nn0 => ?_) ?_
 ·clear hk0
  refine xblock ?_
  refine wp_loop_k (fun n a w => ∃ z2 z3, aes_cipher_add_s.l0 K n ca2 ca4 z2 z3 = some y4 ∧ St w0 X (.blk cb0 ([.pointer (some ⟨cb1, 0, none⟩), .slice ca2_A ca2_n ca2_c]) 98 :: .blk cb1 (([] : List Value) ++ enc .u8 ca0 ++ enc .u8 ca1 ++ ([] : List Value)) 48 :: .ownL (CA .u8 16 (by decide)) ca2_A ca2_n ca2_c ca2 42 :: .blk cb3 (enc .u8 z3) 42 :: Lt) Rt w ∧ ∃ g4 : Nat → Value, a = ⟨#[.pointer (some ⟨cb0, 0, none⟩), .pointer (some ⟨cb3, 0, none⟩), .int .i64 ca4, undef, undef, undef, (g4 6), (g4 7), .pointer (some ⟨cb0, 0, none⟩), .pointer (some ⟨cb0, 0, none⟩), .pointer (some ⟨cb0, 1, none⟩), .slice ca2_A ca2_n ca2_c, .int .i64 ca4, .pointer (adr ca2_A ((ca4 : Int).toNat * Cod.size (CA .u8 16 (by decide)))), .agg (enc .u8 (rdL (CA .u8 16 (by decide)) ca2 ca4)).toArray, .int .i64 z2, (g4 16), (g4 17), (g4 18), (g4 19), (g4 20), (g4 21), (g4 22), (g4 23), (g4 24), (g4 25), (g4 26), (g4 27), (g4 28)], []⟩) K ⟨0, ca3, hy, hs.conv rfl, exg (by kernel_rfl)⟩ ?_
  clear hs h hy
  rintro n a w ⟨z2, z3, h, hs, g4, rfl⟩ KL0 kl0
  cases n with
  | zero => exact nomatch (show none = some _ from h)
  | succ n =>
   refine xseq_k fun KS6 ks6 => ?_
   refine xregS [0] fun KR7 kr7 => ?_
   rcases of_if h with ⟨hc, h⟩ | ⟨hc, h⟩
   ·refine wpS.tk 0 false (some 16) (.bool true) (yld_b (dt hc) (fun _ => by kernel_rfl)) ?_
    refine wpS.fin rfl (kr7 _ _ (then_n (ks6 _ _ (xseq_k fun KS8 ks8 => (wp_cond_t (by kernel_rfl) (xskip (then_n (ks8 _ _ (xseq_k fun KS9 ks9 => (xblock (xseq_k fun KS10 ks10 => (xregS [0, 1, 2, 3] fun KR11 kr11 => ?_))))))))))))
    refine wpS.q 0 17 (.int .i64 z2) ?_
    obtain ⟨h0, h⟩ := of_chk h
    obtain ⟨h1, h⟩ := of_chk h
    refine wpS.tk 1 false (some 18) (.int .u8 (rd (rdL (CA .u8 16 (by decide)) ca2 ca4) z2)) (yld_at (t := 42) (e := 5) (k' := .i64) (by kernel_rfl) (by kernel_rfl) (by kernel_rfl) (by kernel_rfl) h0 h1) ?_
    refine wpS.q 2 6 (.int .i64 z2) ?_
    obtain ⟨x5, hx, h⟩ := of_bind h
    refine wpS.tk 3 false (some 7) (.int .u8 x5) (yld_int hx (fun _ => by kernel_rfl)) ?_
    refine wpS.fin rfl (kr11 _ _ (then_n (ks10 _ _ ?_)))
    refine wp_regG [9] (fun k => True) 10 (by kernel_rfl) (by kernel_rfl) (by kernel_rfl) fun KR12 kr12 => ?_
    have hs := hs.drawn1
    refine wpG.q 0 19 (.pointer (some ⟨cb3, 0, none⟩)) ?_
    refine wpG.q 1 20 (.int .i64 z2) ?_
    refine wpG.q 2 21 (.pointer (some ⟨cb3, 0, none⟩)) ?_
    obtain ⟨i0_13, h⟩ := of_chk h
    obtain ⟨i1_13, h⟩ := of_chk h
    refine wpG.tD 3 false (some 22) (.pointer (some ⟨cb3, 0 + (z2 : Int).toNat * 1, none⟩)) (yld_idx (t := 42) (e := 5) (n := 16) (sz := 1) (k := .i64) (x := z2) (by kernel_rfl) (by kernel_rfl) (by kernel_rfl) i0_13 i1_13) ?_
    refine wpG.tD 4 true (some 23) (.int .u8 (rd z3 z2)) (yld_loadA (e := 5) (x := z2) hs 3 rfl (by kernel_rfl) (by kernel_rfl) i0_13 i1_13 .grow) ?_
    refine wpG.q 5 24 (.int .u8 x5) ?_
    refine wpG.q 6 25 (.int .u8 (ixor .u8 (rd z3 z2) x5)) ?_
    refine wpG.q 7 26 (.pointer (some ⟨cb3, 0, none⟩)) ?_
    obtain ⟨i0_14, h⟩ := of_chk h
    obtain ⟨i1_14, h⟩ := of_chk h
    refine wpG.tD 8 false (some 27) (.pointer (some ⟨cb3, 0 + (z2 : Int).toNat * 1, none⟩)) (yld_idx (t := 42) (e := 5) (n := 16) (sz := 1) (k := .i64) (x := z2) (by kernel_rfl) (by kernel_rfl) (by kernel_rfl) i0_14 i1_14) ?_
    obtain ⟨x6, hx, h⟩ := of_bind h
    refine wpG.only 9 (by kernel_rfl) (op_storeA (t := 5) (x := z2) (v := x6) (d := none) (by kernel_rfl) hs 3 rfl (by cases hx; kernel_rfl) (by kernel_rfl) i0_14 i1_14 ?_)
    intro w kp hs
    refine ⟨⟨fun hf => absurd hf (by decide), .all _ _⟩, ?_⟩
    refine wpG.fin (by kernel_rfl) rfl (kr12 _ _ ?_)
    refine inBlock_n (then_n (ks9 _ _ (xregS [0, 1] fun KR15 kr15 => ?_)))
    refine wpS.qs [(0, 28, .int .i64 (iadd .i64 z2 1)), (1, 15, .int .i64 (iadd .i64 z2 1))] ?_
    refine wpS.fin rfl (kr15 _ _ ?_)
    exact then_n (kl0 _ _ ⟨n, Nat.lt_succ_self n, (iadd .i64 z2 1), (wr z3 z2 x6), h, (hs.conv rfl), exg (by kernel_rfl)⟩)
   refine wpS.tk 0 false (some 16) (.bool false) (yld_b (df hc) (fun _ => by kernel_rfl)) ?_
   refine wpS.fin rfl (kr7 _ _ (then_n (ks6 _ _ (xseq_k fun KS16 ks16 => (wp_cond_f (by kernel_rfl) (xexit (then_x (then_x (inBlock_hit ?_)))))))))
   have q0 := of_some h
   subst q0
   exact exq_n (nn0 _ _ ⟨(hs.conv rfl), exg (by kernel_rfl)⟩)
 clear hs h hy
 rintro a w ⟨hs, g5, rfl⟩
 have h := hk0
 have q0 := of_some h
 subst q0
 exact qn _ _ (post_nrm (by kernel_rfl) (run_results [] [] (by kernel_rfl) .nil) ⟨rfl, (hs.conv rfl)⟩)
end Go.Proofs.Ytmpagpbnpgcecaa
