/- Printed by this work's own program: the code of each function below comes to the answer that its plain form tells. -/
import Derived.Test.YtmpagpbnpgcecaaMy
import Derived.Test.YtmpagpbnpgcecaaProg
import Derived.Test.YtmpagpbnpgcecaaEF0
import Derived.Test.YtmpagpbnpgcecaaEX0
import Derived.Test.YtmpagpbnpgcecaaEX3
set_option linter.unusedVariables false
set_option linter.unusedSimpArgs false
set_option maxRecDepth 100000
set_option maxHeartbeats 4000000
namespace Go.Proofs.Ytmpagpbnpgcecaa
open Go.Mx
attribute [local irreducible] wpOp

theorem aes_Back.ok {K : Nat} {a0 : List Int} {a1 : List Int} {r0 : List Int} {r1 : Int} {a0_A : Option Addr} {a0_n : Nat} {a0_c : Nat} {a1_A : Option Addr} {a1_n : Nat} {a1_c : Nat} (h : aes_Back.f K a0 a1 = some (r0, r1)) (w0 : World) (hp0 : RowL (CI .u8) w0 a0_A a0_n a0_c a0) (hp1 : RowL (CI .u8) w0 a1_A a1_n a1_c a1) : Calls Try.prog 20 #[.slice a0_A a0_n a0_c, .slice a1_A a1_n a1_c] w0 fun e w' => ∃ h : (Option Addr × Nat × Nat), e = .returned (.tuple #[.slice h.1 h.2.1 h.2.2, .int .i64 r1]) ∧ St w0 [] [.rowL (CI .u8) h.1 h.2.1 h.2.2 r0] [] w' := by
 refine calls_k Try.func20 rfl fun Q qq => ?_
 have hs := St.startR (all_cons (RowP.ent hp0) (all_cons (RowP.ent hp1) all_nil))
 refine wp_conv (a' := ⟨#[.slice a0_A a0_n a0_c, .slice a1_A a1_n a1_c, undef, undef, undef, undef, undef, undef, undef, undef, undef, undef, undef, undef, undef, undef, undef, undef, undef, undef, undef], []⟩) (by kernel_rfl) ?_
 refine xseq_k fun KS1 ks1 => ?_
 refine xregS [0, 1] fun KR2 kr2 => ?_
 refine wpS.qs [(0, 4, .slice none 0 0), (1, 5, .int .i64 0)] ?_
 refine wpS.fin rfl (kr2 _ _ (then_n (ks1 _ _ (xseq_k fun KS3 ks3 => (xseq_k fun KS4 ks4 => (xregS [0, 1, 2, 3] fun KR5 kr5 => ?_))))))
 refine wpS.qs [(0, 8, .slice a0_A a0_n a0_c), (1, 9, .slice a1_A a1_n a1_c)] ?_
 obtain ⟨r1, hg, h⟩ := of_bind h
 refine wpS.only 2 (op_call (d := (some 10)) (by kernel_rfl) hs (fun _ => by kernel_rfl) (aes_wrong.ok hg _ (hs.rowR 0 rfl) (hs.rowR 1 rfl)) ?_)
 intro w gw hs
 refine ⟨fun _ => trivial, ?_⟩
 refine wpS.q 3 6 (.int .i64 r1) ?_
 refine wpS.fin rfl (kr5 _ _ (then_n (ks4 _ _ (xseq_k fun KS6 ks6 => (xregS [0, 1] fun KR7 kr7 => ?_)))))
 refine wpS.q 0 11 (.int .i64 r1) ?_
 rcases of_if h with ⟨hc, h⟩ | ⟨hc, h⟩
 ·refine wpS.tk 1 false (some 12) (.bool false) (yld_b (nf hc) (fun _ => by kernel_rfl)) ?_
  refine wpS.fin rfl (kr7 _ _ (then_n (ks6 _ _ (wp_cond_f (by kernel_rfl) (xskip (then_n (ks3 _ _ (xseq_k fun KS8 ks8 => ?_))))))))
  obtain ⟨y3, hj, h⟩ := of_bind h
  refine wp_join (N := fun a w => ∃ (b2 : Nat), St w0 [] [.blk b2 (enc .u8 y3) 42] [.rowL (CI .u8) a0_A a0_n a0_c a0, .rowL (CI .u8) a1_A a1_n a1_c a1] w ∧ ∃ g9 : Nat → Value, a = ⟨#[.slice a0_A a0_n a0_c, .slice a1_A a1_n a1_c, undef, undef, .slice none 0 0, .int .i64 0, .int .i64 r1, .pointer (some ⟨b2, 0, none⟩), .slice a0_A a0_n a0_c, .slice a1_A a1_n a1_c, .int .i64 r1, .int .i64 r1, .bool false, undef, (g9 14), (g9 15), (g9 16), (g9 17), (g9 18), (g9 19), undef], []⟩) (fun N nj => ?_) ?_
  ·clear h
   have h := hj
   refine wp_regG [1, 5, 7] (fun k => ¬ k < w0.heap.size) 8 (by kernel_rfl) (by kernel_rfl) (by kernel_rfl) fun KR10 kr10 => ?_
   have hs := hs.drawn1
   refine wpG.q 0 14 (.slice a0_A a0_n a0_c) ?_
   refine wpG.q 2 16 (.slice a1_A a1_n a1_c) ?_
   obtain ⟨i0_11, h⟩ := of_chk h
   refine wpG.tD 3 false (some 17) (.pointer a1_A) (yld_toArr (t := 42) (e := 5) (n := 16) (len := a1_n) (c := a1_c) (by kernel_rfl) (by kernel_rfl) (by rw [RowL.length (C := (CI .u8)) (hs.rowR 1 rfl)]; exact i0_11)) ?_
   refine wpG.takeK [4, 5, 7] 4 (some 18) (.agg (enc .u8 (arrL 16 a1)).toArray) (by kernel_rfl) (by kernel_rfl) (yld_w0 hp1 hs (fun k hk hn => hn hk) fun hr => yld_loadArr (e := 42) (n := 16) (by decide) hr i0_11 (by kernel_rfl) (by kernel_rfl) (by kernel_rfl)) ?_
   refine wpG.many [1, 6] (by kernel_rfl) (by decide) (forall_cons ?_ (forall_cons ?_ forall_nil))
   ·have hsB13 := hs
    refine (op_inline (d := (some 15)) (f := 47) (args := #[.slice a0_A a0_n a0_c]) (by kernel_rfl) (fun _ => by kernel_rfl) fun R12 kI12 => ?_)
    refine calls_m Try.func47 rfl fun Q12 qq12 qn12 => ?_
    refine wp_conv (a' := ⟨#[.slice a0_A a0_n a0_c, undef, undef, undef, undef, undef, undef, undef, undef, undef, undef, undef, undef, undef, undef, undef, undef, undef, undef, undef, undef, undef, undef, undef, undef, undef, undef, undef, undef, undef, undef, undef, undef, undef, undef, undef, undef, undef, undef, undef, undef, undef, undef, undef, undef, undef, undef, undef, undef, undef, undef, undef, undef, undef, undef, undef, undef, undef, undef, undef, undef, undef, undef, undef, undef, undef, undef, undef, undef, undef, undef, undef, undef, undef, undef, undef, undef, undef, undef, undef, undef, undef, undef, undef, undef, undef, undef, undef, undef, undef, undef, undef, undef, undef, undef, undef, undef, undef, undef, undef, undef, undef, undef, undef, undef, undef, undef, undef, undef, undef, undef, undef, undef, undef, undef, undef, undef, undef, undef, undef, undef, undef], []⟩) (by kernel_rfl) ?_
    refine xseq_k fun KS14 ks14 => ?_
    refine xregS [0] fun KR15 kr15 => ?_
    refine wpS.q 0 2 (.pointer none) ?_
    refine wpS.fin rfl (kr15 _ _ (then_n (ks14 _ _ (xseq_k fun KS16 ks16 => (xregS [0, 1, 2, 3, 4] fun KR17 kr17 => ?_)))))
    obtain ⟨⟨r4_0, r4_1⟩, hg, h⟩ := of_bind h
    refine wpS.only 0 (op_callB (d := (some 14)) (by kernel_rfl) hs (fun _ => by kernel_rfl) (aes_made.ok hg _) ?_)
    intro b5 w gw hs
    refine ⟨fun _ => trivial, ?_⟩
    refine wpS.q 1 15 (.agg #[.pointer (some ⟨b5, 0, none⟩), .slice none 0 0]) ?_
    refine wpS.only 2 (op_box (t := 98) (v := .agg #[.pointer (some ⟨b5, 0, none⟩), .slice none 0 0]) (d := (some 16)) (by kernel_rfl) hs ([.pointer (some ⟨b5, 0, none⟩), .slice none 0 0]) (by kernel_rfl) (by kernel_rfl) ?_)
    intro b6 w gw hs
    refine ⟨fun _ => trivial, ?_⟩
    refine wpS.only 3 (op_alloc (t := 53) (d := (some 3)) (by kernel_rfl) hs ([.pointer none]) (.pointer none) (by kernel_rfl) (by kernel_rfl) (by kernel_rfl) ?_)
    intro b7 w gw hs
    refine ⟨fun _ => trivial, ?_⟩
    refine wpS.only 4 (op_store1 (t := 53) (o := 0) (v := .pointer (some ⟨b6, 0, none⟩)) (d := none) (by kernel_rfl) hs 0 rfl (by kernel_rfl) rfl (by kernel_rfl) (by simp) ?_)
    intro w kp hs
    refine ⟨fun _ => trivial, ?_⟩
    refine wpS.fin rfl (kr17 _ _ (then_n (ks16 _ _ (xseq_k fun KS18 ks18 => (xregS [0, 1, 2, 3] fun KR19 kr19 => ?_)))))
    refine wpS.q 0 17 (.slice a0_A a0_n a0_c) ?_
    refine wpS.tk 1 false (some 18) (.int .i64 (a0.length : Int)) (yld_lenL (hs.rowR 0 rfl) (fun _ => by kernel_rfl)) ?_
    refine wpS.q 2 19 (.int .i64 (iquo .i64 (a0.length : Int) 4)) ?_
    obtain ⟨x8, hx, h⟩ := of_bind h
    refine wpS.tk 3 false (some 4) (.int .i64 x8) (yld_int hx (fun _ => by kernel_rfl)) ?_
    refine wpS.fin rfl (kr19 _ _ (then_n (ks18 _ _ (xseq_k fun KS20 ks20 => (xregS [0, 1, 2, 3, 4, 5] fun KR21 kr21 => ?_)))))
    refine wpS.qs [(0, 20, .int .i64 x8), (1, 21, .int .i64 (iadd .i64 x8 7)), (2, 22, .int .i64 (imul .i64 4 (iadd .i64 x8 7)))] ?_
    obtain ⟨h0, h⟩ := of_chk h
    obtain ⟨h1, h⟩ := of_chk h
    refine wpS.only 3 (op_makeT0 (C := (CA .u8 4 (by decide))) (t := 99) (e := 101) (bytes := 4) (B := 35184372088832) (kl := .i64) (kc := .i64) (x := (imul .i64 4 (iadd .i64 x8 7))) (d := (some 23)) (by kernel_rfl) hs (by kernel_rfl) (by kernel_rfl) (by kernel_rfl) (by kernel_rfl) (by kernel_rfl) h0 h1 (by decide) (by decide) ?_)
    intro s9_A s9_n s9_c w gw hs
    refine ⟨fun _ => trivial, ?_⟩
    refine wpS.only 4 (op_alloc (t := 99) (d := (some 5)) (by kernel_rfl) hs ([.slice none 0 0]) (.slice none 0 0) (by kernel_rfl) (by kernel_rfl) (by kernel_rfl) ?_)
    intro b10 w gw hs
    refine ⟨fun _ => trivial, ?_⟩
    refine wpS.only 5 (op_store1 (t := 99) (o := 0) (v := .slice s9_A s9_n s9_c) (d := none) (by kernel_rfl) hs 0 rfl (by kernel_rfl) rfl (by kernel_rfl) (by simp) ?_)
    intro w kp hs
    refine ⟨fun _ => trivial, ?_⟩
    refine wpS.fin rfl (kr21 _ _ (then_n (ks20 _ _ (xseq_k fun KS22 ks22 => (xseq_k fun KS23 ks23 => (xregS [0, 1] fun KR24 kr24 => ?_))))))
    refine wpS.q 0 24 (.slice a0_A a0_n a0_c) ?_
    refine wpS.only 1 (op_inline (d := (some 25)) (f := 71) (args := #[.slice a0_A a0_n a0_c, .int .i64 4]) (by kernel_rfl) (fun _ => by kernel_rfl) fun R25 kI25 => ?_)
    refine calls_k Try.func71 rfl fun Q25 qq25 => ?_
    refine wp_conv (a' := ⟨#[.slice a0_A a0_n a0_c, .int .i64 4, undef, undef, undef, undef, undef, undef, undef], []⟩) (by kernel_rfl) ?_
    refine xseq_k fun KS26 ks26 => ?_
    refine xregS [0, 1, 2] fun KR27 kr27 => ?_
    refine wpS.only 0 (op_box (t := 26) (v := .slice a0_A a0_n a0_c) (d := (some 2)) (by kernel_rfl) hs ([.slice a0_A a0_n a0_c]) (by kernel_rfl) (by kernel_rfl) ?_)
    intro b11 w gw hs
    refine ⟨fun _ => trivial, ?_⟩
    refine wpS.only 1 (op_box (t := 3) (v := .int .i64 4) (d := (some 3)) (by kernel_rfl) hs ([.int .i64 4]) (by kernel_rfl) (by kernel_rfl) ?_)
    intro b12 w gw hs
    refine ⟨fun _ => trivial, ?_⟩
    refine wpS.q 2 4 (.nilFunc) ?_
    refine wpS.fin rfl (kr27 _ _ (then_n (ks26 _ _ (xseq_k fun KS28 ks28 => (xseq_k fun KS29 ks29 => (xregS [0, 1] fun KR30 kr30 => ?_))))))
    refine wpS.tk 0 true (some 5) (.int .i64 4) (yld_load1 (e := 3) (o := 0) hs 0 rfl (by kernel_rfl) (by kernel_rfl) (by rfl) .grow) ?_
    refine wpS.q 1 6 (.bool false) ?_
    refine wpS.fin rfl (kr30 _ _ (then_n (ks29 _ _ (wp_cond_f (by kernel_rfl) (xskip (then_n (ks28 _ _ (xseq_k fun KS31 ks31 => (xregS [0, 1] fun KR32 kr32 => ?_)))))))))
    refine wpS.qs [(0, 8, .func (.func 102) #[] #[.pointer (some ⟨b11, 0, none⟩), .pointer (some ⟨b12, 0, none⟩)]), (1, 4, .func (.func 102) #[] #[.pointer (some ⟨b11, 0, none⟩), .pointer (some ⟨b12, 0, none⟩)])] ?_
    refine wpS.fin rfl (kr32 _ _ (then_n (ks31 _ _ (xret ?_))))
    refine qq25 _ _ (post_ret (by kernel_rfl) (run_results [.tmp 4] [.func (.func 102) #[] #[.pointer (some ⟨b11, 0, none⟩), .pointer (some ⟨b12, 0, none⟩)]] (by kernel_rfl) (.cons (res_tmp (by kernel_rfl)) .nil)) ?_)
    refine kI25 _ _ ?_
    refine ⟨fun _ => trivial, ?_⟩
    refine wpS.fin rfl (kr24 _ _ (then_n (ks23 _ _ (xblock ?_))))
    refine wp_range (gf := 102) (lb := #[.pointer (some ⟨b11, 0, none⟩), .pointer (some ⟨b12, 0, none⟩)]) hs (by kernel_rfl) (fun _ _ => by kernel_rfl) fun l33 D33 rec33 w hok33 hs R33 kR33 => ?_
    refine calls_kn Try.func102 rfl fun Q33 qq33 qn33 => ?_
    refine wp_conv (a' := ⟨#[.func (.yield l33) #[] #[], .pointer (some ⟨b11, 0, none⟩), .pointer (some ⟨b12, 0, none⟩), undef, undef, undef, undef, undef, undef, undef, undef, undef, undef, undef, undef, undef, undef, undef, undef, undef, undef, undef, undef, undef, undef, undef, undef, undef, undef, undef, undef], []⟩) (by kernel_rfl) ?_
    refine xseq_k fun KS34 ks34 => ?_
    refine xregS [0] fun KR35 kr35 => ?_
    refine wpS.q 0 4 (.int .i64 0) ?_
    refine wpS.fin rfl (kr35 _ _ (then_n (ks34 _ _ ?_)))
    obtain ⟨y17, hy, hk0⟩ := of_bind h
    refine wp_exq (N := fun a w => ∃ (y17_A : Option Addr) (y17_n : Nat) (y17_c : Nat), St w0 [] [.obj l33 (.loop (rec33 .ready none)), .obj D33 (.deferred (some [])), .blk b12 ([.int .i64 4]) 3, .blk b11 ([.slice a0_A a0_n a0_c]) 26, .blk b10 ([.slice y17_A y17_n y17_c]) 99, .ownL (CA .u8 4 (by decide)) y17_A y17_n y17_c y17 101, .blk b7 ([.pointer (some ⟨b6, 0, none⟩)]) 53, .blk b6 ([.pointer (some ⟨b5, 0, none⟩), .slice none 0 0]) 98, .blk b5 (([] : List Value) ++ enc .u8 r4_0 ++ enc .u8 r4_1 ++ ([] : List Value)) 48] [.rowL (CI .u8) a0_A a0_n a0_c a0, .rowL (CI .u8) a1_A a1_n a1_c a1] w ∧ ∃ g37 : Nat → Value, a = ⟨#[.func (.yield l33) #[] #[], .pointer (some ⟨b11, 0, none⟩), .pointer (some ⟨b12, 0, none⟩), undef, (g37 4), (g37 5), (g37 6), (g37 7), (g37 8), (g37 9), (g37 10), (g37 11), (g37 12), (g37 13), (g37 14), (g37 15), (g37 16), (g37 17), (g37 18), (g37 19), (g37 20), (g37 21), (g37 22), (g37 23), (g37 24), (g37 25), (g37 26), (g37 27), (g37 28), (g37 29), (g37 30)], []⟩) (fun N0 nn0 => ?_) ?_
    ·clear hk0
     refine xblock ?_
     refine wp_loop_k (fun n a w => ∃ z13 z15, ∃ (z15_A : Option Addr) (z15_n : Nat) (z15_c : Nat), aes_Back.l0 K n a0 z13 z15 = some y17 ∧ St w0 [] [.obj l33 (.loop (rec33 .ready none)), .obj D33 (.deferred (some [])), .blk b12 ([.int .i64 4]) 3, .blk b11 ([.slice a0_A a0_n a0_c]) 26, .blk b10 ([.slice z15_A z15_n z15_c]) 99, .ownL (CA .u8 4 (by decide)) z15_A z15_n z15_c z15 101, .blk b7 ([.pointer (some ⟨b6, 0, none⟩)]) 53, .blk b6 ([.pointer (some ⟨b5, 0, none⟩), .slice none 0 0]) 98, .blk b5 (([] : List Value) ++ enc .u8 r4_0 ++ enc .u8 r4_1 ++ ([] : List Value)) 48] [.rowL (CI .u8) a0_A a0_n a0_c a0, .rowL (CI .u8) a1_A a1_n a1_c a1] w ∧ ∃ g36 : Nat → Value, a = ⟨#[.func (.yield l33) #[] #[], .pointer (some ⟨b11, 0, none⟩), .pointer (some ⟨b12, 0, none⟩), undef, .int .i64 z13, (g36 5), (g36 6), (g36 7), (g36 8), (g36 9), (g36 10), (g36 11), (g36 12), (g36 13), (g36 14), (g36 15), (g36 16), (g36 17), (g36 18), (g36 19), (g36 20), (g36 21), (g36 22), (g36 23), (g36 24), (g36 25), (g36 26), (g36 27), (g36 28), (g36 29), (g36 30)], []⟩) K ⟨0, ([] : List (Arr 4)), s9_A, s9_n, s9_c, hy, hs.conv rfl, exg (by kernel_rfl)⟩ ?_
     clear hs h hy
     rintro n a w ⟨z13, z15, z15_A, z15_n, z15_c, h, hs, g36, rfl⟩ KL0 kl0
     cases n with
     | zero => exact nomatch (show none = some _ from h)
     | succ n =>
      refine xseq_k fun KS38 ks38 => ?_
      refine xseq_k fun KS39 ks39 => ?_
      refine xregS [0, 1, 2, 3] fun KR40 kr40 => ?_
      refine wpS.q 0 6 (.int .i64 z13) ?_
      refine wpS.tk 1 true (some 7) (.slice a0_A a0_n a0_c) (yld_load1 (e := 26) (o := 0) hs 3 rfl (by kernel_rfl) (by kernel_rfl) (by rfl) .grow) ?_
      refine wpS.tk 2 false (some 8) (.int .i64 (a0.length : Int)) (yld_lenL (hs.rowR 0 rfl) (fun _ => by kernel_rfl)) ?_
      rcases of_if h with ⟨hc, h⟩ | ⟨hc, h⟩
      ·refine wpS.tk 3 false (some 9) (.bool true) (yld_b (dt hc) (fun _ => by kernel_rfl)) ?_
       refine wpS.fin rfl (kr40 _ _ (then_n (ks39 _ _ (wp_cond_t (by kernel_rfl) (xskip (then_n (ks38 _ _ (xseq_k fun KS41 ks41 => (xblock (xseq_k fun KS42 ks42 => ?_))))))))))
       refine wp_regG [] (fun k => True) 7 (by kernel_rfl) (by kernel_rfl) (by kernel_rfl) fun KR43 kr43 => ?_
       have hs := hs.drawn1
       refine wpG.tD 0 true (some 13) (.int .i64 4) (yld_load1 (e := 3) (o := 0) hs 2 rfl (by kernel_rfl) (by kernel_rfl) (by rfl) .grow) ?_
       refine wpG.tD 1 true (some 14) (.slice a0_A a0_n a0_c) (yld_load1 (e := 26) (o := 0) hs 3 rfl (by kernel_rfl) (by kernel_rfl) (by rfl) .grow) ?_
       refine wpG.q 2 15 (.int .i64 z13) ?_
       obtain ⟨h0, h⟩ := of_chk h
       obtain ⟨h1, h⟩ := of_chk h
       obtain ⟨h2, h⟩ := of_chk h
       obtain ⟨s18_A, hA⟩ : ∃ A, A = if a0_c = (z13 : Int).toNat then a0_A else adr a0_A ((z13 : Int).toNat * Cod.size (CI .u8)) := ⟨_, rfl⟩
       obtain ⟨s18_n, hn⟩ : ∃ n, n = ((a0.length : Int) : Int).toNat - (z13 : Int).toNat := ⟨_, rfl⟩
       obtain ⟨s18_c, hc⟩ : ∃ c, c = a0_c - (z13 : Int).toNat := ⟨_, rfl⟩
       refine wpG.tD 3 false (some 16) (.slice s18_A s18_n s18_c) (yld_sub (C := (CI .u8)) (t := 26) (e := 5) (low := some (.int .i64 z13)) (high := none) (lo := z13) (hi := (a0.length : Int)) (hs.rowR 0 rfl) (by kernel_rfl) (by kernel_rfl) (by kernel_rfl) (.inr ⟨_, rfl⟩) (.inl ⟨rfl, rfl⟩) h0 h1 h2 hA hn hc) ?_
       have hs := hs.addSub (C := (CI .u8)) 0 rfl h0 h1 h2 hA hn hc
       refine wpG.tD 4 false (some 17) (.int .i64 ((subL a0 z13 (a0.length : Int)).length : Int)) (yld_lenL (hs.rowR 0 rfl) (fun _ => by kernel_rfl)) ?_
       refine wpG.q 5 18 (.int .i64 (imin 4 ((subL a0 z13 (a0.length : Int)).length : Int))) ?_
       obtain ⟨x19, hx, h⟩ := of_bind h
       refine wpG.tD 6 false (some 5) (.int .i64 x19) (yld_int hx (fun _ => by kernel_rfl)) ?_
       refine wpG.fin (by kernel_rfl) rfl (kr43 _ _ ?_)
       refine then_n (ks42 _ _ (xseq_k fun KS44 ks44 => (xregS [0, 1, 2, 3, 4, 5, 6, 7, 8, 9, 10, 11] fun KR45 kr45 => ?_)))
       refine wpS.q 0 19 (.func (.yield l33) #[] #[]) ?_
       refine wpS.tk 1 true (some 20) (.slice a0_A a0_n a0_c) (yld_load1 (e := 26) (o := 0) hs 3 rfl (by kernel_rfl) (by kernel_rfl) (by rfl) .grow) ?_
       refine wpS.qs [(2, 21, .int .i64 z13), (3, 22, .int .i64 z13), (4, 23, .int .i64 x19), (5, 24, .int .i64 (iadd .i64 z13 x19)), (6, 25, .int .i64 z13), (7, 26, .int .i64 x19), (8, 27, .int .i64 (iadd .i64 z13 x19))] ?_
       obtain ⟨h0, h⟩ := of_chk h
       obtain ⟨h1, h⟩ := of_chk h
       obtain ⟨h2, h⟩ := of_chk h
       obtain ⟨h3, h⟩ := of_chk h
       obtain ⟨s20_A, hA⟩ : ∃ A, A = if ((iadd .i64 z13 x19) : Int).toNat = (z13 : Int).toNat then a0_A else adr a0_A ((z13 : Int).toNat * Cod.size (CI .u8)) := ⟨_, rfl⟩
       obtain ⟨s20_n, hn⟩ : ∃ n, n = ((iadd .i64 z13 x19) : Int).toNat - (z13 : Int).toNat := ⟨_, rfl⟩
       obtain ⟨s20_c, hc⟩ : ∃ c, c = ((iadd .i64 z13 x19) : Int).toNat - (z13 : Int).toNat := ⟨_, rfl⟩
       refine wpS.tk 9 false (some 28) (.slice s20_A s20_n s20_c) (yld_sub3 (mx := (iadd .i64 z13 x19)) (k := .i64) (C := (CI .u8)) (t := 26) (e := 5) (low := some (.int .i64 z13)) (high := some (.int .i64 (iadd .i64 z13 x19))) (lo := z13) (hi := (iadd .i64 z13 x19)) (hs.rowR 1 rfl) (by kernel_rfl) (by kernel_rfl) (by kernel_rfl) (.inr ⟨_, rfl⟩) ⟨_, rfl⟩ h0 h1 h2 h3 hA hn hc) ?_
       have hs := hs.addSub3 (C := (CI .u8)) 1 rfl h0 h1 h2 h3 hA hn hc
       refine wpS.onlyR 10 (op_yield (d := (some 29)) (by kernel_rfl) hs 0 rfl hok33 #[.slice s20_A s20_n s20_c] (by kernel_rfl) rfl (tm := #[.slice a0_A a0_n a0_c, undef, .pointer none, .pointer (some ⟨b7, 0, none⟩), .int .i64 x8, .pointer (some ⟨b10, 0, none⟩), undef, undef, undef, undef, undef, undef, undef, undef, .pointer (some ⟨b5, 0, none⟩), .agg #[.pointer (some ⟨b5, 0, none⟩), .slice none 0 0], .pointer (some ⟨b6, 0, none⟩), .slice a0_A a0_n a0_c, .int .i64 (a0.length : Int), .int .i64 (iquo .i64 (a0.length : Int) 4), .int .i64 x8, .int .i64 (iadd .i64 x8 7), .int .i64 (imul .i64 4 (iadd .i64 x8 7)), .slice s9_A s9_n s9_c, .slice a0_A a0_n a0_c, .func (.func 102) #[] #[.pointer (some ⟨b11, 0, none⟩), .pointer (some ⟨b12, 0, none⟩)], .slice s20_A s20_n s20_c, undef, undef, undef, undef, undef, undef, undef, undef, undef, undef, undef, undef, undef, undef, undef, undef, undef, undef, undef, undef, undef, undef, undef, undef, undef, undef, undef, undef, undef, undef, undef, undef, undef, undef, undef, undef, undef, undef, undef, undef, undef, undef, undef, undef, undef, undef, undef, undef, undef, undef, undef, undef, undef, undef, undef, undef, undef, undef, undef, undef, undef, undef, undef, undef, undef, undef, undef, undef, undef, undef, undef, undef, undef, undef, undef, undef, undef, undef, undef, undef, undef, undef, undef, undef, undef, undef, undef, undef, undef, undef, undef, undef, undef, undef, undef]) (by kernel_rfl) (by kernel_rfl) fun K46 k46 => ?_)
       refine xregS [0] fun KR47 kr47 => ?_
       refine wpS.q 0 6 (.slice s20_A s20_n s20_c) ?_
       refine wpS.fin rfl (kr47 _ _ (then_n (k46 _ _ 0 _ _ hs rfl fun w Qr46 hs qr46 => ?_)))
       dsimp only [List.set] at hs
       refine xblock ?_
       refine wp_regG [5, 6] (fun k => True) 7 (by kernel_rfl) (by kernel_rfl) (by kernel_rfl) fun KR48 kr48 => ?_
       have hs := hs.drawn1
       refine wpG.tD 0 true (some 27) (.slice z15_A z15_n z15_c) (yld_load1 (e := 99) (o := 0) hs 4 rfl (by kernel_rfl) (by kernel_rfl) (by rfl) .grow) ?_
       refine wpG.q 1 28 (.slice s20_A s20_n s20_c) ?_
       obtain ⟨i0_49, h⟩ := of_chk h
       refine wpG.tD 2 false (some 29) (.pointer s20_A) (yld_toArr (t := 101) (e := 5) (n := 4) (len := s20_n) (c := s20_c) (by kernel_rfl) (by kernel_rfl) (by rw [RowL.length (C := (CI .u8)) (hs.rowR 0 rfl)]; exact i0_49)) ?_
       refine wpG.take [3, 4, 5, 6] 3 true (some 30) (.agg (enc .u8 (arrL 4 (subL a0 z13 (iadd .i64 z13 x19)))).toArray) (by kernel_rfl) (by kernel_rfl) (yld_loadArr (e := 101) (n := 4) (by decide) (hs.rowR 0 rfl) i0_49 (by kernel_rfl) (by kernel_rfl) (by kernel_rfl)) ?_
       refine wpG.only 4 (by kernel_rfl) (op_litL (C := (CA .u8 4 (by decide))) (t := 99) (e := 101) (len := 1) (parts := #[(0, .agg (enc .u8 (arrL 4 (subL a0 z13 (iadd .i64 z13 x19)))).toArray)]) (l := [(arrL 4 (subL a0 z13 (iadd .i64 z13 x19)))]) (d := (some 31)) (by kernel_rfl) hs (by kernel_rfl) rfl (by kernel_rfl) (by kernel_rfl) (z := .agg (enc .u8 (zeroA 4)).toArray) (by kernel_rfl) rfl (by decide) (by decide) ?_)
       intro s21_A s21_n s21_c w gw hs
       refine ⟨.of gw, ?_⟩
       obtain ⟨h0, h⟩ := of_chk h
       refine wpG.only 5 (by kernel_rfl) (op_appendT (C := (CA .u8 4 (by decide))) (t := 99) (ty := 99) (e := 101) (bytes := 4) (B := 35184372088832) (d := (some 32)) (by kernel_rfl) hs 6 rfl (hs.rowL 0 rfl) (by kernel_rfl) (by kernel_rfl) (by kernel_rfl) (by kernel_rfl) (by kernel_rfl) h0 (by decide) (by decide) ?_)
       intro s22_A s22_n s22_c w hs
       refine ⟨⟨fun hf => absurd hf (by decide), .all _ _⟩, ?_⟩
       refine wpG.only 6 (by kernel_rfl) (op_store1 (t := 99) (o := 0) (v := .slice s22_A s22_n s22_c) (d := none) (by kernel_rfl) hs 5 rfl (by kernel_rfl) rfl (by kernel_rfl) (by simp) ?_)
       intro w kp hs
       refine ⟨⟨fun hf => absurd hf (by decide), .all _ _⟩, ?_⟩
       refine wpG.fin (by kernel_rfl) rfl (kr48 _ _ ?_)
       refine inBlock_n ?_
       refine round_n qr46 hs 1 rfl fun w hs => ?_
       dsimp only [List.set] at hs
       refine ⟨fun _ => trivial, ?_⟩
       refine wpS.q 11 30 (.bool false) ?_
       refine wpS.fin rfl (kr45 _ _ (then_n (ks44 _ _ (wp_cond_f (by kernel_rfl) (xskip (inBlock_n (then_n (ks41 _ _ (xregS [0, 1, 2, 3] fun KR50 kr50 => ?_)))))))))
       refine wpS.q 0 10 (.int .i64 z13) ?_
       refine wpS.tk 1 true (some 11) (.int .i64 4) (yld_load1 (e := 3) (o := 0) hs 3 rfl (by kernel_rfl) (by kernel_rfl) (by rfl) .grow) ?_
       refine wpS.q 2 12 (.int .i64 (iadd .i64 z13 4)) ?_
       obtain ⟨x23, hx, h⟩ := of_bind h
       refine wpS.tk 3 false (some 4) (.int .i64 x23) (yld_int hx (fun _ => by kernel_rfl)) ?_
       refine wpS.fin rfl (kr50 _ _ ?_)
       exact then_n (kl0 _ _ ⟨n, Nat.lt_succ_self n, x23, (z15 ++ ([(arrL 4 (subL a0 z13 (iadd .i64 z13 x19)))] : List (Arr 4))), s22_A, s22_n, s22_c, h, ((hs.drop (.cons _ (.cons_cons _ (.cons_cons _ (.cons_cons _ (.cons_cons _ (.cons_cons _ (.cons_cons _ (.cons_cons _ (.cons_cons _ (.cons_cons _ .slnil))))))))))).pickR (pick_cons 2 rfl (pick_cons 3 rfl pick_nil))), exg (by kernel_rfl)⟩)
      refine wpS.tk 3 false (some 9) (.bool false) (yld_b (df hc) (fun _ => by kernel_rfl)) ?_
      refine wpS.fin rfl (kr40 _ _ (then_n (ks39 _ _ (wp_cond_f (by kernel_rfl) (xexit (then_x (then_x (inBlock_hit ?_))))))))
      have q0 := of_some h
      subst q0
      exact exq_n (nn0 _ _ ⟨z15_A, z15_n, z15_c, (hs.conv rfl), exg (by kernel_rfl)⟩)
    clear hs h hy
    rintro a w ⟨y17_A, y17_n, y17_c, hs, g37, rfl⟩
    have h := hk0
    refine qn33 _ _ (post_nrm (by kernel_rfl) (run_results [] [] (by kernel_rfl) .nil) ?_)
    refine range_n (a1 := ⟨#[.slice a0_A a0_n a0_c, undef, .pointer none, .pointer (some ⟨b7, 0, none⟩), .int .i64 x8, .pointer (some ⟨b10, 0, none⟩), undef, undef, undef, undef, undef, undef, undef, undef, .pointer (some ⟨b5, 0, none⟩), .agg #[.pointer (some ⟨b5, 0, none⟩), .slice none 0 0], .pointer (some ⟨b6, 0, none⟩), .slice a0_A a0_n a0_c, .int .i64 (a0.length : Int), .int .i64 (iquo .i64 (a0.length : Int) 4), .int .i64 x8, .int .i64 (iadd .i64 x8 7), .int .i64 (imul .i64 4 (iadd .i64 x8 7)), .slice s9_A s9_n s9_c, .slice a0_A a0_n a0_c, .func (.func 102) #[] #[.pointer (some ⟨b11, 0, none⟩), .pointer (some ⟨b12, 0, none⟩)], undef, undef, undef, undef, undef, undef, undef, undef, undef, undef, undef, undef, undef, undef, undef, undef, undef, undef, undef, undef, undef, undef, undef, undef, undef, undef, undef, undef, undef, undef, undef, undef, undef, undef, undef, undef, undef, undef, undef, undef, undef, undef, undef, undef, undef, undef, undef, undef, undef, undef, undef, undef, undef, undef, undef, undef, undef, undef, undef, undef, undef, undef, undef, undef, undef, undef, undef, undef, undef, undef, undef, undef, undef, undef, undef, undef, undef, undef, undef, undef, undef, undef, undef, undef, undef, undef, undef, undef, undef, undef, undef, undef, undef, undef, undef, undef], [lmark D33]⟩) kR33 (by kernel_rfl) hs 0 rfl fun w hs => ?_
    dsimp only [List.set] at hs
    refine inBlock_n (then_n (ks22 _ _ (xseq_k fun KS51 ks51 => (xseq_k fun KS52 ks52 => (xregS [0, 1, 2] fun KR53 kr53 => ?_)))))
    refine wpS.qs [(0, 33, .int .i64 x8), (1, 7, .int .i64 x8), (2, 8, .int .u8 1)] ?_
    refine wpS.fin rfl (kr53 _ _ (then_n (ks52 _ _ ?_)))
    obtain ⟨y29, hy, hk1⟩ := of_bind h
    refine wp_exq (N := fun a w => ∃ (y29_A : Option Addr) (y29_n : Nat) (y29_c : Nat), St w0 [] [.obj l33 (.loop (rec33 .exhausted none)), .obj D33 (.deferred (some [])), .blk b12 ([.int .i64 4]) 3, .blk b11 ([.slice a0_A a0_n a0_c]) 26, .blk b10 ([.slice y29_A y29_n y29_c]) 99, .ownL (CA .u8 4 (by decide)) y29_A y29_n y29_c y29 101, .blk b7 ([.pointer (some ⟨b6, 0, none⟩)]) 53, .blk b6 ([.pointer (some ⟨b5, 0, none⟩), .slice none 0 0]) 98, .blk b5 (([] : List Value) ++ enc .u8 r4_0 ++ enc .u8 r4_1 ++ ([] : List Value)) 48] [.rowL (CI .u8) a0_A a0_n a0_c a0, .rowL (CI .u8) a1_A a1_n a1_c a1] w ∧ ∃ g55 : Nat → Value, a = ⟨#[.slice a0_A a0_n a0_c, undef, .pointer none, .pointer (some ⟨b7, 0, none⟩), .int .i64 x8, .pointer (some ⟨b10, 0, none⟩), undef, (g55 7), (g55 8), (g55 9), undef, undef, undef, undef, .pointer (some ⟨b5, 0, none⟩), .agg #[.pointer (some ⟨b5, 0, none⟩), .slice none 0 0], .pointer (some ⟨b6, 0, none⟩), .slice a0_A a0_n a0_c, .int .i64 (a0.length : Int), .int .i64 (iquo .i64 (a0.length : Int) 4), .int .i64 x8, .int .i64 (iadd .i64 x8 7), .int .i64 (imul .i64 4 (iadd .i64 x8 7)), .slice s9_A s9_n s9_c, .slice a0_A a0_n a0_c, .func (.func 102) #[] #[.pointer (some ⟨b11, 0, none⟩), .pointer (some ⟨b12, 0, none⟩)], undef, undef, undef, undef, undef, undef, undef, .int .i64 x8, (g55 34), (g55 35), (g55 36), (g55 37), (g55 38), (g55 39), (g55 40), (g55 41), (g55 42), (g55 43), (g55 44), (g55 45), (g55 46), (g55 47), (g55 48), (g55 49), (g55 50), (g55 51), (g55 52), (g55 53), (g55 54), (g55 55), (g55 56), (g55 57), (g55 58), (g55 59), (g55 60), (g55 61), (g55 62), (g55 63), (g55 64), (g55 65), (g55 66), (g55 67), (g55 68), (g55 69), (g55 70), (g55 71), (g55 72), (g55 73), (g55 74), (g55 75), (g55 76), (g55 77), (g55 78), (g55 79), (g55 80), (g55 81), (g55 82), (g55 83), (g55 84), (g55 85), (g55 86), (g55 87), (g55 88), (g55 89), (g55 90), (g55 91), (g55 92), (g55 93), (g55 94), undef, undef, undef, undef, undef, undef, undef, undef, undef, undef, undef, undef, undef, undef, undef, undef, undef, undef, undef, undef, undef, undef, undef, undef, undef, undef, undef], [lmark D33]⟩) (fun N1 nn1 => ?_) ?_
    ·clear hk1
     refine xblock ?_
     refine wp_loop_k (fun n a w => ∃ z24 z25 z27, ∃ (z27_A : Option Addr) (z27_n : Nat) (z27_c : Nat), aes_Back.l1 K n r4_0 r4_1 x8 z24 z25 z27 = some y29 ∧ St w0 [] [.obj l33 (.loop (rec33 .exhausted none)), .obj D33 (.deferred (some [])), .blk b12 ([.int .i64 4]) 3, .blk b11 ([.slice a0_A a0_n a0_c]) 26, .blk b10 ([.slice z27_A z27_n z27_c]) 99, .ownL (CA .u8 4 (by decide)) z27_A z27_n z27_c z27 101, .blk b7 ([.pointer (some ⟨b6, 0, none⟩)]) 53, .blk b6 ([.pointer (some ⟨b5, 0, none⟩), .slice none 0 0]) 98, .blk b5 (([] : List Value) ++ enc .u8 r4_0 ++ enc .u8 r4_1 ++ ([] : List Value)) 48] [.rowL (CI .u8) a0_A a0_n a0_c a0, .rowL (CI .u8) a1_A a1_n a1_c a1] w ∧ ∃ g54 : Nat → Value, a = ⟨#[.slice a0_A a0_n a0_c, undef, .pointer none, .pointer (some ⟨b7, 0, none⟩), .int .i64 x8, .pointer (some ⟨b10, 0, none⟩), undef, .int .i64 z24, .int .u8 z25, (g54 9), undef, undef, undef, undef, .pointer (some ⟨b5, 0, none⟩), .agg #[.pointer (some ⟨b5, 0, none⟩), .slice none 0 0], .pointer (some ⟨b6, 0, none⟩), .slice a0_A a0_n a0_c, .int .i64 (a0.length : Int), .int .i64 (iquo .i64 (a0.length : Int) 4), .int .i64 x8, .int .i64 (iadd .i64 x8 7), .int .i64 (imul .i64 4 (iadd .i64 x8 7)), .slice s9_A s9_n s9_c, .slice a0_A a0_n a0_c, .func (.func 102) #[] #[.pointer (some ⟨b11, 0, none⟩), .pointer (some ⟨b12, 0, none⟩)], undef, undef, undef, undef, undef, undef, undef, .int .i64 x8, (g54 34), (g54 35), (g54 36), (g54 37), (g54 38), (g54 39), (g54 40), (g54 41), (g54 42), (g54 43), (g54 44), (g54 45), (g54 46), (g54 47), (g54 48), (g54 49), (g54 50), (g54 51), (g54 52), (g54 53), (g54 54), (g54 55), (g54 56), (g54 57), (g54 58), (g54 59), (g54 60), (g54 61), (g54 62), (g54 63), (g54 64), (g54 65), (g54 66), (g54 67), (g54 68), (g54 69), (g54 70), (g54 71), (g54 72), (g54 73), (g54 74), (g54 75), (g54 76), (g54 77), (g54 78), (g54 79), (g54 80), (g54 81), (g54 82), (g54 83), (g54 84), (g54 85), (g54 86), (g54 87), (g54 88), (g54 89), (g54 90), (g54 91), (g54 92), (g54 93), (g54 94), undef, undef, undef, undef, undef, undef, undef, undef, undef, undef, undef, undef, undef, undef, undef, undef, undef, undef, undef, undef, undef, undef, undef, undef, undef, undef, undef], [lmark D33]⟩) K ⟨x8, 1, y17, y17_A, y17_n, y17_c, hy, hs.conv rfl, exg (by kernel_rfl)⟩ ?_
     clear hs h hy
     rintro n a w ⟨z24, z25, z27, z27_A, z27_n, z27_c, h, hs, g54, rfl⟩ KL1 kl1
     cases n with
     | zero => exact nomatch (show none = some _ from h)
     | succ n =>
      refine xseq_k fun KS56 ks56 => ?_
      refine xseq_k fun KS57 ks57 => ?_
      refine xregS [0, 1, 2, 3, 4] fun KR58 kr58 => ?_
      refine wpS.qs [(0, 34, .int .i64 z24), (1, 35, .int .i64 x8), (2, 36, .int .i64 (iadd .i64 x8 7)), (3, 37, .int .i64 (imul .i64 4 (iadd .i64 x8 7)))] ?_
      rcases of_if h with ⟨hc, h⟩ | ⟨hc, h⟩
      ·refine wpS.tk 4 false (some 38) (.bool true) (yld_b (dt hc) (fun _ => by kernel_rfl)) ?_
       refine wpS.fin rfl (kr58 _ _ (then_n (ks57 _ _ (wp_cond_t (by kernel_rfl) (xskip (then_n (ks56 _ _ (xseq_k fun KS59 ks59 => (xblock (xseq_k fun KS60 ks60 => (xregS [0, 1, 2, 3, 4, 5, 6] fun KR61 kr61 => ?_)))))))))))
       refine wpS.tk 0 true (some 41) (.slice z27_A z27_n z27_c) (yld_load1 (e := 99) (o := 0) hs 4 rfl (by kernel_rfl) (by kernel_rfl) (by rfl) .grow) ?_
       refine wpS.qs [(1, 42, .int .i64 z24), (2, 43, .int .i64 (isub .i64 z24 1))] ?_
       obtain ⟨x30, hx, h⟩ := of_bind h
       have hx := of_some hx
       subst hx
       obtain ⟨h0, h⟩ := of_chk h
       obtain ⟨h1, h⟩ := of_chk h
       have i0_62 := h0
       have i1_62 := h1
       refine wpS.tk 3 false (some 44) (.pointer (adr z27_A (((isub .i64 z24 1) : Int).toNat * Cod.size (CA .u8 4 (by decide))))) (yld_idxL (C := (CA .u8 4 (by decide))) (t := 99) (e := 101) (k := .i64) (x := (isub .i64 z24 1)) (hs.rowL 5 rfl) (by kernel_rfl) (by kernel_rfl) (by kernel_rfl) h0 h1) ?_
       refine wpS.tk 4 true (some 45) (.agg (enc .u8 (rdL (CA .u8 4 (by decide)) z27 (isub .i64 z24 1))).toArray) (yld_loadLA (C := (CA .u8 4 (by decide))) (e := 101) (x := (isub .i64 z24 1)) (hs.rowL 5 rfl) (by kernel_rfl) rfl (by kernel_rfl) (by kernel_rfl) i0_62 i1_62) ?_
       refine wpS.only 5 (op_alloc (t := 101) (d := (some 9)) (by kernel_rfl) hs (enc .u8 (zeroA 4)) (.agg (enc .u8 (zeroA 4)).toArray) (by kernel_rfl) (by kernel_rfl) (by kernel_rfl) ?_)
       intro b31 w gw hs
       refine ⟨fun _ => trivial, ?_⟩
       refine wpS.only 6 (op_storeW (t := 101) (v := .agg (enc .u8 (rdL (CA .u8 4 (by decide)) z27 (isub .i64 z24 1))).toArray) (d := none) (by kernel_rfl) hs 0 rfl (vs := enc .u8 (rdL (CA .u8 4 (by decide)) z27 (isub .i64 z24 1))) (n := 4) (by kernel_rfl) (by kernel_rfl) (by kernel_rfl) (by simp [enc_len]) (by simp [enc_len]) (by intro u hu; exact enc_one _ _ u hu) ?_)
       intro w kp hs
       refine ⟨fun _ => trivial, ?_⟩
       refine wpS.fin rfl (kr61 _ _ (then_n (ks60 _ _ ?_)))
       obtain ⟨⟨y32, y33⟩, hj, h⟩ := of_bind h
       refine xseq_k fun KS64 ks64 => wp_join (N := fun a w => St w0 [] [.blk b31 (enc .u8 y33) 101, .obj l33 (.loop (rec33 .exhausted none)), .obj D33 (.deferred (some [])), .blk b12 ([.int .i64 4]) 3, .blk b11 ([.slice a0_A a0_n a0_c]) 26, .blk b10 ([.slice z27_A z27_n z27_c]) 99, .ownL (CA .u8 4 (by decide)) z27_A z27_n z27_c z27 101, .blk b7 ([.pointer (some ⟨b6, 0, none⟩)]) 53, .blk b6 ([.pointer (some ⟨b5, 0, none⟩), .slice none 0 0]) 98, .blk b5 (([] : List Value) ++ enc .u8 r4_0 ++ enc .u8 r4_1 ++ ([] : List Value)) 48] [.rowL (CI .u8) a0_A a0_n a0_c a0, .rowL (CI .u8) a1_A a1_n a1_c a1] w ∧ ∃ g63 : Nat → Value, a = ⟨#[.slice a0_A a0_n a0_c, undef, .pointer none, .pointer (some ⟨b7, 0, none⟩), .int .i64 x8, .pointer (some ⟨b10, 0, none⟩), undef, .int .i64 z24, .int .u8 y32, .pointer (some ⟨b31, 0, none⟩), undef, undef, undef, undef, .pointer (some ⟨b5, 0, none⟩), .agg #[.pointer (some ⟨b5, 0, none⟩), .slice none 0 0], .pointer (some ⟨b6, 0, none⟩), .slice a0_A a0_n a0_c, .int .i64 (a0.length : Int), .int .i64 (iquo .i64 (a0.length : Int) 4), .int .i64 x8, .int .i64 (iadd .i64 x8 7), .int .i64 (imul .i64 4 (iadd .i64 x8 7)), .slice s9_A s9_n s9_c, .slice a0_A a0_n a0_c, .func (.func 102) #[] #[.pointer (some ⟨b11, 0, none⟩), .pointer (some ⟨b12, 0, none⟩)], undef, undef, undef, undef, undef, undef, undef, .int .i64 x8, .int .i64 z24, .int .i64 x8, .int .i64 (iadd .i64 x8 7), .int .i64 (imul .i64 4 (iadd .i64 x8 7)), .bool true, (g54 39), (g54 40), .slice z27_A z27_n z27_c, .int .i64 z24, .int .i64 (isub .i64 z24 1), .pointer (adr z27_A (((isub .i64 z24 1) : Int).toNat * Cod.size (CA .u8 4 (by decide)))), .agg (enc .u8 (rdL (CA .u8 4 (by decide)) z27 (isub .i64 z24 1))).toArray, (g63 46), (g63 47), (g63 48), (g63 49), (g63 50), (g63 51), (g63 52), (g63 53), (g63 54), (g63 55), (g63 56), (g63 57), (g63 58), (g63 59), (g63 60), (g63 61), (g63 62), (g63 63), (g63 64), (g63 65), (g63 66), (g63 67), (g63 68), (g63 69), (g63 70), (g63 71), (g63 72), (g63 73), (g63 74), (g63 75), (g63 76), (g63 77), (g63 78), (g63 79), (g63 80), (g63 81), (g63 82), (g63 83), (g54 84), (g54 85), (g54 86), (g54 87), (g54 88), (g54 89), (g54 90), (g54 91), (g54 92), (g54 93), (g54 94), undef, undef, undef, undef, undef, undef, undef, undef, undef, undef, undef, undef, undef, undef, undef, undef, undef, undef, undef, undef, undef, undef, undef, undef, undef, undef, undef], [lmark D33]⟩) (fun N nj => ?_) ?_
       ·clear h
        have h := hj
        refine xblock (xseq_k fun KS65 ks65 => (xregS [0, 1, 2, 3, 4] fun KR66 kr66 => ?_))
        refine wpS.qs [(0, 47, .int .i64 z24), (1, 48, .int .i64 x8)] ?_
        obtain ⟨h0, h⟩ := of_chk h
        refine wpS.tk 2 false (some 49) (.int .i64 (irem .i64 z24 x8)) (yld_rem (t := 3) (by kernel_rfl) h0) ?_
        rcases of_if h with ⟨hc, h⟩ | ⟨hc, h⟩
        ·refine wpS.tk 3 false (some 50) (.bool true) (yld_b (et hc) (fun _ => by kernel_rfl)) ?_
         refine wpS.q 4 46 (.bool true) ?_
         refine wpS.fin rfl (kr66 _ _ (then_n (ks65 _ _ (wp_cond_t (by kernel_rfl) (xseq_k fun KS67 ks67 => ?_)))))
         refine wp_regG [13, 17] (fun k => True) 18 (by kernel_rfl) (by kernel_rfl) (by kernel_rfl) fun KR68 kr68 => ?_
         have hs := hs.drawn1
         refine wpG.take [0, 1, 2, 3, 13, 16, 17] 0 true (some 51) (.pointer (some ⟨b6, 0, none⟩)) (by kernel_rfl) (by kernel_rfl) (yld_load1 (e := 53) (o := 0) hs 7 rfl (by kernel_rfl) (by kernel_rfl) (by rfl) .grow) ?_
         refine wpG.q 1 52 (.pointer (some ⟨b6, 0, none⟩)) ?_
         refine wpG.q 2 53 (.pointer (some ⟨b6, 0, none⟩)) ?_
         refine wpG.tD 3 true (some 54) (.pointer (some ⟨b5, 0, none⟩)) (yld_load1 (e := 49) (o := 0) hs 8 rfl (by kernel_rfl) (by kernel_rfl) (by rfl) .grow) ?_
         refine wpG.tD 4 false (some 55) (.pointer (some ⟨b31, 0 + (1 : Int).toNat * 1, none⟩)) (yld_idx (t := 101) (e := 5) (n := 4) (sz := 1) (k := .i64) (x := 1) (by kernel_rfl) (by kernel_rfl) (by kernel_rfl) (by decide) (by decide)) ?_
         refine wpG.take [5, 12, 13, 16, 17] 5 true (some 56) (.int .u8 (rd (rdL (CA .u8 4 (by decide)) z27 (isub .i64 z24 1)) 1)) (by kernel_rfl) (by kernel_rfl) (yld_loadA (e := 5) (x := 1) hs 0 rfl (by kernel_rfl) (by kernel_rfl) (by decide) (by decide) .grow) ?_
         refine wpG.tD 6 false (some 57) (.pointer (some ⟨b31, 0 + (2 : Int).toNat * 1, none⟩)) (yld_idx (t := 101) (e := 5) (n := 4) (sz := 1) (k := .i64) (x := 2) (by kernel_rfl) (by kernel_rfl) (by kernel_rfl) (by decide) (by decide)) ?_
         refine wpG.take [7, 12, 13, 16, 17] 7 true (some 58) (.int .u8 (rd (rdL (CA .u8 4 (by decide)) z27 (isub .i64 z24 1)) 2)) (by kernel_rfl) (by kernel_rfl) (yld_loadA (e := 5) (x := 2) hs 0 rfl (by kernel_rfl) (by kernel_rfl) (by decide) (by decide) .grow) ?_
         refine wpG.tD 8 false (some 59) (.pointer (some ⟨b31, 0 + (3 : Int).toNat * 1, none⟩)) (yld_idx (t := 101) (e := 5) (n := 4) (sz := 1) (k := .i64) (x := 3) (by kernel_rfl) (by kernel_rfl) (by kernel_rfl) (by decide) (by decide)) ?_
         refine wpG.take [9, 12, 13, 16, 17] 9 true (some 60) (.int .u8 (rd (rdL (CA .u8 4 (by decide)) z27 (isub .i64 z24 1)) 3)) (by kernel_rfl) (by kernel_rfl) (yld_loadA (e := 5) (x := 3) hs 0 rfl (by kernel_rfl) (by kernel_rfl) (by decide) (by decide) .grow) ?_
         refine wpG.tD 10 false (some 61) (.pointer (some ⟨b31, 0 + (0 : Int).toNat * 1, none⟩)) (yld_idx (t := 101) (e := 5) (n := 4) (sz := 1) (k := .i64) (x := 0) (by kernel_rfl) (by kernel_rfl) (by kernel_rfl) (by decide) (by decide)) ?_
         refine wpG.take [11, 12, 13, 16, 17] 11 true (some 62) (.int .u8 (rd (rdL (CA .u8 4 (by decide)) z27 (isub .i64 z24 1)) 0)) (by kernel_rfl) (by kernel_rfl) (yld_loadA (e := 5) (x := 0) hs 0 rfl (by kernel_rfl) (by kernel_rfl) (by decide) (by decide) .grow) ?_
         refine wpG.q 12 63 (.agg (enc .u8 (wr (wr (wr (wr (zeroA 4) 0 (rd (rdL (CA .u8 4 (by decide)) z27 (isub .i64 z24 1)) 1)) 1 (rd (rdL (CA .u8 4 (by decide)) z27 (isub .i64 z24 1)) 2)) 2 (rd (rdL (CA .u8 4 (by decide)) z27 (isub .i64 z24 1)) 3)) 3 (rd (rdL (CA .u8 4 (by decide)) z27 (isub .i64 z24 1)) 0))).toArray) ?_
         refine wpG.q 14 65 (.int .u8 z25) ?_
         refine wpG.q 15 66 (.agg (enc .u8 (wr (zeroA 4) 0 z25)).toArray) ?_
         obtain ⟨r34, hg, h⟩ := of_bind h
         refine wpG.only 13 (by kernel_rfl) (op_callX (d := (some 64)) (by kernel_rfl) hs 9 rfl (fun _ => by kernel_rfl) (aes_tables_boxed.ok hg _ (hs.blkAt 9 rfl)) ?_)
         intro w kp hs
         have hs := hs.conv (L' := [.blk b31 (enc .u8 (rdL (CA .u8 4 (by decide)) z27 (isub .i64 z24 1))) 101, .obj l33 (.loop (rec33 .exhausted none)), .obj D33 (.deferred (some [])), .blk b12 ([.int .i64 4]) 3, .blk b11 ([.slice a0_A a0_n a0_c]) 26, .blk b10 ([.slice z27_A z27_n z27_c]) 99, .ownL (CA .u8 4 (by decide)) z27_A z27_n z27_c z27 101, .blk b7 ([.pointer (some ⟨b6, 0, none⟩)]) 53, .blk b6 ([.pointer (some ⟨b5, 0, none⟩), .slice none 0 0]) 98, .blk b5 (([] : List Value) ++ enc .u8 r4_0 ++ enc .u8 r4_1 ++ ([] : List Value)) 48]) rfl
         refine ⟨⟨fun hf => absurd hf (by decide), .all _ _⟩, ?_⟩
         obtain ⟨r35, hg, h⟩ := of_bind h
         refine wpG.only 16 (by kernel_rfl) (op_call (d := (some 67)) (by kernel_rfl) hs (fun _ => by kernel_rfl) (aes_word_xor.ok hg _) ?_)
         intro w gw hs
         refine ⟨.of gw, ?_⟩
         refine wpG.only 17 (by kernel_rfl) (op_storeW (t := 101) (v := .agg (enc .u8 r35).toArray) (d := none) (by kernel_rfl) hs 0 rfl (vs := enc .u8 r35) (n := 4) (by kernel_rfl) (by kernel_rfl) (by kernel_rfl) (by simp [enc_len]) (by simp [enc_len]) (by intro u hu; exact enc_one _ _ u hu) ?_)
         intro w kp hs
         refine ⟨⟨fun hf => absurd hf (by decide), .all _ _⟩, ?_⟩
         refine wpG.fin (by kernel_rfl) rfl (kr68 _ _ ?_)
         refine then_n (ks67 _ _ (xregS [0, 1, 2] fun KR73 kr73 => ?_))
         refine wpS.q 0 68 (.int .u8 z25) ?_
         obtain ⟨r36, hg, h⟩ := of_bind h
         refine wpS.only 1 (op_call (d := (some 69)) (by kernel_rfl) hs (fun _ => by kernel_rfl) (aes_Mul.ok hg _) ?_)
         intro w gw hs
         refine ⟨fun _ => trivial, ?_⟩
         refine wpS.q 2 8 (.int .u8 r36) ?_
         refine wpS.fin rfl (kr73 _ _ (inBlock_n ?_))
         obtain ⟨q0, qr0⟩ := Prod.mk.inj (of_some h)
         have q1 := qr0
         subst q0
         subst q1
         exact nj _ _ ⟨(hs.conv rfl), exg (by kernel_rfl)⟩
        refine wpS.tk 3 false (some 50) (.bool false) (yld_b (ef hc) (fun _ => by kernel_rfl)) ?_
        refine wpS.q 4 46 (.bool false) ?_
        refine wpS.fin rfl (kr66 _ _ (then_n (ks65 _ _ (wp_cond_f (by kernel_rfl) (xseq_k fun KS74 ks74 => (xregS [0, 1, 2, 3, 4, 5, 6, 7] fun KR75 kr75 => ?_))))))
        refine wpS.q 0 71 (.int .i64 x8) ?_
        rcases of_if h with ⟨hc, h⟩ | ⟨hc, h⟩
        ·refine wpS.tk 1 false (some 72) (.bool true) (yld_b (et hc) (fun _ => by kernel_rfl)) ?_
         refine wpS.qs [(2, 73, .bool true), (3, 74, .int .i64 z24), (4, 75, .int .i64 (irem .i64 z24 8))] ?_
         rcases of_if h with ⟨hc, h⟩ | ⟨hc, h⟩
         ·refine wpS.tk 5 false (some 76) (.bool true) (yld_b (et hc) (fun _ => by kernel_rfl)) ?_
          refine wpS.qs [(6, 77, .bool true), (7, 70, .bool true)] ?_
          refine wpS.fin rfl (kr75 _ _ (then_n (ks74 _ _ (wp_cond_t (by kernel_rfl) ?_))))
          refine wp_regG [5, 6] (fun k => True) 7 (by kernel_rfl) (by kernel_rfl) (by kernel_rfl) fun KR76 kr76 => ?_
          have hs := hs.drawn1
          refine wpG.take [0, 1, 2, 3, 5, 6] 0 true (some 78) (.pointer (some ⟨b6, 0, none⟩)) (by kernel_rfl) (by kernel_rfl) (yld_load1 (e := 53) (o := 0) hs 7 rfl (by kernel_rfl) (by kernel_rfl) (by rfl) .grow) ?_
          refine wpG.q 1 79 (.pointer (some ⟨b6, 0, none⟩)) ?_
          refine wpG.q 2 80 (.pointer (some ⟨b6, 0, none⟩)) ?_
          refine wpG.tD 3 true (some 81) (.pointer (some ⟨b5, 0, none⟩)) (yld_load1 (e := 49) (o := 0) hs 8 rfl (by kernel_rfl) (by kernel_rfl) (by rfl) .grow) ?_
          refine wpG.tD 4 true (some 82) (.agg (enc .u8 (rdL (CA .u8 4 (by decide)) z27 (isub .i64 z24 1))).toArray) (yld_loadW (e := 101) (n := 4) hs 0 rfl (by kernel_rfl) (by kernel_rfl) (by kernel_rfl) (by exact enc_len _ _) .grow) ?_
          obtain ⟨r37, hg, h⟩ := of_bind h
          refine wpG.only 5 (by kernel_rfl) (op_callX (d := (some 83)) (by kernel_rfl) hs 9 rfl (fun _ => by kernel_rfl) (aes_tables_boxed.ok hg _ (hs.blkAt 9 rfl)) ?_)
          intro w kp hs
          have hs := hs.conv (L' := [.blk b31 (enc .u8 (rdL (CA .u8 4 (by decide)) z27 (isub .i64 z24 1))) 101, .obj l33 (.loop (rec33 .exhausted none)), .obj D33 (.deferred (some [])), .blk b12 ([.int .i64 4]) 3, .blk b11 ([.slice a0_A a0_n a0_c]) 26, .blk b10 ([.slice z27_A z27_n z27_c]) 99, .ownL (CA .u8 4 (by decide)) z27_A z27_n z27_c z27 101, .blk b7 ([.pointer (some ⟨b6, 0, none⟩)]) 53, .blk b6 ([.pointer (some ⟨b5, 0, none⟩), .slice none 0 0]) 98, .blk b5 (([] : List Value) ++ enc .u8 r4_0 ++ enc .u8 r4_1 ++ ([] : List Value)) 48]) rfl
          refine ⟨⟨fun hf => absurd hf (by decide), .all _ _⟩, ?_⟩
          refine wpG.only 6 (by kernel_rfl) (op_storeW (t := 101) (v := .agg (enc .u8 r37).toArray) (d := none) (by kernel_rfl) hs 0 rfl (vs := enc .u8 r37) (n := 4) (by kernel_rfl) (by kernel_rfl) (by kernel_rfl) (by simp [enc_len]) (by simp [enc_len]) (by intro u hu; exact enc_one _ _ u hu) ?_)
          intro w kp hs
          refine ⟨⟨fun hf => absurd hf (by decide), .all _ _⟩, ?_⟩
          refine wpG.fin (by kernel_rfl) rfl (kr76 _ _ ?_)
          refine inBlock_n ?_
          obtain ⟨q0, qr0⟩ := Prod.mk.inj (of_some h)
          have q1 := qr0
          subst q0
          subst q1
          exact nj _ _ ⟨(hs.conv rfl), exg (by kernel_rfl)⟩
         refine wpS.tk 5 false (some 76) (.bool false) (yld_b (ef hc) (fun _ => by kernel_rfl)) ?_
         refine wpS.qs [(6, 77, .bool false), (7, 70, .bool false)] ?_
         refine wpS.fin rfl (kr75 _ _ (then_n (ks74 _ _ (wp_cond_f (by kernel_rfl) (xskip (inBlock_n ?_))))))
         obtain ⟨q0, qr0⟩ := Prod.mk.inj (of_some h)
         have q1 := qr0
         subst q0
         subst q1
         exact nj _ _ ⟨(hs.conv rfl), exg (by kernel_rfl)⟩
        refine wpS.tk 1 false (some 72) (.bool false) (yld_b (ef hc) (fun _ => by kernel_rfl)) ?_
        refine wpS.qs [(2, 73, .bool false), (3, 74, undef), (4, 75, undef), (5, 76, undef), (6, 77, .bool false), (7, 70, .bool false)] ?_
        refine wpS.fin rfl (kr75 _ _ (then_n (ks74 _ _ (wp_cond_f (by kernel_rfl) (xskip (inBlock_n ?_))))))
        obtain ⟨q0, qr0⟩ := Prod.mk.inj (of_some h)
        have q1 := qr0
        subst q0
        subst q1
        exact nj _ _ ⟨(hs.conv rfl), exg (by kernel_rfl)⟩
       clear hj hs
       rintro a w ⟨hs, g63, rfl⟩
       refine then_n (ks64 _ _ ?_)
       refine wp_regG [10, 11] (fun k => True) 12 (by kernel_rfl) (by kernel_rfl) (by kernel_rfl) fun KR77 kr77 => ?_
       have hs := hs.drawn1
       refine wpG.tD 0 true (some 84) (.slice z27_A z27_n z27_c) (yld_load1 (e := 99) (o := 0) hs 5 rfl (by kernel_rfl) (by kernel_rfl) (by rfl) .grow) ?_
       refine wpG.take [1, 5, 6, 8, 9, 10, 11] 1 true (some 85) (.slice z27_A z27_n z27_c) (by kernel_rfl) (by kernel_rfl) (yld_load1 (e := 99) (o := 0) hs 5 rfl (by kernel_rfl) (by kernel_rfl) (by rfl) .grow) ?_
       refine wpG.q 2 86 (.int .i64 z24) ?_
       refine wpG.q 3 87 (.int .i64 x8) ?_
       refine wpG.q 4 88 (.int .i64 (isub .i64 z24 x8)) ?_
       obtain ⟨x38, hx, h⟩ := of_bind h
       have hx := of_some hx
       subst hx
       obtain ⟨h0, h⟩ := of_chk h
       obtain ⟨h1, h⟩ := of_chk h
       have i0_78 := h0
       have i1_78 := h1
       refine wpG.tD 5 false (some 89) (.pointer (adr z27_A (((isub .i64 z24 x8) : Int).toNat * Cod.size (CA .u8 4 (by decide))))) (yld_idxL (C := (CA .u8 4 (by decide))) (t := 99) (e := 101) (k := .i64) (x := (isub .i64 z24 x8)) (hs.rowL 6 rfl) (by kernel_rfl) (by kernel_rfl) (by kernel_rfl) h0 h1) ?_
       refine wpG.take [6, 8, 9, 10, 11] 6 true (some 90) (.agg (enc .u8 (rdL (CA .u8 4 (by decide)) z27 (isub .i64 z24 x8))).toArray) (by kernel_rfl) (by kernel_rfl) (yld_loadLA (C := (CA .u8 4 (by decide))) (e := 101) (x := (isub .i64 z24 x8)) (hs.rowL 6 rfl) (by kernel_rfl) rfl (by kernel_rfl) (by kernel_rfl) i0_78 i1_78) ?_
       refine wpG.take [7, 8, 9, 10, 11] 7 true (some 91) (.agg (enc .u8 y33).toArray) (by kernel_rfl) (by kernel_rfl) (yld_loadW (e := 101) (n := 4) hs 0 rfl (by kernel_rfl) (by kernel_rfl) (by kernel_rfl) (by exact enc_len _ _) .grow) ?_
       obtain ⟨r39, hg, h⟩ := of_bind h
       refine wpG.only 8 (by kernel_rfl) (op_call (d := (some 92)) (by kernel_rfl) hs (fun _ => by kernel_rfl) (aes_word_xor.ok hg _) ?_)
       intro w gw hs
       refine ⟨.of gw, ?_⟩
       refine wpG.only 9 (by kernel_rfl) (op_litL (C := (CA .u8 4 (by decide))) (t := 99) (e := 101) (len := 1) (parts := #[(0, .agg (enc .u8 r39).toArray)]) (l := [r39]) (d := (some 93)) (by kernel_rfl) hs (by kernel_rfl) rfl (by kernel_rfl) (by kernel_rfl) (z := .agg (enc .u8 (zeroA 4)).toArray) (by kernel_rfl) rfl (by decide) (by decide) ?_)
       intro s40_A s40_n s40_c w gw hs
       refine ⟨.of gw, ?_⟩
       obtain ⟨h0, h⟩ := of_chk h
       refine wpG.only 10 (by kernel_rfl) (op_appendT (C := (CA .u8 4 (by decide))) (t := 99) (ty := 99) (e := 101) (bytes := 4) (B := 35184372088832) (d := (some 94)) (by kernel_rfl) hs 7 rfl (hs.rowL 0 rfl) (by kernel_rfl) (by kernel_rfl) (by kernel_rfl) (by kernel_rfl) (by kernel_rfl) h0 (by decide) (by decide) ?_)
       intro s41_A s41_n s41_c w hs
       refine ⟨⟨fun hf => absurd hf (by decide), .all _ _⟩, ?_⟩
       refine wpG.only 11 (by kernel_rfl) (op_store1 (t := 99) (o := 0) (v := .slice s41_A s41_n s41_c) (d := none) (by kernel_rfl) hs 6 rfl (by kernel_rfl) rfl (by kernel_rfl) (by simp) ?_)
       intro w kp hs
       refine ⟨⟨fun hf => absurd hf (by decide), .all _ _⟩, ?_⟩
       refine wpG.fin (by kernel_rfl) rfl (kr77 _ _ ?_)
       refine inBlock_n (then_n (ks59 _ _ (xregS [0, 1, 2] fun KR79 kr79 => ?_)))
       refine wpS.qs [(0, 39, .int .i64 z24), (1, 40, .int .i64 (iadd .i64 z24 1))] ?_
       obtain ⟨x42, hx, h⟩ := of_bind h
       refine wpS.tk 2 false (some 7) (.int .i64 x42) (yld_int hx (fun _ => by kernel_rfl)) ?_
       refine wpS.fin rfl (kr79 _ _ ?_)
       exact then_n (kl1 _ _ ⟨n, Nat.lt_succ_self n, x42, y32, (z27 ++ ([r39] : List (Arr 4))), s41_A, s41_n, s41_c, h, (hs.drop (.cons _ (.cons _ (.cons_cons _ (.cons_cons _ (.cons_cons _ (.cons_cons _ (.cons_cons _ (.cons_cons _ (.cons_cons _ (.cons_cons _ (.cons_cons _ .slnil)))))))))))), exg (by kernel_rfl)⟩)
      refine wpS.tk 4 false (some 38) (.bool false) (yld_b (df hc) (fun _ => by kernel_rfl)) ?_
      refine wpS.fin rfl (kr58 _ _ (then_n (ks57 _ _ (wp_cond_f (by kernel_rfl) (xexit (then_x (then_x (inBlock_hit ?_))))))))
      have q0 := of_some h
      subst q0
      exact exq_n (nn1 _ _ ⟨z27_A, z27_n, z27_c, (hs.conv rfl), exg (by kernel_rfl)⟩)
    clear hs h hy
    rintro a w ⟨y29_A, y29_n, y29_c, hs, g55, rfl⟩
    have h := hk1
    refine then_n (ks51 _ _ (xseq_k fun KS80 ks80 => (xseq_k fun KS81 ks81 => (xregS [0, 1] fun KR82 kr82 => ?_))))
    refine wpS.tk 0 true (some 95) (.slice y29_A y29_n y29_c) (yld_load1 (e := 99) (o := 0) hs 4 rfl (by kernel_rfl) (by kernel_rfl) (by rfl) .grow) ?_
    refine wpS.only 1 (op_inline (d := (some 96)) (f := 85) (args := #[.slice y29_A y29_n y29_c, .int .i64 4]) (by kernel_rfl) (fun _ => by kernel_rfl) fun R83 kI83 => ?_)
    refine calls_k Try.func85 rfl fun Q83 qq83 => ?_
    refine wp_conv (a' := ⟨#[.slice y29_A y29_n y29_c, .int .i64 4, undef, undef, undef, undef, undef, undef, undef], []⟩) (by kernel_rfl) ?_
    refine xseq_k fun KS84 ks84 => ?_
    refine xregS [0, 1, 2] fun KR85 kr85 => ?_
    refine wpS.only 0 (op_box (t := 99) (v := .slice y29_A y29_n y29_c) (d := (some 2)) (by kernel_rfl) hs ([.slice y29_A y29_n y29_c]) (by kernel_rfl) (by kernel_rfl) ?_)
    intro b43 w gw hs
    refine ⟨fun _ => trivial, ?_⟩
    refine wpS.only 1 (op_box (t := 3) (v := .int .i64 4) (d := (some 3)) (by kernel_rfl) hs ([.int .i64 4]) (by kernel_rfl) (by kernel_rfl) ?_)
    intro b44 w gw hs
    refine ⟨fun _ => trivial, ?_⟩
    refine wpS.q 2 4 (.nilFunc) ?_
    refine wpS.fin rfl (kr85 _ _ (then_n (ks84 _ _ (xseq_k fun KS86 ks86 => (xseq_k fun KS87 ks87 => (xregS [0, 1] fun KR88 kr88 => ?_))))))
    refine wpS.tk 0 true (some 5) (.int .i64 4) (yld_load1 (e := 3) (o := 0) hs 0 rfl (by kernel_rfl) (by kernel_rfl) (by rfl) .grow) ?_
    refine wpS.q 1 6 (.bool false) ?_
    refine wpS.fin rfl (kr88 _ _ (then_n (ks87 _ _ (wp_cond_f (by kernel_rfl) (xskip (then_n (ks86 _ _ (xseq_k fun KS89 ks89 => (xregS [0, 1] fun KR90 kr90 => ?_)))))))))
    refine wpS.qs [(0, 8, .func (.func 108) #[] #[.pointer (some ⟨b43, 0, none⟩), .pointer (some ⟨b44, 0, none⟩)]), (1, 4, .func (.func 108) #[] #[.pointer (some ⟨b43, 0, none⟩), .pointer (some ⟨b44, 0, none⟩)])] ?_
    refine wpS.fin rfl (kr90 _ _ (then_n (ks89 _ _ (xret ?_))))
    refine qq83 _ _ (post_ret (by kernel_rfl) (run_results [.tmp 4] [.func (.func 108) #[] #[.pointer (some ⟨b43, 0, none⟩), .pointer (some ⟨b44, 0, none⟩)]] (by kernel_rfl) (.cons (res_tmp (by kernel_rfl)) .nil)) ?_)
    refine kI83 _ _ ?_
    refine ⟨fun _ => trivial, ?_⟩
    refine wpS.fin rfl (kr82 _ _ (then_n (ks81 _ _ (xblock ?_))))
    refine wp_range (gf := 108) (lb := #[.pointer (some ⟨b43, 0, none⟩), .pointer (some ⟨b44, 0, none⟩)]) hs (by kernel_rfl) (fun _ _ => by kernel_rfl) fun l91 D91 rec91 w hok91 hs R91 kR91 => ?_
    refine calls_kn Try.func108 rfl fun Q91 qq91 qn91 => ?_
    refine wp_conv (a' := ⟨#[.func (.yield l91) #[] #[], .pointer (some ⟨b43, 0, none⟩), .pointer (some ⟨b44, 0, none⟩), undef, undef, undef, undef, undef, undef, undef, undef, undef, undef, undef, undef, undef, undef, undef, undef, undef, undef, undef, undef, undef, undef, undef, undef, undef, undef, undef, undef], []⟩) (by kernel_rfl) ?_
    refine xseq_k fun KS92 ks92 => ?_
    refine xregS [0] fun KR93 kr93 => ?_
    refine wpS.q 0 4 (.int .i64 0) ?_
    refine wpS.fin rfl (kr93 _ _ (then_n (ks92 _ _ ?_)))
    have hs := hs.addNilL (CA .u8 16 (by decide)) 42
    have hs := hs.freeze 10 rfl
    obtain ⟨y48, hy, hk2⟩ := of_bind h
    refine wp_exq (N := fun a w => ∃ (y48_A : Option Addr) (y48_n : Nat) (y48_c : Nat), St w0 [] [.ownL (CA .u8 16 (by decide)) y48_A y48_n y48_c y48 42, .obj l91 (.loop (rec91 .ready none)), .obj D91 (.deferred (some [])), .blk b44 ([.int .i64 4]) 3, .blk b43 ([.slice y29_A y29_n y29_c]) 99, .obj l33 (.loop (rec33 .exhausted none)), .obj D33 (.deferred (some [])), .blk b12 ([.int .i64 4]) 3, .blk b11 ([.slice a0_A a0_n a0_c]) 26, .blk b10 ([.slice y29_A y29_n y29_c]) 99, .blk b7 ([.pointer (some ⟨b6, 0, none⟩)]) 53, .blk b6 ([.pointer (some ⟨b5, 0, none⟩), .slice y48_A y48_n y48_c]) 98, .blk b5 (([] : List Value) ++ enc .u8 r4_0 ++ enc .u8 r4_1 ++ ([] : List Value)) 48] [.rowL (CA .u8 4 (by decide)) y29_A y29_n y29_c y29, .rowL (CI .u8) a0_A a0_n a0_c a0, .rowL (CI .u8) a1_A a1_n a1_c a1] w ∧ ∃ g95 : Nat → Value, a = ⟨#[.func (.yield l91) #[] #[], .pointer (some ⟨b43, 0, none⟩), .pointer (some ⟨b44, 0, none⟩), undef, (g95 4), (g95 5), (g95 6), (g95 7), (g95 8), (g95 9), (g95 10), (g95 11), (g95 12), (g95 13), (g95 14), (g95 15), (g95 16), (g95 17), (g95 18), (g95 19), (g95 20), (g95 21), (g95 22), (g95 23), (g95 24), (g95 25), (g95 26), (g95 27), (g95 28), (g95 29), (g95 30)], []⟩) (fun N2 nn2 => ?_) ?_
    ·clear hk2
     refine xblock ?_
     refine wp_loop_k (fun n a w => ∃ z45 z46, ∃ (z46_A : Option Addr) (z46_n : Nat) (z46_c : Nat), aes_Back.l2 K n y29 z45 z46 = some y48 ∧ St w0 [] [.ownL (CA .u8 16 (by decide)) z46_A z46_n z46_c z46 42, .obj l91 (.loop (rec91 .ready none)), .obj D91 (.deferred (some [])), .blk b44 ([.int .i64 4]) 3, .blk b43 ([.slice y29_A y29_n y29_c]) 99, .obj l33 (.loop (rec33 .exhausted none)), .obj D33 (.deferred (some [])), .blk b12 ([.int .i64 4]) 3, .blk b11 ([.slice a0_A a0_n a0_c]) 26, .blk b10 ([.slice y29_A y29_n y29_c]) 99, .blk b7 ([.pointer (some ⟨b6, 0, none⟩)]) 53, .blk b6 ([.pointer (some ⟨b5, 0, none⟩), .slice z46_A z46_n z46_c]) 98, .blk b5 (([] : List Value) ++ enc .u8 r4_0 ++ enc .u8 r4_1 ++ ([] : List Value)) 48] [.rowL (CA .u8 4 (by decide)) y29_A y29_n y29_c y29, .rowL (CI .u8) a0_A a0_n a0_c a0, .rowL (CI .u8) a1_A a1_n a1_c a1] w ∧ ∃ g94 : Nat → Value, a = ⟨#[.func (.yield l91) #[] #[], .pointer (some ⟨b43, 0, none⟩), .pointer (some ⟨b44, 0, none⟩), undef, .int .i64 z45, (g94 5), (g94 6), (g94 7), (g94 8), (g94 9), (g94 10), (g94 11), (g94 12), (g94 13), (g94 14), (g94 15), (g94 16), (g94 17), (g94 18), (g94 19), (g94 20), (g94 21), (g94 22), (g94 23), (g94 24), (g94 25), (g94 26), (g94 27), (g94 28), (g94 29), (g94 30)], []⟩) K ⟨0, ([] : List (Arr 16)), none, 0, 0, hy, hs.conv rfl, exg (by kernel_rfl)⟩ ?_
     clear hs h hy
     rintro n a w ⟨z45, z46, z46_A, z46_n, z46_c, h, hs, g94, rfl⟩ KL2 kl2
     cases n with
     | zero => exact nomatch (show none = some _ from h)
     | succ n =>
      refine xseq_k fun KS96 ks96 => ?_
      refine xseq_k fun KS97 ks97 => ?_
      refine xregS [0, 1, 2, 3] fun KR98 kr98 => ?_
      refine wpS.q 0 6 (.int .i64 z45) ?_
      refine wpS.tk 1 true (some 7) (.slice y29_A y29_n y29_c) (yld_load1 (e := 99) (o := 0) hs 4 rfl (by kernel_rfl) (by kernel_rfl) (by rfl) .grow) ?_
      refine wpS.tk 2 false (some 8) (.int .i64 (y29.length : Int)) (yld_lenL (hs.rowR 0 rfl) (fun _ => by kernel_rfl)) ?_
      rcases of_if h with ⟨hc, h⟩ | ⟨hc, h⟩
      ·refine wpS.tk 3 false (some 9) (.bool true) (yld_b (dt hc) (fun _ => by kernel_rfl)) ?_
       refine wpS.fin rfl (kr98 _ _ (then_n (ks97 _ _ (wp_cond_t (by kernel_rfl) (xskip (then_n (ks96 _ _ (xseq_k fun KS99 ks99 => (xblock (xseq_k fun KS100 ks100 => ?_))))))))))
       refine wp_regG [] (fun k => True) 7 (by kernel_rfl) (by kernel_rfl) (by kernel_rfl) fun KR101 kr101 => ?_
       have hs := hs.drawn1
       refine wpG.tD 0 true (some 13) (.int .i64 4) (yld_load1 (e := 3) (o := 0) hs 3 rfl (by kernel_rfl) (by kernel_rfl) (by rfl) .grow) ?_
       refine wpG.tD 1 true (some 14) (.slice y29_A y29_n y29_c) (yld_load1 (e := 99) (o := 0) hs 4 rfl (by kernel_rfl) (by kernel_rfl) (by rfl) .grow) ?_
       refine wpG.q 2 15 (.int .i64 z45) ?_
       obtain ⟨h0, h⟩ := of_chk h
       obtain ⟨h1, h⟩ := of_chk h
       obtain ⟨h2, h⟩ := of_chk h
       obtain ⟨s50_A, hA⟩ : ∃ A, A = if y29_c = (z45 : Int).toNat then y29_A else adr y29_A ((z45 : Int).toNat * Cod.size (CA .u8 4 (by decide))) := ⟨_, rfl⟩
       obtain ⟨s50_n, hn⟩ : ∃ n, n = ((y29.length : Int) : Int).toNat - (z45 : Int).toNat := ⟨_, rfl⟩
       obtain ⟨s50_c, hc⟩ : ∃ c, c = y29_c - (z45 : Int).toNat := ⟨_, rfl⟩
       refine wpG.tD 3 false (some 16) (.slice s50_A s50_n s50_c) (yld_sub (C := (CA .u8 4 (by decide))) (t := 99) (e := 101) (low := some (.int .i64 z45)) (high := none) (lo := z45) (hi := (y29.length : Int)) (hs.rowR 0 rfl) (by kernel_rfl) (by kernel_rfl) (by kernel_rfl) (.inr ⟨_, rfl⟩) (.inl ⟨rfl, rfl⟩) h0 h1 h2 hA hn hc) ?_
       have hs := hs.addSub (C := (CA .u8 4 (by decide))) 0 rfl h0 h1 h2 hA hn hc
       refine wpG.tD 4 false (some 17) (.int .i64 ((subL y29 z45 (y29.length : Int)).length : Int)) (yld_lenL (hs.rowR 0 rfl) (fun _ => by kernel_rfl)) ?_
       refine wpG.q 5 18 (.int .i64 (imin 4 ((subL y29 z45 (y29.length : Int)).length : Int))) ?_
       obtain ⟨x51, hx, h⟩ := of_bind h
       refine wpG.tD 6 false (some 5) (.int .i64 x51) (yld_int hx (fun _ => by kernel_rfl)) ?_
       refine wpG.fin (by kernel_rfl) rfl (kr101 _ _ ?_)
       refine then_n (ks100 _ _ (xseq_k fun KS102 ks102 => (xregS [0, 1, 2, 3, 4, 5, 6, 7, 8, 9, 10, 11] fun KR103 kr103 => ?_)))
       refine wpS.q 0 19 (.func (.yield l91) #[] #[]) ?_
       refine wpS.tk 1 true (some 20) (.slice y29_A y29_n y29_c) (yld_load1 (e := 99) (o := 0) hs 4 rfl (by kernel_rfl) (by kernel_rfl) (by rfl) .grow) ?_
       refine wpS.qs [(2, 21, .int .i64 z45), (3, 22, .int .i64 z45), (4, 23, .int .i64 x51), (5, 24, .int .i64 (iadd .i64 z45 x51)), (6, 25, .int .i64 z45), (7, 26, .int .i64 x51), (8, 27, .int .i64 (iadd .i64 z45 x51))] ?_
       obtain ⟨h0, h⟩ := of_chk h
       obtain ⟨h1, h⟩ := of_chk h
       obtain ⟨h2, h⟩ := of_chk h
       obtain ⟨h3, h⟩ := of_chk h
       obtain ⟨s52_A, hA⟩ : ∃ A, A = if ((iadd .i64 z45 x51) : Int).toNat = (z45 : Int).toNat then y29_A else adr y29_A ((z45 : Int).toNat * Cod.size (CA .u8 4 (by decide))) := ⟨_, rfl⟩
       obtain ⟨s52_n, hn⟩ : ∃ n, n = ((iadd .i64 z45 x51) : Int).toNat - (z45 : Int).toNat := ⟨_, rfl⟩
       obtain ⟨s52_c, hc⟩ : ∃ c, c = ((iadd .i64 z45 x51) : Int).toNat - (z45 : Int).toNat := ⟨_, rfl⟩
       refine wpS.tk 9 false (some 28) (.slice s52_A s52_n s52_c) (yld_sub3 (mx := (iadd .i64 z45 x51)) (k := .i64) (C := (CA .u8 4 (by decide))) (t := 99) (e := 101) (low := some (.int .i64 z45)) (high := some (.int .i64 (iadd .i64 z45 x51))) (lo := z45) (hi := (iadd .i64 z45 x51)) (hs.rowR 1 rfl) (by kernel_rfl) (by kernel_rfl) (by kernel_rfl) (.inr ⟨_, rfl⟩) ⟨_, rfl⟩ h0 h1 h2 h3 hA hn hc) ?_
       have hs := hs.addSub3 (C := (CA .u8 4 (by decide))) 1 rfl h0 h1 h2 h3 hA hn hc
       refine wpS.onlyR 10 (op_yield (d := (some 29)) (by kernel_rfl) hs 1 rfl hok91 #[.slice s52_A s52_n s52_c] (by kernel_rfl) rfl (tm := #[.slice a0_A a0_n a0_c, undef, .pointer none, .pointer (some ⟨b7, 0, none⟩), .int .i64 x8, .pointer (some ⟨b10, 0, none⟩), undef, (g55 7), (g55 8), (g55 9), undef, undef, undef, undef, .pointer (some ⟨b5, 0, none⟩), .agg #[.pointer (some ⟨b5, 0, none⟩), .slice none 0 0], .pointer (some ⟨b6, 0, none⟩), .slice a0_A a0_n a0_c, .int .i64 (a0.length : Int), .int .i64 (iquo .i64 (a0.length : Int) 4), .int .i64 x8, .int .i64 (iadd .i64 x8 7), .int .i64 (imul .i64 4 (iadd .i64 x8 7)), .slice s9_A s9_n s9_c, .slice a0_A a0_n a0_c, .func (.func 102) #[] #[.pointer (some ⟨b11, 0, none⟩), .pointer (some ⟨b12, 0, none⟩)], undef, undef, undef, undef, undef, undef, undef, .int .i64 x8, (g55 34), (g55 35), (g55 36), (g55 37), (g55 38), (g55 39), (g55 40), (g55 41), (g55 42), (g55 43), (g55 44), (g55 45), (g55 46), (g55 47), (g55 48), (g55 49), (g55 50), (g55 51), (g55 52), (g55 53), (g55 54), (g55 55), (g55 56), (g55 57), (g55 58), (g55 59), (g55 60), (g55 61), (g55 62), (g55 63), (g55 64), (g55 65), (g55 66), (g55 67), (g55 68), (g55 69), (g55 70), (g55 71), (g55 72), (g55 73), (g55 74), (g55 75), (g55 76), (g55 77), (g55 78), (g55 79), (g55 80), (g55 81), (g55 82), (g55 83), (g55 84), (g55 85), (g55 86), (g55 87), (g55 88), (g55 89), (g55 90), (g55 91), (g55 92), (g55 93), (g55 94), .slice y29_A y29_n y29_c, .func (.func 108) #[] #[.pointer (some ⟨b43, 0, none⟩), .pointer (some ⟨b44, 0, none⟩)], .slice s52_A s52_n s52_c, undef, undef, undef, undef, undef, undef, undef, undef, undef, undef, undef, undef, undef, undef, undef, undef, undef, undef, undef, undef, undef, undef, undef, undef]) (by kernel_rfl) (by kernel_rfl) fun K104 k104 => ?_)
       refine xregS [0] fun KR105 kr105 => ?_
       refine wpS.q 0 10 (.slice s52_A s52_n s52_c) ?_
       refine wpS.fin rfl (kr105 _ _ (then_n (k104 _ _ 1 _ _ hs rfl fun w Qr104 hs qr104 => ?_)))
       dsimp only [List.set] at hs
       refine xblock (xseq_k fun KS106 ks106 => (xregS [0] fun KR107 kr107 => ?_))
       refine wpS.only 0 (op_alloc (t := 42) (d := (some 11)) (by kernel_rfl) hs (enc .u8 (zeroA 16)) (.agg (enc .u8 (zeroA 16)).toArray) (by kernel_rfl) (by kernel_rfl) (by kernel_rfl) ?_)
       intro b53 w gw hs
       refine ⟨fun _ => trivial, ?_⟩
       refine wpS.fin rfl (kr107 _ _ (then_n (ks106 _ _ (xseq_k fun KS108 ks108 => (xseq_k fun KS109 ks109 => (xregS [0, 1, 2] fun KR110 kr110 => ?_))))))
       refine wpS.q 0 98 (.slice s52_A s52_n s52_c) ?_
       refine wpS.tk 1 false (some 99) (.int .i64 ((subL y29 z45 (iadd .i64 z45 x51)).length : Int)) (yld_lenL (hs.rowR 0 rfl) (fun _ => by kernel_rfl)) ?_
       refine wpS.q 2 100 (.int .i64 0) ?_
       refine wpS.fin rfl (kr110 _ _ (then_n (ks109 _ _ ?_)))
       obtain ⟨y56, hy, hk3⟩ := of_bind h
       refine wp_exq (N := fun a w => St w0 [] [.blk b53 (enc .u8 y56) 42, .ownL (CA .u8 16 (by decide)) z46_A z46_n z46_c z46 42, .obj l91 (.loop (rec91 .busy none)), .obj D91 (.deferred (some [])), .blk b44 ([.int .i64 4]) 3, .blk b43 ([.slice y29_A y29_n y29_c]) 99, .obj l33 (.loop (rec33 .exhausted none)), .obj D33 (.deferred (some [])), .blk b12 ([.int .i64 4]) 3, .blk b11 ([.slice a0_A a0_n a0_c]) 26, .blk b10 ([.slice y29_A y29_n y29_c]) 99, .blk b7 ([.pointer (some ⟨b6, 0, none⟩)]) 53, .blk b6 ([.pointer (some ⟨b5, 0, none⟩), .slice z46_A z46_n z46_c]) 98, .blk b5 (([] : List Value) ++ enc .u8 r4_0 ++ enc .u8 r4_1 ++ ([] : List Value)) 48] [.rowL (CA .u8 4 (by decide)) s52_A s52_n s52_c (subL y29 z45 (iadd .i64 z45 x51)), .rowL (CA .u8 4 (by decide)) s50_A s50_n s50_c (subL y29 z45 (y29.length : Int)), .rowL (CA .u8 4 (by decide)) y29_A y29_n y29_c y29, .rowL (CI .u8) a0_A a0_n a0_c a0, .rowL (CI .u8) a1_A a1_n a1_c a1] w ∧ ∃ g112 : Nat → Value, a = ⟨#[.slice a0_A a0_n a0_c, undef, .pointer none, .pointer (some ⟨b7, 0, none⟩), .int .i64 x8, .pointer (some ⟨b10, 0, none⟩), undef, (g55 7), (g55 8), (g55 9), .slice s52_A s52_n s52_c, .pointer (some ⟨b53, 0, none⟩), (g112 12), (g112 13), .pointer (some ⟨b5, 0, none⟩), .agg #[.pointer (some ⟨b5, 0, none⟩), .slice none 0 0], .pointer (some ⟨b6, 0, none⟩), .slice a0_A a0_n a0_c, .int .i64 (a0.length : Int), .int .i64 (iquo .i64 (a0.length : Int) 4), .int .i64 x8, .int .i64 (iadd .i64 x8 7), .int .i64 (imul .i64 4 (iadd .i64 x8 7)), .slice s9_A s9_n s9_c, .slice a0_A a0_n a0_c, .func (.func 102) #[] #[.pointer (some ⟨b11, 0, none⟩), .pointer (some ⟨b12, 0, none⟩)], undef, undef, undef, undef, undef, undef, undef, .int .i64 x8, (g55 34), (g55 35), (g55 36), (g55 37), (g55 38), (g55 39), (g55 40), (g55 41), (g55 42), (g55 43), (g55 44), (g55 45), (g55 46), (g55 47), (g55 48), (g55 49), (g55 50), (g55 51), (g55 52), (g55 53), (g55 54), (g55 55), (g55 56), (g55 57), (g55 58), (g55 59), (g55 60), (g55 61), (g55 62), (g55 63), (g55 64), (g55 65), (g55 66), (g55 67), (g55 68), (g55 69), (g55 70), (g55 71), (g55 72), (g55 73), (g55 74), (g55 75), (g55 76), (g55 77), (g55 78), (g55 79), (g55 80), (g55 81), (g55 82), (g55 83), (g55 84), (g55 85), (g55 86), (g55 87), (g55 88), (g55 89), (g55 90), (g55 91), (g55 92), (g55 93), (g55 94), .slice y29_A y29_n y29_c, .func (.func 108) #[] #[.pointer (some ⟨b43, 0, none⟩), .pointer (some ⟨b44, 0, none⟩)], .slice s52_A s52_n s52_c, .slice s52_A s52_n s52_c, .int .i64 ((subL y29 z45 (iadd .i64 z45 x51)).length : Int), (g112 100), (g112 101), (g112 102), (g112 103), (g112 104), (g112 105), (g112 106), (g112 107), (g112 108), (g112 109), (g112 110), undef, undef, undef, undef, undef, undef, undef, undef, undef, undef, undef], []⟩) (fun N3 nn3 => ?_) ?_
       ·clear hk3
        refine xblock ?_
        refine wp_loop_k (fun n a w => ∃ z54 z55, aes_Back.l3 K n y29 z45 x51 z54 z55 = some y56 ∧ St w0 [] [.blk b53 (enc .u8 z55) 42, .ownL (CA .u8 16 (by decide)) z46_A z46_n z46_c z46 42, .obj l91 (.loop (rec91 .busy none)), .obj D91 (.deferred (some [])), .blk b44 ([.int .i64 4]) 3, .blk b43 ([.slice y29_A y29_n y29_c]) 99, .obj l33 (.loop (rec33 .exhausted none)), .obj D33 (.deferred (some [])), .blk b12 ([.int .i64 4]) 3, .blk b11 ([.slice a0_A a0_n a0_c]) 26, .blk b10 ([.slice y29_A y29_n y29_c]) 99, .blk b7 ([.pointer (some ⟨b6, 0, none⟩)]) 53, .blk b6 ([.pointer (some ⟨b5, 0, none⟩), .slice z46_A z46_n z46_c]) 98, .blk b5 (([] : List Value) ++ enc .u8 r4_0 ++ enc .u8 r4_1 ++ ([] : List Value)) 48] [.rowL (CA .u8 4 (by decide)) s52_A s52_n s52_c (subL y29 z45 (iadd .i64 z45 x51)), .rowL (CA .u8 4 (by decide)) s50_A s50_n s50_c (subL y29 z45 (y29.length : Int)), .rowL (CA .u8 4 (by decide)) y29_A y29_n y29_c y29, .rowL (CI .u8) a0_A a0_n a0_c a0, .rowL (CI .u8) a1_A a1_n a1_c a1] w ∧ ∃ g111 : Nat → Value, a = ⟨#[.slice a0_A a0_n a0_c, undef, .pointer none, .pointer (some ⟨b7, 0, none⟩), .int .i64 x8, .pointer (some ⟨b10, 0, none⟩), undef, (g55 7), (g55 8), (g55 9), .slice s52_A s52_n s52_c, .pointer (some ⟨b53, 0, none⟩), (g111 12), (g111 13), .pointer (some ⟨b5, 0, none⟩), .agg #[.pointer (some ⟨b5, 0, none⟩), .slice none 0 0], .pointer (some ⟨b6, 0, none⟩), .slice a0_A a0_n a0_c, .int .i64 (a0.length : Int), .int .i64 (iquo .i64 (a0.length : Int) 4), .int .i64 x8, .int .i64 (iadd .i64 x8 7), .int .i64 (imul .i64 4 (iadd .i64 x8 7)), .slice s9_A s9_n s9_c, .slice a0_A a0_n a0_c, .func (.func 102) #[] #[.pointer (some ⟨b11, 0, none⟩), .pointer (some ⟨b12, 0, none⟩)], undef, undef, undef, undef, undef, undef, undef, .int .i64 x8, (g55 34), (g55 35), (g55 36), (g55 37), (g55 38), (g55 39), (g55 40), (g55 41), (g55 42), (g55 43), (g55 44), (g55 45), (g55 46), (g55 47), (g55 48), (g55 49), (g55 50), (g55 51), (g55 52), (g55 53), (g55 54), (g55 55), (g55 56), (g55 57), (g55 58), (g55 59), (g55 60), (g55 61), (g55 62), (g55 63), (g55 64), (g55 65), (g55 66), (g55 67), (g55 68), (g55 69), (g55 70), (g55 71), (g55 72), (g55 73), (g55 74), (g55 75), (g55 76), (g55 77), (g55 78), (g55 79), (g55 80), (g55 81), (g55 82), (g55 83), (g55 84), (g55 85), (g55 86), (g55 87), (g55 88), (g55 89), (g55 90), (g55 91), (g55 92), (g55 93), (g55 94), .slice y29_A y29_n y29_c, .func (.func 108) #[] #[.pointer (some ⟨b43, 0, none⟩), .pointer (some ⟨b44, 0, none⟩)], .slice s52_A s52_n s52_c, .slice s52_A s52_n s52_c, .int .i64 ((subL y29 z45 (iadd .i64 z45 x51)).length : Int), .int .i64 z54, (g111 101), (g111 102), (g111 103), (g111 104), (g111 105), (g111 106), (g111 107), (g111 108), (g111 109), (g111 110), undef, undef, undef, undef, undef, undef, undef, undef, undef, undef, undef], []⟩) K ⟨0, (zeroA 16), hy, hs.conv rfl, exg (by kernel_rfl)⟩ ?_
        clear hs h hy
        rintro n a w ⟨z54, z55, h, hs, g111, rfl⟩ KL3 kl3
        cases n with
        | zero => exact nomatch (show none = some _ from h)
        | succ n =>
         refine xseq_k fun KS113 ks113 => ?_
         refine xregS [0] fun KR114 kr114 => ?_
         rcases of_if h with ⟨hc, h⟩ | ⟨hc, h⟩
         ·refine wpS.tk 0 false (some 101) (.bool true) (yld_b (dt hc) (fun _ => by kernel_rfl)) ?_
          refine wpS.fin rfl (kr114 _ _ (then_n (ks113 _ _ (xseq_k fun KS115 ks115 => (wp_cond_t (by kernel_rfl) (xskip (then_n (ks115 _ _ (xseq_k fun KS116 ks116 => (xblock (xseq_k fun KS117 ks117 => (xregS [0, 1, 2, 3, 4, 5] fun KR118 kr118 => ?_))))))))))))
          refine wpS.q 0 102 (.int .i64 z54) ?_
          obtain ⟨h0, h⟩ := of_chk h
          obtain ⟨h1, h⟩ := of_chk h
          have i0_119 := h0
          have i1_119 := h1
          refine wpS.tk 1 false (some 103) (.pointer (adr s52_A ((z54 : Int).toNat * Cod.size (CA .u8 4 (by decide))))) (yld_idxL (C := (CA .u8 4 (by decide))) (t := 99) (e := 101) (k := .i64) (x := z54) (hs.rowR 0 rfl) (by kernel_rfl) (by kernel_rfl) (by kernel_rfl) h0 h1) ?_
          refine wpS.tk 2 true (some 104) (.agg (enc .u8 (rdL (CA .u8 4 (by decide)) (subL y29 z45 (iadd .i64 z45 x51)) z54)).toArray) (yld_loadLA (C := (CA .u8 4 (by decide))) (e := 101) (x := z54) (hs.rowR 0 rfl) (by kernel_rfl) rfl (by kernel_rfl) (by kernel_rfl) i0_119 i1_119) ?_
          refine wpS.only 3 (op_alloc (t := 101) (d := (some 13)) (by kernel_rfl) hs (enc .u8 (zeroA 4)) (.agg (enc .u8 (zeroA 4)).toArray) (by kernel_rfl) (by kernel_rfl) (by kernel_rfl) ?_)
          intro b57 w gw hs
          refine ⟨fun _ => trivial, ?_⟩
          refine wpS.q 4 12 (.int .i64 z54) ?_
          refine wpS.only 5 (op_storeW (t := 101) (v := .agg (enc .u8 (rdL (CA .u8 4 (by decide)) (subL y29 z45 (iadd .i64 z45 x51)) z54)).toArray) (d := none) (by kernel_rfl) hs 0 rfl (vs := enc .u8 (rdL (CA .u8 4 (by decide)) (subL y29 z45 (iadd .i64 z45 x51)) z54)) (n := 4) (by kernel_rfl) (by kernel_rfl) (by kernel_rfl) (by simp [enc_len]) (by simp [enc_len]) (by intro u hu; exact enc_one _ _ u hu) ?_)
          intro w kp hs
          refine ⟨fun _ => trivial, ?_⟩
          refine wpS.fin rfl (kr118 _ _ (then_n (ks117 _ _ ?_)))
          refine wp_regG [4] (fun k => True) 5 (by kernel_rfl) (by kernel_rfl) (by kernel_rfl) fun KR120 kr120 => ?_
          have hs := hs.drawn1
          refine wpG.q 0 105 (.int .i64 z54) ?_
          refine wpG.q 1 106 (.int .i64 (imul .i64 4 z54)) ?_
          obtain ⟨b0_121, h⟩ := of_chk h
          obtain ⟨b1_121, h⟩ := of_chk h
          obtain ⟨b3_121, h⟩ := of_chk h
          refine wpG.tD 2 false (some 107) (.slice (some ⟨b53, 0 + ((imul .i64 4 z54) : Int).toNat * 1, none⟩) ((16 : Int).toNat - ((imul .i64 4 z54) : Int).toNat) (16 - ((imul .i64 4 z54) : Int).toNat)) (yld_slA2 (t := 42) (e := 5) (n := 16) (low := some (.int .i64 (imul .i64 4 z54))) (high := Option.none) (lo := (imul .i64 4 z54)) (hi := 16) (by kernel_rfl) (by kernel_rfl) (by kernel_rfl) (.inr ⟨_, rfl⟩) (.inl ⟨rfl, rfl⟩) b0_121 b1_121 (by decide) b3_121) ?_
          refine wpG.tD 3 false (some 108) (.slice (some ⟨b57, 0 + (0 : Int).toNat * 1, none⟩) ((4 : Int).toNat - (0 : Int).toNat) (4 - (0 : Int).toNat)) (yld_slA2 (t := 101) (e := 5) (n := 4) (low := Option.none) (high := Option.none) (lo := 0) (hi := 4) (by kernel_rfl) (by kernel_rfl) (by kernel_rfl) (.inl ⟨rfl, rfl⟩) (.inl ⟨rfl, rfl⟩) (by decide) (by decide) (by decide) (by decide)) ?_
          refine wpG.only 4 (by kernel_rfl) (op_copyA (td := 26) (ts := 26) (ty := 3) (e := 5) (n := 16) (k := .u8) (c := z55) (lo := (imul .i64 4 z54)) (hi := 16) (d := (some 109)) (by kernel_rfl) hs 1 rfl (hs.rowB (lo := 0) (hi := 4) 0 rfl (by decide) (by decide) (by decide)) (by kernel_rfl) (by kernel_rfl) (by kernel_rfl) b0_121 b1_121 (by decide) ?_)
          intro w kp hs
          refine ⟨⟨fun hf => absurd hf (by decide), .all _ _⟩, ?_⟩
          refine wpG.fin (by kernel_rfl) rfl (kr120 _ _ ?_)
          refine inBlock_n (then_n (ks116 _ _ (xregS [0, 1] fun KR123 kr123 => ?_)))
          refine wpS.qs [(0, 110, .int .i64 (iadd .i64 z54 1)), (1, 100, .int .i64 (iadd .i64 z54 1))] ?_
          refine wpS.fin rfl (kr123 _ _ ?_)
          exact then_n (kl3 _ _ ⟨n, Nat.lt_succ_self n, (iadd .i64 z54 1), (cpA z55 (imul .i64 4 z54) ((subL (lA (rdL (CA .u8 4 (by decide)) (subL y29 z45 (iadd .i64 z45 x51)) z54)) 0 4).take ((16 : Int).toNat - ((imul .i64 4 z54) : Int).toNat))), h, (hs.drop (.cons _ (.cons_cons _ (.cons_cons _ (.cons_cons _ (.cons_cons _ (.cons_cons _ (.cons_cons _ (.cons_cons _ (.cons_cons _ (.cons_cons _ (.cons_cons _ (.cons_cons _ (.cons_cons _ (.cons_cons _ (.cons_cons _ .slnil)))))))))))))))), exg (by kernel_rfl)⟩)
         refine wpS.tk 0 false (some 101) (.bool false) (yld_b (df hc) (fun _ => by kernel_rfl)) ?_
         refine wpS.fin rfl (kr114 _ _ (then_n (ks113 _ _ (xseq_k fun KS124 ks124 => (wp_cond_f (by kernel_rfl) (xexit (then_x (then_x (inBlock_hit ?_)))))))))
         have q0 := of_some h
         subst q0
         exact exq_n (nn3 _ _ ⟨(hs.conv rfl), exg (by kernel_rfl)⟩)
       clear hs h hy
       rintro a w ⟨hs, g112, rfl⟩
       have h := hk3
       refine then_n (ks108 _ _ ?_)
       refine wp_regG [7, 10] (fun k => ¬ k = b7) 11 (by kernel_rfl) (by kernel_rfl) (by kernel_rfl) fun KR125 kr125 => ?_
       have hs := hs.drawn1
       refine wpG.takeK [0, 8, 9, 10] 0 (some 111) (.pointer (some ⟨b6, 0, none⟩)) (by kernel_rfl) (by kernel_rfl) (yld_load1 (e := 53) (o := 0) hs 11 rfl (by kernel_rfl) (by kernel_rfl) (by rfl) (.keep (fun hn => hn rfl))) ?_
       refine wpG.take [1, 2, 3, 4, 7, 8, 9, 10] 1 true (some 112) (.pointer (some ⟨b6, 0, none⟩)) (by kernel_rfl) (by kernel_rfl) (yld_load1 (e := 53) (o := 0) hs 11 rfl (by kernel_rfl) (by kernel_rfl) (by rfl) .grow) ?_
       refine wpG.q 2 113 (.pointer (some ⟨b6, 0, none⟩)) ?_
       refine wpG.q 3 114 (.pointer (some ⟨b6, 1, none⟩)) ?_
       refine wpG.tD 4 true (some 115) (.slice z46_A z46_n z46_c) (yld_load1 (e := 96) (o := 1) hs 12 rfl (by kernel_rfl) (by kernel_rfl) (by rfl) .grow) ?_
       refine wpG.take [5, 6, 7, 8, 9, 10] 5 true (some 116) (.agg (enc .u8 y56).toArray) (by kernel_rfl) (by kernel_rfl) (yld_loadW (e := 42) (n := 16) hs 0 rfl (by kernel_rfl) (by kernel_rfl) (by kernel_rfl) (by exact enc_len _ _) .grow) ?_
       refine wpG.only 6 (by kernel_rfl) (op_litL (C := (CA .u8 16 (by decide))) (t := 96) (e := 42) (len := 1) (parts := #[(0, .agg (enc .u8 y56).toArray)]) (l := [y56]) (d := (some 117)) (by kernel_rfl) hs (by kernel_rfl) rfl (by kernel_rfl) (by kernel_rfl) (z := .agg (enc .u8 (zeroA 16)).toArray) (by kernel_rfl) rfl (by decide) (by decide) ?_)
       intro s58_A s58_n s58_c w gw hs
       refine ⟨.of gw, ?_⟩
       obtain ⟨h0, h⟩ := of_chk h
       have hsB128 := hs
       refine wpG.only 7 (by kernel_rfl) (op_appendT (C := (CA .u8 16 (by decide))) (t := 96) (ty := 96) (e := 42) (bytes := 16) (B := 8796093022208) (d := (some 118)) (by kernel_rfl) hs 2 rfl (hs.rowL 0 rfl) (by kernel_rfl) (by kernel_rfl) (by kernel_rfl) (by kernel_rfl) (by kernel_rfl) h0 (by decide) (by decide) ?_)
       intro s59_A s59_n s59_c w hs
       refine ⟨⟨fun hf => absurd hf (by decide), (keepB1 (hsB128.blkAt 12 rfl) (hs.blkAt 12 rfl))⟩, ?_⟩
       refine wpG.q 8 119 (.pointer (some ⟨b6, 0, none⟩)) ?_
       refine wpG.q 9 120 (.pointer (some ⟨b6, 1, none⟩)) ?_
       have hsB127 := hs
       refine wpG.only 10 (by kernel_rfl) (op_store1 (t := 96) (o := 1) (v := .slice s59_A s59_n s59_c) (d := none) (by kernel_rfl) hs 13 rfl (by kernel_rfl) rfl (by kernel_rfl) (by simp) ?_)
       intro w kp hs
       refine ⟨⟨fun hf => absurd hf (by decide), (keepB1 (hsB127.blkAt 12 rfl) (hs.blkAt 12 rfl))⟩, ?_⟩
       refine wpG.fin (by kernel_rfl) rfl (kr125 _ _ ?_)
       refine inBlock_n ?_
       refine round_n qr104 hs 3 rfl fun w hs => ?_
       dsimp only [List.set] at hs
       refine ⟨fun _ => trivial, ?_⟩
       refine wpS.q 11 30 (.bool false) ?_
       refine wpS.fin rfl (kr103 _ _ (then_n (ks102 _ _ (wp_cond_f (by kernel_rfl) (xskip (inBlock_n (then_n (ks99 _ _ (xregS [0, 1, 2, 3] fun KR126 kr126 => ?_)))))))))
       refine wpS.q 0 10 (.int .i64 z45) ?_
       refine wpS.tk 1 true (some 11) (.int .i64 4) (yld_load1 (e := 3) (o := 0) hs 5 rfl (by kernel_rfl) (by kernel_rfl) (by rfl) .grow) ?_
       refine wpS.q 2 12 (.int .i64 (iadd .i64 z45 4)) ?_
       obtain ⟨x60, hx, h⟩ := of_bind h
       refine wpS.tk 3 false (some 4) (.int .i64 x60) (yld_int hx (fun _ => by kernel_rfl)) ?_
       refine wpS.fin rfl (kr126 _ _ ?_)
       exact then_n (kl2 _ _ ⟨n, Nat.lt_succ_self n, x60, (z46 ++ ([y56] : List (Arr 16))), s59_A, s59_n, s59_c, h, ((hs.drop (.cons _ (.cons _ (.cons_cons _ (.cons_cons _ (.cons_cons _ (.cons_cons _ (.cons_cons _ (.cons_cons _ (.cons_cons _ (.cons_cons _ (.cons_cons _ (.cons_cons _ (.cons_cons _ (.cons_cons _ (.cons_cons _ .slnil)))))))))))))))).pickR (pick_cons 2 rfl (pick_cons 3 rfl (pick_cons 4 rfl pick_nil)))), exg (by kernel_rfl)⟩)
      refine wpS.tk 3 false (some 9) (.bool false) (yld_b (df hc) (fun _ => by kernel_rfl)) ?_
      refine wpS.fin rfl (kr98 _ _ (then_n (ks97 _ _ (wp_cond_f (by kernel_rfl) (xexit (then_x (then_x (inBlock_hit ?_))))))))
      have q0 := of_some h
      subst q0
      exact exq_n (nn2 _ _ ⟨z46_A, z46_n, z46_c, (hs.conv rfl), exg (by kernel_rfl)⟩)
    clear hs h hy
    rintro a w ⟨y48_A, y48_n, y48_c, hs, g95, rfl⟩
    have h := hk2
    refine qn91 _ _ (post_nrm (by kernel_rfl) (run_results [] [] (by kernel_rfl) .nil) ?_)
    refine range_n (a1 := ⟨#[.slice a0_A a0_n a0_c, undef, .pointer none, .pointer (some ⟨b7, 0, none⟩), .int .i64 x8, .pointer (some ⟨b10, 0, none⟩), undef, (g55 7), (g55 8), (g55 9), undef, undef, undef, undef, .pointer (some ⟨b5, 0, none⟩), .agg #[.pointer (some ⟨b5, 0, none⟩), .slice none 0 0], .pointer (some ⟨b6, 0, none⟩), .slice a0_A a0_n a0_c, .int .i64 (a0.length : Int), .int .i64 (iquo .i64 (a0.length : Int) 4), .int .i64 x8, .int .i64 (iadd .i64 x8 7), .int .i64 (imul .i64 4 (iadd .i64 x8 7)), .slice s9_A s9_n s9_c, .slice a0_A a0_n a0_c, .func (.func 102) #[] #[.pointer (some ⟨b11, 0, none⟩), .pointer (some ⟨b12, 0, none⟩)], undef, undef, undef, undef, undef, undef, undef, .int .i64 x8, (g55 34), (g55 35), (g55 36), (g55 37), (g55 38), (g55 39), (g55 40), (g55 41), (g55 42), (g55 43), (g55 44), (g55 45), (g55 46), (g55 47), (g55 48), (g55 49), (g55 50), (g55 51), (g55 52), (g55 53), (g55 54), (g55 55), (g55 56), (g55 57), (g55 58), (g55 59), (g55 60), (g55 61), (g55 62), (g55 63), (g55 64), (g55 65), (g55 66), (g55 67), (g55 68), (g55 69), (g55 70), (g55 71), (g55 72), (g55 73), (g55 74), (g55 75), (g55 76), (g55 77), (g55 78), (g55 79), (g55 80), (g55 81), (g55 82), (g55 83), (g55 84), (g55 85), (g55 86), (g55 87), (g55 88), (g55 89), (g55 90), (g55 91), (g55 92), (g55 93), (g55 94), .slice y29_A y29_n y29_c, .func (.func 108) #[] #[.pointer (some ⟨b43, 0, none⟩), .pointer (some ⟨b44, 0, none⟩)], undef, undef, undef, undef, undef, undef, undef, undef, undef, undef, undef, undef, undef, undef, undef, undef, undef, undef, undef, undef, undef, undef, undef, undef, undef], [lmark D91, lmark D33]⟩) kR91 (by kernel_rfl) hs 1 rfl fun w hs => ?_
    dsimp only [List.set] at hs
    refine inBlock_n (then_n (ks80 _ _ (xseq_k fun KS129 ks129 => (xregS [0, 1] fun KR130 kr130 => ?_))))
    refine wpS.tk 0 true (some 121) (.pointer (some ⟨b6, 0, none⟩)) (yld_load1 (e := 53) (o := 0) hs 10 rfl (by kernel_rfl) (by kernel_rfl) (by rfl) .grow) ?_
    refine wpS.q 1 2 (.pointer (some ⟨b6, 0, none⟩)) ?_
    refine wpS.fin rfl (kr130 _ _ (then_n (ks129 _ _ (xret ?_))))
    refine qq12 _ _ ?_
    refine leaves_mark hs 2 rfl fun w hs => ?_
    dsimp only [List.set] at hs
    refine leaves_mark hs 6 rfl fun w hs => ?_
    dsimp only [List.set] at hs
    refine leaves_end (run_results [.tmp 2] [.pointer (some ⟨b6, 0, none⟩)] (by kernel_rfl) (.cons (res_tmp (by kernel_rfl)) .nil)) ?_
    refine kI12 _ _ ?_
    refine ⟨⟨fun hf => absurd hf (by decide), (keepW hsB13 hs)⟩, ?_⟩
    refine wpG.many [5, 6] (by kernel_rfl) (by decide) (forall_cons ?_ (forall_cons ?_ forall_nil))
    ·have hsB132 := hs
     refine (op_inline (d := (some 19)) (f := 53) (args := #[.pointer (some ⟨b6, 0, none⟩), .agg (enc .u8 (arrL 16 a1)).toArray]) (by kernel_rfl) (fun _ => by kernel_rfl) fun R131 kI131 => ?_)
     refine calls_k Try.func53 rfl fun Q131 qq131 => ?_
     refine wp_conv (a' := ⟨#[.pointer (some ⟨b6, 0, none⟩), .agg (enc .u8 (arrL 16 a1)).toArray, undef, undef, undef, undef, undef, undef, undef, undef, undef, undef, undef, undef, undef, undef, undef, undef, undef, undef, undef, undef, undef, undef, undef, undef, undef, undef, undef, undef, undef, undef, undef, undef, undef, undef, undef, undef, undef, undef, undef, undef, undef, undef, undef, undef, undef, undef, undef, undef, undef, undef, undef], []⟩) (by kernel_rfl) ?_
     refine xseq_k fun KS133 ks133 => ?_
     refine xregS [0, 1] fun KR134 kr134 => ?_
     refine wpS.only 0 (op_box (t := 42) (v := .agg (enc .u8 (arrL 16 a1)).toArray) (d := (some 3)) (by kernel_rfl) hs (enc .u8 (arrL 16 a1)) (by kernel_rfl) (by kernel_rfl) ?_)
     intro b61 w gw hs
     refine ⟨fun _ => trivial, ?_⟩
     refine wpS.only 1 (op_alloc (t := 42) (d := (some 4)) (by kernel_rfl) hs (enc .u8 (zeroA 16)) (.agg (enc .u8 (zeroA 16)).toArray) (by kernel_rfl) (by kernel_rfl) (by kernel_rfl) ?_)
     intro b62 w gw hs
     refine ⟨fun _ => trivial, ?_⟩
     refine wpS.fin rfl (kr134 _ _ (then_n (ks133 _ _ (xseq_k fun KS135 ks135 => (xregS [0, 1, 2, 3, 4, 5, 6] fun KR136 kr136 => ?_)))))
     refine wpS.qs [(0, 9, .pointer (some ⟨b6, 0, none⟩)), (1, 10, .pointer (some ⟨b6, 0, none⟩)), (2, 11, .pointer (some ⟨b6, 1, none⟩))] ?_
     refine wpS.tk 3 true (some 12) (.slice y48_A y48_n y48_c) (yld_load1 (e := 96) (o := 1) hs 13 rfl (by kernel_rfl) (by kernel_rfl) (by rfl) .grow) ?_
     refine wpS.tk 4 false (some 13) (.int .i64 (y48.length : Int)) (yld_lenL (hs.rowL 2 rfl) (fun _ => by kernel_rfl)) ?_
     refine wpS.q 5 14 (.int .i64 (isub .i64 (y48.length : Int) 1)) ?_
     obtain ⟨x63, hx, h⟩ := of_bind h
     refine wpS.tk 6 false (some 5) (.int .i64 x63) (yld_int hx (fun _ => by kernel_rfl)) ?_
     refine wpS.fin rfl (kr136 _ _ (then_n (ks135 _ _ (xseq_k fun KS137 ks137 => (xseq_k fun KS138 ks138 => (xregS [0, 1] fun KR139 kr139 => ?_))))))
     refine wpS.qs [(0, 15, .int .i64 x63), (1, 6, .int .i64 x63)] ?_
     refine wpS.fin rfl (kr139 _ _ (then_n (ks138 _ _ ?_)))
     obtain ⟨y66, hy, hk4⟩ := of_bind h
     refine wp_exq (N := fun a w => St w0 [] [.blk b62 (enc .u8 (zeroA 16)) 42, .blk b61 (enc .u8 y66) 42, .ownL (CA .u8 16 (by decide)) y48_A y48_n y48_c y48 42, .obj l91 (.loop (rec91 .exhausted none)), .obj D91 (.deferred none), .blk b44 ([.int .i64 4]) 3, .blk b43 ([.slice y29_A y29_n y29_c]) 99, .obj l33 (.loop (rec33 .exhausted none)), .obj D33 (.deferred none), .blk b12 ([.int .i64 4]) 3, .blk b11 ([.slice a0_A a0_n a0_c]) 26, .blk b10 ([.slice y29_A y29_n y29_c]) 99, .blk b7 ([.pointer (some ⟨b6, 0, none⟩)]) 53, .blk b6 ([.pointer (some ⟨b5, 0, none⟩), .slice y48_A y48_n y48_c]) 98, .blk b5 (([] : List Value) ++ enc .u8 r4_0 ++ enc .u8 r4_1 ++ ([] : List Value)) 48] [.rowL (CA .u8 4 (by decide)) y29_A y29_n y29_c y29, .rowL (CI .u8) a0_A a0_n a0_c a0, .rowL (CI .u8) a1_A a1_n a1_c a1] w ∧ ∃ g141 : Nat → Value, a = ⟨#[.pointer (some ⟨b6, 0, none⟩), .agg (enc .u8 (arrL 16 a1)).toArray, undef, .pointer (some ⟨b61, 0, none⟩), .pointer (some ⟨b62, 0, none⟩), .int .i64 x63, (g141 6), (g141 7), (g141 8), .pointer (some ⟨b6, 0, none⟩), .pointer (some ⟨b6, 0, none⟩), .pointer (some ⟨b6, 1, none⟩), .slice y48_A y48_n y48_c, .int .i64 (y48.length : Int), .int .i64 (isub .i64 (y48.length : Int) 1), .int .i64 x63, (g141 16), (g141 17), (g141 18), (g141 19), (g141 20), (g141 21), (g141 22), (g141 23), (g141 24), (g141 25), (g141 26), (g141 27), (g141 28), (g141 29), (g141 30), (g141 31), (g141 32), (g141 33), (g141 34), (g141 35), (g141 36), (g141 37), (g141 38), (g141 39), (g141 40), (g141 41), (g141 42), (g141 43), (g141 44), (g141 45), (g141 46), (g141 47), (g141 48), (g141 49), undef, undef, undef], []⟩) (fun N4 nn4 => ?_) ?_
     ·clear hk4
      refine xblock ?_
      refine wp_loop_k (fun n a w => ∃ z64 z65, aes_Back.l4 K n r4_1 y48 x63 z64 z65 = some y66 ∧ St w0 [] [.blk b62 (enc .u8 (zeroA 16)) 42, .blk b61 (enc .u8 z65) 42, .ownL (CA .u8 16 (by decide)) y48_A y48_n y48_c y48 42, .obj l91 (.loop (rec91 .exhausted none)), .obj D91 (.deferred none), .blk b44 ([.int .i64 4]) 3, .blk b43 ([.slice y29_A y29_n y29_c]) 99, .obj l33 (.loop (rec33 .exhausted none)), .obj D33 (.deferred none), .blk b12 ([.int .i64 4]) 3, .blk b11 ([.slice a0_A a0_n a0_c]) 26, .blk b10 ([.slice y29_A y29_n y29_c]) 99, .blk b7 ([.pointer (some ⟨b6, 0, none⟩)]) 53, .blk b6 ([.pointer (some ⟨b5, 0, none⟩), .slice y48_A y48_n y48_c]) 98, .blk b5 (([] : List Value) ++ enc .u8 r4_0 ++ enc .u8 r4_1 ++ ([] : List Value)) 48] [.rowL (CA .u8 4 (by decide)) y29_A y29_n y29_c y29, .rowL (CI .u8) a0_A a0_n a0_c a0, .rowL (CI .u8) a1_A a1_n a1_c a1] w ∧ ∃ g140 : Nat → Value, a = ⟨#[.pointer (some ⟨b6, 0, none⟩), .agg (enc .u8 (arrL 16 a1)).toArray, undef, .pointer (some ⟨b61, 0, none⟩), .pointer (some ⟨b62, 0, none⟩), .int .i64 x63, .int .i64 z64, (g140 7), (g140 8), .pointer (some ⟨b6, 0, none⟩), .pointer (some ⟨b6, 0, none⟩), .pointer (some ⟨b6, 1, none⟩), .slice y48_A y48_n y48_c, .int .i64 (y48.length : Int), .int .i64 (isub .i64 (y48.length : Int) 1), .int .i64 x63, (g140 16), (g140 17), (g140 18), (g140 19), (g140 20), (g140 21), (g140 22), (g140 23), (g140 24), (g140 25), (g140 26), (g140 27), (g140 28), (g140 29), (g140 30), (g140 31), (g140 32), (g140 33), (g140 34), (g140 35), (g140 36), (g140 37), (g140 38), (g140 39), (g140 40), (g140 41), (g140 42), (g140 43), (g140 44), (g140 45), (g140 46), (g140 47), (g140 48), (g140 49), undef, undef, undef], []⟩) K ⟨x63, (arrL 16 a1), hy, hs.conv rfl, exg (by kernel_rfl)⟩ ?_
      clear hs h hy
      rintro n a w ⟨z64, z65, h, hs, g140, rfl⟩ KL4 kl4
      cases n with
      | zero => exact nomatch (show none = some _ from h)
      | succ n =>
       refine xseq_k fun KS142 ks142 => ?_
       refine xseq_k fun KS143 ks143 => ?_
       refine xregS [0, 1] fun KR144 kr144 => ?_
       refine wpS.q 0 16 (.int .i64 z64) ?_
       rcases of_if h with ⟨hc, h⟩ | ⟨hc, h⟩
       ·refine wpS.tk 1 false (some 17) (.bool true) (yld_b (dt hc) (fun _ => by kernel_rfl)) ?_
        refine wpS.fin rfl (kr144 _ _ (then_n (ks143 _ _ (wp_cond_t (by kernel_rfl) (xskip (then_n (ks142 _ _ (xseq_k fun KS145 ks145 => (xblock (xseq_k fun KS146 ks146 => (xregS [0, 1, 2] fun KR147 kr147 => ?_)))))))))))
        refine wpS.qs [(0, 20, .pointer (some ⟨b6, 0, none⟩)), (1, 21, .int .i64 z64)] ?_
        refine wpS.only 2 (op_inline (d := (some 22)) (f := 86) (args := #[.pointer (some ⟨b6, 0, none⟩), .pointer (some ⟨b61, 0, none⟩), .int .i64 z64]) (by kernel_rfl) (fun _ => by kernel_rfl) fun R148 kI148 => ?_)
        refine calls_kn Try.func86 rfl fun Q148 qq148 qn148 => ?_
        refine wp_conv (a' := ⟨#[.pointer (some ⟨b6, 0, none⟩), .pointer (some ⟨b61, 0, none⟩), .int .i64 z64, undef, undef, undef, undef, undef, undef, undef, undef, undef, undef, undef, undef, undef, undef, undef, undef, undef, undef, undef, undef, undef, undef, undef, undef, undef, undef], []⟩) (by kernel_rfl) ?_
        refine xseq_k fun KS149 ks149 => ?_
        refine xregS [0, 1, 2, 3, 4, 5, 6, 7] fun KR150 kr150 => ?_
        refine wpS.qs [(0, 8, .pointer (some ⟨b6, 0, none⟩)), (1, 9, .pointer (some ⟨b6, 0, none⟩)), (2, 10, .pointer (some ⟨b6, 1, none⟩))] ?_
        refine wpS.tk 3 true (some 11) (.slice y48_A y48_n y48_c) (yld_load1 (e := 96) (o := 1) hs 13 rfl (by kernel_rfl) (by kernel_rfl) (by rfl) .grow) ?_
        refine wpS.q 4 12 (.int .i64 z64) ?_
        obtain ⟨h0, h⟩ := of_chk h
        obtain ⟨h1, h⟩ := of_chk h
        have i0_151 := h0
        have i1_151 := h1
        refine wpS.tk 5 false (some 13) (.pointer (adr y48_A ((z64 : Int).toNat * Cod.size (CA .u8 16 (by decide))))) (yld_idxL (C := (CA .u8 16 (by decide))) (t := 96) (e := 42) (k := .i64) (x := z64) (hs.rowL 2 rfl) (by kernel_rfl) (by kernel_rfl) (by kernel_rfl) h0 h1) ?_
        refine wpS.tk 6 true (some 14) (.agg (enc .u8 (rdL (CA .u8 16 (by decide)) y48 z64)).toArray) (yld_loadLA (C := (CA .u8 16 (by decide))) (e := 42) (x := z64) (hs.rowL 2 rfl) (by kernel_rfl) rfl (by kernel_rfl) (by kernel_rfl) i0_151 i1_151) ?_
        refine wpS.q 7 15 (.int .i64 0) ?_
        refine wpS.fin rfl (kr150 _ _ (then_n (ks149 _ _ ?_)))
        obtain ⟨y69, hy, hk5⟩ := of_bind h
        refine wp_exq (N := fun a w => St w0 [] [.blk b62 (enc .u8 (zeroA 16)) 42, .blk b61 (enc .u8 y69) 42, .ownL (CA .u8 16 (by decide)) y48_A y48_n y48_c y48 42, .obj l91 (.loop (rec91 .exhausted none)), .obj D91 (.deferred none), .blk b44 ([.int .i64 4]) 3, .blk b43 ([.slice y29_A y29_n y29_c]) 99, .obj l33 (.loop (rec33 .exhausted none)), .obj D33 (.deferred none), .blk b12 ([.int .i64 4]) 3, .blk b11 ([.slice a0_A a0_n a0_c]) 26, .blk b10 ([.slice y29_A y29_n y29_c]) 99, .blk b7 ([.pointer (some ⟨b6, 0, none⟩)]) 53, .blk b6 ([.pointer (some ⟨b5, 0, none⟩), .slice y48_A y48_n y48_c]) 98, .blk b5 (([] : List Value) ++ enc .u8 r4_0 ++ enc .u8 r4_1 ++ ([] : List Value)) 48] [.rowL (CA .u8 4 (by decide)) y29_A y29_n y29_c y29, .rowL (CI .u8) a0_A a0_n a0_c a0, .rowL (CI .u8) a1_A a1_n a1_c a1] w ∧ ∃ g153 : Nat → Value, a = ⟨#[.pointer (some ⟨b6, 0, none⟩), .pointer (some ⟨b61, 0, none⟩), .int .i64 z64, undef, undef, undef, (g153 6), (g153 7), .pointer (some ⟨b6, 0, none⟩), .pointer (some ⟨b6, 0, none⟩), .pointer (some ⟨b6, 1, none⟩), .slice y48_A y48_n y48_c, .int .i64 z64, .pointer (adr y48_A ((z64 : Int).toNat * Cod.size (CA .u8 16 (by decide)))), .agg (enc .u8 (rdL (CA .u8 16 (by decide)) y48 z64)).toArray, (g153 15), (g153 16), (g153 17), (g153 18), (g153 19), (g153 20), (g153 21), (g153 22), (g153 23), (g153 24), (g153 25), (g153 26), (g153 27), (g153 28)], []⟩) (fun N5 nn5 => ?_) ?_
        ·clear hk5
         refine xblock ?_
         refine wp_loop_k (fun n a w => ∃ z67 z68, aes_Back.l5 K n y48 z64 z67 z68 = some y69 ∧ St w0 [] [.blk b62 (enc .u8 (zeroA 16)) 42, .blk b61 (enc .u8 z68) 42, .ownL (CA .u8 16 (by decide)) y48_A y48_n y48_c y48 42, .obj l91 (.loop (rec91 .exhausted none)), .obj D91 (.deferred none), .blk b44 ([.int .i64 4]) 3, .blk b43 ([.slice y29_A y29_n y29_c]) 99, .obj l33 (.loop (rec33 .exhausted none)), .obj D33 (.deferred none), .blk b12 ([.int .i64 4]) 3, .blk b11 ([.slice a0_A a0_n a0_c]) 26, .blk b10 ([.slice y29_A y29_n y29_c]) 99, .blk b7 ([.pointer (some ⟨b6, 0, none⟩)]) 53, .blk b6 ([.pointer (some ⟨b5, 0, none⟩), .slice y48_A y48_n y48_c]) 98, .blk b5 (([] : List Value) ++ enc .u8 r4_0 ++ enc .u8 r4_1 ++ ([] : List Value)) 48] [.rowL (CA .u8 4 (by decide)) y29_A y29_n y29_c y29, .rowL (CI .u8) a0_A a0_n a0_c a0, .rowL (CI .u8) a1_A a1_n a1_c a1] w ∧ ∃ g152 : Nat → Value, a = ⟨#[.pointer (some ⟨b6, 0, none⟩), .pointer (some ⟨b61, 0, none⟩), .int .i64 z64, undef, undef, undef, (g152 6), (g152 7), .pointer (some ⟨b6, 0, none⟩), .pointer (some ⟨b6, 0, none⟩), .pointer (some ⟨b6, 1, none⟩), .slice y48_A y48_n y48_c, .int .i64 z64, .pointer (adr y48_A ((z64 : Int).toNat * Cod.size (CA .u8 16 (by decide)))), .agg (enc .u8 (rdL (CA .u8 16 (by decide)) y48 z64)).toArray, .int .i64 z67, (g152 16), (g152 17), (g152 18), (g152 19), (g152 20), (g152 21), (g152 22), (g152 23), (g152 24), (g152 25), (g152 26), (g152 27), (g152 28)], []⟩) K ⟨0, z65, hy, hs.conv rfl, exg (by kernel_rfl)⟩ ?_
         clear hs h hy
         rintro n a w ⟨z67, z68, h, hs, g152, rfl⟩ KL5 kl5
         cases n with
         | zero => exact nomatch (show none = some _ from h)
         | succ n =>
          refine xseq_k fun KS154 ks154 => ?_
          refine xregS [0] fun KR155 kr155 => ?_
          rcases of_if h with ⟨hc, h⟩ | ⟨hc, h⟩
          ·refine wpS.tk 0 false (some 16) (.bool true) (yld_b (dt hc) (fun _ => by kernel_rfl)) ?_
           refine wpS.fin rfl (kr155 _ _ (then_n (ks154 _ _ (xseq_k fun KS156 ks156 => (wp_cond_t (by kernel_rfl) (xskip (then_n (ks156 _ _ (xseq_k fun KS157 ks157 => (xblock (xseq_k fun KS158 ks158 => (xregS [0, 1, 2, 3] fun KR159 kr159 => ?_))))))))))))
           refine wpS.q 0 17 (.int .i64 z67) ?_
           obtain ⟨h0, h⟩ := of_chk h
           obtain ⟨h1, h⟩ := of_chk h
           refine wpS.tk 1 false (some 18) (.int .u8 (rd (rdL (CA .u8 16 (by decide)) y48 z64) z67)) (yld_at (t := 42) (e := 5) (k' := .i64) (by kernel_rfl) (by kernel_rfl) (by kernel_rfl) (by kernel_rfl) h0 h1) ?_
           refine wpS.q 2 6 (.int .i64 z67) ?_
           obtain ⟨x70, hx, h⟩ := of_bind h
           refine wpS.tk 3 false (some 7) (.int .u8 x70) (yld_int hx (fun _ => by kernel_rfl)) ?_
           refine wpS.fin rfl (kr159 _ _ (then_n (ks158 _ _ ?_)))
           refine wp_regG [9] (fun k => True) 10 (by kernel_rfl) (by kernel_rfl) (by kernel_rfl) fun KR160 kr160 => ?_
           have hs := hs.drawn1
           refine wpG.q 0 19 (.pointer (some ⟨b61, 0, none⟩)) ?_
           refine wpG.q 1 20 (.int .i64 z67) ?_
           refine wpG.q 2 21 (.pointer (some ⟨b61, 0, none⟩)) ?_
           obtain ⟨i0_161, h⟩ := of_chk h
           obtain ⟨i1_161, h⟩ := of_chk h
           refine wpG.tD 3 false (some 22) (.pointer (some ⟨b61, 0 + (z67 : Int).toNat * 1, none⟩)) (yld_idx (t := 42) (e := 5) (n := 16) (sz := 1) (k := .i64) (x := z67) (by kernel_rfl) (by kernel_rfl) (by kernel_rfl) i0_161 i1_161) ?_
           refine wpG.tD 4 true (some 23) (.int .u8 (rd z68 z67)) (yld_loadA (e := 5) (x := z67) hs 1 rfl (by kernel_rfl) (by kernel_rfl) i0_161 i1_161 .grow) ?_
           refine wpG.q 5 24 (.int .u8 x70) ?_
           refine wpG.q 6 25 (.int .u8 (ixor .u8 (rd z68 z67) x70)) ?_
           refine wpG.q 7 26 (.pointer (some ⟨b61, 0, none⟩)) ?_
           obtain ⟨i0_162, h⟩ := of_chk h
           obtain ⟨i1_162, h⟩ := of_chk h
           refine wpG.tD 8 false (some 27) (.pointer (some ⟨b61, 0 + (z67 : Int).toNat * 1, none⟩)) (yld_idx (t := 42) (e := 5) (n := 16) (sz := 1) (k := .i64) (x := z67) (by kernel_rfl) (by kernel_rfl) (by kernel_rfl) i0_162 i1_162) ?_
           obtain ⟨x71, hx, h⟩ := of_bind h
           refine wpG.only 9 (by kernel_rfl) (op_storeA (t := 5) (x := z67) (v := x71) (d := none) (by kernel_rfl) hs 1 rfl (by cases hx; kernel_rfl) (by kernel_rfl) i0_162 i1_162 ?_)
           intro w kp hs
           refine ⟨⟨fun hf => absurd hf (by decide), .all _ _⟩, ?_⟩
           refine wpG.fin (by kernel_rfl) rfl (kr160 _ _ ?_)
           refine inBlock_n (then_n (ks157 _ _ (xregS [0, 1] fun KR163 kr163 => ?_)))
           refine wpS.qs [(0, 28, .int .i64 (iadd .i64 z67 1)), (1, 15, .int .i64 (iadd .i64 z67 1))] ?_
           refine wpS.fin rfl (kr163 _ _ ?_)
           exact then_n (kl5 _ _ ⟨n, Nat.lt_succ_self n, (iadd .i64 z67 1), (wr z68 z67 x71), h, (hs.conv rfl), exg (by kernel_rfl)⟩)
          refine wpS.tk 0 false (some 16) (.bool false) (yld_b (df hc) (fun _ => by kernel_rfl)) ?_
          refine wpS.fin rfl (kr155 _ _ (then_n (ks154 _ _ (xseq_k fun KS164 ks164 => (wp_cond_f (by kernel_rfl) (xexit (then_x (then_x (inBlock_hit ?_)))))))))
          have q0 := of_some h
          subst q0
          exact exq_n (nn5 _ _ ⟨(hs.conv rfl), exg (by kernel_rfl)⟩)
        clear hs h hy
        rintro a w ⟨hs, g153, rfl⟩
        have h := hk5
        refine qn148 _ _ (post_nrm (by kernel_rfl) (run_results [] [] (by kernel_rfl) .nil) ?_)
        refine kI148 _ _ ?_
        refine ⟨fun _ => trivial, ?_⟩
        refine wpS.fin rfl (kr147 _ _ (then_n (ks146 _ _ ?_)))
        obtain ⟨y72, hj, h⟩ := of_bind h
        refine xseq_k fun KS166 ks166 => wp_join (N := fun a w => St w0 [] [.blk b62 (enc .u8 (zeroA 16)) 42, .blk b61 (enc .u8 y72) 42, .ownL (CA .u8 16 (by decide)) y48_A y48_n y48_c y48 42, .obj l91 (.loop (rec91 .exhausted none)), .obj D91 (.deferred none), .blk b44 ([.int .i64 4]) 3, .blk b43 ([.slice y29_A y29_n y29_c]) 99, .obj l33 (.loop (rec33 .exhausted none)), .obj D33 (.deferred none), .blk b12 ([.int .i64 4]) 3, .blk b11 ([.slice a0_A a0_n a0_c]) 26, .blk b10 ([.slice y29_A y29_n y29_c]) 99, .blk b7 ([.pointer (some ⟨b6, 0, none⟩)]) 53, .blk b6 ([.pointer (some ⟨b5, 0, none⟩), .slice y48_A y48_n y48_c]) 98, .blk b5 (([] : List Value) ++ enc .u8 r4_0 ++ enc .u8 r4_1 ++ ([] : List Value)) 48] [.rowL (CA .u8 4 (by decide)) y29_A y29_n y29_c y29, .rowL (CI .u8) a0_A a0_n a0_c a0, .rowL (CI .u8) a1_A a1_n a1_c a1] w ∧ ∃ g165 : Nat → Value, a = ⟨#[.pointer (some ⟨b6, 0, none⟩), .agg (enc .u8 (arrL 16 a1)).toArray, undef, .pointer (some ⟨b61, 0, none⟩), .pointer (some ⟨b62, 0, none⟩), .int .i64 x63, .int .i64 z64, (g140 7), (g140 8), .pointer (some ⟨b6, 0, none⟩), .pointer (some ⟨b6, 0, none⟩), .pointer (some ⟨b6, 1, none⟩), .slice y48_A y48_n y48_c, .int .i64 (y48.length : Int), .int .i64 (isub .i64 (y48.length : Int) 1), .int .i64 x63, .int .i64 z64, .bool true, (g140 18), (g140 19), .pointer (some ⟨b6, 0, none⟩), .int .i64 z64, .tuple #[], (g165 23), (g165 24), (g165 25), (g165 26), (g140 27), (g140 28), (g140 29), (g140 30), (g140 31), (g140 32), (g140 33), (g140 34), (g140 35), (g140 36), (g140 37), (g140 38), (g140 39), (g140 40), (g140 41), (g140 42), (g140 43), (g140 44), (g140 45), (g140 46), (g140 47), (g140 48), (g140 49), undef, undef, undef], []⟩) (fun N nj => ?_) ?_
        ·clear h
         have h := hj
         refine xseq_k fun KS167 ks167 => ?_
         refine xregS [0, 1, 2] fun KR168 kr168 => ?_
         refine wpS.qs [(0, 23, .int .i64 z64), (1, 24, .int .i64 x63)] ?_
         rcases of_if h with ⟨hc, h⟩ | ⟨hc, h⟩
         ·refine wpS.tk 2 false (some 25) (.bool true) (yld_b (dt hc) (fun _ => by kernel_rfl)) ?_
          refine wpS.fin rfl (kr168 _ _ (then_n (ks167 _ _ (wp_cond_t (by kernel_rfl) (xregS [0] fun KR169 kr169 => ?_)))))
          obtain ⟨r73, hg, h⟩ := of_bind h
          refine wpS.only 0 (op_callX (d := (some 26)) (by kernel_rfl) hs 1 rfl (fun _ => by kernel_rfl) (aes_unmix.ok hg _ (hs.blkAt 1 rfl)) ?_)
          intro w kp hs
          have hs := hs.conv (L' := [.blk b62 (enc .u8 (zeroA 16)) 42, .blk b61 (enc .u8 r73) 42, .ownL (CA .u8 16 (by decide)) y48_A y48_n y48_c y48 42, .obj l91 (.loop (rec91 .exhausted none)), .obj D91 (.deferred none), .blk b44 ([.int .i64 4]) 3, .blk b43 ([.slice y29_A y29_n y29_c]) 99, .obj l33 (.loop (rec33 .exhausted none)), .obj D33 (.deferred none), .blk b12 ([.int .i64 4]) 3, .blk b11 ([.slice a0_A a0_n a0_c]) 26, .blk b10 ([.slice y29_A y29_n y29_c]) 99, .blk b7 ([.pointer (some ⟨b6, 0, none⟩)]) 53, .blk b6 ([.pointer (some ⟨b5, 0, none⟩), .slice y48_A y48_n y48_c]) 98, .blk b5 (([] : List Value) ++ enc .u8 r4_0 ++ enc .u8 r4_1 ++ ([] : List Value)) 48]) rfl
          refine ⟨fun _ => trivial, ?_⟩
          refine wpS.fin rfl (kr169 _ _ ?_)
          have q0 := of_some h
          subst q0
          exact nj _ _ ⟨(hs.conv rfl), exg (by kernel_rfl)⟩
         refine wpS.tk 2 false (some 25) (.bool false) (yld_b (df hc) (fun _ => by kernel_rfl)) ?_
         refine wpS.fin rfl (kr168 _ _ (then_n (ks167 _ _ (wp_cond_f (by kernel_rfl) (xskip ?_)))))
         have q0 := of_some h
         subst q0
         exact nj _ _ ⟨(hs.conv rfl), exg (by kernel_rfl)⟩
        clear hj hs
        rintro a w ⟨hs, g165, rfl⟩
        refine then_n (ks166 _ _ (xseq_k fun KS170 ks170 => (xregS [0] fun KR171 kr171 => ?_)))
        refine wpS.only 0 (op_alloc (t := 42) (d := (some 7)) (by kernel_rfl) hs (enc .u8 (zeroA 16)) (.agg (enc .u8 (zeroA 16)).toArray) (by kernel_rfl) (by kernel_rfl) (by kernel_rfl) ?_)
        intro b74 w gw hs
        refine ⟨fun _ => trivial, ?_⟩
        refine wpS.fin rfl (kr171 _ _ (then_n (ks170 _ _ (xseq_k fun KS172 ks172 => (xseq_k fun KS173 ks173 => (xregS [0] fun KR174 kr174 => ?_))))))
        refine wpS.q 0 27 (.int .i64 0) ?_
        refine wpS.fin rfl (kr174 _ _ (then_n (ks173 _ _ ?_)))
        obtain ⟨y77, hy, hk6⟩ := of_bind h
        refine wp_exq (N := fun a w => St w0 [] [.blk b74 (enc .u8 y77) 42, .blk b62 (enc .u8 (zeroA 16)) 42, .blk b61 (enc .u8 y72) 42, .ownL (CA .u8 16 (by decide)) y48_A y48_n y48_c y48 42, .obj l91 (.loop (rec91 .exhausted none)), .obj D91 (.deferred none), .blk b44 ([.int .i64 4]) 3, .blk b43 ([.slice y29_A y29_n y29_c]) 99, .obj l33 (.loop (rec33 .exhausted none)), .obj D33 (.deferred none), .blk b12 ([.int .i64 4]) 3, .blk b11 ([.slice a0_A a0_n a0_c]) 26, .blk b10 ([.slice y29_A y29_n y29_c]) 99, .blk b7 ([.pointer (some ⟨b6, 0, none⟩)]) 53, .blk b6 ([.pointer (some ⟨b5, 0, none⟩), .slice y48_A y48_n y48_c]) 98, .blk b5 (([] : List Value) ++ enc .u8 r4_0 ++ enc .u8 r4_1 ++ ([] : List Value)) 48] [.rowL (CA .u8 4 (by decide)) y29_A y29_n y29_c y29, .rowL (CI .u8) a0_A a0_n a0_c a0, .rowL (CI .u8) a1_A a1_n a1_c a1] w ∧ ∃ g176 : Nat → Value, a = ⟨#[.pointer (some ⟨b6, 0, none⟩), .agg (enc .u8 (arrL 16 a1)).toArray, undef, .pointer (some ⟨b61, 0, none⟩), .pointer (some ⟨b62, 0, none⟩), .int .i64 x63, .int .i64 z64, .pointer (some ⟨b74, 0, none⟩), (g176 8), .pointer (some ⟨b6, 0, none⟩), .pointer (some ⟨b6, 0, none⟩), .pointer (some ⟨b6, 1, none⟩), .slice y48_A y48_n y48_c, .int .i64 (y48.length : Int), .int .i64 (isub .i64 (y48.length : Int) 1), .int .i64 x63, .int .i64 z64, .bool true, (g140 18), (g140 19), .pointer (some ⟨b6, 0, none⟩), .int .i64 z64, .tuple #[], (g165 23), (g165 24), (g165 25), (g165 26), (g176 27), (g176 28), (g176 29), (g176 30), (g176 31), (g176 32), (g176 33), (g176 34), (g176 35), (g176 36), (g176 37), (g176 38), (g176 39), (g176 40), (g176 41), (g176 42), (g176 43), (g176 44), (g176 45), (g176 46), (g176 47), (g176 48), (g140 49), undef, undef, undef], []⟩) (fun N6 nn6 => ?_) ?_
        ·clear hk6
         refine xblock ?_
         refine wp_loop_k (fun n a w => ∃ z75 z76, aes_Back.l6 K n r4_1 y72 z75 z76 = some y77 ∧ St w0 [] [.blk b74 (enc .u8 z76) 42, .blk b62 (enc .u8 (zeroA 16)) 42, .blk b61 (enc .u8 y72) 42, .ownL (CA .u8 16 (by decide)) y48_A y48_n y48_c y48 42, .obj l91 (.loop (rec91 .exhausted none)), .obj D91 (.deferred none), .blk b44 ([.int .i64 4]) 3, .blk b43 ([.slice y29_A y29_n y29_c]) 99, .obj l33 (.loop (rec33 .exhausted none)), .obj D33 (.deferred none), .blk b12 ([.int .i64 4]) 3, .blk b11 ([.slice a0_A a0_n a0_c]) 26, .blk b10 ([.slice y29_A y29_n y29_c]) 99, .blk b7 ([.pointer (some ⟨b6, 0, none⟩)]) 53, .blk b6 ([.pointer (some ⟨b5, 0, none⟩), .slice y48_A y48_n y48_c]) 98, .blk b5 (([] : List Value) ++ enc .u8 r4_0 ++ enc .u8 r4_1 ++ ([] : List Value)) 48] [.rowL (CA .u8 4 (by decide)) y29_A y29_n y29_c y29, .rowL (CI .u8) a0_A a0_n a0_c a0, .rowL (CI .u8) a1_A a1_n a1_c a1] w ∧ ∃ g175 : Nat → Value, a = ⟨#[.pointer (some ⟨b6, 0, none⟩), .agg (enc .u8 (arrL 16 a1)).toArray, undef, .pointer (some ⟨b61, 0, none⟩), .pointer (some ⟨b62, 0, none⟩), .int .i64 x63, .int .i64 z64, .pointer (some ⟨b74, 0, none⟩), (g175 8), .pointer (some ⟨b6, 0, none⟩), .pointer (some ⟨b6, 0, none⟩), .pointer (some ⟨b6, 1, none⟩), .slice y48_A y48_n y48_c, .int .i64 (y48.length : Int), .int .i64 (isub .i64 (y48.length : Int) 1), .int .i64 x63, .int .i64 z64, .bool true, (g140 18), (g140 19), .pointer (some ⟨b6, 0, none⟩), .int .i64 z64, .tuple #[], (g165 23), (g165 24), (g165 25), (g165 26), .int .i64 z75, (g175 28), (g175 29), (g175 30), (g175 31), (g175 32), (g175 33), (g175 34), (g175 35), (g175 36), (g175 37), (g175 38), (g175 39), (g175 40), (g175 41), (g175 42), (g175 43), (g175 44), (g175 45), (g175 46), (g175 47), (g175 48), (g140 49), undef, undef, undef], []⟩) K ⟨0, (zeroA 16), hy, hs.conv rfl, exg (by kernel_rfl)⟩ ?_
         clear hs h hy
         rintro n a w ⟨z75, z76, h, hs, g175, rfl⟩ KL6 kl6
         cases n with
         | zero => exact nomatch (show none = some _ from h)
         | succ n =>
          refine xseq_k fun KS177 ks177 => ?_
          refine xregS [0] fun KR178 kr178 => ?_
          rcases of_if h with ⟨hc, h⟩ | ⟨hc, h⟩
          ·refine wpS.tk 0 false (some 28) (.bool true) (yld_b (dt hc) (fun _ => by kernel_rfl)) ?_
           refine wpS.fin rfl (kr178 _ _ (then_n (ks177 _ _ (xseq_k fun KS179 ks179 => (wp_cond_t (by kernel_rfl) (xskip (then_n (ks179 _ _ (xseq_k fun KS180 ks180 => (xblock (xseq_k fun KS181 ks181 => (xregS [0, 1] fun KR182 kr182 => ?_))))))))))))
           refine wpS.qs [(0, 29, .int .i64 z75), (1, 8, .int .i64 z75)] ?_
           refine wpS.fin rfl (kr182 _ _ (then_n (ks181 _ _ ?_)))
           refine wp_regG [18] (fun k => True) 19 (by kernel_rfl) (by kernel_rfl) (by kernel_rfl) fun KR183 kr183 => ?_
           have hs := hs.drawn1
           refine wpG.q 0 30 (.int .i64 z75) ?_
           refine wpG.q 1 31 (.int .i64 z75) ?_
           refine wpG.q 2 32 (.int .i64 (irem .i64 z75 4)) ?_
           refine wpG.q 3 33 (.int .i64 (imul .i64 4 (irem .i64 z75 4))) ?_
           refine wpG.q 4 34 (.int .i64 (iadd .i64 z75 (imul .i64 4 (irem .i64 z75 4)))) ?_
           refine wpG.q 5 35 (.int .i64 (irem .i64 (iadd .i64 z75 (imul .i64 4 (irem .i64 z75 4))) 16)) ?_
           refine wpG.q 6 36 (.pointer (some ⟨b6, 0, none⟩)) ?_
           refine wpG.q 7 37 (.pointer (some ⟨b6, 0, none⟩)) ?_
           refine wpG.q 8 38 (.pointer (some ⟨b6, 0, none⟩)) ?_
           refine wpG.tD 9 true (some 39) (.pointer (some ⟨b5, 0, none⟩)) (yld_load1 (e := 49) (o := 0) hs 14 rfl (by kernel_rfl) (by kernel_rfl) (by rfl) .grow) ?_
           refine wpG.q 10 40 (.int .i64 z75) ?_
           obtain ⟨i0_184, h⟩ := of_chk h
           obtain ⟨i1_184, h⟩ := of_chk h
           refine wpG.tD 11 false (some 41) (.pointer (some ⟨b61, 0 + (z75 : Int).toNat * 1, none⟩)) (yld_idx (t := 42) (e := 5) (n := 16) (sz := 1) (k := .i64) (x := z75) (by kernel_rfl) (by kernel_rfl) (by kernel_rfl) i0_184 i1_184) ?_
           refine wpG.tD 12 true (some 42) (.int .u8 (rd y72 z75)) (yld_loadA (e := 5) (x := z75) hs 2 rfl (by kernel_rfl) (by kernel_rfl) i0_184 i1_184 .grow) ?_
           refine wpG.q 13 43 (.pointer (some ⟨b5, 0, none⟩)) ?_
           refine wpG.q 14 44 (.pointer (some ⟨b5, 256, none⟩)) ?_
           obtain ⟨x78, hx, h⟩ := of_bind h
           have hx := of_some hx
           subst hx
           obtain ⟨i0_185, h⟩ := of_chk h
           obtain ⟨i1_185, h⟩ := of_chk h
           refine wpG.tD 15 false (some 45) (.pointer (some ⟨b5, 256 + ((rd y72 z75) : Int).toNat * 1, none⟩)) (yld_idx (t := 46) (e := 5) (n := 256) (sz := 1) (k := .u8) (x := (rd y72 z75)) (by kernel_rfl) (by kernel_rfl) (by kernel_rfl) i0_185 i1_185) ?_
           refine wpG.tD 16 true (some 46) (.int .u8 (rd r4_1 (rd y72 z75))) (yld_loadR (m := 256) (k := .u8) (pre := enc .u8 r4_0) (post := ([] : List Value)) (c := r4_1) (e := 5) (x := (rd y72 z75)) hs 15 rfl (by simp only [List.append_assoc, List.nil_append, List.cons_append, List.append_nil]) (by kernel_rfl) (by kernel_rfl) i0_185 i1_185 (by simp [enc_len]) .grow) ?_
           obtain ⟨x79, hx, h⟩ := of_bind h
           have hx := of_some hx
           subst hx
           obtain ⟨i0_186, h⟩ := of_chk h
           obtain ⟨i1_186, h⟩ := of_chk h
           refine wpG.tD 17 false (some 47) (.pointer (some ⟨b74, 0 + ((irem .i64 (iadd .i64 z75 (imul .i64 4 (irem .i64 z75 4))) 16) : Int).toNat * 1, none⟩)) (yld_idx (t := 42) (e := 5) (n := 16) (sz := 1) (k := .i64) (x := (irem .i64 (iadd .i64 z75 (imul .i64 4 (irem .i64 z75 4))) 16)) (by kernel_rfl) (by kernel_rfl) (by kernel_rfl) i0_186 i1_186) ?_
           obtain ⟨x80, hx, h⟩ := of_bind h
           refine wpG.only 18 (by kernel_rfl) (op_storeA (t := 5) (x := (irem .i64 (iadd .i64 z75 (imul .i64 4 (irem .i64 z75 4))) 16)) (v := x80) (d := none) (by kernel_rfl) hs 0 rfl (by cases hx; kernel_rfl) (by kernel_rfl) i0_186 i1_186 ?_)
           intro w kp hs
           refine ⟨⟨fun hf => absurd hf (by decide), .all _ _⟩, ?_⟩
           refine wpG.fin (by kernel_rfl) rfl (kr183 _ _ ?_)
           refine inBlock_n (then_n (ks180 _ _ (xregS [0, 1] fun KR187 kr187 => ?_)))
           refine wpS.qs [(0, 48, .int .i64 (iadd .i64 z75 1)), (1, 27, .int .i64 (iadd .i64 z75 1))] ?_
           refine wpS.fin rfl (kr187 _ _ ?_)
           exact then_n (kl6 _ _ ⟨n, Nat.lt_succ_self n, (iadd .i64 z75 1), (wr z76 (irem .i64 (iadd .i64 z75 (imul .i64 4 (irem .i64 z75 4))) 16) x80), h, (hs.conv rfl), exg (by kernel_rfl)⟩)
          refine wpS.tk 0 false (some 28) (.bool false) (yld_b (df hc) (fun _ => by kernel_rfl)) ?_
          refine wpS.fin rfl (kr178 _ _ (then_n (ks177 _ _ (xseq_k fun KS188 ks188 => (wp_cond_f (by kernel_rfl) (xexit (then_x (then_x (inBlock_hit ?_)))))))))
          have q0 := of_some h
          subst q0
          exact exq_n (nn6 _ _ ⟨(hs.conv rfl), exg (by kernel_rfl)⟩)
        clear hs h hy
        rintro a w ⟨hs, g176, rfl⟩
        have h := hk6
        refine then_n (ks172 _ _ (xregS [0, 1] fun KR189 kr189 => ?_))
        refine wpS.tk 0 true (some 49) (.agg (enc .u8 y77).toArray) (yld_loadW (e := 42) (n := 16) hs 0 rfl (by kernel_rfl) (by kernel_rfl) (by kernel_rfl) (by exact enc_len _ _) .grow) ?_
        refine wpS.only 1 (op_storeW (t := 42) (v := .agg (enc .u8 y77).toArray) (d := none) (by kernel_rfl) hs 2 rfl (vs := enc .u8 y77) (n := 16) (by kernel_rfl) (by kernel_rfl) (by kernel_rfl) (by simp [enc_len]) (by simp [enc_len]) (by intro u hu; exact enc_one _ _ u hu) ?_)
        intro w kp hs
        refine ⟨fun _ => trivial, ?_⟩
        refine wpS.fin rfl (kr189 _ _ (inBlock_n (then_n (ks145 _ _ (xregS [0, 1, 2] fun KR190 kr190 => ?_)))))
        refine wpS.qs [(0, 18, .int .i64 z64), (1, 19, .int .i64 (isub .i64 z64 1))] ?_
        obtain ⟨x81, hx, h⟩ := of_bind h
        refine wpS.tk 2 false (some 6) (.int .i64 x81) (yld_int hx (fun _ => by kernel_rfl)) ?_
        refine wpS.fin rfl (kr190 _ _ ?_)
        exact then_n (kl4 _ _ ⟨n, Nat.lt_succ_self n, x81, y77, h, (hs.drop (.cons _ (.cons_cons _ (.cons_cons _ (.cons_cons _ (.cons_cons _ (.cons_cons _ (.cons_cons _ (.cons_cons _ (.cons_cons _ (.cons_cons _ (.cons_cons _ (.cons_cons _ (.cons_cons _ (.cons_cons _ (.cons_cons _ (.cons_cons _ .slnil))))))))))))))))), exg (by kernel_rfl)⟩)
       refine wpS.tk 1 false (some 17) (.bool false) (yld_b (df hc) (fun _ => by kernel_rfl)) ?_
       refine wpS.fin rfl (kr144 _ _ (then_n (ks143 _ _ (wp_cond_f (by kernel_rfl) (xexit (then_x (then_x (inBlock_hit ?_))))))))
       have q0 := of_some h
       subst q0
       exact exq_n (nn4 _ _ ⟨(hs.conv rfl), exg (by kernel_rfl)⟩)
     clear hs h hy
     rintro a w ⟨hs, g141, rfl⟩
     have h := hk4
     refine then_n (ks137 _ _ (xseq_k fun KS191 ks191 => (xregS [0, 1] fun KR192 kr192 => ?_)))
     refine wpS.q 0 50 (.pointer (some ⟨b6, 0, none⟩)) ?_
     refine wpS.only 1 (op_inline (d := (some 51)) (f := 86) (args := #[.pointer (some ⟨b6, 0, none⟩), .pointer (some ⟨b61, 0, none⟩), .int .i64 0]) (by kernel_rfl) (fun _ => by kernel_rfl) fun R193 kI193 => ?_)
     refine calls_kn Try.func86 rfl fun Q193 qq193 qn193 => ?_
     refine wp_conv (a' := ⟨#[.pointer (some ⟨b6, 0, none⟩), .pointer (some ⟨b61, 0, none⟩), .int .i64 0, undef, undef, undef, undef, undef, undef, undef, undef, undef, undef, undef, undef, undef, undef, undef, undef, undef, undef, undef, undef, undef, undef, undef, undef, undef, undef], []⟩) (by kernel_rfl) ?_
     refine xseq_k fun KS194 ks194 => ?_
     refine xregS [0, 1, 2, 3, 4, 5, 6, 7] fun KR195 kr195 => ?_
     refine wpS.qs [(0, 8, .pointer (some ⟨b6, 0, none⟩)), (1, 9, .pointer (some ⟨b6, 0, none⟩)), (2, 10, .pointer (some ⟨b6, 1, none⟩))] ?_
     refine wpS.tk 3 true (some 11) (.slice y48_A y48_n y48_c) (yld_load1 (e := 96) (o := 1) hs 13 rfl (by kernel_rfl) (by kernel_rfl) (by rfl) .grow) ?_
     refine wpS.q 4 12 (.int .i64 0) ?_
     obtain ⟨h0, h⟩ := of_chk h
     obtain ⟨h1, h⟩ := of_chk h
     have i0_196 := h0
     have i1_196 := h1
     refine wpS.tk 5 false (some 13) (.pointer (adr y48_A ((0 : Int).toNat * Cod.size (CA .u8 16 (by decide))))) (yld_idxL (C := (CA .u8 16 (by decide))) (t := 96) (e := 42) (k := .i64) (x := 0) (hs.rowL 2 rfl) (by kernel_rfl) (by kernel_rfl) (by kernel_rfl) h0 h1) ?_
     refine wpS.tk 6 true (some 14) (.agg (enc .u8 (rdL (CA .u8 16 (by decide)) y48 0)).toArray) (yld_loadLA (C := (CA .u8 16 (by decide))) (e := 42) (x := 0) (hs.rowL 2 rfl) (by kernel_rfl) rfl (by kernel_rfl) (by kernel_rfl) i0_196 i1_196) ?_
     refine wpS.q 7 15 (.int .i64 0) ?_
     refine wpS.fin rfl (kr195 _ _ (then_n (ks194 _ _ ?_)))
     obtain ⟨y84, hy, hk7⟩ := of_bind h
     refine wp_exq (N := fun a w => St w0 [] [.blk b62 (enc .u8 (zeroA 16)) 42, .blk b61 (enc .u8 y84) 42, .ownL (CA .u8 16 (by decide)) y48_A y48_n y48_c y48 42, .obj l91 (.loop (rec91 .exhausted none)), .obj D91 (.deferred none), .blk b44 ([.int .i64 4]) 3, .blk b43 ([.slice y29_A y29_n y29_c]) 99, .obj l33 (.loop (rec33 .exhausted none)), .obj D33 (.deferred none), .blk b12 ([.int .i64 4]) 3, .blk b11 ([.slice a0_A a0_n a0_c]) 26, .blk b10 ([.slice y29_A y29_n y29_c]) 99, .blk b7 ([.pointer (some ⟨b6, 0, none⟩)]) 53, .blk b6 ([.pointer (some ⟨b5, 0, none⟩), .slice y48_A y48_n y48_c]) 98, .blk b5 (([] : List Value) ++ enc .u8 r4_0 ++ enc .u8 r4_1 ++ ([] : List Value)) 48] [.rowL (CA .u8 4 (by decide)) y29_A y29_n y29_c y29, .rowL (CI .u8) a0_A a0_n a0_c a0, .rowL (CI .u8) a1_A a1_n a1_c a1] w ∧ ∃ g198 : Nat → Value, a = ⟨#[.pointer (some ⟨b6, 0, none⟩), .pointer (some ⟨b61, 0, none⟩), .int .i64 0, undef, undef, undef, (g198 6), (g198 7), .pointer (some ⟨b6, 0, none⟩), .pointer (some ⟨b6, 0, none⟩), .pointer (some ⟨b6, 1, none⟩), .slice y48_A y48_n y48_c, .int .i64 0, .pointer (adr y48_A ((0 : Int).toNat * Cod.size (CA .u8 16 (by decide)))), .agg (enc .u8 (rdL (CA .u8 16 (by decide)) y48 0)).toArray, (g198 15), (g198 16), (g198 17), (g198 18), (g198 19), (g198 20), (g198 21), (g198 22), (g198 23), (g198 24), (g198 25), (g198 26), (g198 27), (g198 28)], []⟩) (fun N7 nn7 => ?_) ?_
     ·clear hk7
      refine xblock ?_
      refine wp_loop_k (fun n a w => ∃ z82 z83, aes_Back.l7 K n y48 z82 z83 = some y84 ∧ St w0 [] [.blk b62 (enc .u8 (zeroA 16)) 42, .blk b61 (enc .u8 z83) 42, .ownL (CA .u8 16 (by decide)) y48_A y48_n y48_c y48 42, .obj l91 (.loop (rec91 .exhausted none)), .obj D91 (.deferred none), .blk b44 ([.int .i64 4]) 3, .blk b43 ([.slice y29_A y29_n y29_c]) 99, .obj l33 (.loop (rec33 .exhausted none)), .obj D33 (.deferred none), .blk b12 ([.int .i64 4]) 3, .blk b11 ([.slice a0_A a0_n a0_c]) 26, .blk b10 ([.slice y29_A y29_n y29_c]) 99, .blk b7 ([.pointer (some ⟨b6, 0, none⟩)]) 53, .blk b6 ([.pointer (some ⟨b5, 0, none⟩), .slice y48_A y48_n y48_c]) 98, .blk b5 (([] : List Value) ++ enc .u8 r4_0 ++ enc .u8 r4_1 ++ ([] : List Value)) 48] [.rowL (CA .u8 4 (by decide)) y29_A y29_n y29_c y29, .rowL (CI .u8) a0_A a0_n a0_c a0, .rowL (CI .u8) a1_A a1_n a1_c a1] w ∧ ∃ g197 : Nat → Value, a = ⟨#[.pointer (some ⟨b6, 0, none⟩), .pointer (some ⟨b61, 0, none⟩), .int .i64 0, undef, undef, undef, (g197 6), (g197 7), .pointer (some ⟨b6, 0, none⟩), .pointer (some ⟨b6, 0, none⟩), .pointer (some ⟨b6, 1, none⟩), .slice y48_A y48_n y48_c, .int .i64 0, .pointer (adr y48_A ((0 : Int).toNat * Cod.size (CA .u8 16 (by decide)))), .agg (enc .u8 (rdL (CA .u8 16 (by decide)) y48 0)).toArray, .int .i64 z82, (g197 16), (g197 17), (g197 18), (g197 19), (g197 20), (g197 21), (g197 22), (g197 23), (g197 24), (g197 25), (g197 26), (g197 27), (g197 28)], []⟩) K ⟨0, y66, hy, hs.conv rfl, exg (by kernel_rfl)⟩ ?_
      clear hs h hy
      rintro n a w ⟨z82, z83, h, hs, g197, rfl⟩ KL7 kl7
      cases n with
      | zero => exact nomatch (show none = some _ from h)
      | succ n =>
       refine xseq_k fun KS199 ks199 => ?_
       refine xregS [0] fun KR200 kr200 => ?_
       rcases of_if h with ⟨hc, h⟩ | ⟨hc, h⟩
       ·refine wpS.tk 0 false (some 16) (.bool true) (yld_b (dt hc) (fun _ => by kernel_rfl)) ?_
        refine wpS.fin rfl (kr200 _ _ (then_n (ks199 _ _ (xseq_k fun KS201 ks201 => (wp_cond_t (by kernel_rfl) (xskip (then_n (ks201 _ _ (xseq_k fun KS202 ks202 => (xblock (xseq_k fun KS203 ks203 => (xregS [0, 1, 2, 3] fun KR204 kr204 => ?_))))))))))))
        refine wpS.q 0 17 (.int .i64 z82) ?_
        obtain ⟨h0, h⟩ := of_chk h
        obtain ⟨h1, h⟩ := of_chk h
        refine wpS.tk 1 false (some 18) (.int .u8 (rd (rdL (CA .u8 16 (by decide)) y48 0) z82)) (yld_at (t := 42) (e := 5) (k' := .i64) (by kernel_rfl) (by kernel_rfl) (by kernel_rfl) (by kernel_rfl) h0 h1) ?_
        refine wpS.q 2 6 (.int .i64 z82) ?_
        obtain ⟨x85, hx, h⟩ := of_bind h
        refine wpS.tk 3 false (some 7) (.int .u8 x85) (yld_int hx (fun _ => by kernel_rfl)) ?_
        refine wpS.fin rfl (kr204 _ _ (then_n (ks203 _ _ ?_)))
        refine wp_regG [9] (fun k => True) 10 (by kernel_rfl) (by kernel_rfl) (by kernel_rfl) fun KR205 kr205 => ?_
        have hs := hs.drawn1
        refine wpG.q 0 19 (.pointer (some ⟨b61, 0, none⟩)) ?_
        refine wpG.q 1 20 (.int .i64 z82) ?_
        refine wpG.q 2 21 (.pointer (some ⟨b61, 0, none⟩)) ?_
        obtain ⟨i0_206, h⟩ := of_chk h
        obtain ⟨i1_206, h⟩ := of_chk h
        refine wpG.tD 3 false (some 22) (.pointer (some ⟨b61, 0 + (z82 : Int).toNat * 1, none⟩)) (yld_idx (t := 42) (e := 5) (n := 16) (sz := 1) (k := .i64) (x := z82) (by kernel_rfl) (by kernel_rfl) (by kernel_rfl) i0_206 i1_206) ?_
        refine wpG.tD 4 true (some 23) (.int .u8 (rd z83 z82)) (yld_loadA (e := 5) (x := z82) hs 1 rfl (by kernel_rfl) (by kernel_rfl) i0_206 i1_206 .grow) ?_
        refine wpG.q 5 24 (.int .u8 x85) ?_
        refine wpG.q 6 25 (.int .u8 (ixor .u8 (rd z83 z82) x85)) ?_
        refine wpG.q 7 26 (.pointer (some ⟨b61, 0, none⟩)) ?_
        obtain ⟨i0_207, h⟩ := of_chk h
        obtain ⟨i1_207, h⟩ := of_chk h
        refine wpG.tD 8 false (some 27) (.pointer (some ⟨b61, 0 + (z82 : Int).toNat * 1, none⟩)) (yld_idx (t := 42) (e := 5) (n := 16) (sz := 1) (k := .i64) (x := z82) (by kernel_rfl) (by kernel_rfl) (by kernel_rfl) i0_207 i1_207) ?_
        obtain ⟨x86, hx, h⟩ := of_bind h
        refine wpG.only 9 (by kernel_rfl) (op_storeA (t := 5) (x := z82) (v := x86) (d := none) (by kernel_rfl) hs 1 rfl (by cases hx; kernel_rfl) (by kernel_rfl) i0_207 i1_207 ?_)
        intro w kp hs
        refine ⟨⟨fun hf => absurd hf (by decide), .all _ _⟩, ?_⟩
        refine wpG.fin (by kernel_rfl) rfl (kr205 _ _ ?_)
        refine inBlock_n (then_n (ks202 _ _ (xregS [0, 1] fun KR208 kr208 => ?_)))
        refine wpS.qs [(0, 28, .int .i64 (iadd .i64 z82 1)), (1, 15, .int .i64 (iadd .i64 z82 1))] ?_
        refine wpS.fin rfl (kr208 _ _ ?_)
        exact then_n (kl7 _ _ ⟨n, Nat.lt_succ_self n, (iadd .i64 z82 1), (wr z83 z82 x86), h, (hs.conv rfl), exg (by kernel_rfl)⟩)
       refine wpS.tk 0 false (some 16) (.bool false) (yld_b (df hc) (fun _ => by kernel_rfl)) ?_
       refine wpS.fin rfl (kr200 _ _ (then_n (ks199 _ _ (xseq_k fun KS209 ks209 => (wp_cond_f (by kernel_rfl) (xexit (then_x (then_x (inBlock_hit ?_)))))))))
       have q0 := of_some h
       subst q0
       exact exq_n (nn7 _ _ ⟨(hs.conv rfl), exg (by kernel_rfl)⟩)
     clear hs h hy
     rintro a w ⟨hs, g198, rfl⟩
     have h := hk7
     refine qn193 _ _ (post_nrm (by kernel_rfl) (run_results [] [] (by kernel_rfl) .nil) ?_)
     refine kI193 _ _ ?_
     refine ⟨fun _ => trivial, ?_⟩
     refine wpS.fin rfl (kr192 _ _ (then_n (ks191 _ _ (xseq_k fun KS210 ks210 => (xregS [0, 1] fun KR211 kr211 => ?_)))))
     refine wpS.tk 0 true (some 52) (.agg (enc .u8 y84).toArray) (yld_loadW (e := 42) (n := 16) hs 1 rfl (by kernel_rfl) (by kernel_rfl) (by kernel_rfl) (by exact enc_len _ _) .grow) ?_
     refine wpS.only 1 (op_storeW (t := 42) (v := .agg (enc .u8 y84).toArray) (d := none) (by kernel_rfl) hs 0 rfl (vs := enc .u8 y84) (n := 16) (by kernel_rfl) (by kernel_rfl) (by kernel_rfl) (by simp [enc_len]) (by simp [enc_len]) (by intro u hu; exact enc_one _ _ u hu) ?_)
     intro w kp hs
     refine ⟨fun _ => trivial, ?_⟩
     refine wpS.fin rfl (kr211 _ _ (then_n (ks210 _ _ (xret ?_))))
     refine qq131 _ _ (post_ret (by kernel_rfl) (run_results [.cell 4 42] [.agg (enc .u8 y84).toArray] (by kernel_rfl) (.cons (res_cellN (n := 16) hs 0 rfl (by kernel_rfl) (by kernel_rfl) (by kernel_rfl) (by exact enc_len _ _)) .nil)) ?_)
     refine kI131 _ _ ?_
     refine ⟨⟨fun hf => absurd hf (by decide), (keepW hsB132 hs)⟩, ?_⟩
     refine wpG.only 6 (by kernel_rfl) (op_alloc (t := 42) (d := (some 7)) (by kernel_rfl) hs (enc .u8 (zeroA 16)) (.agg (enc .u8 (zeroA 16)).toArray) (by kernel_rfl) (by kernel_rfl) (by kernel_rfl) ?_)
     intro b87 w gw hs
     refine ⟨.of gw, ?_⟩
     have hsB212 := hs
     refine wpG.only 7 (by kernel_rfl) (op_storeW (t := 42) (v := .agg (enc .u8 y84).toArray) (d := none) (by kernel_rfl) hs 0 rfl (vs := enc .u8 y84) (n := 16) (by kernel_rfl) (by kernel_rfl) (by kernel_rfl) (by simp [enc_len]) (by simp [enc_len]) (by intro u hu; exact enc_one _ _ u hu) ?_)
     intro w kp hs
     refine ⟨⟨fun hf => absurd hf (by decide), (keepW hsB212 hs)⟩, ?_⟩
     refine wpG.fin (by kernel_rfl) rfl (kr10 _ _ ?_)
     have q0 := of_some h
     subst q0
     exact nj _ _ ⟨b87, ((hs.drop (.cons_cons _ (.cons _ (.cons _ (.cons _ (.cons _ (.cons _ (.cons _ (.cons _ (.cons _ (.cons _ (.cons _ (.cons _ (.cons _ (.cons _ (.cons _ (.cons _ .slnil))))))))))))))))).pickR (pick_cons 1 rfl (pick_cons 2 rfl pick_nil))), exg (by kernel_rfl)⟩
    refine (op_alloc (t := 42) (d := (some 7)) (by kernel_rfl) hs (enc .u8 (zeroA 16)) (.agg (enc .u8 (zeroA 16)).toArray) (by kernel_rfl) (by kernel_rfl) (by kernel_rfl) ?_)
    intro b88 w gw hs
    refine ⟨.of gw, ?_⟩
    have hsB214 := hs
    refine wpG.only 5 (by kernel_rfl) (op_inline (d := (some 19)) (f := 53) (args := #[.pointer (some ⟨b6, 0, none⟩), .agg (enc .u8 (arrL 16 a1)).toArray]) (by kernel_rfl) (fun _ => by kernel_rfl) fun R213 kI213 => ?_)
    refine calls_k Try.func53 rfl fun Q213 qq213 => ?_
    refine wp_conv (a' := ⟨#[.pointer (some ⟨b6, 0, none⟩), .agg (enc .u8 (arrL 16 a1)).toArray, undef, undef, undef, undef, undef, undef, undef, undef, undef, undef, undef, undef, undef, undef, undef, undef, undef, undef, undef, undef, undef, undef, undef, undef, undef, undef, undef, undef, undef, undef, undef, undef, undef, undef, undef, undef, undef, undef, undef, undef, undef, undef, undef, undef, undef, undef, undef, undef, undef, undef, undef], []⟩) (by kernel_rfl) ?_
    refine xseq_k fun KS215 ks215 => ?_
    refine xregS [0, 1] fun KR216 kr216 => ?_
    refine wpS.only 0 (op_box (t := 42) (v := .agg (enc .u8 (arrL 16 a1)).toArray) (d := (some 3)) (by kernel_rfl) hs (enc .u8 (arrL 16 a1)) (by kernel_rfl) (by kernel_rfl) ?_)
    intro b89 w gw hs
    refine ⟨fun _ => trivial, ?_⟩
    refine wpS.only 1 (op_alloc (t := 42) (d := (some 4)) (by kernel_rfl) hs (enc .u8 (zeroA 16)) (.agg (enc .u8 (zeroA 16)).toArray) (by kernel_rfl) (by kernel_rfl) (by kernel_rfl) ?_)
    intro b90 w gw hs
    refine ⟨fun _ => trivial, ?_⟩
    refine wpS.fin rfl (kr216 _ _ (then_n (ks215 _ _ (xseq_k fun KS217 ks217 => (xregS [0, 1, 2, 3, 4, 5, 6] fun KR218 kr218 => ?_)))))
    refine wpS.qs [(0, 9, .pointer (some ⟨b6, 0, none⟩)), (1, 10, .pointer (some ⟨b6, 0, none⟩)), (2, 11, .pointer (some ⟨b6, 1, none⟩))] ?_
    refine wpS.tk 3 true (some 12) (.slice y48_A y48_n y48_c) (yld_load1 (e := 96) (o := 1) hs 14 rfl (by kernel_rfl) (by kernel_rfl) (by rfl) .grow) ?_
    refine wpS.tk 4 false (some 13) (.int .i64 (y48.length : Int)) (yld_lenL (hs.rowL 3 rfl) (fun _ => by kernel_rfl)) ?_
    refine wpS.q 5 14 (.int .i64 (isub .i64 (y48.length : Int) 1)) ?_
    obtain ⟨x91, hx, h⟩ := of_bind h
    refine wpS.tk 6 false (some 5) (.int .i64 x91) (yld_int hx (fun _ => by kernel_rfl)) ?_
    refine wpS.fin rfl (kr218 _ _ (then_n (ks217 _ _ (xseq_k fun KS219 ks219 => (xseq_k fun KS220 ks220 => (xregS [0, 1] fun KR221 kr221 => ?_))))))
    refine wpS.qs [(0, 15, .int .i64 x91), (1, 6, .int .i64 x91)] ?_
    refine wpS.fin rfl (kr221 _ _ (then_n (ks220 _ _ ?_)))
    obtain ⟨y94, hy, hk4⟩ := of_bind h
    refine wp_exq (N := fun a w => St w0 [] [.blk b90 (enc .u8 (zeroA 16)) 42, .blk b89 (enc .u8 y94) 42, .blk b88 (enc .u8 (zeroA 16)) 42, .ownL (CA .u8 16 (by decide)) y48_A y48_n y48_c y48 42, .obj l91 (.loop (rec91 .exhausted none)), .obj D91 (.deferred none), .blk b44 ([.int .i64 4]) 3, .blk b43 ([.slice y29_A y29_n y29_c]) 99, .obj l33 (.loop (rec33 .exhausted none)), .obj D33 (.deferred none), .blk b12 ([.int .i64 4]) 3, .blk b11 ([.slice a0_A a0_n a0_c]) 26, .blk b10 ([.slice y29_A y29_n y29_c]) 99, .blk b7 ([.pointer (some ⟨b6, 0, none⟩)]) 53, .blk b6 ([.pointer (some ⟨b5, 0, none⟩), .slice y48_A y48_n y48_c]) 98, .blk b5 (([] : List Value) ++ enc .u8 r4_0 ++ enc .u8 r4_1 ++ ([] : List Value)) 48] [.rowL (CA .u8 4 (by decide)) y29_A y29_n y29_c y29, .rowL (CI .u8) a0_A a0_n a0_c a0, .rowL (CI .u8) a1_A a1_n a1_c a1] w ∧ ∃ g223 : Nat → Value, a = ⟨#[.pointer (some ⟨b6, 0, none⟩), .agg (enc .u8 (arrL 16 a1)).toArray, undef, .pointer (some ⟨b89, 0, none⟩), .pointer (some ⟨b90, 0, none⟩), .int .i64 x91, (g223 6), (g223 7), (g223 8), .pointer (some ⟨b6, 0, none⟩), .pointer (some ⟨b6, 0, none⟩), .pointer (some ⟨b6, 1, none⟩), .slice y48_A y48_n y48_c, .int .i64 (y48.length : Int), .int .i64 (isub .i64 (y48.length : Int) 1), .int .i64 x91, (g223 16), (g223 17), (g223 18), (g223 19), (g223 20), (g223 21), (g223 22), (g223 23), (g223 24), (g223 25), (g223 26), (g223 27), (g223 28), (g223 29), (g223 30), (g223 31), (g223 32), (g223 33), (g223 34), (g223 35), (g223 36), (g223 37), (g223 38), (g223 39), (g223 40), (g223 41), (g223 42), (g223 43), (g223 44), (g223 45), (g223 46), (g223 47), (g223 48), (g223 49), undef, undef, undef], []⟩) (fun N4 nn4 => ?_) ?_
    ·clear hk4
     refine xblock ?_
     refine wp_loop_k (fun n a w => ∃ z92 z93, aes_Back.l4 K n r4_1 y48 x91 z92 z93 = some y94 ∧ St w0 [] [.blk b90 (enc .u8 (zeroA 16)) 42, .blk b89 (enc .u8 z93) 42, .blk b88 (enc .u8 (zeroA 16)) 42, .ownL (CA .u8 16 (by decide)) y48_A y48_n y48_c y48 42, .obj l91 (.loop (rec91 .exhausted none)), .obj D91 (.deferred none), .blk b44 ([.int .i64 4]) 3, .blk b43 ([.slice y29_A y29_n y29_c]) 99, .obj l33 (.loop (rec33 .exhausted none)), .obj D33 (.deferred none), .blk b12 ([.int .i64 4]) 3, .blk b11 ([.slice a0_A a0_n a0_c]) 26, .blk b10 ([.slice y29_A y29_n y29_c]) 99, .blk b7 ([.pointer (some ⟨b6, 0, none⟩)]) 53, .blk b6 ([.pointer (some ⟨b5, 0, none⟩), .slice y48_A y48_n y48_c]) 98, .blk b5 (([] : List Value) ++ enc .u8 r4_0 ++ enc .u8 r4_1 ++ ([] : List Value)) 48] [.rowL (CA .u8 4 (by decide)) y29_A y29_n y29_c y29, .rowL (CI .u8) a0_A a0_n a0_c a0, .rowL (CI .u8) a1_A a1_n a1_c a1] w ∧ ∃ g222 : Nat → Value, a = ⟨#[.pointer (some ⟨b6, 0, none⟩), .agg (enc .u8 (arrL 16 a1)).toArray, undef, .pointer (some ⟨b89, 0, none⟩), .pointer (some ⟨b90, 0, none⟩), .int .i64 x91, .int .i64 z92, (g222 7), (g222 8), .pointer (some ⟨b6, 0, none⟩), .pointer (some ⟨b6, 0, none⟩), .pointer (some ⟨b6, 1, none⟩), .slice y48_A y48_n y48_c, .int .i64 (y48.length : Int), .int .i64 (isub .i64 (y48.length : Int) 1), .int .i64 x91, (g222 16), (g222 17), (g222 18), (g222 19), (g222 20), (g222 21), (g222 22), (g222 23), (g222 24), (g222 25), (g222 26), (g222 27), (g222 28), (g222 29), (g222 30), (g222 31), (g222 32), (g222 33), (g222 34), (g222 35), (g222 36), (g222 37), (g222 38), (g222 39), (g222 40), (g222 41), (g222 42), (g222 43), (g222 44), (g222 45), (g222 46), (g222 47), (g222 48), (g222 49), undef, undef, undef], []⟩) K ⟨x91, (arrL 16 a1), hy, hs.conv rfl, exg (by kernel_rfl)⟩ ?_
     clear hs h hy
     rintro n a w ⟨z92, z93, h, hs, g222, rfl⟩ KL4 kl4
     cases n with
     | zero => exact nomatch (show none = some _ from h)
     | succ n =>
      refine xseq_k fun KS224 ks224 => ?_
      refine xseq_k fun KS225 ks225 => ?_
      refine xregS [0, 1] fun KR226 kr226 => ?_
      refine wpS.q 0 16 (.int .i64 z92) ?_
      rcases of_if h with ⟨hc, h⟩ | ⟨hc, h⟩
      ·refine wpS.tk 1 false (some 17) (.bool true) (yld_b (dt hc) (fun _ => by kernel_rfl)) ?_
       refine wpS.fin rfl (kr226 _ _ (then_n (ks225 _ _ (wp_cond_t (by kernel_rfl) (xskip (then_n (ks224 _ _ (xseq_k fun KS227 ks227 => (xblock (xseq_k fun KS228 ks228 => (xregS [0, 1, 2] fun KR229 kr229 => ?_)))))))))))
       refine wpS.qs [(0, 20, .pointer (some ⟨b6, 0, none⟩)), (1, 21, .int .i64 z92)] ?_
       refine wpS.only 2 (op_inline (d := (some 22)) (f := 86) (args := #[.pointer (some ⟨b6, 0, none⟩), .pointer (some ⟨b89, 0, none⟩), .int .i64 z92]) (by kernel_rfl) (fun _ => by kernel_rfl) fun R230 kI230 => ?_)
       refine calls_kn Try.func86 rfl fun Q230 qq230 qn230 => ?_
       refine wp_conv (a' := ⟨#[.pointer (some ⟨b6, 0, none⟩), .pointer (some ⟨b89, 0, none⟩), .int .i64 z92, undef, undef, undef, undef, undef, undef, undef, undef, undef, undef, undef, undef, undef, undef, undef, undef, undef, undef, undef, undef, undef, undef, undef, undef, undef, undef], []⟩) (by kernel_rfl) ?_
       refine xseq_k fun KS231 ks231 => ?_
       refine xregS [0, 1, 2, 3, 4, 5, 6, 7] fun KR232 kr232 => ?_
       refine wpS.qs [(0, 8, .pointer (some ⟨b6, 0, none⟩)), (1, 9, .pointer (some ⟨b6, 0, none⟩)), (2, 10, .pointer (some ⟨b6, 1, none⟩))] ?_
       refine wpS.tk 3 true (some 11) (.slice y48_A y48_n y48_c) (yld_load1 (e := 96) (o := 1) hs 14 rfl (by kernel_rfl) (by kernel_rfl) (by rfl) .grow) ?_
       refine wpS.q 4 12 (.int .i64 z92) ?_
       obtain ⟨h0, h⟩ := of_chk h
       obtain ⟨h1, h⟩ := of_chk h
       have i0_233 := h0
       have i1_233 := h1
       refine wpS.tk 5 false (some 13) (.pointer (adr y48_A ((z92 : Int).toNat * Cod.size (CA .u8 16 (by decide))))) (yld_idxL (C := (CA .u8 16 (by decide))) (t := 96) (e := 42) (k := .i64) (x := z92) (hs.rowL 3 rfl) (by kernel_rfl) (by kernel_rfl) (by kernel_rfl) h0 h1) ?_
       refine wpS.tk 6 true (some 14) (.agg (enc .u8 (rdL (CA .u8 16 (by decide)) y48 z92)).toArray) (yld_loadLA (C := (CA .u8 16 (by decide))) (e := 42) (x := z92) (hs.rowL 3 rfl) (by kernel_rfl) rfl (by kernel_rfl) (by kernel_rfl) i0_233 i1_233) ?_
       refine wpS.q 7 15 (.int .i64 0) ?_
       refine wpS.fin rfl (kr232 _ _ (then_n (ks231 _ _ ?_)))
       obtain ⟨y97, hy, hk5⟩ := of_bind h
       refine wp_exq (N := fun a w => St w0 [] [.blk b90 (enc .u8 (zeroA 16)) 42, .blk b89 (enc .u8 y97) 42, .blk b88 (enc .u8 (zeroA 16)) 42, .ownL (CA .u8 16 (by decide)) y48_A y48_n y48_c y48 42, .obj l91 (.loop (rec91 .exhausted none)), .obj D91 (.deferred none), .blk b44 ([.int .i64 4]) 3, .blk b43 ([.slice y29_A y29_n y29_c]) 99, .obj l33 (.loop (rec33 .exhausted none)), .obj D33 (.deferred none), .blk b12 ([.int .i64 4]) 3, .blk b11 ([.slice a0_A a0_n a0_c]) 26, .blk b10 ([.slice y29_A y29_n y29_c]) 99, .blk b7 ([.pointer (some ⟨b6, 0, none⟩)]) 53, .blk b6 ([.pointer (some ⟨b5, 0, none⟩), .slice y48_A y48_n y48_c]) 98, .blk b5 (([] : List Value) ++ enc .u8 r4_0 ++ enc .u8 r4_1 ++ ([] : List Value)) 48] [.rowL (CA .u8 4 (by decide)) y29_A y29_n y29_c y29, .rowL (CI .u8) a0_A a0_n a0_c a0, .rowL (CI .u8) a1_A a1_n a1_c a1] w ∧ ∃ g235 : Nat → Value, a = ⟨#[.pointer (some ⟨b6, 0, none⟩), .pointer (some ⟨b89, 0, none⟩), .int .i64 z92, undef, undef, undef, (g235 6), (g235 7), .pointer (some ⟨b6, 0, none⟩), .pointer (some ⟨b6, 0, none⟩), .pointer (some ⟨b6, 1, none⟩), .slice y48_A y48_n y48_c, .int .i64 z92, .pointer (adr y48_A ((z92 : Int).toNat * Cod.size (CA .u8 16 (by decide)))), .agg (enc .u8 (rdL (CA .u8 16 (by decide)) y48 z92)).toArray, (g235 15), (g235 16), (g235 17), (g235 18), (g235 19), (g235 20), (g235 21), (g235 22), (g235 23), (g235 24), (g235 25), (g235 26), (g235 27), (g235 28)], []⟩) (fun N5 nn5 => ?_) ?_
       ·clear hk5
        refine xblock ?_
        refine wp_loop_k (fun n a w => ∃ z95 z96, aes_Back.l5 K n y48 z92 z95 z96 = some y97 ∧ St w0 [] [.blk b90 (enc .u8 (zeroA 16)) 42, .blk b89 (enc .u8 z96) 42, .blk b88 (enc .u8 (zeroA 16)) 42, .ownL (CA .u8 16 (by decide)) y48_A y48_n y48_c y48 42, .obj l91 (.loop (rec91 .exhausted none)), .obj D91 (.deferred none), .blk b44 ([.int .i64 4]) 3, .blk b43 ([.slice y29_A y29_n y29_c]) 99, .obj l33 (.loop (rec33 .exhausted none)), .obj D33 (.deferred none), .blk b12 ([.int .i64 4]) 3, .blk b11 ([.slice a0_A a0_n a0_c]) 26, .blk b10 ([.slice y29_A y29_n y29_c]) 99, .blk b7 ([.pointer (some ⟨b6, 0, none⟩)]) 53, .blk b6 ([.pointer (some ⟨b5, 0, none⟩), .slice y48_A y48_n y48_c]) 98, .blk b5 (([] : List Value) ++ enc .u8 r4_0 ++ enc .u8 r4_1 ++ ([] : List Value)) 48] [.rowL (CA .u8 4 (by decide)) y29_A y29_n y29_c y29, .rowL (CI .u8) a0_A a0_n a0_c a0, .rowL (CI .u8) a1_A a1_n a1_c a1] w ∧ ∃ g234 : Nat → Value, a = ⟨#[.pointer (some ⟨b6, 0, none⟩), .pointer (some ⟨b89, 0, none⟩), .int .i64 z92, undef, undef, undef, (g234 6), (g234 7), .pointer (some ⟨b6, 0, none⟩), .pointer (some ⟨b6, 0, none⟩), .pointer (some ⟨b6, 1, none⟩), .slice y48_A y48_n y48_c, .int .i64 z92, .pointer (adr y48_A ((z92 : Int).toNat * Cod.size (CA .u8 16 (by decide)))), .agg (enc .u8 (rdL (CA .u8 16 (by decide)) y48 z92)).toArray, .int .i64 z95, (g234 16), (g234 17), (g234 18), (g234 19), (g234 20), (g234 21), (g234 22), (g234 23), (g234 24), (g234 25), (g234 26), (g234 27), (g234 28)], []⟩) K ⟨0, z93, hy, hs.conv rfl, exg (by kernel_rfl)⟩ ?_
        clear hs h hy
        rintro n a w ⟨z95, z96, h, hs, g234, rfl⟩ KL5 kl5
        cases n with
        | zero => exact nomatch (show none = some _ from h)
        | succ n =>
         refine xseq_k fun KS236 ks236 => ?_
         refine xregS [0] fun KR237 kr237 => ?_
         rcases of_if h with ⟨hc, h⟩ | ⟨hc, h⟩
         ·refine wpS.tk 0 false (some 16) (.bool true) (yld_b (dt hc) (fun _ => by kernel_rfl)) ?_
          refine wpS.fin rfl (kr237 _ _ (then_n (ks236 _ _ (xseq_k fun KS238 ks238 => (wp_cond_t (by kernel_rfl) (xskip (then_n (ks238 _ _ (xseq_k fun KS239 ks239 => (xblock (xseq_k fun KS240 ks240 => (xregS [0, 1, 2, 3] fun KR241 kr241 => ?_))))))))))))
          refine wpS.q 0 17 (.int .i64 z95) ?_
          obtain ⟨h0, h⟩ := of_chk h
          obtain ⟨h1, h⟩ := of_chk h
          refine wpS.tk 1 false (some 18) (.int .u8 (rd (rdL (CA .u8 16 (by decide)) y48 z92) z95)) (yld_at (t := 42) (e := 5) (k' := .i64) (by kernel_rfl) (by kernel_rfl) (by kernel_rfl) (by kernel_rfl) h0 h1) ?_
          refine wpS.q 2 6 (.int .i64 z95) ?_
          obtain ⟨x98, hx, h⟩ := of_bind h
          refine wpS.tk 3 false (some 7) (.int .u8 x98) (yld_int hx (fun _ => by kernel_rfl)) ?_
          refine wpS.fin rfl (kr241 _ _ (then_n (ks240 _ _ ?_)))
          refine wp_regG [9] (fun k => True) 10 (by kernel_rfl) (by kernel_rfl) (by kernel_rfl) fun KR242 kr242 => ?_
          have hs := hs.drawn1
          refine wpG.q 0 19 (.pointer (some ⟨b89, 0, none⟩)) ?_
          refine wpG.q 1 20 (.int .i64 z95) ?_
          refine wpG.q 2 21 (.pointer (some ⟨b89, 0, none⟩)) ?_
          obtain ⟨i0_243, h⟩ := of_chk h
          obtain ⟨i1_243, h⟩ := of_chk h
          refine wpG.tD 3 false (some 22) (.pointer (some ⟨b89, 0 + (z95 : Int).toNat * 1, none⟩)) (yld_idx (t := 42) (e := 5) (n := 16) (sz := 1) (k := .i64) (x := z95) (by kernel_rfl) (by kernel_rfl) (by kernel_rfl) i0_243 i1_243) ?_
          refine wpG.tD 4 true (some 23) (.int .u8 (rd z96 z95)) (yld_loadA (e := 5) (x := z95) hs 1 rfl (by kernel_rfl) (by kernel_rfl) i0_243 i1_243 .grow) ?_
          refine wpG.q 5 24 (.int .u8 x98) ?_
          refine wpG.q 6 25 (.int .u8 (ixor .u8 (rd z96 z95) x98)) ?_
          refine wpG.q 7 26 (.pointer (some ⟨b89, 0, none⟩)) ?_
          obtain ⟨i0_244, h⟩ := of_chk h
          obtain ⟨i1_244, h⟩ := of_chk h
          refine wpG.tD 8 false (some 27) (.pointer (some ⟨b89, 0 + (z95 : Int).toNat * 1, none⟩)) (yld_idx (t := 42) (e := 5) (n := 16) (sz := 1) (k := .i64) (x := z95) (by kernel_rfl) (by kernel_rfl) (by kernel_rfl) i0_244 i1_244) ?_
          obtain ⟨x99, hx, h⟩ := of_bind h
          refine wpG.only 9 (by kernel_rfl) (op_storeA (t := 5) (x := z95) (v := x99) (d := none) (by kernel_rfl) hs 1 rfl (by cases hx; kernel_rfl) (by kernel_rfl) i0_244 i1_244 ?_)
          intro w kp hs
          refine ⟨⟨fun hf => absurd hf (by decide), .all _ _⟩, ?_⟩
          refine wpG.fin (by kernel_rfl) rfl (kr242 _ _ ?_)
          refine inBlock_n (then_n (ks239 _ _ (xregS [0, 1] fun KR245 kr245 => ?_)))
          refine wpS.qs [(0, 28, .int .i64 (iadd .i64 z95 1)), (1, 15, .int .i64 (iadd .i64 z95 1))] ?_
          refine wpS.fin rfl (kr245 _ _ ?_)
          exact then_n (kl5 _ _ ⟨n, Nat.lt_succ_self n, (iadd .i64 z95 1), (wr z96 z95 x99), h, (hs.conv rfl), exg (by kernel_rfl)⟩)
         refine wpS.tk 0 false (some 16) (.bool false) (yld_b (df hc) (fun _ => by kernel_rfl)) ?_
         refine wpS.fin rfl (kr237 _ _ (then_n (ks236 _ _ (xseq_k fun KS246 ks246 => (wp_cond_f (by kernel_rfl) (xexit (then_x (then_x (inBlock_hit ?_)))))))))
         have q0 := of_some h
         subst q0
         exact exq_n (nn5 _ _ ⟨(hs.conv rfl), exg (by kernel_rfl)⟩)
       clear hs h hy
       rintro a w ⟨hs, g235, rfl⟩
       have h := hk5
       refine qn230 _ _ (post_nrm (by kernel_rfl) (run_results [] [] (by kernel_rfl) .nil) ?_)
       refine kI230 _ _ ?_
       refine ⟨fun _ => trivial, ?_⟩
       refine wpS.fin rfl (kr229 _ _ (then_n (ks228 _ _ ?_)))
       obtain ⟨y100, hj, h⟩ := of_bind h
       refine xseq_k fun KS248 ks248 => wp_join (N := fun a w => St w0 [] [.blk b90 (enc .u8 (zeroA 16)) 42, .blk b89 (enc .u8 y100) 42, .blk b88 (enc .u8 (zeroA 16)) 42, .ownL (CA .u8 16 (by decide)) y48_A y48_n y48_c y48 42, .obj l91 (.loop (rec91 .exhausted none)), .obj D91 (.deferred none), .blk b44 ([.int .i64 4]) 3, .blk b43 ([.slice y29_A y29_n y29_c]) 99, .obj l33 (.loop (rec33 .exhausted none)), .obj D33 (.deferred none), .blk b12 ([.int .i64 4]) 3, .blk b11 ([.slice a0_A a0_n a0_c]) 26, .blk b10 ([.slice y29_A y29_n y29_c]) 99, .blk b7 ([.pointer (some ⟨b6, 0, none⟩)]) 53, .blk b6 ([.pointer (some ⟨b5, 0, none⟩), .slice y48_A y48_n y48_c]) 98, .blk b5 (([] : List Value) ++ enc .u8 r4_0 ++ enc .u8 r4_1 ++ ([] : List Value)) 48] [.rowL (CA .u8 4 (by decide)) y29_A y29_n y29_c y29, .rowL (CI .u8) a0_A a0_n a0_c a0, .rowL (CI .u8) a1_A a1_n a1_c a1] w ∧ ∃ g247 : Nat → Value, a = ⟨#[.pointer (some ⟨b6, 0, none⟩), .agg (enc .u8 (arrL 16 a1)).toArray, undef, .pointer (some ⟨b89, 0, none⟩), .pointer (some ⟨b90, 0, none⟩), .int .i64 x91, .int .i64 z92, (g222 7), (g222 8), .pointer (some ⟨b6, 0, none⟩), .pointer (some ⟨b6, 0, none⟩), .pointer (some ⟨b6, 1, none⟩), .slice y48_A y48_n y48_c, .int .i64 (y48.length : Int), .int .i64 (isub .i64 (y48.length : Int) 1), .int .i64 x91, .int .i64 z92, .bool true, (g222 18), (g222 19), .pointer (some ⟨b6, 0, none⟩), .int .i64 z92, .tuple #[], (g247 23), (g247 24), (g247 25), (g247 26), (g222 27), (g222 28), (g222 29), (g222 30), (g222 31), (g222 32), (g222 33), (g222 34), (g222 35), (g222 36), (g222 37), (g222 38), (g222 39), (g222 40), (g222 41), (g222 42), (g222 43), (g222 44), (g222 45), (g222 46), (g222 47), (g222 48), (g222 49), undef, undef, undef], []⟩) (fun N nj => ?_) ?_
       ·clear h
        have h := hj
        refine xseq_k fun KS249 ks249 => ?_
        refine xregS [0, 1, 2] fun KR250 kr250 => ?_
        refine wpS.qs [(0, 23, .int .i64 z92), (1, 24, .int .i64 x91)] ?_
        rcases of_if h with ⟨hc, h⟩ | ⟨hc, h⟩
        ·refine wpS.tk 2 false (some 25) (.bool true) (yld_b (dt hc) (fun _ => by kernel_rfl)) ?_
         refine wpS.fin rfl (kr250 _ _ (then_n (ks249 _ _ (wp_cond_t (by kernel_rfl) (xregS [0] fun KR251 kr251 => ?_)))))
         obtain ⟨r101, hg, h⟩ := of_bind h
         refine wpS.only 0 (op_callX (d := (some 26)) (by kernel_rfl) hs 1 rfl (fun _ => by kernel_rfl) (aes_unmix.ok hg _ (hs.blkAt 1 rfl)) ?_)
         intro w kp hs
         have hs := hs.conv (L' := [.blk b90 (enc .u8 (zeroA 16)) 42, .blk b89 (enc .u8 r101) 42, .blk b88 (enc .u8 (zeroA 16)) 42, .ownL (CA .u8 16 (by decide)) y48_A y48_n y48_c y48 42, .obj l91 (.loop (rec91 .exhausted none)), .obj D91 (.deferred none), .blk b44 ([.int .i64 4]) 3, .blk b43 ([.slice y29_A y29_n y29_c]) 99, .obj l33 (.loop (rec33 .exhausted none)), .obj D33 (.deferred none), .blk b12 ([.int .i64 4]) 3, .blk b11 ([.slice a0_A a0_n a0_c]) 26, .blk b10 ([.slice y29_A y29_n y29_c]) 99, .blk b7 ([.pointer (some ⟨b6, 0, none⟩)]) 53, .blk b6 ([.pointer (some ⟨b5, 0, none⟩), .slice y48_A y48_n y48_c]) 98, .blk b5 (([] : List Value) ++ enc .u8 r4_0 ++ enc .u8 r4_1 ++ ([] : List Value)) 48]) rfl
         refine ⟨fun _ => trivial, ?_⟩
         refine wpS.fin rfl (kr251 _ _ ?_)
         have q0 := of_some h
         subst q0
         exact nj _ _ ⟨(hs.conv rfl), exg (by kernel_rfl)⟩
        refine wpS.tk 2 false (some 25) (.bool false) (yld_b (df hc) (fun _ => by kernel_rfl)) ?_
        refine wpS.fin rfl (kr250 _ _ (then_n (ks249 _ _ (wp_cond_f (by kernel_rfl) (xskip ?_)))))
        have q0 := of_some h
        subst q0
        exact nj _ _ ⟨(hs.conv rfl), exg (by kernel_rfl)⟩
       clear hj hs
       rintro a w ⟨hs, g247, rfl⟩
       refine then_n (ks248 _ _ (xseq_k fun KS252 ks252 => (xregS [0] fun KR253 kr253 => ?_)))
       refine wpS.only 0 (op_alloc (t := 42) (d := (some 7)) (by kernel_rfl) hs (enc .u8 (zeroA 16)) (.agg (enc .u8 (zeroA 16)).toArray) (by kernel_rfl) (by kernel_rfl) (by kernel_rfl) ?_)
       intro b102 w gw hs
       refine ⟨fun _ => trivial, ?_⟩
       refine wpS.fin rfl (kr253 _ _ (then_n (ks252 _ _ (xseq_k fun KS254 ks254 => (xseq_k fun KS255 ks255 => (xregS [0] fun KR256 kr256 => ?_))))))
       refine wpS.q 0 27 (.int .i64 0) ?_
       refine wpS.fin rfl (kr256 _ _ (then_n (ks255 _ _ ?_)))
       obtain ⟨y105, hy, hk6⟩ := of_bind h
       refine wp_exq (N := fun a w => St w0 [] [.blk b102 (enc .u8 y105) 42, .blk b90 (enc .u8 (zeroA 16)) 42, .blk b89 (enc .u8 y100) 42, .blk b88 (enc .u8 (zeroA 16)) 42, .ownL (CA .u8 16 (by decide)) y48_A y48_n y48_c y48 42, .obj l91 (.loop (rec91 .exhausted none)), .obj D91 (.deferred none), .blk b44 ([.int .i64 4]) 3, .blk b43 ([.slice y29_A y29_n y29_c]) 99, .obj l33 (.loop (rec33 .exhausted none)), .obj D33 (.deferred none), .blk b12 ([.int .i64 4]) 3, .blk b11 ([.slice a0_A a0_n a0_c]) 26, .blk b10 ([.slice y29_A y29_n y29_c]) 99, .blk b7 ([.pointer (some ⟨b6, 0, none⟩)]) 53, .blk b6 ([.pointer (some ⟨b5, 0, none⟩), .slice y48_A y48_n y48_c]) 98, .blk b5 (([] : List Value) ++ enc .u8 r4_0 ++ enc .u8 r4_1 ++ ([] : List Value)) 48] [.rowL (CA .u8 4 (by decide)) y29_A y29_n y29_c y29, .rowL (CI .u8) a0_A a0_n a0_c a0, .rowL (CI .u8) a1_A a1_n a1_c a1] w ∧ ∃ g258 : Nat → Value, a = ⟨#[.pointer (some ⟨b6, 0, none⟩), .agg (enc .u8 (arrL 16 a1)).toArray, undef, .pointer (some ⟨b89, 0, none⟩), .pointer (some ⟨b90, 0, none⟩), .int .i64 x91, .int .i64 z92, .pointer (some ⟨b102, 0, none⟩), (g258 8), .pointer (some ⟨b6, 0, none⟩), .pointer (some ⟨b6, 0, none⟩), .pointer (some ⟨b6, 1, none⟩), .slice y48_A y48_n y48_c, .int .i64 (y48.length : Int), .int .i64 (isub .i64 (y48.length : Int) 1), .int .i64 x91, .int .i64 z92, .bool true, (g222 18), (g222 19), .pointer (some ⟨b6, 0, none⟩), .int .i64 z92, .tuple #[], (g247 23), (g247 24), (g247 25), (g247 26), (g258 27), (g258 28), (g258 29), (g258 30), (g258 31), (g258 32), (g258 33), (g258 34), (g258 35), (g258 36), (g258 37), (g258 38), (g258 39), (g258 40), (g258 41), (g258 42), (g258 43), (g258 44), (g258 45), (g258 46), (g258 47), (g258 48), (g222 49), undef, undef, undef], []⟩) (fun N6 nn6 => ?_) ?_
       ·clear hk6
        refine xblock ?_
        refine wp_loop_k (fun n a w => ∃ z103 z104, aes_Back.l6 K n r4_1 y100 z103 z104 = some y105 ∧ St w0 [] [.blk b102 (enc .u8 z104) 42, .blk b90 (enc .u8 (zeroA 16)) 42, .blk b89 (enc .u8 y100) 42, .blk b88 (enc .u8 (zeroA 16)) 42, .ownL (CA .u8 16 (by decide)) y48_A y48_n y48_c y48 42, .obj l91 (.loop (rec91 .exhausted none)), .obj D91 (.deferred none), .blk b44 ([.int .i64 4]) 3, .blk b43 ([.slice y29_A y29_n y29_c]) 99, .obj l33 (.loop (rec33 .exhausted none)), .obj D33 (.deferred none), .blk b12 ([.int .i64 4]) 3, .blk b11 ([.slice a0_A a0_n a0_c]) 26, .blk b10 ([.slice y29_A y29_n y29_c]) 99, .blk b7 ([.pointer (some ⟨b6, 0, none⟩)]) 53, .blk b6 ([.pointer (some ⟨b5, 0, none⟩), .slice y48_A y48_n y48_c]) 98, .blk b5 (([] : List Value) ++ enc .u8 r4_0 ++ enc .u8 r4_1 ++ ([] : List Value)) 48] [.rowL (CA .u8 4 (by decide)) y29_A y29_n y29_c y29, .rowL (CI .u8) a0_A a0_n a0_c a0, .rowL (CI .u8) a1_A a1_n a1_c a1] w ∧ ∃ g257 : Nat → Value, a = ⟨#[.pointer (some ⟨b6, 0, none⟩), .agg (enc .u8 (arrL 16 a1)).toArray, undef, .pointer (some ⟨b89, 0, none⟩), .pointer (some ⟨b90, 0, none⟩), .int .i64 x91, .int .i64 z92, .pointer (some ⟨b102, 0, none⟩), (g257 8), .pointer (some ⟨b6, 0, none⟩), .pointer (some ⟨b6, 0, none⟩), .pointer (some ⟨b6, 1, none⟩), .slice y48_A y48_n y48_c, .int .i64 (y48.length : Int), .int .i64 (isub .i64 (y48.length : Int) 1), .int .i64 x91, .int .i64 z92, .bool true, (g222 18), (g222 19), .pointer (some ⟨b6, 0, none⟩), .int .i64 z92, .tuple #[], (g247 23), (g247 24), (g247 25), (g247 26), .int .i64 z103, (g257 28), (g257 29), (g257 30), (g257 31), (g257 32), (g257 33), (g257 34), (g257 35), (g257 36), (g257 37), (g257 38), (g257 39), (g257 40), (g257 41), (g257 42), (g257 43), (g257 44), (g257 45), (g257 46), (g257 47), (g257 48), (g222 49), undef, undef, undef], []⟩) K ⟨0, (zeroA 16), hy, hs.conv rfl, exg (by kernel_rfl)⟩ ?_
        clear hs h hy
        rintro n a w ⟨z103, z104, h, hs, g257, rfl⟩ KL6 kl6
        cases n with
        | zero => exact nomatch (show none = some _ from h)
        | succ n =>
         refine xseq_k fun KS259 ks259 => ?_
         refine xregS [0] fun KR260 kr260 => ?_
         rcases of_if h with ⟨hc, h⟩ | ⟨hc, h⟩
         ·refine wpS.tk 0 false (some 28) (.bool true) (yld_b (dt hc) (fun _ => by kernel_rfl)) ?_
          refine wpS.fin rfl (kr260 _ _ (then_n (ks259 _ _ (xseq_k fun KS261 ks261 => (wp_cond_t (by kernel_rfl) (xskip (then_n (ks261 _ _ (xseq_k fun KS262 ks262 => (xblock (xseq_k fun KS263 ks263 => (xregS [0, 1] fun KR264 kr264 => ?_))))))))))))
          refine wpS.qs [(0, 29, .int .i64 z103), (1, 8, .int .i64 z103)] ?_
          refine wpS.fin rfl (kr264 _ _ (then_n (ks263 _ _ ?_)))
          refine wp_regG [18] (fun k => True) 19 (by kernel_rfl) (by kernel_rfl) (by kernel_rfl) fun KR265 kr265 => ?_
          have hs := hs.drawn1
          refine wpG.q 0 30 (.int .i64 z103) ?_
          refine wpG.q 1 31 (.int .i64 z103) ?_
          refine wpG.q 2 32 (.int .i64 (irem .i64 z103 4)) ?_
          refine wpG.q 3 33 (.int .i64 (imul .i64 4 (irem .i64 z103 4))) ?_
          refine wpG.q 4 34 (.int .i64 (iadd .i64 z103 (imul .i64 4 (irem .i64 z103 4)))) ?_
          refine wpG.q 5 35 (.int .i64 (irem .i64 (iadd .i64 z103 (imul .i64 4 (irem .i64 z103 4))) 16)) ?_
          refine wpG.q 6 36 (.pointer (some ⟨b6, 0, none⟩)) ?_
          refine wpG.q 7 37 (.pointer (some ⟨b6, 0, none⟩)) ?_
          refine wpG.q 8 38 (.pointer (some ⟨b6, 0, none⟩)) ?_
          refine wpG.tD 9 true (some 39) (.pointer (some ⟨b5, 0, none⟩)) (yld_load1 (e := 49) (o := 0) hs 15 rfl (by kernel_rfl) (by kernel_rfl) (by rfl) .grow) ?_
          refine wpG.q 10 40 (.int .i64 z103) ?_
          obtain ⟨i0_266, h⟩ := of_chk h
          obtain ⟨i1_266, h⟩ := of_chk h
          refine wpG.tD 11 false (some 41) (.pointer (some ⟨b89, 0 + (z103 : Int).toNat * 1, none⟩)) (yld_idx (t := 42) (e := 5) (n := 16) (sz := 1) (k := .i64) (x := z103) (by kernel_rfl) (by kernel_rfl) (by kernel_rfl) i0_266 i1_266) ?_
          refine wpG.tD 12 true (some 42) (.int .u8 (rd y100 z103)) (yld_loadA (e := 5) (x := z103) hs 2 rfl (by kernel_rfl) (by kernel_rfl) i0_266 i1_266 .grow) ?_
          refine wpG.q 13 43 (.pointer (some ⟨b5, 0, none⟩)) ?_
          refine wpG.q 14 44 (.pointer (some ⟨b5, 256, none⟩)) ?_
          obtain ⟨x106, hx, h⟩ := of_bind h
          have hx := of_some hx
          subst hx
          obtain ⟨i0_267, h⟩ := of_chk h
          obtain ⟨i1_267, h⟩ := of_chk h
          refine wpG.tD 15 false (some 45) (.pointer (some ⟨b5, 256 + ((rd y100 z103) : Int).toNat * 1, none⟩)) (yld_idx (t := 46) (e := 5) (n := 256) (sz := 1) (k := .u8) (x := (rd y100 z103)) (by kernel_rfl) (by kernel_rfl) (by kernel_rfl) i0_267 i1_267) ?_
          refine wpG.tD 16 true (some 46) (.int .u8 (rd r4_1 (rd y100 z103))) (yld_loadR (m := 256) (k := .u8) (pre := enc .u8 r4_0) (post := ([] : List Value)) (c := r4_1) (e := 5) (x := (rd y100 z103)) hs 16 rfl (by simp only [List.append_assoc, List.nil_append, List.cons_append, List.append_nil]) (by kernel_rfl) (by kernel_rfl) i0_267 i1_267 (by simp [enc_len]) .grow) ?_
          obtain ⟨x107, hx, h⟩ := of_bind h
          have hx := of_some hx
          subst hx
          obtain ⟨i0_268, h⟩ := of_chk h
          obtain ⟨i1_268, h⟩ := of_chk h
          refine wpG.tD 17 false (some 47) (.pointer (some ⟨b102, 0 + ((irem .i64 (iadd .i64 z103 (imul .i64 4 (irem .i64 z103 4))) 16) : Int).toNat * 1, none⟩)) (yld_idx (t := 42) (e := 5) (n := 16) (sz := 1) (k := .i64) (x := (irem .i64 (iadd .i64 z103 (imul .i64 4 (irem .i64 z103 4))) 16)) (by kernel_rfl) (by kernel_rfl) (by kernel_rfl) i0_268 i1_268) ?_
          obtain ⟨x108, hx, h⟩ := of_bind h
          refine wpG.only 18 (by kernel_rfl) (op_storeA (t := 5) (x := (irem .i64 (iadd .i64 z103 (imul .i64 4 (irem .i64 z103 4))) 16)) (v := x108) (d := none) (by kernel_rfl) hs 0 rfl (by cases hx; kernel_rfl) (by kernel_rfl) i0_268 i1_268 ?_)
          intro w kp hs
          refine ⟨⟨fun hf => absurd hf (by decide), .all _ _⟩, ?_⟩
          refine wpG.fin (by kernel_rfl) rfl (kr265 _ _ ?_)
          refine inBlock_n (then_n (ks262 _ _ (xregS [0, 1] fun KR269 kr269 => ?_)))
          refine wpS.qs [(0, 48, .int .i64 (iadd .i64 z103 1)), (1, 27, .int .i64 (iadd .i64 z103 1))] ?_
          refine wpS.fin rfl (kr269 _ _ ?_)
          exact then_n (kl6 _ _ ⟨n, Nat.lt_succ_self n, (iadd .i64 z103 1), (wr z104 (irem .i64 (iadd .i64 z103 (imul .i64 4 (irem .i64 z103 4))) 16) x108), h, (hs.conv rfl), exg (by kernel_rfl)⟩)
         refine wpS.tk 0 false (some 28) (.bool false) (yld_b (df hc) (fun _ => by kernel_rfl)) ?_
         refine wpS.fin rfl (kr260 _ _ (then_n (ks259 _ _ (xseq_k fun KS270 ks270 => (wp_cond_f (by kernel_rfl) (xexit (then_x (then_x (inBlock_hit ?_)))))))))
         have q0 := of_some h
         subst q0
         exact exq_n (nn6 _ _ ⟨(hs.conv rfl), exg (by kernel_rfl)⟩)
       clear hs h hy
       rintro a w ⟨hs, g258, rfl⟩
       have h := hk6
       refine then_n (ks254 _ _ (xregS [0, 1] fun KR271 kr271 => ?_))
       refine wpS.tk 0 true (some 49) (.agg (enc .u8 y105).toArray) (yld_loadW (e := 42) (n := 16) hs 0 rfl (by kernel_rfl) (by kernel_rfl) (by kernel_rfl) (by exact enc_len _ _) .grow) ?_
       refine wpS.only 1 (op_storeW (t := 42) (v := .agg (enc .u8 y105).toArray) (d := none) (by kernel_rfl) hs 2 rfl (vs := enc .u8 y105) (n := 16) (by kernel_rfl) (by kernel_rfl) (by kernel_rfl) (by simp [enc_len]) (by simp [enc_len]) (by intro u hu; exact enc_one _ _ u hu) ?_)
       intro w kp hs
       refine ⟨fun _ => trivial, ?_⟩
       refine wpS.fin rfl (kr271 _ _ (inBlock_n (then_n (ks227 _ _ (xregS [0, 1, 2] fun KR272 kr272 => ?_)))))
       refine wpS.qs [(0, 18, .int .i64 z92), (1, 19, .int .i64 (isub .i64 z92 1))] ?_
       obtain ⟨x109, hx, h⟩ := of_bind h
       refine wpS.tk 2 false (some 6) (.int .i64 x109) (yld_int hx (fun _ => by kernel_rfl)) ?_
       refine wpS.fin rfl (kr272 _ _ ?_)
       exact then_n (kl4 _ _ ⟨n, Nat.lt_succ_self n, x109, y105, h, (hs.drop (.cons _ (.cons_cons _ (.cons_cons _ (.cons_cons _ (.cons_cons _ (.cons_cons _ (.cons_cons _ (.cons_cons _ (.cons_cons _ (.cons_cons _ (.cons_cons _ (.cons_cons _ (.cons_cons _ (.cons_cons _ (.cons_cons _ (.cons_cons _ (.cons_cons _ .slnil)))))))))))))))))), exg (by kernel_rfl)⟩)
      refine wpS.tk 1 false (some 17) (.bool false) (yld_b (df hc) (fun _ => by kernel_rfl)) ?_
      refine wpS.fin rfl (kr226 _ _ (then_n (ks225 _ _ (wp_cond_f (by kernel_rfl) (xexit (then_x (then_x (inBlock_hit ?_))))))))
      have q0 := of_some h
      subst q0
      exact exq_n (nn4 _ _ ⟨(hs.conv rfl), exg (by kernel_rfl)⟩)
    clear hs h hy
    rintro a w ⟨hs, g223, rfl⟩
    have h := hk4
    refine then_n (ks219 _ _ (xseq_k fun KS273 ks273 => (xregS [0, 1] fun KR274 kr274 => ?_)))
    refine wpS.q 0 50 (.pointer (some ⟨b6, 0, none⟩)) ?_
    refine wpS.only 1 (op_inline (d := (some 51)) (f := 86) (args := #[.pointer (some ⟨b6, 0, none⟩), .pointer (some ⟨b89, 0, none⟩), .int .i64 0]) (by kernel_rfl) (fun _ => by kernel_rfl) fun R275 kI275 => ?_)
    refine calls_kn Try.func86 rfl fun Q275 qq275 qn275 => ?_
    refine wp_conv (a' := ⟨#[.pointer (some ⟨b6, 0, none⟩), .pointer (some ⟨b89, 0, none⟩), .int .i64 0, undef, undef, undef, undef, undef, undef, undef, undef, undef, undef, undef, undef, undef, undef, undef, undef, undef, undef, undef, undef, undef, undef, undef, undef, undef, undef], []⟩) (by kernel_rfl) ?_
    refine xseq_k fun KS276 ks276 => ?_
    refine xregS [0, 1, 2, 3, 4, 5, 6, 7] fun KR277 kr277 => ?_
    refine wpS.qs [(0, 8, .pointer (some ⟨b6, 0, none⟩)), (1, 9, .pointer (some ⟨b6, 0, none⟩)), (2, 10, .pointer (some ⟨b6, 1, none⟩))] ?_
    refine wpS.tk 3 true (some 11) (.slice y48_A y48_n y48_c) (yld_load1 (e := 96) (o := 1) hs 14 rfl (by kernel_rfl) (by kernel_rfl) (by rfl) .grow) ?_
    refine wpS.q 4 12 (.int .i64 0) ?_
    obtain ⟨h0, h⟩ := of_chk h
    obtain ⟨h1, h⟩ := of_chk h
    have i0_278 := h0
    have i1_278 := h1
    refine wpS.tk 5 false (some 13) (.pointer (adr y48_A ((0 : Int).toNat * Cod.size (CA .u8 16 (by decide))))) (yld_idxL (C := (CA .u8 16 (by decide))) (t := 96) (e := 42) (k := .i64) (x := 0) (hs.rowL 3 rfl) (by kernel_rfl) (by kernel_rfl) (by kernel_rfl) h0 h1) ?_
    refine wpS.tk 6 true (some 14) (.agg (enc .u8 (rdL (CA .u8 16 (by decide)) y48 0)).toArray) (yld_loadLA (C := (CA .u8 16 (by decide))) (e := 42) (x := 0) (hs.rowL 3 rfl) (by kernel_rfl) rfl (by kernel_rfl) (by kernel_rfl) i0_278 i1_278) ?_
    refine wpS.q 7 15 (.int .i64 0) ?_
    refine wpS.fin rfl (kr277 _ _ (then_n (ks276 _ _ ?_)))
    obtain ⟨y112, hy, hk7⟩ := of_bind h
    refine wp_exq (N := fun a w => St w0 [] [.blk b90 (enc .u8 (zeroA 16)) 42, .blk b89 (enc .u8 y112) 42, .blk b88 (enc .u8 (zeroA 16)) 42, .ownL (CA .u8 16 (by decide)) y48_A y48_n y48_c y48 42, .obj l91 (.loop (rec91 .exhausted none)), .obj D91 (.deferred none), .blk b44 ([.int .i64 4]) 3, .blk b43 ([.slice y29_A y29_n y29_c]) 99, .obj l33 (.loop (rec33 .exhausted none)), .obj D33 (.deferred none), .blk b12 ([.int .i64 4]) 3, .blk b11 ([.slice a0_A a0_n a0_c]) 26, .blk b10 ([.slice y29_A y29_n y29_c]) 99, .blk b7 ([.pointer (some ⟨b6, 0, none⟩)]) 53, .blk b6 ([.pointer (some ⟨b5, 0, none⟩), .slice y48_A y48_n y48_c]) 98, .blk b5 (([] : List Value) ++ enc .u8 r4_0 ++ enc .u8 r4_1 ++ ([] : List Value)) 48] [.rowL (CA .u8 4 (by decide)) y29_A y29_n y29_c y29, .rowL (CI .u8) a0_A a0_n a0_c a0, .rowL (CI .u8) a1_A a1_n a1_c a1] w ∧ ∃ g280 : Nat → Value, a = ⟨#[.pointer (some ⟨b6, 0, none⟩), .pointer (some ⟨b89, 0, none⟩), .int .i64 0, undef, undef, undef, (g280 6), (g280 7), .pointer (some ⟨b6, 0, none⟩), .pointer (some ⟨b6, 0, none⟩), .pointer (some ⟨b6, 1, none⟩), .slice y48_A y48_n y48_c, .int .i64 0, .pointer (adr y48_A ((0 : Int).toNat * Cod.size (CA .u8 16 (by decide)))), .agg (enc .u8 (rdL (CA .u8 16 (by decide)) y48 0)).toArray, (g280 15), (g280 16), (g280 17), (g280 18), (g280 19), (g280 20), (g280 21), (g280 22), (g280 23), (g280 24), (g280 25), (g280 26), (g280 27), (g280 28)], []⟩) (fun N7 nn7 => ?_) ?_
    ·clear hk7
     refine xblock ?_
     refine wp_loop_k (fun n a w => ∃ z110 z111, aes_Back.l7 K n y48 z110 z111 = some y112 ∧ St w0 [] [.blk b90 (enc .u8 (zeroA 16)) 42, .blk b89 (enc .u8 z111) 42, .blk b88 (enc .u8 (zeroA 16)) 42, .ownL (CA .u8 16 (by decide)) y48_A y48_n y48_c y48 42, .obj l91 (.loop (rec91 .exhausted none)), .obj D91 (.deferred none), .blk b44 ([.int .i64 4]) 3, .blk b43 ([.slice y29_A y29_n y29_c]) 99, .obj l33 (.loop (rec33 .exhausted none)), .obj D33 (.deferred none), .blk b12 ([.int .i64 4]) 3, .blk b11 ([.slice a0_A a0_n a0_c]) 26, .blk b10 ([.slice y29_A y29_n y29_c]) 99, .blk b7 ([.pointer (some ⟨b6, 0, none⟩)]) 53, .blk b6 ([.pointer (some ⟨b5, 0, none⟩), .slice y48_A y48_n y48_c]) 98, .blk b5 (([] : List Value) ++ enc .u8 r4_0 ++ enc .u8 r4_1 ++ ([] : List Value)) 48] [.rowL (CA .u8 4 (by decide)) y29_A y29_n y29_c y29, .rowL (CI .u8) a0_A a0_n a0_c a0, .rowL (CI .u8) a1_A a1_n a1_c a1] w ∧ ∃ g279 : Nat → Value, a = ⟨#[.pointer (some ⟨b6, 0, none⟩), .pointer (some ⟨b89, 0, none⟩), .int .i64 0, undef, undef, undef, (g279 6), (g279 7), .pointer (some ⟨b6, 0, none⟩), .pointer (some ⟨b6, 0, none⟩), .pointer (some ⟨b6, 1, none⟩), .slice y48_A y48_n y48_c, .int .i64 0, .pointer (adr y48_A ((0 : Int).toNat * Cod.size (CA .u8 16 (by decide)))), .agg (enc .u8 (rdL (CA .u8 16 (by decide)) y48 0)).toArray, .int .i64 z110, (g279 16), (g279 17), (g279 18), (g279 19), (g279 20), (g279 21), (g279 22), (g279 23), (g279 24), (g279 25), (g279 26), (g279 27), (g279 28)], []⟩) K ⟨0, y94, hy, hs.conv rfl, exg (by kernel_rfl)⟩ ?_
     clear hs h hy
     rintro n a w ⟨z110, z111, h, hs, g279, rfl⟩ KL7 kl7
     cases n with
     | zero => exact nomatch (show none = some _ from h)
     | succ n =>
      refine xseq_k fun KS281 ks281 => ?_
      refine xregS [0] fun KR282 kr282 => ?_
      rcases of_if h with ⟨hc, h⟩ | ⟨hc, h⟩
      ·refine wpS.tk 0 false (some 16) (.bool true) (yld_b (dt hc) (fun _ => by kernel_rfl)) ?_
       refine wpS.fin rfl (kr282 _ _ (then_n (ks281 _ _ (xseq_k fun KS283 ks283 => (wp_cond_t (by kernel_rfl) (xskip (then_n (ks283 _ _ (xseq_k fun KS284 ks284 => (xblock (xseq_k fun KS285 ks285 => (xregS [0, 1, 2, 3] fun KR286 kr286 => ?_))))))))))))
       refine wpS.q 0 17 (.int .i64 z110) ?_
       obtain ⟨h0, h⟩ := of_chk h
       obtain ⟨h1, h⟩ := of_chk h
       refine wpS.tk 1 false (some 18) (.int .u8 (rd (rdL (CA .u8 16 (by decide)) y48 0) z110)) (yld_at (t := 42) (e := 5) (k' := .i64) (by kernel_rfl) (by kernel_rfl) (by kernel_rfl) (by kernel_rfl) h0 h1) ?_
       refine wpS.q 2 6 (.int .i64 z110) ?_
       obtain ⟨x113, hx, h⟩ := of_bind h
       refine wpS.tk 3 false (some 7) (.int .u8 x113) (yld_int hx (fun _ => by kernel_rfl)) ?_
       refine wpS.fin rfl (kr286 _ _ (then_n (ks285 _ _ ?_)))
       refine wp_regG [9] (fun k => True) 10 (by kernel_rfl) (by kernel_rfl) (by kernel_rfl) fun KR287 kr287 => ?_
       have hs := hs.drawn1
       refine wpG.q 0 19 (.pointer (some ⟨b89, 0, none⟩)) ?_
       refine wpG.q 1 20 (.int .i64 z110) ?_
       refine wpG.q 2 21 (.pointer (some ⟨b89, 0, none⟩)) ?_
       obtain ⟨i0_288, h⟩ := of_chk h
       obtain ⟨i1_288, h⟩ := of_chk h
       refine wpG.tD 3 false (some 22) (.pointer (some ⟨b89, 0 + (z110 : Int).toNat * 1, none⟩)) (yld_idx (t := 42) (e := 5) (n := 16) (sz := 1) (k := .i64) (x := z110) (by kernel_rfl) (by kernel_rfl) (by kernel_rfl) i0_288 i1_288) ?_
       refine wpG.tD 4 true (some 23) (.int .u8 (rd z111 z110)) (yld_loadA (e := 5) (x := z110) hs 1 rfl (by kernel_rfl) (by kernel_rfl) i0_288 i1_288 .grow) ?_
       refine wpG.q 5 24 (.int .u8 x113) ?_
       refine wpG.q 6 25 (.int .u8 (ixor .u8 (rd z111 z110) x113)) ?_
       refine wpG.q 7 26 (.pointer (some ⟨b89, 0, none⟩)) ?_
       obtain ⟨i0_289, h⟩ := of_chk h
       obtain ⟨i1_289, h⟩ := of_chk h
       refine wpG.tD 8 false (some 27) (.pointer (some ⟨b89, 0 + (z110 : Int).toNat * 1, none⟩)) (yld_idx (t := 42) (e := 5) (n := 16) (sz := 1) (k := .i64) (x := z110) (by kernel_rfl) (by kernel_rfl) (by kernel_rfl) i0_289 i1_289) ?_
       obtain ⟨x114, hx, h⟩ := of_bind h
       refine wpG.only 9 (by kernel_rfl) (op_storeA (t := 5) (x := z110) (v := x114) (d := none) (by kernel_rfl) hs 1 rfl (by cases hx; kernel_rfl) (by kernel_rfl) i0_289 i1_289 ?_)
       intro w kp hs
       refine ⟨⟨fun hf => absurd hf (by decide), .all _ _⟩, ?_⟩
       refine wpG.fin (by kernel_rfl) rfl (kr287 _ _ ?_)
       refine inBlock_n (then_n (ks284 _ _ (xregS [0, 1] fun KR290 kr290 => ?_)))
       refine wpS.qs [(0, 28, .int .i64 (iadd .i64 z110 1)), (1, 15, .int .i64 (iadd .i64 z110 1))] ?_
       refine wpS.fin rfl (kr290 _ _ ?_)
       exact then_n (kl7 _ _ ⟨n, Nat.lt_succ_self n, (iadd .i64 z110 1), (wr z111 z110 x114), h, (hs.conv rfl), exg (by kernel_rfl)⟩)
      refine wpS.tk 0 false (some 16) (.bool false) (yld_b (df hc) (fun _ => by kernel_rfl)) ?_
      refine wpS.fin rfl (kr282 _ _ (then_n (ks281 _ _ (xseq_k fun KS291 ks291 => (wp_cond_f (by kernel_rfl) (xexit (then_x (then_x (inBlock_hit ?_)))))))))
      have q0 := of_some h
      subst q0
      exact exq_n (nn7 _ _ ⟨(hs.conv rfl), exg (by kernel_rfl)⟩)
    clear hs h hy
    rintro a w ⟨hs, g280, rfl⟩
    have h := hk7
    refine qn275 _ _ (post_nrm (by kernel_rfl) (run_results [] [] (by kernel_rfl) .nil) ?_)
    refine kI275 _ _ ?_
    refine ⟨fun _ => trivial, ?_⟩
    refine wpS.fin rfl (kr274 _ _ (then_n (ks273 _ _ (xseq_k fun KS292 ks292 => (xregS [0, 1] fun KR293 kr293 => ?_)))))
    refine wpS.tk 0 true (some 52) (.agg (enc .u8 y112).toArray) (yld_loadW (e := 42) (n := 16) hs 1 rfl (by kernel_rfl) (by kernel_rfl) (by kernel_rfl) (by exact enc_len _ _) .grow) ?_
    refine wpS.only 1 (op_storeW (t := 42) (v := .agg (enc .u8 y112).toArray) (d := none) (by kernel_rfl) hs 0 rfl (vs := enc .u8 y112) (n := 16) (by kernel_rfl) (by kernel_rfl) (by kernel_rfl) (by simp [enc_len]) (by simp [enc_len]) (by intro u hu; exact enc_one _ _ u hu) ?_)
    intro w kp hs
    refine ⟨fun _ => trivial, ?_⟩
    refine wpS.fin rfl (kr293 _ _ (then_n (ks292 _ _ (xret ?_))))
    refine qq213 _ _ (post_ret (by kernel_rfl) (run_results [.cell 4 42] [.agg (enc .u8 y112).toArray] (by kernel_rfl) (.cons (res_cellN (n := 16) hs 0 rfl (by kernel_rfl) (by kernel_rfl) (by kernel_rfl) (by exact enc_len _ _)) .nil)) ?_)
    refine kI213 _ _ ?_
    refine ⟨⟨fun hf => absurd hf (by decide), (keepW hsB214 hs)⟩, ?_⟩
    have hsB294 := hs
    refine wpG.only 7 (by kernel_rfl) (op_storeW (t := 42) (v := .agg (enc .u8 y112).toArray) (d := none) (by kernel_rfl) hs 2 rfl (vs := enc .u8 y112) (n := 16) (by kernel_rfl) (by kernel_rfl) (by kernel_rfl) (by simp [enc_len]) (by simp [enc_len]) (by intro u hu; exact enc_one _ _ u hu) ?_)
    intro w kp hs
    refine ⟨⟨fun hf => absurd hf (by decide), (keepW hsB294 hs)⟩, ?_⟩
    refine wpG.fin (by kernel_rfl) rfl (kr10 _ _ ?_)
    have q0 := of_some h
    subst q0
    exact nj _ _ ⟨b88, ((hs.drop (.cons _ (.cons _ (.cons_cons _ (.cons _ (.cons _ (.cons _ (.cons _ (.cons _ (.cons _ (.cons _ (.cons _ (.cons _ (.cons _ (.cons _ (.cons _ (.cons _ .slnil))))))))))))))))).pickR (pick_cons 1 rfl (pick_cons 2 rfl pick_nil))), exg (by kernel_rfl)⟩
   refine (op_alloc (t := 42) (d := (some 7)) (by kernel_rfl) hs (enc .u8 (zeroA 16)) (.agg (enc .u8 (zeroA 16)).toArray) (by kernel_rfl) (by kernel_rfl) (by kernel_rfl) ?_)
   intro b115 w gw hs
   refine ⟨.of gw, ?_⟩
   have hsB296 := hs
   refine wpG.only 1 (by kernel_rfl) (op_inline (d := (some 15)) (f := 47) (args := #[.slice a0_A a0_n a0_c]) (by kernel_rfl) (fun _ => by kernel_rfl) fun R295 kI295 => ?_)
   refine calls_m Try.func47 rfl fun Q295 qq295 qn295 => ?_
   refine wp_conv (a' := ⟨#[.slice a0_A a0_n a0_c, undef, undef, undef, undef, undef, undef, undef, undef, undef, undef, undef, undef, undef, undef, undef, undef, undef, undef, undef, undef, undef, undef, undef, undef, undef, undef, undef, undef, undef, undef, undef, undef, undef, undef, undef, undef, undef, undef, undef, undef, undef, undef, undef, undef, undef, undef, undef, undef, undef, undef, undef, undef, undef, undef, undef, undef, undef, undef, undef, undef, undef, undef, undef, undef, undef, undef, undef, undef, undef, undef, undef, undef, undef, undef, undef, undef, undef, undef, undef, undef, undef, undef, undef, undef, undef, undef, undef, undef, undef, undef, undef, undef, undef, undef, undef, undef, undef, undef, undef, undef, undef, undef, undef, undef, undef, undef, undef, undef, undef, undef, undef, undef, undef, undef, undef, undef, undef, undef, undef, undef, undef], []⟩) (by kernel_rfl) ?_
   refine xseq_k fun KS297 ks297 => ?_
   refine xregS [0] fun KR298 kr298 => ?_
   refine wpS.q 0 2 (.pointer none) ?_
   refine wpS.fin rfl (kr298 _ _ (then_n (ks297 _ _ (xseq_k fun KS299 ks299 => (xregS [0, 1, 2, 3, 4] fun KR300 kr300 => ?_)))))
   obtain ⟨⟨r116_0, r116_1⟩, hg, h⟩ := of_bind h
   refine wpS.only 0 (op_callB (d := (some 14)) (by kernel_rfl) hs (fun _ => by kernel_rfl) (aes_made.ok hg _) ?_)
   intro b117 w gw hs
   refine ⟨fun _ => trivial, ?_⟩
   refine wpS.q 1 15 (.agg #[.pointer (some ⟨b117, 0, none⟩), .slice none 0 0]) ?_
   refine wpS.only 2 (op_box (t := 98) (v := .agg #[.pointer (some ⟨b117, 0, none⟩), .slice none 0 0]) (d := (some 16)) (by kernel_rfl) hs ([.pointer (some ⟨b117, 0, none⟩), .slice none 0 0]) (by kernel_rfl) (by kernel_rfl) ?_)
   intro b118 w gw hs
   refine ⟨fun _ => trivial, ?_⟩
   refine wpS.only 3 (op_alloc (t := 53) (d := (some 3)) (by kernel_rfl) hs ([.pointer none]) (.pointer none) (by kernel_rfl) (by kernel_rfl) (by kernel_rfl) ?_)
   intro b119 w gw hs
   refine ⟨fun _ => trivial, ?_⟩
   refine wpS.only 4 (op_store1 (t := 53) (o := 0) (v := .pointer (some ⟨b118, 0, none⟩)) (d := none) (by kernel_rfl) hs 0 rfl (by kernel_rfl) rfl (by kernel_rfl) (by simp) ?_)
   intro w kp hs
   refine ⟨fun _ => trivial, ?_⟩
   refine wpS.fin rfl (kr300 _ _ (then_n (ks299 _ _ (xseq_k fun KS301 ks301 => (xregS [0, 1, 2, 3] fun KR302 kr302 => ?_)))))
   refine wpS.q 0 17 (.slice a0_A a0_n a0_c) ?_
   refine wpS.tk 1 false (some 18) (.int .i64 (a0.length : Int)) (yld_lenL (hs.rowR 0 rfl) (fun _ => by kernel_rfl)) ?_
   refine wpS.q 2 19 (.int .i64 (iquo .i64 (a0.length : Int) 4)) ?_
   obtain ⟨x120, hx, h⟩ := of_bind h
   refine wpS.tk 3 false (some 4) (.int .i64 x120) (yld_int hx (fun _ => by kernel_rfl)) ?_
   refine wpS.fin rfl (kr302 _ _ (then_n (ks301 _ _ (xseq_k fun KS303 ks303 => (xregS [0, 1, 2, 3, 4, 5] fun KR304 kr304 => ?_)))))
   refine wpS.qs [(0, 20, .int .i64 x120), (1, 21, .int .i64 (iadd .i64 x120 7)), (2, 22, .int .i64 (imul .i64 4 (iadd .i64 x120 7)))] ?_
   obtain ⟨h0, h⟩ := of_chk h
   obtain ⟨h1, h⟩ := of_chk h
   refine wpS.only 3 (op_makeT0 (C := (CA .u8 4 (by decide))) (t := 99) (e := 101) (bytes := 4) (B := 35184372088832) (kl := .i64) (kc := .i64) (x := (imul .i64 4 (iadd .i64 x120 7))) (d := (some 23)) (by kernel_rfl) hs (by kernel_rfl) (by kernel_rfl) (by kernel_rfl) (by kernel_rfl) (by kernel_rfl) h0 h1 (by decide) (by decide) ?_)
   intro s121_A s121_n s121_c w gw hs
   refine ⟨fun _ => trivial, ?_⟩
   refine wpS.only 4 (op_alloc (t := 99) (d := (some 5)) (by kernel_rfl) hs ([.slice none 0 0]) (.slice none 0 0) (by kernel_rfl) (by kernel_rfl) (by kernel_rfl) ?_)
   intro b122 w gw hs
   refine ⟨fun _ => trivial, ?_⟩
   refine wpS.only 5 (op_store1 (t := 99) (o := 0) (v := .slice s121_A s121_n s121_c) (d := none) (by kernel_rfl) hs 0 rfl (by kernel_rfl) rfl (by kernel_rfl) (by simp) ?_)
   intro w kp hs
   refine ⟨fun _ => trivial, ?_⟩
   refine wpS.fin rfl (kr304 _ _ (then_n (ks303 _ _ (xseq_k fun KS305 ks305 => (xseq_k fun KS306 ks306 => (xregS [0, 1] fun KR307 kr307 => ?_))))))
   refine wpS.q 0 24 (.slice a0_A a0_n a0_c) ?_
   refine wpS.only 1 (op_inline (d := (some 25)) (f := 71) (args := #[.slice a0_A a0_n a0_c, .int .i64 4]) (by kernel_rfl) (fun _ => by kernel_rfl) fun R308 kI308 => ?_)
   refine calls_k Try.func71 rfl fun Q308 qq308 => ?_
   refine wp_conv (a' := ⟨#[.slice a0_A a0_n a0_c, .int .i64 4, undef, undef, undef, undef, undef, undef, undef], []⟩) (by kernel_rfl) ?_
   refine xseq_k fun KS309 ks309 => ?_
   refine xregS [0, 1, 2] fun KR310 kr310 => ?_
   refine wpS.only 0 (op_box (t := 26) (v := .slice a0_A a0_n a0_c) (d := (some 2)) (by kernel_rfl) hs ([.slice a0_A a0_n a0_c]) (by kernel_rfl) (by kernel_rfl) ?_)
   intro b123 w gw hs
   refine ⟨fun _ => trivial, ?_⟩
   refine wpS.only 1 (op_box (t := 3) (v := .int .i64 4) (d := (some 3)) (by kernel_rfl) hs ([.int .i64 4]) (by kernel_rfl) (by kernel_rfl) ?_)
   intro b124 w gw hs
   refine ⟨fun _ => trivial, ?_⟩
   refine wpS.q 2 4 (.nilFunc) ?_
   refine wpS.fin rfl (kr310 _ _ (then_n (ks309 _ _ (xseq_k fun KS311 ks311 => (xseq_k fun KS312 ks312 => (xregS [0, 1] fun KR313 kr313 => ?_))))))
   refine wpS.tk 0 true (some 5) (.int .i64 4) (yld_load1 (e := 3) (o := 0) hs 0 rfl (by kernel_rfl) (by kernel_rfl) (by rfl) .grow) ?_
   refine wpS.q 1 6 (.bool false) ?_
   refine wpS.fin rfl (kr313 _ _ (then_n (ks312 _ _ (wp_cond_f (by kernel_rfl) (xskip (then_n (ks311 _ _ (xseq_k fun KS314 ks314 => (xregS [0, 1] fun KR315 kr315 => ?_)))))))))
   refine wpS.qs [(0, 8, .func (.func 102) #[] #[.pointer (some ⟨b123, 0, none⟩), .pointer (some ⟨b124, 0, none⟩)]), (1, 4, .func (.func 102) #[] #[.pointer (some ⟨b123, 0, none⟩), .pointer (some ⟨b124, 0, none⟩)])] ?_
   refine wpS.fin rfl (kr315 _ _ (then_n (ks314 _ _ (xret ?_))))
   refine qq308 _ _ (post_ret (by kernel_rfl) (run_results [.tmp 4] [.func (.func 102) #[] #[.pointer (some ⟨b123, 0, none⟩), .pointer (some ⟨b124, 0, none⟩)]] (by kernel_rfl) (.cons (res_tmp (by kernel_rfl)) .nil)) ?_)
   refine kI308 _ _ ?_
   refine ⟨fun _ => trivial, ?_⟩
   refine wpS.fin rfl (kr307 _ _ (then_n (ks306 _ _ (xblock ?_))))
   refine wp_range (gf := 102) (lb := #[.pointer (some ⟨b123, 0, none⟩), .pointer (some ⟨b124, 0, none⟩)]) hs (by kernel_rfl) (fun _ _ => by kernel_rfl) fun l316 D316 rec316 w hok316 hs R316 kR316 => ?_
   refine calls_kn Try.func102 rfl fun Q316 qq316 qn316 => ?_
   refine wp_conv (a' := ⟨#[.func (.yield l316) #[] #[], .pointer (some ⟨b123, 0, none⟩), .pointer (some ⟨b124, 0, none⟩), undef, undef, undef, undef, undef, undef, undef, undef, undef, undef, undef, undef, undef, undef, undef, undef, undef, undef, undef, undef, undef, undef, undef, undef, undef, undef, undef, undef], []⟩) (by kernel_rfl) ?_
   refine xseq_k fun KS317 ks317 => ?_
   refine xregS [0] fun KR318 kr318 => ?_
   refine wpS.q 0 4 (.int .i64 0) ?_
   refine wpS.fin rfl (kr318 _ _ (then_n (ks317 _ _ ?_)))
   obtain ⟨y129, hy, hk0⟩ := of_bind h
   refine wp_exq (N := fun a w => ∃ (y129_A : Option Addr) (y129_n : Nat) (y129_c : Nat), St w0 [] [.obj l316 (.loop (rec316 .ready none)), .obj D316 (.deferred (some [])), .blk b124 ([.int .i64 4]) 3, .blk b123 ([.slice a0_A a0_n a0_c]) 26, .blk b122 ([.slice y129_A y129_n y129_c]) 99, .ownL (CA .u8 4 (by decide)) y129_A y129_n y129_c y129 101, .blk b119 ([.pointer (some ⟨b118, 0, none⟩)]) 53, .blk b118 ([.pointer (some ⟨b117, 0, none⟩), .slice none 0 0]) 98, .blk b117 (([] : List Value) ++ enc .u8 r116_0 ++ enc .u8 r116_1 ++ ([] : List Value)) 48, .blk b115 (enc .u8 (zeroA 16)) 42] [.rowL (CI .u8) a0_A a0_n a0_c a0, .rowL (CI .u8) a1_A a1_n a1_c a1] w ∧ ∃ g320 : Nat → Value, a = ⟨#[.func (.yield l316) #[] #[], .pointer (some ⟨b123, 0, none⟩), .pointer (some ⟨b124, 0, none⟩), undef, (g320 4), (g320 5), (g320 6), (g320 7), (g320 8), (g320 9), (g320 10), (g320 11), (g320 12), (g320 13), (g320 14), (g320 15), (g320 16), (g320 17), (g320 18), (g320 19), (g320 20), (g320 21), (g320 22), (g320 23), (g320 24), (g320 25), (g320 26), (g320 27), (g320 28), (g320 29), (g320 30)], []⟩) (fun N0 nn0 => ?_) ?_
   ·clear hk0
    refine xblock ?_
    refine wp_loop_k (fun n a w => ∃ z125 z127, ∃ (z127_A : Option Addr) (z127_n : Nat) (z127_c : Nat), aes_Back.l0 K n a0 z125 z127 = some y129 ∧ St w0 [] [.obj l316 (.loop (rec316 .ready none)), .obj D316 (.deferred (some [])), .blk b124 ([.int .i64 4]) 3, .blk b123 ([.slice a0_A a0_n a0_c]) 26, .blk b122 ([.slice z127_A z127_n z127_c]) 99, .ownL (CA .u8 4 (by decide)) z127_A z127_n z127_c z127 101, .blk b119 ([.pointer (some ⟨b118, 0, none⟩)]) 53, .blk b118 ([.pointer (some ⟨b117, 0, none⟩), .slice none 0 0]) 98, .blk b117 (([] : List Value) ++ enc .u8 r116_0 ++ enc .u8 r116_1 ++ ([] : List Value)) 48, .blk b115 (enc .u8 (zeroA 16)) 42] [.rowL (CI .u8) a0_A a0_n a0_c a0, .rowL (CI .u8) a1_A a1_n a1_c a1] w ∧ ∃ g319 : Nat → Value, a = ⟨#[.func (.yield l316) #[] #[], .pointer (some ⟨b123, 0, none⟩), .pointer (some ⟨b124, 0, none⟩), undef, .int .i64 z125, (g319 5), (g319 6), (g319 7), (g319 8), (g319 9), (g319 10), (g319 11), (g319 12), (g319 13), (g319 14), (g319 15), (g319 16), (g319 17), (g319 18), (g319 19), (g319 20), (g319 21), (g319 22), (g319 23), (g319 24), (g319 25), (g319 26), (g319 27), (g319 28), (g319 29), (g319 30)], []⟩) K ⟨0, ([] : List (Arr 4)), s121_A, s121_n, s121_c, hy, hs.conv rfl, exg (by kernel_rfl)⟩ ?_
    clear hs h hy
    rintro n a w ⟨z125, z127, z127_A, z127_n, z127_c, h, hs, g319, rfl⟩ KL0 kl0
    cases n with
    | zero => exact nomatch (show none = some _ from h)
    | succ n =>
     refine xseq_k fun KS321 ks321 => ?_
     refine xseq_k fun KS322 ks322 => ?_
     refine xregS [0, 1, 2, 3] fun KR323 kr323 => ?_
     refine wpS.q 0 6 (.int .i64 z125) ?_
     refine wpS.tk 1 true (some 7) (.slice a0_A a0_n a0_c) (yld_load1 (e := 26) (o := 0) hs 3 rfl (by kernel_rfl) (by kernel_rfl) (by rfl) .grow) ?_
     refine wpS.tk 2 false (some 8) (.int .i64 (a0.length : Int)) (yld_lenL (hs.rowR 0 rfl) (fun _ => by kernel_rfl)) ?_
     rcases of_if h with ⟨hc, h⟩ | ⟨hc, h⟩
     ·refine wpS.tk 3 false (some 9) (.bool true) (yld_b (dt hc) (fun _ => by kernel_rfl)) ?_
      refine wpS.fin rfl (kr323 _ _ (then_n (ks322 _ _ (wp_cond_t (by kernel_rfl) (xskip (then_n (ks321 _ _ (xseq_k fun KS324 ks324 => (xblock (xseq_k fun KS325 ks325 => ?_))))))))))
      refine wp_regG [] (fun k => True) 7 (by kernel_rfl) (by kernel_rfl) (by kernel_rfl) fun KR326 kr326 => ?_
      have hs := hs.drawn1
      refine wpG.tD 0 true (some 13) (.int .i64 4) (yld_load1 (e := 3) (o := 0) hs 2 rfl (by kernel_rfl) (by kernel_rfl) (by rfl) .grow) ?_
      refine wpG.tD 1 true (some 14) (.slice a0_A a0_n a0_c) (yld_load1 (e := 26) (o := 0) hs 3 rfl (by kernel_rfl) (by kernel_rfl) (by rfl) .grow) ?_
      refine wpG.q 2 15 (.int .i64 z125) ?_
      obtain ⟨h0, h⟩ := of_chk h
      obtain ⟨h1, h⟩ := of_chk h
      obtain ⟨h2, h⟩ := of_chk h
      obtain ⟨s130_A, hA⟩ : ∃ A, A = if a0_c = (z125 : Int).toNat then a0_A else adr a0_A ((z125 : Int).toNat * Cod.size (CI .u8)) := ⟨_, rfl⟩
      obtain ⟨s130_n, hn⟩ : ∃ n, n = ((a0.length : Int) : Int).toNat - (z125 : Int).toNat := ⟨_, rfl⟩
      obtain ⟨s130_c, hc⟩ : ∃ c, c = a0_c - (z125 : Int).toNat := ⟨_, rfl⟩
      refine wpG.tD 3 false (some 16) (.slice s130_A s130_n s130_c) (yld_sub (C := (CI .u8)) (t := 26) (e := 5) (low := some (.int .i64 z125)) (high := none) (lo := z125) (hi := (a0.length : Int)) (hs.rowR 0 rfl) (by kernel_rfl) (by kernel_rfl) (by kernel_rfl) (.inr ⟨_, rfl⟩) (.inl ⟨rfl, rfl⟩) h0 h1 h2 hA hn hc) ?_
      have hs := hs.addSub (C := (CI .u8)) 0 rfl h0 h1 h2 hA hn hc
      refine wpG.tD 4 false (some 17) (.int .i64 ((subL a0 z125 (a0.length : Int)).length : Int)) (yld_lenL (hs.rowR 0 rfl) (fun _ => by kernel_rfl)) ?_
      refine wpG.q 5 18 (.int .i64 (imin 4 ((subL a0 z125 (a0.length : Int)).length : Int))) ?_
      obtain ⟨x131, hx, h⟩ := of_bind h
      refine wpG.tD 6 false (some 5) (.int .i64 x131) (yld_int hx (fun _ => by kernel_rfl)) ?_
      refine wpG.fin (by kernel_rfl) rfl (kr326 _ _ ?_)
      refine then_n (ks325 _ _ (xseq_k fun KS327 ks327 => (xregS [0, 1, 2, 3, 4, 5, 6, 7, 8, 9, 10, 11] fun KR328 kr328 => ?_)))
      refine wpS.q 0 19 (.func (.yield l316) #[] #[]) ?_
      refine wpS.tk 1 true (some 20) (.slice a0_A a0_n a0_c) (yld_load1 (e := 26) (o := 0) hs 3 rfl (by kernel_rfl) (by kernel_rfl) (by rfl) .grow) ?_
      refine wpS.qs [(2, 21, .int .i64 z125), (3, 22, .int .i64 z125), (4, 23, .int .i64 x131), (5, 24, .int .i64 (iadd .i64 z125 x131)), (6, 25, .int .i64 z125), (7, 26, .int .i64 x131), (8, 27, .int .i64 (iadd .i64 z125 x131))] ?_
      obtain ⟨h0, h⟩ := of_chk h
      obtain ⟨h1, h⟩ := of_chk h
      obtain ⟨h2, h⟩ := of_chk h
      obtain ⟨h3, h⟩ := of_chk h
      obtain ⟨s132_A, hA⟩ : ∃ A, A = if ((iadd .i64 z125 x131) : Int).toNat = (z125 : Int).toNat then a0_A else adr a0_A ((z125 : Int).toNat * Cod.size (CI .u8)) := ⟨_, rfl⟩
      obtain ⟨s132_n, hn⟩ : ∃ n, n = ((iadd .i64 z125 x131) : Int).toNat - (z125 : Int).toNat := ⟨_, rfl⟩
      obtain ⟨s132_c, hc⟩ : ∃ c, c = ((iadd .i64 z125 x131) : Int).toNat - (z125 : Int).toNat := ⟨_, rfl⟩
      refine wpS.tk 9 false (some 28) (.slice s132_A s132_n s132_c) (yld_sub3 (mx := (iadd .i64 z125 x131)) (k := .i64) (C := (CI .u8)) (t := 26) (e := 5) (low := some (.int .i64 z125)) (high := some (.int .i64 (iadd .i64 z125 x131))) (lo := z125) (hi := (iadd .i64 z125 x131)) (hs.rowR 1 rfl) (by kernel_rfl) (by kernel_rfl) (by kernel_rfl) (.inr ⟨_, rfl⟩) ⟨_, rfl⟩ h0 h1 h2 h3 hA hn hc) ?_
      have hs := hs.addSub3 (C := (CI .u8)) 1 rfl h0 h1 h2 h3 hA hn hc
      refine wpS.onlyR 10 (op_yield (d := (some 29)) (by kernel_rfl) hs 0 rfl hok316 #[.slice s132_A s132_n s132_c] (by kernel_rfl) rfl (tm := #[.slice a0_A a0_n a0_c, undef, .pointer none, .pointer (some ⟨b119, 0, none⟩), .int .i64 x120, .pointer (some ⟨b122, 0, none⟩), undef, undef, undef, undef, undef, undef, undef, undef, .pointer (some ⟨b117, 0, none⟩), .agg #[.pointer (some ⟨b117, 0, none⟩), .slice none 0 0], .pointer (some ⟨b118, 0, none⟩), .slice a0_A a0_n a0_c, .int .i64 (a0.length : Int), .int .i64 (iquo .i64 (a0.length : Int) 4), .int .i64 x120, .int .i64 (iadd .i64 x120 7), .int .i64 (imul .i64 4 (iadd .i64 x120 7)), .slice s121_A s121_n s121_c, .slice a0_A a0_n a0_c, .func (.func 102) #[] #[.pointer (some ⟨b123, 0, none⟩), .pointer (some ⟨b124, 0, none⟩)], .slice s132_A s132_n s132_c, undef, undef, undef, undef, undef, undef, undef, undef, undef, undef, undef, undef, undef, undef, undef, undef, undef, undef, undef, undef, undef, undef, undef, undef, undef, undef, undef, undef, undef, undef, undef, undef, undef, undef, undef, undef, undef, undef, undef, undef, undef, undef, undef, undef, undef, undef, undef, undef, undef, undef, undef, undef, undef, undef, undef, undef, undef, undef, undef, undef, undef, undef, undef, undef, undef, undef, undef, undef, undef, undef, undef, undef, undef, undef, undef, undef, undef, undef, undef, undef, undef, undef, undef, undef, undef, undef, undef, undef, undef, undef, undef, undef, undef, undef, undef]) (by kernel_rfl) (by kernel_rfl) fun K329 k329 => ?_)
      refine xregS [0] fun KR330 kr330 => ?_
      refine wpS.q 0 6 (.slice s132_A s132_n s132_c) ?_
      refine wpS.fin rfl (kr330 _ _ (then_n (k329 _ _ 0 _ _ hs rfl fun w Qr329 hs qr329 => ?_)))
      dsimp only [List.set] at hs
      refine xblock ?_
      refine wp_regG [5, 6] (fun k => True) 7 (by kernel_rfl) (by kernel_rfl) (by kernel_rfl) fun KR331 kr331 => ?_
      have hs := hs.drawn1
      refine wpG.tD 0 true (some 27) (.slice z127_A z127_n z127_c) (yld_load1 (e := 99) (o := 0) hs 4 rfl (by kernel_rfl) (by kernel_rfl) (by rfl) .grow) ?_
      refine wpG.q 1 28 (.slice s132_A s132_n s132_c) ?_
      obtain ⟨i0_332, h⟩ := of_chk h
      refine wpG.tD 2 false (some 29) (.pointer s132_A) (yld_toArr (t := 101) (e := 5) (n := 4) (len := s132_n) (c := s132_c) (by kernel_rfl) (by kernel_rfl) (by rw [RowL.length (C := (CI .u8)) (hs.rowR 0 rfl)]; exact i0_332)) ?_
      refine wpG.take [3, 4, 5, 6] 3 true (some 30) (.agg (enc .u8 (arrL 4 (subL a0 z125 (iadd .i64 z125 x131)))).toArray) (by kernel_rfl) (by kernel_rfl) (yld_loadArr (e := 101) (n := 4) (by decide) (hs.rowR 0 rfl) i0_332 (by kernel_rfl) (by kernel_rfl) (by kernel_rfl)) ?_
      refine wpG.only 4 (by kernel_rfl) (op_litL (C := (CA .u8 4 (by decide))) (t := 99) (e := 101) (len := 1) (parts := #[(0, .agg (enc .u8 (arrL 4 (subL a0 z125 (iadd .i64 z125 x131)))).toArray)]) (l := [(arrL 4 (subL a0 z125 (iadd .i64 z125 x131)))]) (d := (some 31)) (by kernel_rfl) hs (by kernel_rfl) rfl (by kernel_rfl) (by kernel_rfl) (z := .agg (enc .u8 (zeroA 4)).toArray) (by kernel_rfl) rfl (by decide) (by decide) ?_)
      intro s133_A s133_n s133_c w gw hs
      refine ⟨.of gw, ?_⟩
      obtain ⟨h0, h⟩ := of_chk h
      refine wpG.only 5 (by kernel_rfl) (op_appendT (C := (CA .u8 4 (by decide))) (t := 99) (ty := 99) (e := 101) (bytes := 4) (B := 35184372088832) (d := (some 32)) (by kernel_rfl) hs 6 rfl (hs.rowL 0 rfl) (by kernel_rfl) (by kernel_rfl) (by kernel_rfl) (by kernel_rfl) (by kernel_rfl) h0 (by decide) (by decide) ?_)
      intro s134_A s134_n s134_c w hs
      refine ⟨⟨fun hf => absurd hf (by decide), .all _ _⟩, ?_⟩
      refine wpG.only 6 (by kernel_rfl) (op_store1 (t := 99) (o := 0) (v := .slice s134_A s134_n s134_c) (d := none) (by kernel_rfl) hs 5 rfl (by kernel_rfl) rfl (by kernel_rfl) (by simp) ?_)
      intro w kp hs
      refine ⟨⟨fun hf => absurd hf (by decide), .all _ _⟩, ?_⟩
      refine wpG.fin (by kernel_rfl) rfl (kr331 _ _ ?_)
      refine inBlock_n ?_
      refine round_n qr329 hs 1 rfl fun w hs => ?_
      dsimp only [List.set] at hs
      refine ⟨fun _ => trivial, ?_⟩
      refine wpS.q 11 30 (.bool false) ?_
      refine wpS.fin rfl (kr328 _ _ (then_n (ks327 _ _ (wp_cond_f (by kernel_rfl) (xskip (inBlock_n (then_n (ks324 _ _ (xregS [0, 1, 2, 3] fun KR333 kr333 => ?_)))))))))
      refine wpS.q 0 10 (.int .i64 z125) ?_
      refine wpS.tk 1 true (some 11) (.int .i64 4) (yld_load1 (e := 3) (o := 0) hs 3 rfl (by kernel_rfl) (by kernel_rfl) (by rfl) .grow) ?_
      refine wpS.q 2 12 (.int .i64 (iadd .i64 z125 4)) ?_
      obtain ⟨x135, hx, h⟩ := of_bind h
      refine wpS.tk 3 false (some 4) (.int .i64 x135) (yld_int hx (fun _ => by kernel_rfl)) ?_
      refine wpS.fin rfl (kr333 _ _ ?_)
      exact then_n (kl0 _ _ ⟨n, Nat.lt_succ_self n, x135, (z127 ++ ([(arrL 4 (subL a0 z125 (iadd .i64 z125 x131)))] : List (Arr 4))), s134_A, s134_n, s134_c, h, ((hs.drop (.cons _ (.cons_cons _ (.cons_cons _ (.cons_cons _ (.cons_cons _ (.cons_cons _ (.cons_cons _ (.cons_cons _ (.cons_cons _ (.cons_cons _ (.cons_cons _ .slnil)))))))))))).pickR (pick_cons 2 rfl (pick_cons 3 rfl pick_nil))), exg (by kernel_rfl)⟩)
     refine wpS.tk 3 false (some 9) (.bool false) (yld_b (df hc) (fun _ => by kernel_rfl)) ?_
     refine wpS.fin rfl (kr323 _ _ (then_n (ks322 _ _ (wp_cond_f (by kernel_rfl) (xexit (then_x (then_x (inBlock_hit ?_))))))))
     have q0 := of_some h
     subst q0
     exact exq_n (nn0 _ _ ⟨z127_A, z127_n, z127_c, (hs.conv rfl), exg (by kernel_rfl)⟩)
   clear hs h hy
   rintro a w ⟨y129_A, y129_n, y129_c, hs, g320, rfl⟩
   have h := hk0
   refine qn316 _ _ (post_nrm (by kernel_rfl) (run_results [] [] (by kernel_rfl) .nil) ?_)
   refine range_n (a1 := ⟨#[.slice a0_A a0_n a0_c, undef, .pointer none, .pointer (some ⟨b119, 0, none⟩), .int .i64 x120, .pointer (some ⟨b122, 0, none⟩), undef, undef, undef, undef, undef, undef, undef, undef, .pointer (some ⟨b117, 0, none⟩), .agg #[.pointer (some ⟨b117, 0, none⟩), .slice none 0 0], .pointer (some ⟨b118, 0, none⟩), .slice a0_A a0_n a0_c, .int .i64 (a0.length : Int), .int .i64 (iquo .i64 (a0.length : Int) 4), .int .i64 x120, .int .i64 (iadd .i64 x120 7), .int .i64 (imul .i64 4 (iadd .i64 x120 7)), .slice s121_A s121_n s121_c, .slice a0_A a0_n a0_c, .func (.func 102) #[] #[.pointer (some ⟨b123, 0, none⟩), .pointer (some ⟨b124, 0, none⟩)], undef, undef, undef, undef, undef, undef, undef, undef, undef, undef, undef, undef, undef, undef, undef, undef, undef, undef, undef, undef, undef, undef, undef, undef, undef, undef, undef, undef, undef, undef, undef, undef, undef, undef, undef, undef, undef, undef, undef, undef, undef, undef, undef, undef, undef, undef, undef, undef, undef, undef, undef, undef, undef, undef, undef, undef, undef, undef, undef, undef, undef, undef, undef, undef, undef, undef, undef, undef, undef, undef, undef, undef, undef, undef, undef, undef, undef, undef, undef, undef, undef, undef, undef, undef, undef, undef, undef, undef, undef, undef, undef, undef, undef, undef, undef, undef], [lmark D316]⟩) kR316 (by kernel_rfl) hs 0 rfl fun w hs => ?_
   dsimp only [List.set] at hs
   refine inBlock_n (then_n (ks305 _ _ (xseq_k fun KS334 ks334 => (xseq_k fun KS335 ks335 => (xregS [0, 1, 2] fun KR336 kr336 => ?_)))))
   refine wpS.qs [(0, 33, .int .i64 x120), (1, 7, .int .i64 x120), (2, 8, .int .u8 1)] ?_
   refine wpS.fin rfl (kr336 _ _ (then_n (ks335 _ _ ?_)))
   obtain ⟨y141, hy, hk1⟩ := of_bind h
   refine wp_exq (N := fun a w => ∃ (y141_A : Option Addr) (y141_n : Nat) (y141_c : Nat), St w0 [] [.obj l316 (.loop (rec316 .exhausted none)), .obj D316 (.deferred (some [])), .blk b124 ([.int .i64 4]) 3, .blk b123 ([.slice a0_A a0_n a0_c]) 26, .blk b122 ([.slice y141_A y141_n y141_c]) 99, .ownL (CA .u8 4 (by decide)) y141_A y141_n y141_c y141 101, .blk b119 ([.pointer (some ⟨b118, 0, none⟩)]) 53, .blk b118 ([.pointer (some ⟨b117, 0, none⟩), .slice none 0 0]) 98, .blk b117 (([] : List Value) ++ enc .u8 r116_0 ++ enc .u8 r116_1 ++ ([] : List Value)) 48, .blk b115 (enc .u8 (zeroA 16)) 42] [.rowL (CI .u8) a0_A a0_n a0_c a0, .rowL (CI .u8) a1_A a1_n a1_c a1] w ∧ ∃ g338 : Nat → Value, a = ⟨#[.slice a0_A a0_n a0_c, undef, .pointer none, .pointer (some ⟨b119, 0, none⟩), .int .i64 x120, .pointer (some ⟨b122, 0, none⟩), undef, (g338 7), (g338 8), (g338 9), undef, undef, undef, undef, .pointer (some ⟨b117, 0, none⟩), .agg #[.pointer (some ⟨b117, 0, none⟩), .slice none 0 0], .pointer (some ⟨b118, 0, none⟩), .slice a0_A a0_n a0_c, .int .i64 (a0.length : Int), .int .i64 (iquo .i64 (a0.length : Int) 4), .int .i64 x120, .int .i64 (iadd .i64 x120 7), .int .i64 (imul .i64 4 (iadd .i64 x120 7)), .slice s121_A s121_n s121_c, .slice a0_A a0_n a0_c, .func (.func 102) #[] #[.pointer (some ⟨b123, 0, none⟩), .pointer (some ⟨b124, 0, none⟩)], undef, undef, undef, undef, undef, undef, undef, .int .i64 x120, (g338 34), (g338 35), (g338 36), (g338 37), (g338 38), (g338 39), (g338 40), (g338 41), (g338 42), (g338 43), (g338 44), (g338 45), (g338 46), (g338 47), (g338 48), (g338 49), (g338 50), (g338 51), (g338 52), (g338 53), (g338 54), (g338 55), (g338 56), (g338 57), (g338 58), (g338 59), (g338 60), (g338 61), (g338 62), (g338 63), (g338 64), (g338 65), (g338 66), (g338 67), (g338 68), (g338 69), (g338 70), (g338 71), (g338 72), (g338 73), (g338 74), (g338 75), (g338 76), (g338 77), (g338 78), (g338 79), (g338 80), (g338 81), (g338 82), (g338 83), (g338 84), (g338 85), (g338 86), (g338 87), (g338 88), (g338 89), (g338 90), (g338 91), (g338 92), (g338 93), (g338 94), undef, undef, undef, undef, undef, undef, undef, undef, undef, undef, undef, undef, undef, undef, undef, undef, undef, undef, undef, undef, undef, undef, undef, undef, undef, undef, undef], [lmark D316]⟩) (fun N1 nn1 => ?_) ?_
   ·clear hk1
    refine xblock ?_
    refine wp_loop_k (fun n a w => ∃ z136 z137 z139, ∃ (z139_A : Option Addr) (z139_n : Nat) (z139_c : Nat), aes_Back.l1 K n r116_0 r116_1 x120 z136 z137 z139 = some y141 ∧ St w0 [] [.obj l316 (.loop (rec316 .exhausted none)), .obj D316 (.deferred (some [])), .blk b124 ([.int .i64 4]) 3, .blk b123 ([.slice a0_A a0_n a0_c]) 26, .blk b122 ([.slice z139_A z139_n z139_c]) 99, .ownL (CA .u8 4 (by decide)) z139_A z139_n z139_c z139 101, .blk b119 ([.pointer (some ⟨b118, 0, none⟩)]) 53, .blk b118 ([.pointer (some ⟨b117, 0, none⟩), .slice none 0 0]) 98, .blk b117 (([] : List Value) ++ enc .u8 r116_0 ++ enc .u8 r116_1 ++ ([] : List Value)) 48, .blk b115 (enc .u8 (zeroA 16)) 42] [.rowL (CI .u8) a0_A a0_n a0_c a0, .rowL (CI .u8) a1_A a1_n a1_c a1] w ∧ ∃ g337 : Nat → Value, a = ⟨#[.slice a0_A a0_n a0_c, undef, .pointer none, .pointer (some ⟨b119, 0, none⟩), .int .i64 x120, .pointer (some ⟨b122, 0, none⟩), undef, .int .i64 z136, .int .u8 z137, (g337 9), undef, undef, undef, undef, .pointer (some ⟨b117, 0, none⟩), .agg #[.pointer (some ⟨b117, 0, none⟩), .slice none 0 0], .pointer (some ⟨b118, 0, none⟩), .slice a0_A a0_n a0_c, .int .i64 (a0.length : Int), .int .i64 (iquo .i64 (a0.length : Int) 4), .int .i64 x120, .int .i64 (iadd .i64 x120 7), .int .i64 (imul .i64 4 (iadd .i64 x120 7)), .slice s121_A s121_n s121_c, .slice a0_A a0_n a0_c, .func (.func 102) #[] #[.pointer (some ⟨b123, 0, none⟩), .pointer (some ⟨b124, 0, none⟩)], undef, undef, undef, undef, undef, undef, undef, .int .i64 x120, (g337 34), (g337 35), (g337 36), (g337 37), (g337 38), (g337 39), (g337 40), (g337 41), (g337 42), (g337 43), (g337 44), (g337 45), (g337 46), (g337 47), (g337 48), (g337 49), (g337 50), (g337 51), (g337 52), (g337 53), (g337 54), (g337 55), (g337 56), (g337 57), (g337 58), (g337 59), (g337 60), (g337 61), (g337 62), (g337 63), (g337 64), (g337 65), (g337 66), (g337 67), (g337 68), (g337 69), (g337 70), (g337 71), (g337 72), (g337 73), (g337 74), (g337 75), (g337 76), (g337 77), (g337 78), (g337 79), (g337 80), (g337 81), (g337 82), (g337 83), (g337 84), (g337 85), (g337 86), (g337 87), (g337 88), (g337 89), (g337 90), (g337 91), (g337 92), (g337 93), (g337 94), undef, undef, undef, undef, undef, undef, undef, undef, undef, undef, undef, undef, undef, undef, undef, undef, undef, undef, undef, undef, undef, undef, undef, undef, undef, undef, undef], [lmark D316]⟩) K ⟨x120, 1, y129, y129_A, y129_n, y129_c, hy, hs.conv rfl, exg (by kernel_rfl)⟩ ?_
    clear hs h hy
    rintro n a w ⟨z136, z137, z139, z139_A, z139_n, z139_c, h, hs, g337, rfl⟩ KL1 kl1
    cases n with
    | zero => exact nomatch (show none = some _ from h)
    | succ n =>
     refine xseq_k fun KS339 ks339 => ?_
     refine xseq_k fun KS340 ks340 => ?_
     refine xregS [0, 1, 2, 3, 4] fun KR341 kr341 => ?_
     refine wpS.qs [(0, 34, .int .i64 z136), (1, 35, .int .i64 x120), (2, 36, .int .i64 (iadd .i64 x120 7)), (3, 37, .int .i64 (imul .i64 4 (iadd .i64 x120 7)))] ?_
     rcases of_if h with ⟨hc, h⟩ | ⟨hc, h⟩
     ·refine wpS.tk 4 false (some 38) (.bool true) (yld_b (dt hc) (fun _ => by kernel_rfl)) ?_
      refine wpS.fin rfl (kr341 _ _ (then_n (ks340 _ _ (wp_cond_t (by kernel_rfl) (xskip (then_n (ks339 _ _ (xseq_k fun KS342 ks342 => (xblock (xseq_k fun KS343 ks343 => (xregS [0, 1, 2, 3, 4, 5, 6] fun KR344 kr344 => ?_)))))))))))
      refine wpS.tk 0 true (some 41) (.slice z139_A z139_n z139_c) (yld_load1 (e := 99) (o := 0) hs 4 rfl (by kernel_rfl) (by kernel_rfl) (by rfl) .grow) ?_
      refine wpS.qs [(1, 42, .int .i64 z136), (2, 43, .int .i64 (isub .i64 z136 1))] ?_
      obtain ⟨x142, hx, h⟩ := of_bind h
      have hx := of_some hx
      subst hx
      obtain ⟨h0, h⟩ := of_chk h
      obtain ⟨h1, h⟩ := of_chk h
      have i0_345 := h0
      have i1_345 := h1
      refine wpS.tk 3 false (some 44) (.pointer (adr z139_A (((isub .i64 z136 1) : Int).toNat * Cod.size (CA .u8 4 (by decide))))) (yld_idxL (C := (CA .u8 4 (by decide))) (t := 99) (e := 101) (k := .i64) (x := (isub .i64 z136 1)) (hs.rowL 5 rfl) (by kernel_rfl) (by kernel_rfl) (by kernel_rfl) h0 h1) ?_
      refine wpS.tk 4 true (some 45) (.agg (enc .u8 (rdL (CA .u8 4 (by decide)) z139 (isub .i64 z136 1))).toArray) (yld_loadLA (C := (CA .u8 4 (by decide))) (e := 101) (x := (isub .i64 z136 1)) (hs.rowL 5 rfl) (by kernel_rfl) rfl (by kernel_rfl) (by kernel_rfl) i0_345 i1_345) ?_
      refine wpS.only 5 (op_alloc (t := 101) (d := (some 9)) (by kernel_rfl) hs (enc .u8 (zeroA 4)) (.agg (enc .u8 (zeroA 4)).toArray) (by kernel_rfl) (by kernel_rfl) (by kernel_rfl) ?_)
      intro b143 w gw hs
      refine ⟨fun _ => trivial, ?_⟩
      refine wpS.only 6 (op_storeW (t := 101) (v := .agg (enc .u8 (rdL (CA .u8 4 (by decide)) z139 (isub .i64 z136 1))).toArray) (d := none) (by kernel_rfl) hs 0 rfl (vs := enc .u8 (rdL (CA .u8 4 (by decide)) z139 (isub .i64 z136 1))) (n := 4) (by kernel_rfl) (by kernel_rfl) (by kernel_rfl) (by simp [enc_len]) (by simp [enc_len]) (by intro u hu; exact enc_one _ _ u hu) ?_)
      intro w kp hs
      refine ⟨fun _ => trivial, ?_⟩
      refine wpS.fin rfl (kr344 _ _ (then_n (ks343 _ _ ?_)))
      obtain ⟨⟨y144, y145⟩, hj, h⟩ := of_bind h
      refine xseq_k fun KS347 ks347 => wp_join (N := fun a w => St w0 [] [.blk b143 (enc .u8 y145) 101, .obj l316 (.loop (rec316 .exhausted none)), .obj D316 (.deferred (some [])), .blk b124 ([.int .i64 4]) 3, .blk b123 ([.slice a0_A a0_n a0_c]) 26, .blk b122 ([.slice z139_A z139_n z139_c]) 99, .ownL (CA .u8 4 (by decide)) z139_A z139_n z139_c z139 101, .blk b119 ([.pointer (some ⟨b118, 0, none⟩)]) 53, .blk b118 ([.pointer (some ⟨b117, 0, none⟩), .slice none 0 0]) 98, .blk b117 (([] : List Value) ++ enc .u8 r116_0 ++ enc .u8 r116_1 ++ ([] : List Value)) 48, .blk b115 (enc .u8 (zeroA 16)) 42] [.rowL (CI .u8) a0_A a0_n a0_c a0, .rowL (CI .u8) a1_A a1_n a1_c a1] w ∧ ∃ g346 : Nat → Value, a = ⟨#[.slice a0_A a0_n a0_c, undef, .pointer none, .pointer (some ⟨b119, 0, none⟩), .int .i64 x120, .pointer (some ⟨b122, 0, none⟩), undef, .int .i64 z136, .int .u8 y144, .pointer (some ⟨b143, 0, none⟩), undef, undef, undef, undef, .pointer (some ⟨b117, 0, none⟩), .agg #[.pointer (some ⟨b117, 0, none⟩), .slice none 0 0], .pointer (some ⟨b118, 0, none⟩), .slice a0_A a0_n a0_c, .int .i64 (a0.length : Int), .int .i64 (iquo .i64 (a0.length : Int) 4), .int .i64 x120, .int .i64 (iadd .i64 x120 7), .int .i64 (imul .i64 4 (iadd .i64 x120 7)), .slice s121_A s121_n s121_c, .slice a0_A a0_n a0_c, .func (.func 102) #[] #[.pointer (some ⟨b123, 0, none⟩), .pointer (some ⟨b124, 0, none⟩)], undef, undef, undef, undef, undef, undef, undef, .int .i64 x120, .int .i64 z136, .int .i64 x120, .int .i64 (iadd .i64 x120 7), .int .i64 (imul .i64 4 (iadd .i64 x120 7)), .bool true, (g337 39), (g337 40), .slice z139_A z139_n z139_c, .int .i64 z136, .int .i64 (isub .i64 z136 1), .pointer (adr z139_A (((isub .i64 z136 1) : Int).toNat * Cod.size (CA .u8 4 (by decide)))), .agg (enc .u8 (rdL (CA .u8 4 (by decide)) z139 (isub .i64 z136 1))).toArray, (g346 46), (g346 47), (g346 48), (g346 49), (g346 50), (g346 51), (g346 52), (g346 53), (g346 54), (g346 55), (g346 56), (g346 57), (g346 58), (g346 59), (g346 60), (g346 61), (g346 62), (g346 63), (g346 64), (g346 65), (g346 66), (g346 67), (g346 68), (g346 69), (g346 70), (g346 71), (g346 72), (g346 73), (g346 74), (g346 75), (g346 76), (g346 77), (g346 78), (g346 79), (g346 80), (g346 81), (g346 82), (g346 83), (g337 84), (g337 85), (g337 86), (g337 87), (g337 88), (g337 89), (g337 90), (g337 91), (g337 92), (g337 93), (g337 94), undef, undef, undef, undef, undef, undef, undef, undef, undef, undef, undef, undef, undef, undef, undef, undef, undef, undef, undef, undef, undef, undef, undef, undef, undef, undef, undef], [lmark D316]⟩) (fun N nj => ?_) ?_
      ·clear h
       have h := hj
       refine xblock (xseq_k fun KS348 ks348 => (xregS [0, 1, 2, 3, 4] fun KR349 kr349 => ?_))
       refine wpS.qs [(0, 47, .int .i64 z136), (1, 48, .int .i64 x120)] ?_
       obtain ⟨h0, h⟩ := of_chk h
       refine wpS.tk 2 false (some 49) (.int .i64 (irem .i64 z136 x120)) (yld_rem (t := 3) (by kernel_rfl) h0) ?_
       rcases of_if h with ⟨hc, h⟩ | ⟨hc, h⟩
       ·refine wpS.tk 3 false (some 50) (.bool true) (yld_b (et hc) (fun _ => by kernel_rfl)) ?_
        refine wpS.q 4 46 (.bool true) ?_
        refine wpS.fin rfl (kr349 _ _ (then_n (ks348 _ _ (wp_cond_t (by kernel_rfl) (xseq_k fun KS350 ks350 => ?_)))))
        refine wp_regG [13, 17] (fun k => True) 18 (by kernel_rfl) (by kernel_rfl) (by kernel_rfl) fun KR351 kr351 => ?_
        have hs := hs.drawn1
        refine wpG.take [0, 1, 2, 3, 13, 16, 17] 0 true (some 51) (.pointer (some ⟨b118, 0, none⟩)) (by kernel_rfl) (by kernel_rfl) (yld_load1 (e := 53) (o := 0) hs 7 rfl (by kernel_rfl) (by kernel_rfl) (by rfl) .grow) ?_
        refine wpG.q 1 52 (.pointer (some ⟨b118, 0, none⟩)) ?_
        refine wpG.q 2 53 (.pointer (some ⟨b118, 0, none⟩)) ?_
        refine wpG.tD 3 true (some 54) (.pointer (some ⟨b117, 0, none⟩)) (yld_load1 (e := 49) (o := 0) hs 8 rfl (by kernel_rfl) (by kernel_rfl) (by rfl) .grow) ?_
        refine wpG.tD 4 false (some 55) (.pointer (some ⟨b143, 0 + (1 : Int).toNat * 1, none⟩)) (yld_idx (t := 101) (e := 5) (n := 4) (sz := 1) (k := .i64) (x := 1) (by kernel_rfl) (by kernel_rfl) (by kernel_rfl) (by decide) (by decide)) ?_
        refine wpG.take [5, 12, 13, 16, 17] 5 true (some 56) (.int .u8 (rd (rdL (CA .u8 4 (by decide)) z139 (isub .i64 z136 1)) 1)) (by kernel_rfl) (by kernel_rfl) (yld_loadA (e := 5) (x := 1) hs 0 rfl (by kernel_rfl) (by kernel_rfl) (by decide) (by decide) .grow) ?_
        refine wpG.tD 6 false (some 57) (.pointer (some ⟨b143, 0 + (2 : Int).toNat * 1, none⟩)) (yld_idx (t := 101) (e := 5) (n := 4) (sz := 1) (k := .i64) (x := 2) (by kernel_rfl) (by kernel_rfl) (by kernel_rfl) (by decide) (by decide)) ?_
        refine wpG.take [7, 12, 13, 16, 17] 7 true (some 58) (.int .u8 (rd (rdL (CA .u8 4 (by decide)) z139 (isub .i64 z136 1)) 2)) (by kernel_rfl) (by kernel_rfl) (yld_loadA (e := 5) (x := 2) hs 0 rfl (by kernel_rfl) (by kernel_rfl) (by decide) (by decide) .grow) ?_
        refine wpG.tD 8 false (some 59) (.pointer (some ⟨b143, 0 + (3 : Int).toNat * 1, none⟩)) (yld_idx (t := 101) (e := 5) (n := 4) (sz := 1) (k := .i64) (x := 3) (by kernel_rfl) (by kernel_rfl) (by kernel_rfl) (by decide) (by decide)) ?_
        refine wpG.take [9, 12, 13, 16, 17] 9 true (some 60) (.int .u8 (rd (rdL (CA .u8 4 (by decide)) z139 (isub .i64 z136 1)) 3)) (by kernel_rfl) (by kernel_rfl) (yld_loadA (e := 5) (x := 3) hs 0 rfl (by kernel_rfl) (by kernel_rfl) (by decide) (by decide) .grow) ?_
        refine wpG.tD 10 false (some 61) (.pointer (some ⟨b143, 0 + (0 : Int).toNat * 1, none⟩)) (yld_idx (t := 101) (e := 5) (n := 4) (sz := 1) (k := .i64) (x := 0) (by kernel_rfl) (by kernel_rfl) (by kernel_rfl) (by decide) (by decide)) ?_
        refine wpG.take [11, 12, 13, 16, 17] 11 true (some 62) (.int .u8 (rd (rdL (CA .u8 4 (by decide)) z139 (isub .i64 z136 1)) 0)) (by kernel_rfl) (by kernel_rfl) (yld_loadA (e := 5) (x := 0) hs 0 rfl (by kernel_rfl) (by kernel_rfl) (by decide) (by decide) .grow) ?_
        refine wpG.q 12 63 (.agg (enc .u8 (wr (wr (wr (wr (zeroA 4) 0 (rd (rdL (CA .u8 4 (by decide)) z139 (isub .i64 z136 1)) 1)) 1 (rd (rdL (CA .u8 4 (by decide)) z139 (isub .i64 z136 1)) 2)) 2 (rd (rdL (CA .u8 4 (by decide)) z139 (isub .i64 z136 1)) 3)) 3 (rd (rdL (CA .u8 4 (by decide)) z139 (isub .i64 z136 1)) 0))).toArray) ?_
        refine wpG.q 14 65 (.int .u8 z137) ?_
        refine wpG.q 15 66 (.agg (enc .u8 (wr (zeroA 4) 0 z137)).toArray) ?_
        obtain ⟨r146, hg, h⟩ := of_bind h
        refine wpG.only 13 (by kernel_rfl) (op_callX (d := (some 64)) (by kernel_rfl) hs 9 rfl (fun _ => by kernel_rfl) (aes_tables_boxed.ok hg _ (hs.blkAt 9 rfl)) ?_)
        intro w kp hs
        have hs := hs.conv (L' := [.blk b143 (enc .u8 (rdL (CA .u8 4 (by decide)) z139 (isub .i64 z136 1))) 101, .obj l316 (.loop (rec316 .exhausted none)), .obj D316 (.deferred (some [])), .blk b124 ([.int .i64 4]) 3, .blk b123 ([.slice a0_A a0_n a0_c]) 26, .blk b122 ([.slice z139_A z139_n z139_c]) 99, .ownL (CA .u8 4 (by decide)) z139_A z139_n z139_c z139 101, .blk b119 ([.pointer (some ⟨b118, 0, none⟩)]) 53, .blk b118 ([.pointer (some ⟨b117, 0, none⟩), .slice none 0 0]) 98, .blk b117 (([] : List Value) ++ enc .u8 r116_0 ++ enc .u8 r116_1 ++ ([] : List Value)) 48, .blk b115 (enc .u8 (zeroA 16)) 42]) rfl
        refine ⟨⟨fun hf => absurd hf (by decide), .all _ _⟩, ?_⟩
        obtain ⟨r147, hg, h⟩ := of_bind h
        refine wpG.only 16 (by kernel_rfl) (op_call (d := (some 67)) (by kernel_rfl) hs (fun _ => by kernel_rfl) (aes_word_xor.ok hg _) ?_)
        intro w gw hs
        refine ⟨.of gw, ?_⟩
        refine wpG.only 17 (by kernel_rfl) (op_storeW (t := 101) (v := .agg (enc .u8 r147).toArray) (d := none) (by kernel_rfl) hs 0 rfl (vs := enc .u8 r147) (n := 4) (by kernel_rfl) (by kernel_rfl) (by kernel_rfl) (by simp [enc_len]) (by simp [enc_len]) (by intro u hu; exact enc_one _ _ u hu) ?_)
        intro w kp hs
        refine ⟨⟨fun hf => absurd hf (by decide), .all _ _⟩, ?_⟩
        refine wpG.fin (by kernel_rfl) rfl (kr351 _ _ ?_)
        refine then_n (ks350 _ _ (xregS [0, 1, 2] fun KR356 kr356 => ?_))
        refine wpS.q 0 68 (.int .u8 z137) ?_
        obtain ⟨r148, hg, h⟩ := of_bind h
        refine wpS.only 1 (op_call (d := (some 69)) (by kernel_rfl) hs (fun _ => by kernel_rfl) (aes_Mul.ok hg _) ?_)
        intro w gw hs
        refine ⟨fun _ => trivial, ?_⟩
        refine wpS.q 2 8 (.int .u8 r148) ?_
        refine wpS.fin rfl (kr356 _ _ (inBlock_n ?_))
        obtain ⟨q0, qr0⟩ := Prod.mk.inj (of_some h)
        have q1 := qr0
        subst q0
        subst q1
        exact nj _ _ ⟨(hs.conv rfl), exg (by kernel_rfl)⟩
       refine wpS.tk 3 false (some 50) (.bool false) (yld_b (ef hc) (fun _ => by kernel_rfl)) ?_
       refine wpS.q 4 46 (.bool false) ?_
       refine wpS.fin rfl (kr349 _ _ (then_n (ks348 _ _ (wp_cond_f (by kernel_rfl) (xseq_k fun KS357 ks357 => (xregS [0, 1, 2, 3, 4, 5, 6, 7] fun KR358 kr358 => ?_))))))
       refine wpS.q 0 71 (.int .i64 x120) ?_
       rcases of_if h with ⟨hc, h⟩ | ⟨hc, h⟩
       ·refine wpS.tk 1 false (some 72) (.bool true) (yld_b (et hc) (fun _ => by kernel_rfl)) ?_
        refine wpS.qs [(2, 73, .bool true), (3, 74, .int .i64 z136), (4, 75, .int .i64 (irem .i64 z136 8))] ?_
        rcases of_if h with ⟨hc, h⟩ | ⟨hc, h⟩
        ·refine wpS.tk 5 false (some 76) (.bool true) (yld_b (et hc) (fun _ => by kernel_rfl)) ?_
         refine wpS.qs [(6, 77, .bool true), (7, 70, .bool true)] ?_
         refine wpS.fin rfl (kr358 _ _ (then_n (ks357 _ _ (wp_cond_t (by kernel_rfl) ?_))))
         refine wp_regG [5, 6] (fun k => True) 7 (by kernel_rfl) (by kernel_rfl) (by kernel_rfl) fun KR359 kr359 => ?_
         have hs := hs.drawn1
         refine wpG.take [0, 1, 2, 3, 5, 6] 0 true (some 78) (.pointer (some ⟨b118, 0, none⟩)) (by kernel_rfl) (by kernel_rfl) (yld_load1 (e := 53) (o := 0) hs 7 rfl (by kernel_rfl) (by kernel_rfl) (by rfl) .grow) ?_
         refine wpG.q 1 79 (.pointer (some ⟨b118, 0, none⟩)) ?_
         refine wpG.q 2 80 (.pointer (some ⟨b118, 0, none⟩)) ?_
         refine wpG.tD 3 true (some 81) (.pointer (some ⟨b117, 0, none⟩)) (yld_load1 (e := 49) (o := 0) hs 8 rfl (by kernel_rfl) (by kernel_rfl) (by rfl) .grow) ?_
         refine wpG.tD 4 true (some 82) (.agg (enc .u8 (rdL (CA .u8 4 (by decide)) z139 (isub .i64 z136 1))).toArray) (yld_loadW (e := 101) (n := 4) hs 0 rfl (by kernel_rfl) (by kernel_rfl) (by kernel_rfl) (by exact enc_len _ _) .grow) ?_
         obtain ⟨r149, hg, h⟩ := of_bind h
         refine wpG.only 5 (by kernel_rfl) (op_callX (d := (some 83)) (by kernel_rfl) hs 9 rfl (fun _ => by kernel_rfl) (aes_tables_boxed.ok hg _ (hs.blkAt 9 rfl)) ?_)
         intro w kp hs
         have hs := hs.conv (L' := [.blk b143 (enc .u8 (rdL (CA .u8 4 (by decide)) z139 (isub .i64 z136 1))) 101, .obj l316 (.loop (rec316 .exhausted none)), .obj D316 (.deferred (some [])), .blk b124 ([.int .i64 4]) 3, .blk b123 ([.slice a0_A a0_n a0_c]) 26, .blk b122 ([.slice z139_A z139_n z139_c]) 99, .ownL (CA .u8 4 (by decide)) z139_A z139_n z139_c z139 101, .blk b119 ([.pointer (some ⟨b118, 0, none⟩)]) 53, .blk b118 ([.pointer (some ⟨b117, 0, none⟩), .slice none 0 0]) 98, .blk b117 (([] : List Value) ++ enc .u8 r116_0 ++ enc .u8 r116_1 ++ ([] : List Value)) 48, .blk b115 (enc .u8 (zeroA 16)) 42]) rfl
         refine ⟨⟨fun hf => absurd hf (by decide), .all _ _⟩, ?_⟩
         refine wpG.only 6 (by kernel_rfl) (op_storeW (t := 101) (v := .agg (enc .u8 r149).toArray) (d := none) (by kernel_rfl) hs 0 rfl (vs := enc .u8 r149) (n := 4) (by kernel_rfl) (by kernel_rfl) (by kernel_rfl) (by simp [enc_len]) (by simp [enc_len]) (by intro u hu; exact enc_one _ _ u hu) ?_)
         intro w kp hs
         refine ⟨⟨fun hf => absurd hf (by decide), .all _ _⟩, ?_⟩
         refine wpG.fin (by kernel_rfl) rfl (kr359 _ _ ?_)
         refine inBlock_n ?_
         obtain ⟨q0, qr0⟩ := Prod.mk.inj (of_some h)
         have q1 := qr0
         subst q0
         subst q1
         exact nj _ _ ⟨(hs.conv rfl), exg (by kernel_rfl)⟩
        refine wpS.tk 5 false (some 76) (.bool false) (yld_b (ef hc) (fun _ => by kernel_rfl)) ?_
        refine wpS.qs [(6, 77, .bool false), (7, 70, .bool false)] ?_
        refine wpS.fin rfl (kr358 _ _ (then_n (ks357 _ _ (wp_cond_f (by kernel_rfl) (xskip (inBlock_n ?_))))))
        obtain ⟨q0, qr0⟩ := Prod.mk.inj (of_some h)
        have q1 := qr0
        subst q0
        subst q1
        exact nj _ _ ⟨(hs.conv rfl), exg (by kernel_rfl)⟩
       refine wpS.tk 1 false (some 72) (.bool false) (yld_b (ef hc) (fun _ => by kernel_rfl)) ?_
       refine wpS.qs [(2, 73, .bool false), (3, 74, undef), (4, 75, undef), (5, 76, undef), (6, 77, .bool false), (7, 70, .bool false)] ?_
       refine wpS.fin rfl (kr358 _ _ (then_n (ks357 _ _ (wp_cond_f (by kernel_rfl) (xskip (inBlock_n ?_))))))
       obtain ⟨q0, qr0⟩ := Prod.mk.inj (of_some h)
       have q1 := qr0
       subst q0
       subst q1
       exact nj _ _ ⟨(hs.conv rfl), exg (by kernel_rfl)⟩
      clear hj hs
      rintro a w ⟨hs, g346, rfl⟩
      refine then_n (ks347 _ _ ?_)
      refine wp_regG [10, 11] (fun k => True) 12 (by kernel_rfl) (by kernel_rfl) (by kernel_rfl) fun KR360 kr360 => ?_
      have hs := hs.drawn1
      refine wpG.tD 0 true (some 84) (.slice z139_A z139_n z139_c) (yld_load1 (e := 99) (o := 0) hs 5 rfl (by kernel_rfl) (by kernel_rfl) (by rfl) .grow) ?_
      refine wpG.take [1, 5, 6, 8, 9, 10, 11] 1 true (some 85) (.slice z139_A z139_n z139_c) (by kernel_rfl) (by kernel_rfl) (yld_load1 (e := 99) (o := 0) hs 5 rfl (by kernel_rfl) (by kernel_rfl) (by rfl) .grow) ?_
      refine wpG.q 2 86 (.int .i64 z136) ?_
      refine wpG.q 3 87 (.int .i64 x120) ?_
      refine wpG.q 4 88 (.int .i64 (isub .i64 z136 x120)) ?_
      obtain ⟨x150, hx, h⟩ := of_bind h
      have hx := of_some hx
      subst hx
      obtain ⟨h0, h⟩ := of_chk h
      obtain ⟨h1, h⟩ := of_chk h
      have i0_361 := h0
      have i1_361 := h1
      refine wpG.tD 5 false (some 89) (.pointer (adr z139_A (((isub .i64 z136 x120) : Int).toNat * Cod.size (CA .u8 4 (by decide))))) (yld_idxL (C := (CA .u8 4 (by decide))) (t := 99) (e := 101) (k := .i64) (x := (isub .i64 z136 x120)) (hs.rowL 6 rfl) (by kernel_rfl) (by kernel_rfl) (by kernel_rfl) h0 h1) ?_
      refine wpG.take [6, 8, 9, 10, 11] 6 true (some 90) (.agg (enc .u8 (rdL (CA .u8 4 (by decide)) z139 (isub .i64 z136 x120))).toArray) (by kernel_rfl) (by kernel_rfl) (yld_loadLA (C := (CA .u8 4 (by decide))) (e := 101) (x := (isub .i64 z136 x120)) (hs.rowL 6 rfl) (by kernel_rfl) rfl (by kernel_rfl) (by kernel_rfl) i0_361 i1_361) ?_
      refine wpG.take [7, 8, 9, 10, 11] 7 true (some 91) (.agg (enc .u8 y145).toArray) (by kernel_rfl) (by kernel_rfl) (yld_loadW (e := 101) (n := 4) hs 0 rfl (by kernel_rfl) (by kernel_rfl) (by kernel_rfl) (by exact enc_len _ _) .grow) ?_
      obtain ⟨r151, hg, h⟩ := of_bind h
      refine wpG.only 8 (by kernel_rfl) (op_call (d := (some 92)) (by kernel_rfl) hs (fun _ => by kernel_rfl) (aes_word_xor.ok hg _) ?_)
      intro w gw hs
      refine ⟨.of gw, ?_⟩
      refine wpG.only 9 (by kernel_rfl) (op_litL (C := (CA .u8 4 (by decide))) (t := 99) (e := 101) (len := 1) (parts := #[(0, .agg (enc .u8 r151).toArray)]) (l := [r151]) (d := (some 93)) (by kernel_rfl) hs (by kernel_rfl) rfl (by kernel_rfl) (by kernel_rfl) (z := .agg (enc .u8 (zeroA 4)).toArray) (by kernel_rfl) rfl (by decide) (by decide) ?_)
      intro s152_A s152_n s152_c w gw hs
      refine ⟨.of gw, ?_⟩
      obtain ⟨h0, h⟩ := of_chk h
      refine wpG.only 10 (by kernel_rfl) (op_appendT (C := (CA .u8 4 (by decide))) (t := 99) (ty := 99) (e := 101) (bytes := 4) (B := 35184372088832) (d := (some 94)) (by kernel_rfl) hs 7 rfl (hs.rowL 0 rfl) (by kernel_rfl) (by kernel_rfl) (by kernel_rfl) (by kernel_rfl) (by kernel_rfl) h0 (by decide) (by decide) ?_)
      intro s153_A s153_n s153_c w hs
      refine ⟨⟨fun hf => absurd hf (by decide), .all _ _⟩, ?_⟩
      refine wpG.only 11 (by kernel_rfl) (op_store1 (t := 99) (o := 0) (v := .slice s153_A s153_n s153_c) (d := none) (by kernel_rfl) hs 6 rfl (by kernel_rfl) rfl (by kernel_rfl) (by simp) ?_)
      intro w kp hs
      refine ⟨⟨fun hf => absurd hf (by decide), .all _ _⟩, ?_⟩
      refine wpG.fin (by kernel_rfl) rfl (kr360 _ _ ?_)
      refine inBlock_n (then_n (ks342 _ _ (xregS [0, 1, 2] fun KR362 kr362 => ?_)))
      refine wpS.qs [(0, 39, .int .i64 z136), (1, 40, .int .i64 (iadd .i64 z136 1))] ?_
      obtain ⟨x154, hx, h⟩ := of_bind h
      refine wpS.tk 2 false (some 7) (.int .i64 x154) (yld_int hx (fun _ => by kernel_rfl)) ?_
      refine wpS.fin rfl (kr362 _ _ ?_)
      exact then_n (kl1 _ _ ⟨n, Nat.lt_succ_self n, x154, y144, (z139 ++ ([r151] : List (Arr 4))), s153_A, s153_n, s153_c, h, (hs.drop (.cons _ (.cons _ (.cons_cons _ (.cons_cons _ (.cons_cons _ (.cons_cons _ (.cons_cons _ (.cons_cons _ (.cons_cons _ (.cons_cons _ (.cons_cons _ (.cons_cons _ .slnil))))))))))))), exg (by kernel_rfl)⟩)
     refine wpS.tk 4 false (some 38) (.bool false) (yld_b (df hc) (fun _ => by kernel_rfl)) ?_
     refine wpS.fin rfl (kr341 _ _ (then_n (ks340 _ _ (wp_cond_f (by kernel_rfl) (xexit (then_x (then_x (inBlock_hit ?_))))))))
     have q0 := of_some h
     subst q0
     exact exq_n (nn1 _ _ ⟨z139_A, z139_n, z139_c, (hs.conv rfl), exg (by kernel_rfl)⟩)
   clear hs h hy
   rintro a w ⟨y141_A, y141_n, y141_c, hs, g338, rfl⟩
   have h := hk1
   refine then_n (ks334 _ _ (xseq_k fun KS363 ks363 => (xseq_k fun KS364 ks364 => (xregS [0, 1] fun KR365 kr365 => ?_))))
   refine wpS.tk 0 true (some 95) (.slice y141_A y141_n y141_c) (yld_load1 (e := 99) (o := 0) hs 4 rfl (by kernel_rfl) (by kernel_rfl) (by rfl) .grow) ?_
   refine wpS.only 1 (op_inline (d := (some 96)) (f := 85) (args := #[.slice y141_A y141_n y141_c, .int .i64 4]) (by kernel_rfl) (fun _ => by kernel_rfl) fun R366 kI366 => ?_)
   refine calls_k Try.func85 rfl fun Q366 qq366 => ?_
   refine wp_conv (a' := ⟨#[.slice y141_A y141_n y141_c, .int .i64 4, undef, undef, undef, undef, undef, undef, undef], []⟩) (by kernel_rfl) ?_
   refine xseq_k fun KS367 ks367 => ?_
   refine xregS [0, 1, 2] fun KR368 kr368 => ?_
   refine wpS.only 0 (op_box (t := 99) (v := .slice y141_A y141_n y141_c) (d := (some 2)) (by kernel_rfl) hs ([.slice y141_A y141_n y141_c]) (by kernel_rfl) (by kernel_rfl) ?_)
   intro b155 w gw hs
   refine ⟨fun _ => trivial, ?_⟩
   refine wpS.only 1 (op_box (t := 3) (v := .int .i64 4) (d := (some 3)) (by kernel_rfl) hs ([.int .i64 4]) (by kernel_rfl) (by kernel_rfl) ?_)
   intro b156 w gw hs
   refine ⟨fun _ => trivial, ?_⟩
   refine wpS.q 2 4 (.nilFunc) ?_
   refine wpS.fin rfl (kr368 _ _ (then_n (ks367 _ _ (xseq_k fun KS369 ks369 => (xseq_k fun KS370 ks370 => (xregS [0, 1] fun KR371 kr371 => ?_))))))
   refine wpS.tk 0 true (some 5) (.int .i64 4) (yld_load1 (e := 3) (o := 0) hs 0 rfl (by kernel_rfl) (by kernel_rfl) (by rfl) .grow) ?_
   refine wpS.q 1 6 (.bool false) ?_
   refine wpS.fin rfl (kr371 _ _ (then_n (ks370 _ _ (wp_cond_f (by kernel_rfl) (xskip (then_n (ks369 _ _ (xseq_k fun KS372 ks372 => (xregS [0, 1] fun KR373 kr373 => ?_)))))))))
   refine wpS.qs [(0, 8, .func (.func 108) #[] #[.pointer (some ⟨b155, 0, none⟩), .pointer (some ⟨b156, 0, none⟩)]), (1, 4, .func (.func 108) #[] #[.pointer (some ⟨b155, 0, none⟩), .pointer (some ⟨b156, 0, none⟩)])] ?_
   refine wpS.fin rfl (kr373 _ _ (then_n (ks372 _ _ (xret ?_))))
   refine qq366 _ _ (post_ret (by kernel_rfl) (run_results [.tmp 4] [.func (.func 108) #[] #[.pointer (some ⟨b155, 0, none⟩), .pointer (some ⟨b156, 0, none⟩)]] (by kernel_rfl) (.cons (res_tmp (by kernel_rfl)) .nil)) ?_)
   refine kI366 _ _ ?_
   refine ⟨fun _ => trivial, ?_⟩
   refine wpS.fin rfl (kr365 _ _ (then_n (ks364 _ _ (xblock ?_))))
   refine wp_range (gf := 108) (lb := #[.pointer (some ⟨b155, 0, none⟩), .pointer (some ⟨b156, 0, none⟩)]) hs (by kernel_rfl) (fun _ _ => by kernel_rfl) fun l374 D374 rec374 w hok374 hs R374 kR374 => ?_
   refine calls_kn Try.func108 rfl fun Q374 qq374 qn374 => ?_
   refine wp_conv (a' := ⟨#[.func (.yield l374) #[] #[], .pointer (some ⟨b155, 0, none⟩), .pointer (some ⟨b156, 0, none⟩), undef, undef, undef, undef, undef, undef, undef, undef, undef, undef, undef, undef, undef, undef, undef, undef, undef, undef, undef, undef, undef, undef, undef, undef, undef, undef, undef, undef], []⟩) (by kernel_rfl) ?_
   refine xseq_k fun KS375 ks375 => ?_
   refine xregS [0] fun KR376 kr376 => ?_
   refine wpS.q 0 4 (.int .i64 0) ?_
   refine wpS.fin rfl (kr376 _ _ (then_n (ks375 _ _ ?_)))
   have hs := hs.addNilL (CA .u8 16 (by decide)) 42
   have hs := hs.freeze 10 rfl
   obtain ⟨y160, hy, hk2⟩ := of_bind h
   refine wp_exq (N := fun a w => ∃ (y160_A : Option Addr) (y160_n : Nat) (y160_c : Nat), St w0 [] [.ownL (CA .u8 16 (by decide)) y160_A y160_n y160_c y160 42, .obj l374 (.loop (rec374 .ready none)), .obj D374 (.deferred (some [])), .blk b156 ([.int .i64 4]) 3, .blk b155 ([.slice y141_A y141_n y141_c]) 99, .obj l316 (.loop (rec316 .exhausted none)), .obj D316 (.deferred (some [])), .blk b124 ([.int .i64 4]) 3, .blk b123 ([.slice a0_A a0_n a0_c]) 26, .blk b122 ([.slice y141_A y141_n y141_c]) 99, .blk b119 ([.pointer (some ⟨b118, 0, none⟩)]) 53, .blk b118 ([.pointer (some ⟨b117, 0, none⟩), .slice y160_A y160_n y160_c]) 98, .blk b117 (([] : List Value) ++ enc .u8 r116_0 ++ enc .u8 r116_1 ++ ([] : List Value)) 48, .blk b115 (enc .u8 (zeroA 16)) 42] [.rowL (CA .u8 4 (by decide)) y141_A y141_n y141_c y141, .rowL (CI .u8) a0_A a0_n a0_c a0, .rowL (CI .u8) a1_A a1_n a1_c a1] w ∧ ∃ g378 : Nat → Value, a = ⟨#[.func (.yield l374) #[] #[], .pointer (some ⟨b155, 0, none⟩), .pointer (some ⟨b156, 0, none⟩), undef, (g378 4), (g378 5), (g378 6), (g378 7), (g378 8), (g378 9), (g378 10), (g378 11), (g378 12), (g378 13), (g378 14), (g378 15), (g378 16), (g378 17), (g378 18), (g378 19), (g378 20), (g378 21), (g378 22), (g378 23), (g378 24), (g378 25), (g378 26), (g378 27), (g378 28), (g378 29), (g378 30)], []⟩) (fun N2 nn2 => ?_) ?_
   ·clear hk2
    refine xblock ?_
    refine wp_loop_k (fun n a w => ∃ z157 z158, ∃ (z158_A : Option Addr) (z158_n : Nat) (z158_c : Nat), aes_Back.l2 K n y141 z157 z158 = some y160 ∧ St w0 [] [.ownL (CA .u8 16 (by decide)) z158_A z158_n z158_c z158 42, .obj l374 (.loop (rec374 .ready none)), .obj D374 (.deferred (some [])), .blk b156 ([.int .i64 4]) 3, .blk b155 ([.slice y141_A y141_n y141_c]) 99, .obj l316 (.loop (rec316 .exhausted none)), .obj D316 (.deferred (some [])), .blk b124 ([.int .i64 4]) 3, .blk b123 ([.slice a0_A a0_n a0_c]) 26, .blk b122 ([.slice y141_A y141_n y141_c]) 99, .blk b119 ([.pointer (some ⟨b118, 0, none⟩)]) 53, .blk b118 ([.pointer (some ⟨b117, 0, none⟩), .slice z158_A z158_n z158_c]) 98, .blk b117 (([] : List Value) ++ enc .u8 r116_0 ++ enc .u8 r116_1 ++ ([] : List Value)) 48, .blk b115 (enc .u8 (zeroA 16)) 42] [.rowL (CA .u8 4 (by decide)) y141_A y141_n y141_c y141, .rowL (CI .u8) a0_A a0_n a0_c a0, .rowL (CI .u8) a1_A a1_n a1_c a1] w ∧ ∃ g377 : Nat → Value, a = ⟨#[.func (.yield l374) #[] #[], .pointer (some ⟨b155, 0, none⟩), .pointer (some ⟨b156, 0, none⟩), undef, .int .i64 z157, (g377 5), (g377 6), (g377 7), (g377 8), (g377 9), (g377 10), (g377 11), (g377 12), (g377 13), (g377 14), (g377 15), (g377 16), (g377 17), (g377 18), (g377 19), (g377 20), (g377 21), (g377 22), (g377 23), (g377 24), (g377 25), (g377 26), (g377 27), (g377 28), (g377 29), (g377 30)], []⟩) K ⟨0, ([] : List (Arr 16)), none, 0, 0, hy, hs.conv rfl, exg (by kernel_rfl)⟩ ?_
    clear hs h hy
    rintro n a w ⟨z157, z158, z158_A, z158_n, z158_c, h, hs, g377, rfl⟩ KL2 kl2
    cases n with
    | zero => exact nomatch (show none = some _ from h)
    | succ n =>
     refine xseq_k fun KS379 ks379 => ?_
     refine xseq_k fun KS380 ks380 => ?_
     refine xregS [0, 1, 2, 3] fun KR381 kr381 => ?_
     refine wpS.q 0 6 (.int .i64 z157) ?_
     refine wpS.tk 1 true (some 7) (.slice y141_A y141_n y141_c) (yld_load1 (e := 99) (o := 0) hs 4 rfl (by kernel_rfl) (by kernel_rfl) (by rfl) .grow) ?_
     refine wpS.tk 2 false (some 8) (.int .i64 (y141.length : Int)) (yld_lenL (hs.rowR 0 rfl) (fun _ => by kernel_rfl)) ?_
     rcases of_if h with ⟨hc, h⟩ | ⟨hc, h⟩
     ·refine wpS.tk 3 false (some 9) (.bool true) (yld_b (dt hc) (fun _ => by kernel_rfl)) ?_
      refine wpS.fin rfl (kr381 _ _ (then_n (ks380 _ _ (wp_cond_t (by kernel_rfl) (xskip (then_n (ks379 _ _ (xseq_k fun KS382 ks382 => (xblock (xseq_k fun KS383 ks383 => ?_))))))))))
      refine wp_regG [] (fun k => True) 7 (by kernel_rfl) (by kernel_rfl) (by kernel_rfl) fun KR384 kr384 => ?_
      have hs := hs.drawn1
      refine wpG.tD 0 true (some 13) (.int .i64 4) (yld_load1 (e := 3) (o := 0) hs 3 rfl (by kernel_rfl) (by kernel_rfl) (by rfl) .grow) ?_
      refine wpG.tD 1 true (some 14) (.slice y141_A y141_n y141_c) (yld_load1 (e := 99) (o := 0) hs 4 rfl (by kernel_rfl) (by kernel_rfl) (by rfl) .grow) ?_
      refine wpG.q 2 15 (.int .i64 z157) ?_
      obtain ⟨h0, h⟩ := of_chk h
      obtain ⟨h1, h⟩ := of_chk h
      obtain ⟨h2, h⟩ := of_chk h
      obtain ⟨s162_A, hA⟩ : ∃ A, A = if y141_c = (z157 : Int).toNat then y141_A else adr y141_A ((z157 : Int).toNat * Cod.size (CA .u8 4 (by decide))) := ⟨_, rfl⟩
      obtain ⟨s162_n, hn⟩ : ∃ n, n = ((y141.length : Int) : Int).toNat - (z157 : Int).toNat := ⟨_, rfl⟩
      obtain ⟨s162_c, hc⟩ : ∃ c, c = y141_c - (z157 : Int).toNat := ⟨_, rfl⟩
      refine wpG.tD 3 false (some 16) (.slice s162_A s162_n s162_c) (yld_sub (C := (CA .u8 4 (by decide))) (t := 99) (e := 101) (low := some (.int .i64 z157)) (high := none) (lo := z157) (hi := (y141.length : Int)) (hs.rowR 0 rfl) (by kernel_rfl) (by kernel_rfl) (by kernel_rfl) (.inr ⟨_, rfl⟩) (.inl ⟨rfl, rfl⟩) h0 h1 h2 hA hn hc) ?_
      have hs := hs.addSub (C := (CA .u8 4 (by decide))) 0 rfl h0 h1 h2 hA hn hc
      refine wpG.tD 4 false (some 17) (.int .i64 ((subL y141 z157 (y141.length : Int)).length : Int)) (yld_lenL (hs.rowR 0 rfl) (fun _ => by kernel_rfl)) ?_
      refine wpG.q 5 18 (.int .i64 (imin 4 ((subL y141 z157 (y141.length : Int)).length : Int))) ?_
      obtain ⟨x163, hx, h⟩ := of_bind h
      refine wpG.tD 6 false (some 5) (.int .i64 x163) (yld_int hx (fun _ => by kernel_rfl)) ?_
      refine wpG.fin (by kernel_rfl) rfl (kr384 _ _ ?_)
      refine then_n (ks383 _ _ (xseq_k fun KS385 ks385 => (xregS [0, 1, 2, 3, 4, 5, 6, 7, 8, 9, 10, 11] fun KR386 kr386 => ?_)))
      refine wpS.q 0 19 (.func (.yield l374) #[] #[]) ?_
      refine wpS.tk 1 true (some 20) (.slice y141_A y141_n y141_c) (yld_load1 (e := 99) (o := 0) hs 4 rfl (by kernel_rfl) (by kernel_rfl) (by rfl) .grow) ?_
      refine wpS.qs [(2, 21, .int .i64 z157), (3, 22, .int .i64 z157), (4, 23, .int .i64 x163), (5, 24, .int .i64 (iadd .i64 z157 x163)), (6, 25, .int .i64 z157), (7, 26, .int .i64 x163), (8, 27, .int .i64 (iadd .i64 z157 x163))] ?_
      obtain ⟨h0, h⟩ := of_chk h
      obtain ⟨h1, h⟩ := of_chk h
      obtain ⟨h2, h⟩ := of_chk h
      obtain ⟨h3, h⟩ := of_chk h
      obtain ⟨s164_A, hA⟩ : ∃ A, A = if ((iadd .i64 z157 x163) : Int).toNat = (z157 : Int).toNat then y141_A else adr y141_A ((z157 : Int).toNat * Cod.size (CA .u8 4 (by decide))) := ⟨_, rfl⟩
      obtain ⟨s164_n, hn⟩ : ∃ n, n = ((iadd .i64 z157 x163) : Int).toNat - (z157 : Int).toNat := ⟨_, rfl⟩
      obtain ⟨s164_c, hc⟩ : ∃ c, c = ((iadd .i64 z157 x163) : Int).toNat - (z157 : Int).toNat := ⟨_, rfl⟩
      refine wpS.tk 9 false (some 28) (.slice s164_A s164_n s164_c) (yld_sub3 (mx := (iadd .i64 z157 x163)) (k := .i64) (C := (CA .u8 4 (by decide))) (t := 99) (e := 101) (low := some (.int .i64 z157)) (high := some (.int .i64 (iadd .i64 z157 x163))) (lo := z157) (hi := (iadd .i64 z157 x163)) (hs.rowR 1 rfl) (by kernel_rfl) (by kernel_rfl) (by kernel_rfl) (.inr ⟨_, rfl⟩) ⟨_, rfl⟩ h0 h1 h2 h3 hA hn hc) ?_
      have hs := hs.addSub3 (C := (CA .u8 4 (by decide))) 1 rfl h0 h1 h2 h3 hA hn hc
      refine wpS.onlyR 10 (op_yield (d := (some 29)) (by kernel_rfl) hs 1 rfl hok374 #[.slice s164_A s164_n s164_c] (by kernel_rfl) rfl (tm := #[.slice a0_A a0_n a0_c, undef, .pointer none, .pointer (some ⟨b119, 0, none⟩), .int .i64 x120, .pointer (some ⟨b122, 0, none⟩), undef, (g338 7), (g338 8), (g338 9), undef, undef, undef, undef, .pointer (some ⟨b117, 0, none⟩), .agg #[.pointer (some ⟨b117, 0, none⟩), .slice none 0 0], .pointer (some ⟨b118, 0, none⟩), .slice a0_A a0_n a0_c, .int .i64 (a0.length : Int), .int .i64 (iquo .i64 (a0.length : Int) 4), .int .i64 x120, .int .i64 (iadd .i64 x120 7), .int .i64 (imul .i64 4 (iadd .i64 x120 7)), .slice s121_A s121_n s121_c, .slice a0_A a0_n a0_c, .func (.func 102) #[] #[.pointer (some ⟨b123, 0, none⟩), .pointer (some ⟨b124, 0, none⟩)], undef, undef, undef, undef, undef, undef, undef, .int .i64 x120, (g338 34), (g338 35), (g338 36), (g338 37), (g338 38), (g338 39), (g338 40), (g338 41), (g338 42), (g338 43), (g338 44), (g338 45), (g338 46), (g338 47), (g338 48), (g338 49), (g338 50), (g338 51), (g338 52), (g338 53), (g338 54), (g338 55), (g338 56), (g338 57), (g338 58), (g338 59), (g338 60), (g338 61), (g338 62), (g338 63), (g338 64), (g338 65), (g338 66), (g338 67), (g338 68), (g338 69), (g338 70), (g338 71), (g338 72), (g338 73), (g338 74), (g338 75), (g338 76), (g338 77), (g338 78), (g338 79), (g338 80), (g338 81), (g338 82), (g338 83), (g338 84), (g338 85), (g338 86), (g338 87), (g338 88), (g338 89), (g338 90), (g338 91), (g338 92), (g338 93), (g338 94), .slice y141_A y141_n y141_c, .func (.func 108) #[] #[.pointer (some ⟨b155, 0, none⟩), .pointer (some ⟨b156, 0, none⟩)], .slice s164_A s164_n s164_c, undef, undef, undef, undef, undef, undef, undef, undef, undef, undef, undef, undef, undef, undef, undef, undef, undef, undef, undef, undef, undef, undef, undef, undef]) (by kernel_rfl) (by kernel_rfl) fun K387 k387 => ?_)
      refine xregS [0] fun KR388 kr388 => ?_
      refine wpS.q 0 10 (.slice s164_A s164_n s164_c) ?_
      refine wpS.fin rfl (kr388 _ _ (then_n (k387 _ _ 1 _ _ hs rfl fun w Qr387 hs qr387 => ?_)))
      dsimp only [List.set] at hs
      refine xblock (xseq_k fun KS389 ks389 => (xregS [0] fun KR390 kr390 => ?_))
      refine wpS.only 0 (op_alloc (t := 42) (d := (some 11)) (by kernel_rfl) hs (enc .u8 (zeroA 16)) (.agg (enc .u8 (zeroA 16)).toArray) (by kernel_rfl) (by kernel_rfl) (by kernel_rfl) ?_)
      intro b165 w gw hs
      refine ⟨fun _ => trivial, ?_⟩
      refine wpS.fin rfl (kr390 _ _ (then_n (ks389 _ _ (xseq_k fun KS391 ks391 => (xseq_k fun KS392 ks392 => (xregS [0, 1, 2] fun KR393 kr393 => ?_))))))
      refine wpS.q 0 98 (.slice s164_A s164_n s164_c) ?_
      refine wpS.tk 1 false (some 99) (.int .i64 ((subL y141 z157 (iadd .i64 z157 x163)).length : Int)) (yld_lenL (hs.rowR 0 rfl) (fun _ => by kernel_rfl)) ?_
      refine wpS.q 2 100 (.int .i64 0) ?_
      refine wpS.fin rfl (kr393 _ _ (then_n (ks392 _ _ ?_)))
      obtain ⟨y168, hy, hk3⟩ := of_bind h
      refine wp_exq (N := fun a w => St w0 [] [.blk b165 (enc .u8 y168) 42, .ownL (CA .u8 16 (by decide)) z158_A z158_n z158_c z158 42, .obj l374 (.loop (rec374 .busy none)), .obj D374 (.deferred (some [])), .blk b156 ([.int .i64 4]) 3, .blk b155 ([.slice y141_A y141_n y141_c]) 99, .obj l316 (.loop (rec316 .exhausted none)), .obj D316 (.deferred (some [])), .blk b124 ([.int .i64 4]) 3, .blk b123 ([.slice a0_A a0_n a0_c]) 26, .blk b122 ([.slice y141_A y141_n y141_c]) 99, .blk b119 ([.pointer (some ⟨b118, 0, none⟩)]) 53, .blk b118 ([.pointer (some ⟨b117, 0, none⟩), .slice z158_A z158_n z158_c]) 98, .blk b117 (([] : List Value) ++ enc .u8 r116_0 ++ enc .u8 r116_1 ++ ([] : List Value)) 48, .blk b115 (enc .u8 (zeroA 16)) 42] [.rowL (CA .u8 4 (by decide)) s164_A s164_n s164_c (subL y141 z157 (iadd .i64 z157 x163)), .rowL (CA .u8 4 (by decide)) s162_A s162_n s162_c (subL y141 z157 (y141.length : Int)), .rowL (CA .u8 4 (by decide)) y141_A y141_n y141_c y141, .rowL (CI .u8) a0_A a0_n a0_c a0, .rowL (CI .u8) a1_A a1_n a1_c a1] w ∧ ∃ g395 : Nat → Value, a = ⟨#[.slice a0_A a0_n a0_c, undef, .pointer none, .pointer (some ⟨b119, 0, none⟩), .int .i64 x120, .pointer (some ⟨b122, 0, none⟩), undef, (g338 7), (g338 8), (g338 9), .slice s164_A s164_n s164_c, .pointer (some ⟨b165, 0, none⟩), (g395 12), (g395 13), .pointer (some ⟨b117, 0, none⟩), .agg #[.pointer (some ⟨b117, 0, none⟩), .slice none 0 0], .pointer (some ⟨b118, 0, none⟩), .slice a0_A a0_n a0_c, .int .i64 (a0.length : Int), .int .i64 (iquo .i64 (a0.length : Int) 4), .int .i64 x120, .int .i64 (iadd .i64 x120 7), .int .i64 (imul .i64 4 (iadd .i64 x120 7)), .slice s121_A s121_n s121_c, .slice a0_A a0_n a0_c, .func (.func 102) #[] #[.pointer (some ⟨b123, 0, none⟩), .pointer (some ⟨b124, 0, none⟩)], undef, undef, undef, undef, undef, undef, undef, .int .i64 x120, (g338 34), (g338 35), (g338 36), (g338 37), (g338 38), (g338 39), (g338 40), (g338 41), (g338 42), (g338 43), (g338 44), (g338 45), (g338 46), (g338 47), (g338 48), (g338 49), (g338 50), (g338 51), (g338 52), (g338 53), (g338 54), (g338 55), (g338 56), (g338 57), (g338 58), (g338 59), (g338 60), (g338 61), (g338 62), (g338 63), (g338 64), (g338 65), (g338 66), (g338 67), (g338 68), (g338 69), (g338 70), (g338 71), (g338 72), (g338 73), (g338 74), (g338 75), (g338 76), (g338 77), (g338 78), (g338 79), (g338 80), (g338 81), (g338 82), (g338 83), (g338 84), (g338 85), (g338 86), (g338 87), (g338 88), (g338 89), (g338 90), (g338 91), (g338 92), (g338 93), (g338 94), .slice y141_A y141_n y141_c, .func (.func 108) #[] #[.pointer (some ⟨b155, 0, none⟩), .pointer (some ⟨b156, 0, none⟩)], .slice s164_A s164_n s164_c, .slice s164_A s164_n s164_c, .int .i64 ((subL y141 z157 (iadd .i64 z157 x163)).length : Int), (g395 100), (g395 101), (g395 102), (g395 103), (g395 104), (g395 105), (g395 106), (g395 107), (g395 108), (g395 109), (g395 110), undef, undef, undef, undef, undef, undef, undef, undef, undef, undef, undef], []⟩) (fun N3 nn3 => ?_) ?_
      ·clear hk3
       refine xblock ?_
       refine wp_loop_k (fun n a w => ∃ z166 z167, aes_Back.l3 K n y141 z157 x163 z166 z167 = some y168 ∧ St w0 [] [.blk b165 (enc .u8 z167) 42, .ownL (CA .u8 16 (by decide)) z158_A z158_n z158_c z158 42, .obj l374 (.loop (rec374 .busy none)), .obj D374 (.deferred (some [])), .blk b156 ([.int .i64 4]) 3, .blk b155 ([.slice y141_A y141_n y141_c]) 99, .obj l316 (.loop (rec316 .exhausted none)), .obj D316 (.deferred (some [])), .blk b124 ([.int .i64 4]) 3, .blk b123 ([.slice a0_A a0_n a0_c]) 26, .blk b122 ([.slice y141_A y141_n y141_c]) 99, .blk b119 ([.pointer (some ⟨b118, 0, none⟩)]) 53, .blk b118 ([.pointer (some ⟨b117, 0, none⟩), .slice z158_A z158_n z158_c]) 98, .blk b117 (([] : List Value) ++ enc .u8 r116_0 ++ enc .u8 r116_1 ++ ([] : List Value)) 48, .blk b115 (enc .u8 (zeroA 16)) 42] [.rowL (CA .u8 4 (by decide)) s164_A s164_n s164_c (subL y141 z157 (iadd .i64 z157 x163)), .rowL (CA .u8 4 (by decide)) s162_A s162_n s162_c (subL y141 z157 (y141.length : Int)), .rowL (CA .u8 4 (by decide)) y141_A y141_n y141_c y141, .rowL (CI .u8) a0_A a0_n a0_c a0, .rowL (CI .u8) a1_A a1_n a1_c a1] w ∧ ∃ g394 : Nat → Value, a = ⟨#[.slice a0_A a0_n a0_c, undef, .pointer none, .pointer (some ⟨b119, 0, none⟩), .int .i64 x120, .pointer (some ⟨b122, 0, none⟩), undef, (g338 7), (g338 8), (g338 9), .slice s164_A s164_n s164_c, .pointer (some ⟨b165, 0, none⟩), (g394 12), (g394 13), .pointer (some ⟨b117, 0, none⟩), .agg #[.pointer (some ⟨b117, 0, none⟩), .slice none 0 0], .pointer (some ⟨b118, 0, none⟩), .slice a0_A a0_n a0_c, .int .i64 (a0.length : Int), .int .i64 (iquo .i64 (a0.length : Int) 4), .int .i64 x120, .int .i64 (iadd .i64 x120 7), .int .i64 (imul .i64 4 (iadd .i64 x120 7)), .slice s121_A s121_n s121_c, .slice a0_A a0_n a0_c, .func (.func 102) #[] #[.pointer (some ⟨b123, 0, none⟩), .pointer (some ⟨b124, 0, none⟩)], undef, undef, undef, undef, undef, undef, undef, .int .i64 x120, (g338 34), (g338 35), (g338 36), (g338 37), (g338 38), (g338 39), (g338 40), (g338 41), (g338 42), (g338 43), (g338 44), (g338 45), (g338 46), (g338 47), (g338 48), (g338 49), (g338 50), (g338 51), (g338 52), (g338 53), (g338 54), (g338 55), (g338 56), (g338 57), (g338 58), (g338 59), (g338 60), (g338 61), (g338 62), (g338 63), (g338 64), (g338 65), (g338 66), (g338 67), (g338 68), (g338 69), (g338 70), (g338 71), (g338 72), (g338 73), (g338 74), (g338 75), (g338 76), (g338 77), (g338 78), (g338 79), (g338 80), (g338 81), (g338 82), (g338 83), (g338 84), (g338 85), (g338 86), (g338 87), (g338 88), (g338 89), (g338 90), (g338 91), (g338 92), (g338 93), (g338 94), .slice y141_A y141_n y141_c, .func (.func 108) #[] #[.pointer (some ⟨b155, 0, none⟩), .pointer (some ⟨b156, 0, none⟩)], .slice s164_A s164_n s164_c, .slice s164_A s164_n s164_c, .int .i64 ((subL y141 z157 (iadd .i64 z157 x163)).length : Int), .int .i64 z166, (g394 101), (g394 102), (g394 103), (g394 104), (g394 105), (g394 106), (g394 107), (g394 108), (g394 109), (g394 110), undef, undef, undef, undef, undef, undef, undef, undef, undef, undef, undef], []⟩) K ⟨0, (zeroA 16), hy, hs.conv rfl, exg (by kernel_rfl)⟩ ?_
       clear hs h hy
       rintro n a w ⟨z166, z167, h, hs, g394, rfl⟩ KL3 kl3
       cases n with
       | zero => exact nomatch (show none = some _ from h)
       | succ n =>
        refine xseq_k fun KS396 ks396 => ?_
        refine xregS [0] fun KR397 kr397 => ?_
        rcases of_if h with ⟨hc, h⟩ | ⟨hc, h⟩
        ·refine wpS.tk 0 false (some 101) (.bool true) (yld_b (dt hc) (fun _ => by kernel_rfl)) ?_
         refine wpS.fin rfl (kr397 _ _ (then_n (ks396 _ _ (xseq_k fun KS398 ks398 => (wp_cond_t (by kernel_rfl) (xskip (then_n (ks398 _ _ (xseq_k fun KS399 ks399 => (xblock (xseq_k fun KS400 ks400 => (xregS [0, 1, 2, 3, 4, 5] fun KR401 kr401 => ?_))))))))))))
         refine wpS.q 0 102 (.int .i64 z166) ?_
         obtain ⟨h0, h⟩ := of_chk h
         obtain ⟨h1, h⟩ := of_chk h
         have i0_402 := h0
         have i1_402 := h1
         refine wpS.tk 1 false (some 103) (.pointer (adr s164_A ((z166 : Int).toNat * Cod.size (CA .u8 4 (by decide))))) (yld_idxL (C := (CA .u8 4 (by decide))) (t := 99) (e := 101) (k := .i64) (x := z166) (hs.rowR 0 rfl) (by kernel_rfl) (by kernel_rfl) (by kernel_rfl) h0 h1) ?_
         refine wpS.tk 2 true (some 104) (.agg (enc .u8 (rdL (CA .u8 4 (by decide)) (subL y141 z157 (iadd .i64 z157 x163)) z166)).toArray) (yld_loadLA (C := (CA .u8 4 (by decide))) (e := 101) (x := z166) (hs.rowR 0 rfl) (by kernel_rfl) rfl (by kernel_rfl) (by kernel_rfl) i0_402 i1_402) ?_
         refine wpS.only 3 (op_alloc (t := 101) (d := (some 13)) (by kernel_rfl) hs (enc .u8 (zeroA 4)) (.agg (enc .u8 (zeroA 4)).toArray) (by kernel_rfl) (by kernel_rfl) (by kernel_rfl) ?_)
         intro b169 w gw hs
         refine ⟨fun _ => trivial, ?_⟩
         refine wpS.q 4 12 (.int .i64 z166) ?_
         refine wpS.only 5 (op_storeW (t := 101) (v := .agg (enc .u8 (rdL (CA .u8 4 (by decide)) (subL y141 z157 (iadd .i64 z157 x163)) z166)).toArray) (d := none) (by kernel_rfl) hs 0 rfl (vs := enc .u8 (rdL (CA .u8 4 (by decide)) (subL y141 z157 (iadd .i64 z157 x163)) z166)) (n := 4) (by kernel_rfl) (by kernel_rfl) (by kernel_rfl) (by simp [enc_len]) (by simp [enc_len]) (by intro u hu; exact enc_one _ _ u hu) ?_)
         intro w kp hs
         refine ⟨fun _ => trivial, ?_⟩
         refine wpS.fin rfl (kr401 _ _ (then_n (ks400 _ _ ?_)))
         refine wp_regG [4] (fun k => True) 5 (by kernel_rfl) (by kernel_rfl) (by kernel_rfl) fun KR403 kr403 => ?_
         have hs := hs.drawn1
         refine wpG.q 0 105 (.int .i64 z166) ?_
         refine wpG.q 1 106 (.int .i64 (imul .i64 4 z166)) ?_
         obtain ⟨b0_404, h⟩ := of_chk h
         obtain ⟨b1_404, h⟩ := of_chk h
         obtain ⟨b3_404, h⟩ := of_chk h
         refine wpG.tD 2 false (some 107) (.slice (some ⟨b165, 0 + ((imul .i64 4 z166) : Int).toNat * 1, none⟩) ((16 : Int).toNat - ((imul .i64 4 z166) : Int).toNat) (16 - ((imul .i64 4 z166) : Int).toNat)) (yld_slA2 (t := 42) (e := 5) (n := 16) (low := some (.int .i64 (imul .i64 4 z166))) (high := Option.none) (lo := (imul .i64 4 z166)) (hi := 16) (by kernel_rfl) (by kernel_rfl) (by kernel_rfl) (.inr ⟨_, rfl⟩) (.inl ⟨rfl, rfl⟩) b0_404 b1_404 (by decide) b3_404) ?_
         refine wpG.tD 3 false (some 108) (.slice (some ⟨b169, 0 + (0 : Int).toNat * 1, none⟩) ((4 : Int).toNat - (0 : Int).toNat) (4 - (0 : Int).toNat)) (yld_slA2 (t := 101) (e := 5) (n := 4) (low := Option.none) (high := Option.none) (lo := 0) (hi := 4) (by kernel_rfl) (by kernel_rfl) (by kernel_rfl) (.inl ⟨rfl, rfl⟩) (.inl ⟨rfl, rfl⟩) (by decide) (by decide) (by decide) (by decide)) ?_
         refine wpG.only 4 (by kernel_rfl) (op_copyA (td := 26) (ts := 26) (ty := 3) (e := 5) (n := 16) (k := .u8) (c := z167) (lo := (imul .i64 4 z166)) (hi := 16) (d := (some 109)) (by kernel_rfl) hs 1 rfl (hs.rowB (lo := 0) (hi := 4) 0 rfl (by decide) (by decide) (by decide)) (by kernel_rfl) (by kernel_rfl) (by kernel_rfl) b0_404 b1_404 (by decide) ?_)
         intro w kp hs
         refine ⟨⟨fun hf => absurd hf (by decide), .all _ _⟩, ?_⟩
         refine wpG.fin (by kernel_rfl) rfl (kr403 _ _ ?_)
         refine inBlock_n (then_n (ks399 _ _ (xregS [0, 1] fun KR406 kr406 => ?_)))
         refine wpS.qs [(0, 110, .int .i64 (iadd .i64 z166 1)), (1, 100, .int .i64 (iadd .i64 z166 1))] ?_
         refine wpS.fin rfl (kr406 _ _ ?_)
         exact then_n (kl3 _ _ ⟨n, Nat.lt_succ_self n, (iadd .i64 z166 1), (cpA z167 (imul .i64 4 z166) ((subL (lA (rdL (CA .u8 4 (by decide)) (subL y141 z157 (iadd .i64 z157 x163)) z166)) 0 4).take ((16 : Int).toNat - ((imul .i64 4 z166) : Int).toNat))), h, (hs.drop (.cons _ (.cons_cons _ (.cons_cons _ (.cons_cons _ (.cons_cons _ (.cons_cons _ (.cons_cons _ (.cons_cons _ (.cons_cons _ (.cons_cons _ (.cons_cons _ (.cons_cons _ (.cons_cons _ (.cons_cons _ (.cons_cons _ (.cons_cons _ .slnil))))))))))))))))), exg (by kernel_rfl)⟩)
        refine wpS.tk 0 false (some 101) (.bool false) (yld_b (df hc) (fun _ => by kernel_rfl)) ?_
        refine wpS.fin rfl (kr397 _ _ (then_n (ks396 _ _ (xseq_k fun KS407 ks407 => (wp_cond_f (by kernel_rfl) (xexit (then_x (then_x (inBlock_hit ?_)))))))))
        have q0 := of_some h
        subst q0
        exact exq_n (nn3 _ _ ⟨(hs.conv rfl), exg (by kernel_rfl)⟩)
      clear hs h hy
      rintro a w ⟨hs, g395, rfl⟩
      have h := hk3
      refine then_n (ks391 _ _ ?_)
      refine wp_regG [7, 10] (fun k => ¬ k = b119) 11 (by kernel_rfl) (by kernel_rfl) (by kernel_rfl) fun KR408 kr408 => ?_
      have hs := hs.drawn1
      refine wpG.takeK [0, 8, 9, 10] 0 (some 111) (.pointer (some ⟨b118, 0, none⟩)) (by kernel_rfl) (by kernel_rfl) (yld_load1 (e := 53) (o := 0) hs 11 rfl (by kernel_rfl) (by kernel_rfl) (by rfl) (.keep (fun hn => hn rfl))) ?_
      refine wpG.take [1, 2, 3, 4, 7, 8, 9, 10] 1 true (some 112) (.pointer (some ⟨b118, 0, none⟩)) (by kernel_rfl) (by kernel_rfl) (yld_load1 (e := 53) (o := 0) hs 11 rfl (by kernel_rfl) (by kernel_rfl) (by rfl) .grow) ?_
      refine wpG.q 2 113 (.pointer (some ⟨b118, 0, none⟩)) ?_
      refine wpG.q 3 114 (.pointer (some ⟨b118, 1, none⟩)) ?_
      refine wpG.tD 4 true (some 115) (.slice z158_A z158_n z158_c) (yld_load1 (e := 96) (o := 1) hs 12 rfl (by kernel_rfl) (by kernel_rfl) (by rfl) .grow) ?_
      refine wpG.take [5, 6, 7, 8, 9, 10] 5 true (some 116) (.agg (enc .u8 y168).toArray) (by kernel_rfl) (by kernel_rfl) (yld_loadW (e := 42) (n := 16) hs 0 rfl (by kernel_rfl) (by kernel_rfl) (by kernel_rfl) (by exact enc_len _ _) .grow) ?_
      refine wpG.only 6 (by kernel_rfl) (op_litL (C := (CA .u8 16 (by decide))) (t := 96) (e := 42) (len := 1) (parts := #[(0, .agg (enc .u8 y168).toArray)]) (l := [y168]) (d := (some 117)) (by kernel_rfl) hs (by kernel_rfl) rfl (by kernel_rfl) (by kernel_rfl) (z := .agg (enc .u8 (zeroA 16)).toArray) (by kernel_rfl) rfl (by decide) (by decide) ?_)
      intro s170_A s170_n s170_c w gw hs
      refine ⟨.of gw, ?_⟩
      obtain ⟨h0, h⟩ := of_chk h
      have hsB411 := hs
      refine wpG.only 7 (by kernel_rfl) (op_appendT (C := (CA .u8 16 (by decide))) (t := 96) (ty := 96) (e := 42) (bytes := 16) (B := 8796093022208) (d := (some 118)) (by kernel_rfl) hs 2 rfl (hs.rowL 0 rfl) (by kernel_rfl) (by kernel_rfl) (by kernel_rfl) (by kernel_rfl) (by kernel_rfl) h0 (by decide) (by decide) ?_)
      intro s171_A s171_n s171_c w hs
      refine ⟨⟨fun hf => absurd hf (by decide), (keepB1 (hsB411.blkAt 12 rfl) (hs.blkAt 12 rfl))⟩, ?_⟩
      refine wpG.q 8 119 (.pointer (some ⟨b118, 0, none⟩)) ?_
      refine wpG.q 9 120 (.pointer (some ⟨b118, 1, none⟩)) ?_
      have hsB410 := hs
      refine wpG.only 10 (by kernel_rfl) (op_store1 (t := 96) (o := 1) (v := .slice s171_A s171_n s171_c) (d := none) (by kernel_rfl) hs 13 rfl (by kernel_rfl) rfl (by kernel_rfl) (by simp) ?_)
      intro w kp hs
      refine ⟨⟨fun hf => absurd hf (by decide), (keepB1 (hsB410.blkAt 12 rfl) (hs.blkAt 12 rfl))⟩, ?_⟩
      refine wpG.fin (by kernel_rfl) rfl (kr408 _ _ ?_)
      refine inBlock_n ?_
      refine round_n qr387 hs 3 rfl fun w hs => ?_
      dsimp only [List.set] at hs
      refine ⟨fun _ => trivial, ?_⟩
      refine wpS.q 11 30 (.bool false) ?_
      refine wpS.fin rfl (kr386 _ _ (then_n (ks385 _ _ (wp_cond_f (by kernel_rfl) (xskip (inBlock_n (then_n (ks382 _ _ (xregS [0, 1, 2, 3] fun KR409 kr409 => ?_)))))))))
      refine wpS.q 0 10 (.int .i64 z157) ?_
      refine wpS.tk 1 true (some 11) (.int .i64 4) (yld_load1 (e := 3) (o := 0) hs 5 rfl (by kernel_rfl) (by kernel_rfl) (by rfl) .grow) ?_
      refine wpS.q 2 12 (.int .i64 (iadd .i64 z157 4)) ?_
      obtain ⟨x172, hx, h⟩ := of_bind h
      refine wpS.tk 3 false (some 4) (.int .i64 x172) (yld_int hx (fun _ => by kernel_rfl)) ?_
      refine wpS.fin rfl (kr409 _ _ ?_)
      exact then_n (kl2 _ _ ⟨n, Nat.lt_succ_self n, x172, (z158 ++ ([y168] : List (Arr 16))), s171_A, s171_n, s171_c, h, ((hs.drop (.cons _ (.cons _ (.cons_cons _ (.cons_cons _ (.cons_cons _ (.cons_cons _ (.cons_cons _ (.cons_cons _ (.cons_cons _ (.cons_cons _ (.cons_cons _ (.cons_cons _ (.cons_cons _ (.cons_cons _ (.cons_cons _ (.cons_cons _ .slnil))))))))))))))))).pickR (pick_cons 2 rfl (pick_cons 3 rfl (pick_cons 4 rfl pick_nil)))), exg (by kernel_rfl)⟩)
     refine wpS.tk 3 false (some 9) (.bool false) (yld_b (df hc) (fun _ => by kernel_rfl)) ?_
     refine wpS.fin rfl (kr381 _ _ (then_n (ks380 _ _ (wp_cond_f (by kernel_rfl) (xexit (then_x (then_x (inBlock_hit ?_))))))))
     have q0 := of_some h
     subst q0
     exact exq_n (nn2 _ _ ⟨z158_A, z158_n, z158_c, (hs.conv rfl), exg (by kernel_rfl)⟩)
   clear hs h hy
   rintro a w ⟨y160_A, y160_n, y160_c, hs, g378, rfl⟩
   have h := hk2
   refine qn374 _ _ (post_nrm (by kernel_rfl) (run_results [] [] (by kernel_rfl) .nil) ?_)
   refine range_n (a1 := ⟨#[.slice a0_A a0_n a0_c, undef, .pointer none, .pointer (some ⟨b119, 0, none⟩), .int .i64 x120, .pointer (some ⟨b122, 0, none⟩), undef, (g338 7), (g338 8), (g338 9), undef, undef, undef, undef, .pointer (some ⟨b117, 0, none⟩), .agg #[.pointer (some ⟨b117, 0, none⟩), .slice none 0 0], .pointer (some ⟨b118, 0, none⟩), .slice a0_A a0_n a0_c, .int .i64 (a0.length : Int), .int .i64 (iquo .i64 (a0.length : Int) 4), .int .i64 x120, .int .i64 (iadd .i64 x120 7), .int .i64 (imul .i64 4 (iadd .i64 x120 7)), .slice s121_A s121_n s121_c, .slice a0_A a0_n a0_c, .func (.func 102) #[] #[.pointer (some ⟨b123, 0, none⟩), .pointer (some ⟨b124, 0, none⟩)], undef, undef, undef, undef, undef, undef, undef, .int .i64 x120, (g338 34), (g338 35), (g338 36), (g338 37), (g338 38), (g338 39), (g338 40), (g338 41), (g338 42), (g338 43), (g338 44), (g338 45), (g338 46), (g338 47), (g338 48), (g338 49), (g338 50), (g338 51), (g338 52), (g338 53), (g338 54), (g338 55), (g338 56), (g338 57), (g338 58), (g338 59), (g338 60), (g338 61), (g338 62), (g338 63), (g338 64), (g338 65), (g338 66), (g338 67), (g338 68), (g338 69), (g338 70), (g338 71), (g338 72), (g338 73), (g338 74), (g338 75), (g338 76), (g338 77), (g338 78), (g338 79), (g338 80), (g338 81), (g338 82), (g338 83), (g338 84), (g338 85), (g338 86), (g338 87), (g338 88), (g338 89), (g338 90), (g338 91), (g338 92), (g338 93), (g338 94), .slice y141_A y141_n y141_c, .func (.func 108) #[] #[.pointer (some ⟨b155, 0, none⟩), .pointer (some ⟨b156, 0, none⟩)], undef, undef, undef, undef, undef, undef, undef, undef, undef, undef, undef, undef, undef, undef, undef, undef, undef, undef, undef, undef, undef, undef, undef, undef, undef], [lmark D374, lmark D316]⟩) kR374 (by kernel_rfl) hs 1 rfl fun w hs => ?_
   dsimp only [List.set] at hs
   refine inBlock_n (then_n (ks363 _ _ (xseq_k fun KS412 ks412 => (xregS [0, 1] fun KR413 kr413 => ?_))))
   refine wpS.tk 0 true (some 121) (.pointer (some ⟨b118, 0, none⟩)) (yld_load1 (e := 53) (o := 0) hs 10 rfl (by kernel_rfl) (by kernel_rfl) (by rfl) .grow) ?_
   refine wpS.q 1 2 (.pointer (some ⟨b118, 0, none⟩)) ?_
   refine wpS.fin rfl (kr413 _ _ (then_n (ks412 _ _ (xret ?_))))
   refine qq295 _ _ ?_
   refine leaves_mark hs 2 rfl fun w hs => ?_
   dsimp only [List.set] at hs
   refine leaves_mark hs 6 rfl fun w hs => ?_
   dsimp only [List.set] at hs
   refine leaves_end (run_results [.tmp 2] [.pointer (some ⟨b118, 0, none⟩)] (by kernel_rfl) (.cons (res_tmp (by kernel_rfl)) .nil)) ?_
   refine kI295 _ _ ?_
   refine ⟨⟨fun hf => absurd hf (by decide), (keepW hsB296 hs)⟩, ?_⟩
   have hsB415 := hs
   refine wpG.only 5 (by kernel_rfl) (op_inline (d := (some 19)) (f := 53) (args := #[.pointer (some ⟨b118, 0, none⟩), .agg (enc .u8 (arrL 16 a1)).toArray]) (by kernel_rfl) (fun _ => by kernel_rfl) fun R414 kI414 => ?_)
   refine calls_k Try.func53 rfl fun Q414 qq414 => ?_
   refine wp_conv (a' := ⟨#[.pointer (some ⟨b118, 0, none⟩), .agg (enc .u8 (arrL 16 a1)).toArray, undef, undef, undef, undef, undef, undef, undef, undef, undef, undef, undef, undef, undef, undef, undef, undef, undef, undef, undef, undef, undef, undef, undef, undef, undef, undef, undef, undef, undef, undef, undef, undef, undef, undef, undef, undef, undef, undef, undef, undef, undef, undef, undef, undef, undef, undef, undef, undef, undef, undef, undef], []⟩) (by kernel_rfl) ?_
   refine xseq_k fun KS416 ks416 => ?_
   refine xregS [0, 1] fun KR417 kr417 => ?_
   refine wpS.only 0 (op_box (t := 42) (v := .agg (enc .u8 (arrL 16 a1)).toArray) (d := (some 3)) (by kernel_rfl) hs (enc .u8 (arrL 16 a1)) (by kernel_rfl) (by kernel_rfl) ?_)
   intro b173 w gw hs
   refine ⟨fun _ => trivial, ?_⟩
   refine wpS.only 1 (op_alloc (t := 42) (d := (some 4)) (by kernel_rfl) hs (enc .u8 (zeroA 16)) (.agg (enc .u8 (zeroA 16)).toArray) (by kernel_rfl) (by kernel_rfl) (by kernel_rfl) ?_)
   intro b174 w gw hs
   refine ⟨fun _ => trivial, ?_⟩
   refine wpS.fin rfl (kr417 _ _ (then_n (ks416 _ _ (xseq_k fun KS418 ks418 => (xregS [0, 1, 2, 3, 4, 5, 6] fun KR419 kr419 => ?_)))))
   refine wpS.qs [(0, 9, .pointer (some ⟨b118, 0, none⟩)), (1, 10, .pointer (some ⟨b118, 0, none⟩)), (2, 11, .pointer (some ⟨b118, 1, none⟩))] ?_
   refine wpS.tk 3 true (some 12) (.slice y160_A y160_n y160_c) (yld_load1 (e := 96) (o := 1) hs 13 rfl (by kernel_rfl) (by kernel_rfl) (by rfl) .grow) ?_
   refine wpS.tk 4 false (some 13) (.int .i64 (y160.length : Int)) (yld_lenL (hs.rowL 2 rfl) (fun _ => by kernel_rfl)) ?_
   refine wpS.q 5 14 (.int .i64 (isub .i64 (y160.length : Int) 1)) ?_
   obtain ⟨x175, hx, h⟩ := of_bind h
   refine wpS.tk 6 false (some 5) (.int .i64 x175) (yld_int hx (fun _ => by kernel_rfl)) ?_
   refine wpS.fin rfl (kr419 _ _ (then_n (ks418 _ _ (xseq_k fun KS420 ks420 => (xseq_k fun KS421 ks421 => (xregS [0, 1] fun KR422 kr422 => ?_))))))
   refine wpS.qs [(0, 15, .int .i64 x175), (1, 6, .int .i64 x175)] ?_
   refine wpS.fin rfl (kr422 _ _ (then_n (ks421 _ _ ?_)))
   obtain ⟨y178, hy, hk4⟩ := of_bind h
   refine wp_exq (N := fun a w => St w0 [] [.blk b174 (enc .u8 (zeroA 16)) 42, .blk b173 (enc .u8 y178) 42, .ownL (CA .u8 16 (by decide)) y160_A y160_n y160_c y160 42, .obj l374 (.loop (rec374 .exhausted none)), .obj D374 (.deferred none), .blk b156 ([.int .i64 4]) 3, .blk b155 ([.slice y141_A y141_n y141_c]) 99, .obj l316 (.loop (rec316 .exhausted none)), .obj D316 (.deferred none), .blk b124 ([.int .i64 4]) 3, .blk b123 ([.slice a0_A a0_n a0_c]) 26, .blk b122 ([.slice y141_A y141_n y141_c]) 99, .blk b119 ([.pointer (some ⟨b118, 0, none⟩)]) 53, .blk b118 ([.pointer (some ⟨b117, 0, none⟩), .slice y160_A y160_n y160_c]) 98, .blk b117 (([] : List Value) ++ enc .u8 r116_0 ++ enc .u8 r116_1 ++ ([] : List Value)) 48, .blk b115 (enc .u8 (zeroA 16)) 42] [.rowL (CA .u8 4 (by decide)) y141_A y141_n y141_c y141, .rowL (CI .u8) a0_A a0_n a0_c a0, .rowL (CI .u8) a1_A a1_n a1_c a1] w ∧ ∃ g424 : Nat → Value, a = ⟨#[.pointer (some ⟨b118, 0, none⟩), .agg (enc .u8 (arrL 16 a1)).toArray, undef, .pointer (some ⟨b173, 0, none⟩), .pointer (some ⟨b174, 0, none⟩), .int .i64 x175, (g424 6), (g424 7), (g424 8), .pointer (some ⟨b118, 0, none⟩), .pointer (some ⟨b118, 0, none⟩), .pointer (some ⟨b118, 1, none⟩), .slice y160_A y160_n y160_c, .int .i64 (y160.length : Int), .int .i64 (isub .i64 (y160.length : Int) 1), .int .i64 x175, (g424 16), (g424 17), (g424 18), (g424 19), (g424 20), (g424 21), (g424 22), (g424 23), (g424 24), (g424 25), (g424 26), (g424 27), (g424 28), (g424 29), (g424 30), (g424 31), (g424 32), (g424 33), (g424 34), (g424 35), (g424 36), (g424 37), (g424 38), (g424 39), (g424 40), (g424 41), (g424 42), (g424 43), (g424 44), (g424 45), (g424 46), (g424 47), (g424 48), (g424 49), undef, undef, undef], []⟩) (fun N4 nn4 => ?_) ?_
   ·clear hk4
    refine xblock ?_
    refine wp_loop_k (fun n a w => ∃ z176 z177, aes_Back.l4 K n r116_1 y160 x175 z176 z177 = some y178 ∧ St w0 [] [.blk b174 (enc .u8 (zeroA 16)) 42, .blk b173 (enc .u8 z177) 42, .ownL (CA .u8 16 (by decide)) y160_A y160_n y160_c y160 42, .obj l374 (.loop (rec374 .exhausted none)), .obj D374 (.deferred none), .blk b156 ([.int .i64 4]) 3, .blk b155 ([.slice y141_A y141_n y141_c]) 99, .obj l316 (.loop (rec316 .exhausted none)), .obj D316 (.deferred none), .blk b124 ([.int .i64 4]) 3, .blk b123 ([.slice a0_A a0_n a0_c]) 26, .blk b122 ([.slice y141_A y141_n y141_c]) 99, .blk b119 ([.pointer (some ⟨b118, 0, none⟩)]) 53, .blk b118 ([.pointer (some ⟨b117, 0, none⟩), .slice y160_A y160_n y160_c]) 98, .blk b117 (([] : List Value) ++ enc .u8 r116_0 ++ enc .u8 r116_1 ++ ([] : List Value)) 48, .blk b115 (enc .u8 (zeroA 16)) 42] [.rowL (CA .u8 4 (by decide)) y141_A y141_n y141_c y141, .rowL (CI .u8) a0_A a0_n a0_c a0, .rowL (CI .u8) a1_A a1_n a1_c a1] w ∧ ∃ g423 : Nat → Value, a = ⟨#[.pointer (some ⟨b118, 0, none⟩), .agg (enc .u8 (arrL 16 a1)).toArray, undef, .pointer (some ⟨b173, 0, none⟩), .pointer (some ⟨b174, 0, none⟩), .int .i64 x175, .int .i64 z176, (g423 7), (g423 8), .pointer (some ⟨b118, 0, none⟩), .pointer (some ⟨b118, 0, none⟩), .pointer (some ⟨b118, 1, none⟩), .slice y160_A y160_n y160_c, .int .i64 (y160.length : Int), .int .i64 (isub .i64 (y160.length : Int) 1), .int .i64 x175, (g423 16), (g423 17), (g423 18), (g423 19), (g423 20), (g423 21), (g423 22), (g423 23), (g423 24), (g423 25), (g423 26), (g423 27), (g423 28), (g423 29), (g423 30), (g423 31), (g423 32), (g423 33), (g423 34), (g423 35), (g423 36), (g423 37), (g423 38), (g423 39), (g423 40), (g423 41), (g423 42), (g423 43), (g423 44), (g423 45), (g423 46), (g423 47), (g423 48), (g423 49), undef, undef, undef], []⟩) K ⟨x175, (arrL 16 a1), hy, hs.conv rfl, exg (by kernel_rfl)⟩ ?_
    clear hs h hy
    rintro n a w ⟨z176, z177, h, hs, g423, rfl⟩ KL4 kl4
    cases n with
    | zero => exact nomatch (show none = some _ from h)
    | succ n =>
     refine xseq_k fun KS425 ks425 => ?_
     refine xseq_k fun KS426 ks426 => ?_
     refine xregS [0, 1] fun KR427 kr427 => ?_
     refine wpS.q 0 16 (.int .i64 z176) ?_
     rcases of_if h with ⟨hc, h⟩ | ⟨hc, h⟩
     ·refine wpS.tk 1 false (some 17) (.bool true) (yld_b (dt hc) (fun _ => by kernel_rfl)) ?_
      refine wpS.fin rfl (kr427 _ _ (then_n (ks426 _ _ (wp_cond_t (by kernel_rfl) (xskip (then_n (ks425 _ _ (xseq_k fun KS428 ks428 => (xblock (xseq_k fun KS429 ks429 => (xregS [0, 1, 2] fun KR430 kr430 => ?_)))))))))))
      refine wpS.qs [(0, 20, .pointer (some ⟨b118, 0, none⟩)), (1, 21, .int .i64 z176)] ?_
      refine wpS.only 2 (op_inline (d := (some 22)) (f := 86) (args := #[.pointer (some ⟨b118, 0, none⟩), .pointer (some ⟨b173, 0, none⟩), .int .i64 z176]) (by kernel_rfl) (fun _ => by kernel_rfl) fun R431 kI431 => ?_)
      refine calls_kn Try.func86 rfl fun Q431 qq431 qn431 => ?_
      refine wp_conv (a' := ⟨#[.pointer (some ⟨b118, 0, none⟩), .pointer (some ⟨b173, 0, none⟩), .int .i64 z176, undef, undef, undef, undef, undef, undef, undef, undef, undef, undef, undef, undef, undef, undef, undef, undef, undef, undef, undef, undef, undef, undef, undef, undef, undef, undef], []⟩) (by kernel_rfl) ?_
      refine xseq_k fun KS432 ks432 => ?_
      refine xregS [0, 1, 2, 3, 4, 5, 6, 7] fun KR433 kr433 => ?_
      refine wpS.qs [(0, 8, .pointer (some ⟨b118, 0, none⟩)), (1, 9, .pointer (some ⟨b118, 0, none⟩)), (2, 10, .pointer (some ⟨b118, 1, none⟩))] ?_
      refine wpS.tk 3 true (some 11) (.slice y160_A y160_n y160_c) (yld_load1 (e := 96) (o := 1) hs 13 rfl (by kernel_rfl) (by kernel_rfl) (by rfl) .grow) ?_
      refine wpS.q 4 12 (.int .i64 z176) ?_
      obtain ⟨h0, h⟩ := of_chk h
      obtain ⟨h1, h⟩ := of_chk h
      have i0_434 := h0
      have i1_434 := h1
      refine wpS.tk 5 false (some 13) (.pointer (adr y160_A ((z176 : Int).toNat * Cod.size (CA .u8 16 (by decide))))) (yld_idxL (C := (CA .u8 16 (by decide))) (t := 96) (e := 42) (k := .i64) (x := z176) (hs.rowL 2 rfl) (by kernel_rfl) (by kernel_rfl) (by kernel_rfl) h0 h1) ?_
      refine wpS.tk 6 true (some 14) (.agg (enc .u8 (rdL (CA .u8 16 (by decide)) y160 z176)).toArray) (yld_loadLA (C := (CA .u8 16 (by decide))) (e := 42) (x := z176) (hs.rowL 2 rfl) (by kernel_rfl) rfl (by kernel_rfl) (by kernel_rfl) i0_434 i1_434) ?_
      refine wpS.q 7 15 (.int .i64 0) ?_
      refine wpS.fin rfl (kr433 _ _ (then_n (ks432 _ _ ?_)))
      obtain ⟨y181, hy, hk5⟩ := of_bind h
      refine wp_exq (N := fun a w => St w0 [] [.blk b174 (enc .u8 (zeroA 16)) 42, .blk b173 (enc .u8 y181) 42, .ownL (CA .u8 16 (by decide)) y160_A y160_n y160_c y160 42, .obj l374 (.loop (rec374 .exhausted none)), .obj D374 (.deferred none), .blk b156 ([.int .i64 4]) 3, .blk b155 ([.slice y141_A y141_n y141_c]) 99, .obj l316 (.loop (rec316 .exhausted none)), .obj D316 (.deferred none), .blk b124 ([.int .i64 4]) 3, .blk b123 ([.slice a0_A a0_n a0_c]) 26, .blk b122 ([.slice y141_A y141_n y141_c]) 99, .blk b119 ([.pointer (some ⟨b118, 0, none⟩)]) 53, .blk b118 ([.pointer (some ⟨b117, 0, none⟩), .slice y160_A y160_n y160_c]) 98, .blk b117 (([] : List Value) ++ enc .u8 r116_0 ++ enc .u8 r116_1 ++ ([] : List Value)) 48, .blk b115 (enc .u8 (zeroA 16)) 42] [.rowL (CA .u8 4 (by decide)) y141_A y141_n y141_c y141, .rowL (CI .u8) a0_A a0_n a0_c a0, .rowL (CI .u8) a1_A a1_n a1_c a1] w ∧ ∃ g436 : Nat → Value, a = ⟨#[.pointer (some ⟨b118, 0, none⟩), .pointer (some ⟨b173, 0, none⟩), .int .i64 z176, undef, undef, undef, (g436 6), (g436 7), .pointer (some ⟨b118, 0, none⟩), .pointer (some ⟨b118, 0, none⟩), .pointer (some ⟨b118, 1, none⟩), .slice y160_A y160_n y160_c, .int .i64 z176, .pointer (adr y160_A ((z176 : Int).toNat * Cod.size (CA .u8 16 (by decide)))), .agg (enc .u8 (rdL (CA .u8 16 (by decide)) y160 z176)).toArray, (g436 15), (g436 16), (g436 17), (g436 18), (g436 19), (g436 20), (g436 21), (g436 22), (g436 23), (g436 24), (g436 25), (g436 26), (g436 27), (g436 28)], []⟩) (fun N5 nn5 => ?_) ?_
      ·clear hk5
       refine xblock ?_
       refine wp_loop_k (fun n a w => ∃ z179 z180, aes_Back.l5 K n y160 z176 z179 z180 = some y181 ∧ St w0 [] [.blk b174 (enc .u8 (zeroA 16)) 42, .blk b173 (enc .u8 z180) 42, .ownL (CA .u8 16 (by decide)) y160_A y160_n y160_c y160 42, .obj l374 (.loop (rec374 .exhausted none)), .obj D374 (.deferred none), .blk b156 ([.int .i64 4]) 3, .blk b155 ([.slice y141_A y141_n y141_c]) 99, .obj l316 (.loop (rec316 .exhausted none)), .obj D316 (.deferred none), .blk b124 ([.int .i64 4]) 3, .blk b123 ([.slice a0_A a0_n a0_c]) 26, .blk b122 ([.slice y141_A y141_n y141_c]) 99, .blk b119 ([.pointer (some ⟨b118, 0, none⟩)]) 53, .blk b118 ([.pointer (some ⟨b117, 0, none⟩), .slice y160_A y160_n y160_c]) 98, .blk b117 (([] : List Value) ++ enc .u8 r116_0 ++ enc .u8 r116_1 ++ ([] : List Value)) 48, .blk b115 (enc .u8 (zeroA 16)) 42] [.rowL (CA .u8 4 (by decide)) y141_A y141_n y141_c y141, .rowL (CI .u8) a0_A a0_n a0_c a0, .rowL (CI .u8) a1_A a1_n a1_c a1] w ∧ ∃ g435 : Nat → Value, a = ⟨#[.pointer (some ⟨b118, 0, none⟩), .pointer (some ⟨b173, 0, none⟩), .int .i64 z176, undef, undef, undef, (g435 6), (g435 7), .pointer (some ⟨b118, 0, none⟩), .pointer (some ⟨b118, 0, none⟩), .pointer (some ⟨b118, 1, none⟩), .slice y160_A y160_n y160_c, .int .i64 z176, .pointer (adr y160_A ((z176 : Int).toNat * Cod.size (CA .u8 16 (by decide)))), .agg (enc .u8 (rdL (CA .u8 16 (by decide)) y160 z176)).toArray, .int .i64 z179, (g435 16), (g435 17), (g435 18), (g435 19), (g435 20), (g435 21), (g435 22), (g435 23), (g435 24), (g435 25), (g435 26), (g435 27), (g435 28)], []⟩) K ⟨0, z177, hy, hs.conv rfl, exg (by kernel_rfl)⟩ ?_
       clear hs h hy
       rintro n a w ⟨z179, z180, h, hs, g435, rfl⟩ KL5 kl5
       cases n with
       | zero => exact nomatch (show none = some _ from h)
       | succ n =>
        refine xseq_k fun KS437 ks437 => ?_
        refine xregS [0] fun KR438 kr438 => ?_
        rcases of_if h with ⟨hc, h⟩ | ⟨hc, h⟩
        ·refine wpS.tk 0 false (some 16) (.bool true) (yld_b (dt hc) (fun _ => by kernel_rfl)) ?_
         refine wpS.fin rfl (kr438 _ _ (then_n (ks437 _ _ (xseq_k fun KS439 ks439 => (wp_cond_t (by kernel_rfl) (xskip (then_n (ks439 _ _ (xseq_k fun KS440 ks440 => (xblock (xseq_k fun KS441 ks441 => (xregS [0, 1, 2, 3] fun KR442 kr442 => ?_))))))))))))
         refine wpS.q 0 17 (.int .i64 z179) ?_
         obtain ⟨h0, h⟩ := of_chk h
         obtain ⟨h1, h⟩ := of_chk h
         refine wpS.tk 1 false (some 18) (.int .u8 (rd (rdL (CA .u8 16 (by decide)) y160 z176) z179)) (yld_at (t := 42) (e := 5) (k' := .i64) (by kernel_rfl) (by kernel_rfl) (by kernel_rfl) (by kernel_rfl) h0 h1) ?_
         refine wpS.q 2 6 (.int .i64 z179) ?_
         obtain ⟨x182, hx, h⟩ := of_bind h
         refine wpS.tk 3 false (some 7) (.int .u8 x182) (yld_int hx (fun _ => by kernel_rfl)) ?_
         refine wpS.fin rfl (kr442 _ _ (then_n (ks441 _ _ ?_)))
         refine wp_regG [9] (fun k => True) 10 (by kernel_rfl) (by kernel_rfl) (by kernel_rfl) fun KR443 kr443 => ?_
         have hs := hs.drawn1
         refine wpG.q 0 19 (.pointer (some ⟨b173, 0, none⟩)) ?_
         refine wpG.q 1 20 (.int .i64 z179) ?_
         refine wpG.q 2 21 (.pointer (some ⟨b173, 0, none⟩)) ?_
         obtain ⟨i0_444, h⟩ := of_chk h
         obtain ⟨i1_444, h⟩ := of_chk h
         refine wpG.tD 3 false (some 22) (.pointer (some ⟨b173, 0 + (z179 : Int).toNat * 1, none⟩)) (yld_idx (t := 42) (e := 5) (n := 16) (sz := 1) (k := .i64) (x := z179) (by kernel_rfl) (by kernel_rfl) (by kernel_rfl) i0_444 i1_444) ?_
         refine wpG.tD 4 true (some 23) (.int .u8 (rd z180 z179)) (yld_loadA (e := 5) (x := z179) hs 1 rfl (by kernel_rfl) (by kernel_rfl) i0_444 i1_444 .grow) ?_
         refine wpG.q 5 24 (.int .u8 x182) ?_
         refine wpG.q 6 25 (.int .u8 (ixor .u8 (rd z180 z179) x182)) ?_
         refine wpG.q 7 26 (.pointer (some ⟨b173, 0, none⟩)) ?_
         obtain ⟨i0_445, h⟩ := of_chk h
         obtain ⟨i1_445, h⟩ := of_chk h
         refine wpG.tD 8 false (some 27) (.pointer (some ⟨b173, 0 + (z179 : Int).toNat * 1, none⟩)) (yld_idx (t := 42) (e := 5) (n := 16) (sz := 1) (k := .i64) (x := z179) (by kernel_rfl) (by kernel_rfl) (by kernel_rfl) i0_445 i1_445) ?_
         obtain ⟨x183, hx, h⟩ := of_bind h
         refine wpG.only 9 (by kernel_rfl) (op_storeA (t := 5) (x := z179) (v := x183) (d := none) (by kernel_rfl) hs 1 rfl (by cases hx; kernel_rfl) (by kernel_rfl) i0_445 i1_445 ?_)
         intro w kp hs
         refine ⟨⟨fun hf => absurd hf (by decide), .all _ _⟩, ?_⟩
         refine wpG.fin (by kernel_rfl) rfl (kr443 _ _ ?_)
         refine inBlock_n (then_n (ks440 _ _ (xregS [0, 1] fun KR446 kr446 => ?_)))
         refine wpS.qs [(0, 28, .int .i64 (iadd .i64 z179 1)), (1, 15, .int .i64 (iadd .i64 z179 1))] ?_
         refine wpS.fin rfl (kr446 _ _ ?_)
         exact then_n (kl5 _ _ ⟨n, Nat.lt_succ_self n, (iadd .i64 z179 1), (wr z180 z179 x183), h, (hs.conv rfl), exg (by kernel_rfl)⟩)
        refine wpS.tk 0 false (some 16) (.bool false) (yld_b (df hc) (fun _ => by kernel_rfl)) ?_
        refine wpS.fin rfl (kr438 _ _ (then_n (ks437 _ _ (xseq_k fun KS447 ks447 => (wp_cond_f (by kernel_rfl) (xexit (then_x (then_x (inBlock_hit ?_)))))))))
        have q0 := of_some h
        subst q0
        exact exq_n (nn5 _ _ ⟨(hs.conv rfl), exg (by kernel_rfl)⟩)
      clear hs h hy
      rintro a w ⟨hs, g436, rfl⟩
      have h := hk5
      refine qn431 _ _ (post_nrm (by kernel_rfl) (run_results [] [] (by kernel_rfl) .nil) ?_)
      refine kI431 _ _ ?_
      refine ⟨fun _ => trivial, ?_⟩
      refine wpS.fin rfl (kr430 _ _ (then_n (ks429 _ _ ?_)))
      obtain ⟨y184, hj, h⟩ := of_bind h
      refine xseq_k fun KS449 ks449 => wp_join (N := fun a w => St w0 [] [.blk b174 (enc .u8 (zeroA 16)) 42, .blk b173 (enc .u8 y184) 42, .ownL (CA .u8 16 (by decide)) y160_A y160_n y160_c y160 42, .obj l374 (.loop (rec374 .exhausted none)), .obj D374 (.deferred none), .blk b156 ([.int .i64 4]) 3, .blk b155 ([.slice y141_A y141_n y141_c]) 99, .obj l316 (.loop (rec316 .exhausted none)), .obj D316 (.deferred none), .blk b124 ([.int .i64 4]) 3, .blk b123 ([.slice a0_A a0_n a0_c]) 26, .blk b122 ([.slice y141_A y141_n y141_c]) 99, .blk b119 ([.pointer (some ⟨b118, 0, none⟩)]) 53, .blk b118 ([.pointer (some ⟨b117, 0, none⟩), .slice y160_A y160_n y160_c]) 98, .blk b117 (([] : List Value) ++ enc .u8 r116_0 ++ enc .u8 r116_1 ++ ([] : List Value)) 48, .blk b115 (enc .u8 (zeroA 16)) 42] [.rowL (CA .u8 4 (by decide)) y141_A y141_n y141_c y141, .rowL (CI .u8) a0_A a0_n a0_c a0, .rowL (CI .u8) a1_A a1_n a1_c a1] w ∧ ∃ g448 : Nat → Value, a = ⟨#[.pointer (some ⟨b118, 0, none⟩), .agg (enc .u8 (arrL 16 a1)).toArray, undef, .pointer (some ⟨b173, 0, none⟩), .pointer (some ⟨b174, 0, none⟩), .int .i64 x175, .int .i64 z176, (g423 7), (g423 8), .pointer (some ⟨b118, 0, none⟩), .pointer (some ⟨b118, 0, none⟩), .pointer (some ⟨b118, 1, none⟩), .slice y160_A y160_n y160_c, .int .i64 (y160.length : Int), .int .i64 (isub .i64 (y160.length : Int) 1), .int .i64 x175, .int .i64 z176, .bool true, (g423 18), (g423 19), .pointer (some ⟨b118, 0, none⟩), .int .i64 z176, .tuple #[], (g448 23), (g448 24), (g448 25), (g448 26), (g423 27), (g423 28), (g423 29), (g423 30), (g423 31), (g423 32), (g423 33), (g423 34), (g423 35), (g423 36), (g423 37), (g423 38), (g423 39), (g423 40), (g423 41), (g423 42), (g423 43), (g423 44), (g423 45), (g423 46), (g423 47), (g423 48), (g423 49), undef, undef, undef], []⟩) (fun N nj => ?_) ?_
      ·clear h
       have h := hj
       refine xseq_k fun KS450 ks450 => ?_
       refine xregS [0, 1, 2] fun KR451 kr451 => ?_
       refine wpS.qs [(0, 23, .int .i64 z176), (1, 24, .int .i64 x175)] ?_
       rcases of_if h with ⟨hc, h⟩ | ⟨hc, h⟩
       ·refine wpS.tk 2 false (some 25) (.bool true) (yld_b (dt hc) (fun _ => by kernel_rfl)) ?_
        refine wpS.fin rfl (kr451 _ _ (then_n (ks450 _ _ (wp_cond_t (by kernel_rfl) (xregS [0] fun KR452 kr452 => ?_)))))
        obtain ⟨r185, hg, h⟩ := of_bind h
        refine wpS.only 0 (op_callX (d := (some 26)) (by kernel_rfl) hs 1 rfl (fun _ => by kernel_rfl) (aes_unmix.ok hg _ (hs.blkAt 1 rfl)) ?_)
        intro w kp hs
        have hs := hs.conv (L' := [.blk b174 (enc .u8 (zeroA 16)) 42, .blk b173 (enc .u8 r185) 42, .ownL (CA .u8 16 (by decide)) y160_A y160_n y160_c y160 42, .obj l374 (.loop (rec374 .exhausted none)), .obj D374 (.deferred none), .blk b156 ([.int .i64 4]) 3, .blk b155 ([.slice y141_A y141_n y141_c]) 99, .obj l316 (.loop (rec316 .exhausted none)), .obj D316 (.deferred none), .blk b124 ([.int .i64 4]) 3, .blk b123 ([.slice a0_A a0_n a0_c]) 26, .blk b122 ([.slice y141_A y141_n y141_c]) 99, .blk b119 ([.pointer (some ⟨b118, 0, none⟩)]) 53, .blk b118 ([.pointer (some ⟨b117, 0, none⟩), .slice y160_A y160_n y160_c]) 98, .blk b117 (([] : List Value) ++ enc .u8 r116_0 ++ enc .u8 r116_1 ++ ([] : List Value)) 48, .blk b115 (enc .u8 (zeroA 16)) 42]) rfl
        refine ⟨fun _ => trivial, ?_⟩
        refine wpS.fin rfl (kr452 _ _ ?_)
        have q0 := of_some h
        subst q0
        exact nj _ _ ⟨(hs.conv rfl), exg (by kernel_rfl)⟩
       refine wpS.tk 2 false (some 25) (.bool false) (yld_b (df hc) (fun _ => by kernel_rfl)) ?_
       refine wpS.fin rfl (kr451 _ _ (then_n (ks450 _ _ (wp_cond_f (by kernel_rfl) (xskip ?_)))))
       have q0 := of_some h
       subst q0
       exact nj _ _ ⟨(hs.conv rfl), exg (by kernel_rfl)⟩
      clear hj hs
      rintro a w ⟨hs, g448, rfl⟩
      refine then_n (ks449 _ _ (xseq_k fun KS453 ks453 => (xregS [0] fun KR454 kr454 => ?_)))
      refine wpS.only 0 (op_alloc (t := 42) (d := (some 7)) (by kernel_rfl) hs (enc .u8 (zeroA 16)) (.agg (enc .u8 (zeroA 16)).toArray) (by kernel_rfl) (by kernel_rfl) (by kernel_rfl) ?_)
      intro b186 w gw hs
      refine ⟨fun _ => trivial, ?_⟩
      refine wpS.fin rfl (kr454 _ _ (then_n (ks453 _ _ (xseq_k fun KS455 ks455 => (xseq_k fun KS456 ks456 => (xregS [0] fun KR457 kr457 => ?_))))))
      refine wpS.q 0 27 (.int .i64 0) ?_
      refine wpS.fin rfl (kr457 _ _ (then_n (ks456 _ _ ?_)))
      obtain ⟨y189, hy, hk6⟩ := of_bind h
      refine wp_exq (N := fun a w => St w0 [] [.blk b186 (enc .u8 y189) 42, .blk b174 (enc .u8 (zeroA 16)) 42, .blk b173 (enc .u8 y184) 42, .ownL (CA .u8 16 (by decide)) y160_A y160_n y160_c y160 42, .obj l374 (.loop (rec374 .exhausted none)), .obj D374 (.deferred none), .blk b156 ([.int .i64 4]) 3, .blk b155 ([.slice y141_A y141_n y141_c]) 99, .obj l316 (.loop (rec316 .exhausted none)), .obj D316 (.deferred none), .blk b124 ([.int .i64 4]) 3, .blk b123 ([.slice a0_A a0_n a0_c]) 26, .blk b122 ([.slice y141_A y141_n y141_c]) 99, .blk b119 ([.pointer (some ⟨b118, 0, none⟩)]) 53, .blk b118 ([.pointer (some ⟨b117, 0, none⟩), .slice y160_A y160_n y160_c]) 98, .blk b117 (([] : List Value) ++ enc .u8 r116_0 ++ enc .u8 r116_1 ++ ([] : List Value)) 48, .blk b115 (enc .u8 (zeroA 16)) 42] [.rowL (CA .u8 4 (by decide)) y141_A y141_n y141_c y141, .rowL (CI .u8) a0_A a0_n a0_c a0, .rowL (CI .u8) a1_A a1_n a1_c a1] w ∧ ∃ g459 : Nat → Value, a = ⟨#[.pointer (some ⟨b118, 0, none⟩), .agg (enc .u8 (arrL 16 a1)).toArray, undef, .pointer (some ⟨b173, 0, none⟩), .pointer (some ⟨b174, 0, none⟩), .int .i64 x175, .int .i64 z176, .pointer (some ⟨b186, 0, none⟩), (g459 8), .pointer (some ⟨b118, 0, none⟩), .pointer (some ⟨b118, 0, none⟩), .pointer (some ⟨b118, 1, none⟩), .slice y160_A y160_n y160_c, .int .i64 (y160.length : Int), .int .i64 (isub .i64 (y160.length : Int) 1), .int .i64 x175, .int .i64 z176, .bool true, (g423 18), (g423 19), .pointer (some ⟨b118, 0, none⟩), .int .i64 z176, .tuple #[], (g448 23), (g448 24), (g448 25), (g448 26), (g459 27), (g459 28), (g459 29), (g459 30), (g459 31), (g459 32), (g459 33), (g459 34), (g459 35), (g459 36), (g459 37), (g459 38), (g459 39), (g459 40), (g459 41), (g459 42), (g459 43), (g459 44), (g459 45), (g459 46), (g459 47), (g459 48), (g423 49), undef, undef, undef], []⟩) (fun N6 nn6 => ?_) ?_
      ·clear hk6
       refine xblock ?_
       refine wp_loop_k (fun n a w => ∃ z187 z188, aes_Back.l6 K n r116_1 y184 z187 z188 = some y189 ∧ St w0 [] [.blk b186 (enc .u8 z188) 42, .blk b174 (enc .u8 (zeroA 16)) 42, .blk b173 (enc .u8 y184) 42, .ownL (CA .u8 16 (by decide)) y160_A y160_n y160_c y160 42, .obj l374 (.loop (rec374 .exhausted none)), .obj D374 (.deferred none), .blk b156 ([.int .i64 4]) 3, .blk b155 ([.slice y141_A y141_n y141_c]) 99, .obj l316 (.loop (rec316 .exhausted none)), .obj D316 (.deferred none), .blk b124 ([.int .i64 4]) 3, .blk b123 ([.slice a0_A a0_n a0_c]) 26, .blk b122 ([.slice y141_A y141_n y141_c]) 99, .blk b119 ([.pointer (some ⟨b118, 0, none⟩)]) 53, .blk b118 ([.pointer (some ⟨b117, 0, none⟩), .slice y160_A y160_n y160_c]) 98, .blk b117 (([] : List Value) ++ enc .u8 r116_0 ++ enc .u8 r116_1 ++ ([] : List Value)) 48, .blk b115 (enc .u8 (zeroA 16)) 42] [.rowL (CA .u8 4 (by decide)) y141_A y141_n y141_c y141, .rowL (CI .u8) a0_A a0_n a0_c a0, .rowL (CI .u8) a1_A a1_n a1_c a1] w ∧ ∃ g458 : Nat → Value, a = ⟨#[.pointer (some ⟨b118, 0, none⟩), .agg (enc .u8 (arrL 16 a1)).toArray, undef, .pointer (some ⟨b173, 0, none⟩), .pointer (some ⟨b174, 0, none⟩), .int .i64 x175, .int .i64 z176, .pointer (some ⟨b186, 0, none⟩), (g458 8), .pointer (some ⟨b118, 0, none⟩), .pointer (some ⟨b118, 0, none⟩), .pointer (some ⟨b118, 1, none⟩), .slice y160_A y160_n y160_c, .int .i64 (y160.length : Int), .int .i64 (isub .i64 (y160.length : Int) 1), .int .i64 x175, .int .i64 z176, .bool true, (g423 18), (g423 19), .pointer (some ⟨b118, 0, none⟩), .int .i64 z176, .tuple #[], (g448 23), (g448 24), (g448 25), (g448 26), .int .i64 z187, (g458 28), (g458 29), (g458 30), (g458 31), (g458 32), (g458 33), (g458 34), (g458 35), (g458 36), (g458 37), (g458 38), (g458 39), (g458 40), (g458 41), (g458 42), (g458 43), (g458 44), (g458 45), (g458 46), (g458 47), (g458 48), (g423 49), undef, undef, undef], []⟩) K ⟨0, (zeroA 16), hy, hs.conv rfl, exg (by kernel_rfl)⟩ ?_
       clear hs h hy
       rintro n a w ⟨z187, z188, h, hs, g458, rfl⟩ KL6 kl6
       cases n with
       | zero => exact nomatch (show none = some _ from h)
       | succ n =>
        refine xseq_k fun KS460 ks460 => ?_
        refine xregS [0] fun KR461 kr461 => ?_
        rcases of_if h with ⟨hc, h⟩ | ⟨hc, h⟩
        ·refine wpS.tk 0 false (some 28) (.bool true) (yld_b (dt hc) (fun _ => by kernel_rfl)) ?_
         refine wpS.fin rfl (kr461 _ _ (then_n (ks460 _ _ (xseq_k fun KS462 ks462 => (wp_cond_t (by kernel_rfl) (xskip (then_n (ks462 _ _ (xseq_k fun KS463 ks463 => (xblock (xseq_k fun KS464 ks464 => (xregS [0, 1] fun KR465 kr465 => ?_))))))))))))
         refine wpS.qs [(0, 29, .int .i64 z187), (1, 8, .int .i64 z187)] ?_
         refine wpS.fin rfl (kr465 _ _ (then_n (ks464 _ _ ?_)))
         refine wp_regG [18] (fun k => True) 19 (by kernel_rfl) (by kernel_rfl) (by kernel_rfl) fun KR466 kr466 => ?_
         have hs := hs.drawn1
         refine wpG.q 0 30 (.int .i64 z187) ?_
         refine wpG.q 1 31 (.int .i64 z187) ?_
         refine wpG.q 2 32 (.int .i64 (irem .i64 z187 4)) ?_
         refine wpG.q 3 33 (.int .i64 (imul .i64 4 (irem .i64 z187 4))) ?_
         refine wpG.q 4 34 (.int .i64 (iadd .i64 z187 (imul .i64 4 (irem .i64 z187 4)))) ?_
         refine wpG.q 5 35 (.int .i64 (irem .i64 (iadd .i64 z187 (imul .i64 4 (irem .i64 z187 4))) 16)) ?_
         refine wpG.q 6 36 (.pointer (some ⟨b118, 0, none⟩)) ?_
         refine wpG.q 7 37 (.pointer (some ⟨b118, 0, none⟩)) ?_
         refine wpG.q 8 38 (.pointer (some ⟨b118, 0, none⟩)) ?_
         refine wpG.tD 9 true (some 39) (.pointer (some ⟨b117, 0, none⟩)) (yld_load1 (e := 49) (o := 0) hs 14 rfl (by kernel_rfl) (by kernel_rfl) (by rfl) .grow) ?_
         refine wpG.q 10 40 (.int .i64 z187) ?_
         obtain ⟨i0_467, h⟩ := of_chk h
         obtain ⟨i1_467, h⟩ := of_chk h
         refine wpG.tD 11 false (some 41) (.pointer (some ⟨b173, 0 + (z187 : Int).toNat * 1, none⟩)) (yld_idx (t := 42) (e := 5) (n := 16) (sz := 1) (k := .i64) (x := z187) (by kernel_rfl) (by kernel_rfl) (by kernel_rfl) i0_467 i1_467) ?_
         refine wpG.tD 12 true (some 42) (.int .u8 (rd y184 z187)) (yld_loadA (e := 5) (x := z187) hs 2 rfl (by kernel_rfl) (by kernel_rfl) i0_467 i1_467 .grow) ?_
         refine wpG.q 13 43 (.pointer (some ⟨b117, 0, none⟩)) ?_
         refine wpG.q 14 44 (.pointer (some ⟨b117, 256, none⟩)) ?_
         obtain ⟨x190, hx, h⟩ := of_bind h
         have hx := of_some hx
         subst hx
         obtain ⟨i0_468, h⟩ := of_chk h
         obtain ⟨i1_468, h⟩ := of_chk h
         refine wpG.tD 15 false (some 45) (.pointer (some ⟨b117, 256 + ((rd y184 z187) : Int).toNat * 1, none⟩)) (yld_idx (t := 46) (e := 5) (n := 256) (sz := 1) (k := .u8) (x := (rd y184 z187)) (by kernel_rfl) (by kernel_rfl) (by kernel_rfl) i0_468 i1_468) ?_
         refine wpG.tD 16 true (some 46) (.int .u8 (rd r116_1 (rd y184 z187))) (yld_loadR (m := 256) (k := .u8) (pre := enc .u8 r116_0) (post := ([] : List Value)) (c := r116_1) (e := 5) (x := (rd y184 z187)) hs 15 rfl (by simp only [List.append_assoc, List.nil_append, List.cons_append, List.append_nil]) (by kernel_rfl) (by kernel_rfl) i0_468 i1_468 (by simp [enc_len]) .grow) ?_
         obtain ⟨x191, hx, h⟩ := of_bind h
         have hx := of_some hx
         subst hx
         obtain ⟨i0_469, h⟩ := of_chk h
         obtain ⟨i1_469, h⟩ := of_chk h
         refine wpG.tD 17 false (some 47) (.pointer (some ⟨b186, 0 + ((irem .i64 (iadd .i64 z187 (imul .i64 4 (irem .i64 z187 4))) 16) : Int).toNat * 1, none⟩)) (yld_idx (t := 42) (e := 5) (n := 16) (sz := 1) (k := .i64) (x := (irem .i64 (iadd .i64 z187 (imul .i64 4 (irem .i64 z187 4))) 16)) (by kernel_rfl) (by kernel_rfl) (by kernel_rfl) i0_469 i1_469) ?_
         obtain ⟨x192, hx, h⟩ := of_bind h
         refine wpG.only 18 (by kernel_rfl) (op_storeA (t := 5) (x := (irem .i64 (iadd .i64 z187 (imul .i64 4 (irem .i64 z187 4))) 16)) (v := x192) (d := none) (by kernel_rfl) hs 0 rfl (by cases hx; kernel_rfl) (by kernel_rfl) i0_469 i1_469 ?_)
         intro w kp hs
         refine ⟨⟨fun hf => absurd hf (by decide), .all _ _⟩, ?_⟩
         refine wpG.fin (by kernel_rfl) rfl (kr466 _ _ ?_)
         refine inBlock_n (then_n (ks463 _ _ (xregS [0, 1] fun KR470 kr470 => ?_)))
         refine wpS.qs [(0, 48, .int .i64 (iadd .i64 z187 1)), (1, 27, .int .i64 (iadd .i64 z187 1))] ?_
         refine wpS.fin rfl (kr470 _ _ ?_)
         exact then_n (kl6 _ _ ⟨n, Nat.lt_succ_self n, (iadd .i64 z187 1), (wr z188 (irem .i64 (iadd .i64 z187 (imul .i64 4 (irem .i64 z187 4))) 16) x192), h, (hs.conv rfl), exg (by kernel_rfl)⟩)
        refine wpS.tk 0 false (some 28) (.bool false) (yld_b (df hc) (fun _ => by kernel_rfl)) ?_
        refine wpS.fin rfl (kr461 _ _ (then_n (ks460 _ _ (xseq_k fun KS471 ks471 => (wp_cond_f (by kernel_rfl) (xexit (then_x (then_x (inBlock_hit ?_)))))))))
        have q0 := of_some h
        subst q0
        exact exq_n (nn6 _ _ ⟨(hs.conv rfl), exg (by kernel_rfl)⟩)
      clear hs h hy
      rintro a w ⟨hs, g459, rfl⟩
      have h := hk6
      refine then_n (ks455 _ _ (xregS [0, 1] fun KR472 kr472 => ?_))
      refine wpS.tk 0 true (some 49) (.agg (enc .u8 y189).toArray) (yld_loadW (e := 42) (n := 16) hs 0 rfl (by kernel_rfl) (by kernel_rfl) (by kernel_rfl) (by exact enc_len _ _) .grow) ?_
      refine wpS.only 1 (op_storeW (t := 42) (v := .agg (enc .u8 y189).toArray) (d := none) (by kernel_rfl) hs 2 rfl (vs := enc .u8 y189) (n := 16) (by kernel_rfl) (by kernel_rfl) (by kernel_rfl) (by simp [enc_len]) (by simp [enc_len]) (by intro u hu; exact enc_one _ _ u hu) ?_)
      intro w kp hs
      refine ⟨fun _ => trivial, ?_⟩
      refine wpS.fin rfl (kr472 _ _ (inBlock_n (then_n (ks428 _ _ (xregS [0, 1, 2] fun KR473 kr473 => ?_)))))
      refine wpS.qs [(0, 18, .int .i64 z176), (1, 19, .int .i64 (isub .i64 z176 1))] ?_
      obtain ⟨x193, hx, h⟩ := of_bind h
      refine wpS.tk 2 false (some 6) (.int .i64 x193) (yld_int hx (fun _ => by kernel_rfl)) ?_
      refine wpS.fin rfl (kr473 _ _ ?_)
      exact then_n (kl4 _ _ ⟨n, Nat.lt_succ_self n, x193, y189, h, (hs.drop (.cons _ (.cons_cons _ (.cons_cons _ (.cons_cons _ (.cons_cons _ (.cons_cons _ (.cons_cons _ (.cons_cons _ (.cons_cons _ (.cons_cons _ (.cons_cons _ (.cons_cons _ (.cons_cons _ (.cons_cons _ (.cons_cons _ (.cons_cons _ (.cons_cons _ .slnil)))))))))))))))))), exg (by kernel_rfl)⟩)
     refine wpS.tk 1 false (some 17) (.bool false) (yld_b (df hc) (fun _ => by kernel_rfl)) ?_
     refine wpS.fin rfl (kr427 _ _ (then_n (ks426 _ _ (wp_cond_f (by kernel_rfl) (xexit (then_x (then_x (inBlock_hit ?_))))))))
     have q0 := of_some h
     subst q0
     exact exq_n (nn4 _ _ ⟨(hs.conv rfl), exg (by kernel_rfl)⟩)
   clear hs h hy
   rintro a w ⟨hs, g424, rfl⟩
   have h := hk4
   refine then_n (ks420 _ _ (xseq_k fun KS474 ks474 => (xregS [0, 1] fun KR475 kr475 => ?_)))
   refine wpS.q 0 50 (.pointer (some ⟨b118, 0, none⟩)) ?_
   refine wpS.only 1 (op_inline (d := (some 51)) (f := 86) (args := #[.pointer (some ⟨b118, 0, none⟩), .pointer (some ⟨b173, 0, none⟩), .int .i64 0]) (by kernel_rfl) (fun _ => by kernel_rfl) fun R476 kI476 => ?_)
   refine calls_kn Try.func86 rfl fun Q476 qq476 qn476 => ?_
   refine wp_conv (a' := ⟨#[.pointer (some ⟨b118, 0, none⟩), .pointer (some ⟨b173, 0, none⟩), .int .i64 0, undef, undef, undef, undef, undef, undef, undef, undef, undef, undef, undef, undef, undef, undef, undef, undef, undef, undef, undef, undef, undef, undef, undef, undef, undef, undef], []⟩) (by kernel_rfl) ?_
   refine xseq_k fun KS477 ks477 => ?_
   refine xregS [0, 1, 2, 3, 4, 5, 6, 7] fun KR478 kr478 => ?_
   refine wpS.qs [(0, 8, .pointer (some ⟨b118, 0, none⟩)), (1, 9, .pointer (some ⟨b118, 0, none⟩)), (2, 10, .pointer (some ⟨b118, 1, none⟩))] ?_
   refine wpS.tk 3 true (some 11) (.slice y160_A y160_n y160_c) (yld_load1 (e := 96) (o := 1) hs 13 rfl (by kernel_rfl) (by kernel_rfl) (by rfl) .grow) ?_
   refine wpS.q 4 12 (.int .i64 0) ?_
   obtain ⟨h0, h⟩ := of_chk h
   obtain ⟨h1, h⟩ := of_chk h
   have i0_479 := h0
   have i1_479 := h1
   refine wpS.tk 5 false (some 13) (.pointer (adr y160_A ((0 : Int).toNat * Cod.size (CA .u8 16 (by decide))))) (yld_idxL (C := (CA .u8 16 (by decide))) (t := 96) (e := 42) (k := .i64) (x := 0) (hs.rowL 2 rfl) (by kernel_rfl) (by kernel_rfl) (by kernel_rfl) h0 h1) ?_
   refine wpS.tk 6 true (some 14) (.agg (enc .u8 (rdL (CA .u8 16 (by decide)) y160 0)).toArray) (yld_loadLA (C := (CA .u8 16 (by decide))) (e := 42) (x := 0) (hs.rowL 2 rfl) (by kernel_rfl) rfl (by kernel_rfl) (by kernel_rfl) i0_479 i1_479) ?_
   refine wpS.q 7 15 (.int .i64 0) ?_
   refine wpS.fin rfl (kr478 _ _ (then_n (ks477 _ _ ?_)))
   obtain ⟨y196, hy, hk7⟩ := of_bind h
   refine wp_exq (N := fun a w => St w0 [] [.blk b174 (enc .u8 (zeroA 16)) 42, .blk b173 (enc .u8 y196) 42, .ownL (CA .u8 16 (by decide)) y160_A y160_n y160_c y160 42, .obj l374 (.loop (rec374 .exhausted none)), .obj D374 (.deferred none), .blk b156 ([.int .i64 4]) 3, .blk b155 ([.slice y141_A y141_n y141_c]) 99, .obj l316 (.loop (rec316 .exhausted none)), .obj D316 (.deferred none), .blk b124 ([.int .i64 4]) 3, .blk b123 ([.slice a0_A a0_n a0_c]) 26, .blk b122 ([.slice y141_A y141_n y141_c]) 99, .blk b119 ([.pointer (some ⟨b118, 0, none⟩)]) 53, .blk b118 ([.pointer (some ⟨b117, 0, none⟩), .slice y160_A y160_n y160_c]) 98, .blk b117 (([] : List Value) ++ enc .u8 r116_0 ++ enc .u8 r116_1 ++ ([] : List Value)) 48, .blk b115 (enc .u8 (zeroA 16)) 42] [.rowL (CA .u8 4 (by decide)) y141_A y141_n y141_c y141, .rowL (CI .u8) a0_A a0_n a0_c a0, .rowL (CI .u8) a1_A a1_n a1_c a1] w ∧ ∃ g481 : Nat → Value, a = ⟨#[.pointer (some ⟨b118, 0, none⟩), .pointer (some ⟨b173, 0, none⟩), .int .i64 0, undef, undef, undef, (g481 6), (g481 7), .pointer (some ⟨b118, 0, none⟩), .pointer (some ⟨b118, 0, none⟩), .pointer (some ⟨b118, 1, none⟩), .slice y160_A y160_n y160_c, .int .i64 0, .pointer (adr y160_A ((0 : Int).toNat * Cod.size (CA .u8 16 (by decide)))), .agg (enc .u8 (rdL (CA .u8 16 (by decide)) y160 0)).toArray, (g481 15), (g481 16), (g481 17), (g481 18), (g481 19), (g481 20), (g481 21), (g481 22), (g481 23), (g481 24), (g481 25), (g481 26), (g481 27), (g481 28)], []⟩) (fun N7 nn7 => ?_) ?_
   ·clear hk7
    refine xblock ?_
    refine wp_loop_k (fun n a w => ∃ z194 z195, aes_Back.l7 K n y160 z194 z195 = some y196 ∧ St w0 [] [.blk b174 (enc .u8 (zeroA 16)) 42, .blk b173 (enc .u8 z195) 42, .ownL (CA .u8 16 (by decide)) y160_A y160_n y160_c y160 42, .obj l374 (.loop (rec374 .exhausted none)), .obj D374 (.deferred none), .blk b156 ([.int .i64 4]) 3, .blk b155 ([.slice y141_A y141_n y141_c]) 99, .obj l316 (.loop (rec316 .exhausted none)), .obj D316 (.deferred none), .blk b124 ([.int .i64 4]) 3, .blk b123 ([.slice a0_A a0_n a0_c]) 26, .blk b122 ([.slice y141_A y141_n y141_c]) 99, .blk b119 ([.pointer (some ⟨b118, 0, none⟩)]) 53, .blk b118 ([.pointer (some ⟨b117, 0, none⟩), .slice y160_A y160_n y160_c]) 98, .blk b117 (([] : List Value) ++ enc .u8 r116_0 ++ enc .u8 r116_1 ++ ([] : List Value)) 48, .blk b115 (enc .u8 (zeroA 16)) 42] [.rowL (CA .u8 4 (by decide)) y141_A y141_n y141_c y141, .rowL (CI .u8) a0_A a0_n a0_c a0, .rowL (CI .u8) a1_A a1_n a1_c a1] w ∧ ∃ g480 : Nat → Value, a = ⟨#[.pointer (some ⟨b118, 0, none⟩), .pointer (some ⟨b173, 0, none⟩), .int .i64 0, undef, undef, undef, (g480 6), (g480 7), .pointer (some ⟨b118, 0, none⟩), .pointer (some ⟨b118, 0, none⟩), .pointer (some ⟨b118, 1, none⟩), .slice y160_A y160_n y160_c, .int .i64 0, .pointer (adr y160_A ((0 : Int).toNat * Cod.size (CA .u8 16 (by decide)))), .agg (enc .u8 (rdL (CA .u8 16 (by decide)) y160 0)).toArray, .int .i64 z194, (g480 16), (g480 17), (g480 18), (g480 19), (g480 20), (g480 21), (g480 22), (g480 23), (g480 24), (g480 25), (g480 26), (g480 27), (g480 28)], []⟩) K ⟨0, y178, hy, hs.conv rfl, exg (by kernel_rfl)⟩ ?_
    clear hs h hy
    rintro n a w ⟨z194, z195, h, hs, g480, rfl⟩ KL7 kl7
    cases n with
    | zero => exact nomatch (show none = some _ from h)
    | succ n =>
     refine xseq_k fun KS482 ks482 => ?_
     refine xregS [0] fun KR483 kr483 => ?_
     rcases of_if h with ⟨hc, h⟩ | ⟨hc, h⟩
     ·refine wpS.tk 0 false (some 16) (.bool true) (yld_b (dt hc) (fun _ => by kernel_rfl)) ?_
      refine wpS.fin rfl (kr483 _ _ (then_n (ks482 _ _ (xseq_k fun KS484 ks484 => (wp_cond_t (by kernel_rfl) (xskip (then_n (ks484 _ _ (xseq_k fun KS485 ks485 => (xblock (xseq_k fun KS486 ks486 => (xregS [0, 1, 2, 3] fun KR487 kr487 => ?_))))))))))))
      refine wpS.q 0 17 (.int .i64 z194) ?_
      obtain ⟨h0, h⟩ := of_chk h
      obtain ⟨h1, h⟩ := of_chk h
      refine wpS.tk 1 false (some 18) (.int .u8 (rd (rdL (CA .u8 16 (by decide)) y160 0) z194)) (yld_at (t := 42) (e := 5) (k' := .i64) (by kernel_rfl) (by kernel_rfl) (by kernel_rfl) (by kernel_rfl) h0 h1) ?_
      refine wpS.q 2 6 (.int .i64 z194) ?_
      obtain ⟨x197, hx, h⟩ := of_bind h
      refine wpS.tk 3 false (some 7) (.int .u8 x197) (yld_int hx (fun _ => by kernel_rfl)) ?_
      refine wpS.fin rfl (kr487 _ _ (then_n (ks486 _ _ ?_)))
      refine wp_regG [9] (fun k => True) 10 (by kernel_rfl) (by kernel_rfl) (by kernel_rfl) fun KR488 kr488 => ?_
      have hs := hs.drawn1
      refine wpG.q 0 19 (.pointer (some ⟨b173, 0, none⟩)) ?_
      refine wpG.q 1 20 (.int .i64 z194) ?_
      refine wpG.q 2 21 (.pointer (some ⟨b173, 0, none⟩)) ?_
      obtain ⟨i0_489, h⟩ := of_chk h
      obtain ⟨i1_489, h⟩ := of_chk h
      refine wpG.tD 3 false (some 22) (.pointer (some ⟨b173, 0 + (z194 : Int).toNat * 1, none⟩)) (yld_idx (t := 42) (e := 5) (n := 16) (sz := 1) (k := .i64) (x := z194) (by kernel_rfl) (by kernel_rfl) (by kernel_rfl) i0_489 i1_489) ?_
      refine wpG.tD 4 true (some 23) (.int .u8 (rd z195 z194)) (yld_loadA (e := 5) (x := z194) hs 1 rfl (by kernel_rfl) (by kernel_rfl) i0_489 i1_489 .grow) ?_
      refine wpG.q 5 24 (.int .u8 x197) ?_
      refine wpG.q 6 25 (.int .u8 (ixor .u8 (rd z195 z194) x197)) ?_
      refine wpG.q 7 26 (.pointer (some ⟨b173, 0, none⟩)) ?_
      obtain ⟨i0_490, h⟩ := of_chk h
      obtain ⟨i1_490, h⟩ := of_chk h
      refine wpG.tD 8 false (some 27) (.pointer (some ⟨b173, 0 + (z194 : Int).toNat * 1, none⟩)) (yld_idx (t := 42) (e := 5) (n := 16) (sz := 1) (k := .i64) (x := z194) (by kernel_rfl) (by kernel_rfl) (by kernel_rfl) i0_490 i1_490) ?_
      obtain ⟨x198, hx, h⟩ := of_bind h
      refine wpG.only 9 (by kernel_rfl) (op_storeA (t := 5) (x := z194) (v := x198) (d := none) (by kernel_rfl) hs 1 rfl (by cases hx; kernel_rfl) (by kernel_rfl) i0_490 i1_490 ?_)
      intro w kp hs
      refine ⟨⟨fun hf => absurd hf (by decide), .all _ _⟩, ?_⟩
      refine wpG.fin (by kernel_rfl) rfl (kr488 _ _ ?_)
      refine inBlock_n (then_n (ks485 _ _ (xregS [0, 1] fun KR491 kr491 => ?_)))
      refine wpS.qs [(0, 28, .int .i64 (iadd .i64 z194 1)), (1, 15, .int .i64 (iadd .i64 z194 1))] ?_
      refine wpS.fin rfl (kr491 _ _ ?_)
      exact then_n (kl7 _ _ ⟨n, Nat.lt_succ_self n, (iadd .i64 z194 1), (wr z195 z194 x198), h, (hs.conv rfl), exg (by kernel_rfl)⟩)
     refine wpS.tk 0 false (some 16) (.bool false) (yld_b (df hc) (fun _ => by kernel_rfl)) ?_
     refine wpS.fin rfl (kr483 _ _ (then_n (ks482 _ _ (xseq_k fun KS492 ks492 => (wp_cond_f (by kernel_rfl) (xexit (then_x (then_x (inBlock_hit ?_)))))))))
     have q0 := of_some h
     subst q0
     exact exq_n (nn7 _ _ ⟨(hs.conv rfl), exg (by kernel_rfl)⟩)
   clear hs h hy
   rintro a w ⟨hs, g481, rfl⟩
   have h := hk7
   refine qn476 _ _ (post_nrm (by kernel_rfl) (run_results [] [] (by kernel_rfl) .nil) ?_)
   refine kI476 _ _ ?_
   refine ⟨fun _ => trivial, ?_⟩
   refine wpS.fin rfl (kr475 _ _ (then_n (ks474 _ _ (xseq_k fun KS493 ks493 => (xregS [0, 1] fun KR494 kr494 => ?_)))))
   refine wpS.tk 0 true (some 52) (.agg (enc .u8 y196).toArray) (yld_loadW (e := 42) (n := 16) hs 1 rfl (by kernel_rfl) (by kernel_rfl) (by kernel_rfl) (by exact enc_len _ _) .grow) ?_
   refine wpS.only 1 (op_storeW (t := 42) (v := .agg (enc .u8 y196).toArray) (d := none) (by kernel_rfl) hs 0 rfl (vs := enc .u8 y196) (n := 16) (by kernel_rfl) (by kernel_rfl) (by kernel_rfl) (by simp [enc_len]) (by simp [enc_len]) (by intro u hu; exact enc_one _ _ u hu) ?_)
   intro w kp hs
   refine ⟨fun _ => trivial, ?_⟩
   refine wpS.fin rfl (kr494 _ _ (then_n (ks493 _ _ (xret ?_))))
   refine qq414 _ _ (post_ret (by kernel_rfl) (run_results [.cell 4 42] [.agg (enc .u8 y196).toArray] (by kernel_rfl) (.cons (res_cellN (n := 16) hs 0 rfl (by kernel_rfl) (by kernel_rfl) (by kernel_rfl) (by exact enc_len _ _)) .nil)) ?_)
   refine kI414 _ _ ?_
   refine ⟨⟨fun hf => absurd hf (by decide), (keepW hsB415 hs)⟩, ?_⟩
   have hsB495 := hs
   refine wpG.only 7 (by kernel_rfl) (op_storeW (t := 42) (v := .agg (enc .u8 y196).toArray) (d := none) (by kernel_rfl) hs 15 rfl (vs := enc .u8 y196) (n := 16) (by kernel_rfl) (by kernel_rfl) (by kernel_rfl) (by simp [enc_len]) (by simp [enc_len]) (by intro u hu; exact enc_one _ _ u hu) ?_)
   intro w kp hs
   refine ⟨⟨fun hf => absurd hf (by decide), (keepW hsB495 hs)⟩, ?_⟩
   refine wpG.fin (by kernel_rfl) rfl (kr10 _ _ ?_)
   have q0 := of_some h
   subst q0
   exact nj _ _ ⟨b115, ((hs.drop (.cons _ (.cons _ (.cons _ (.cons _ (.cons _ (.cons _ (.cons _ (.cons _ (.cons _ (.cons _ (.cons _ (.cons _ (.cons _ (.cons _ (.cons _ (.cons_cons _ .slnil))))))))))))))))).pickR (pick_cons 1 rfl (pick_cons 2 rfl pick_nil))), exg (by kernel_rfl)⟩
  clear hj hs
  rintro a w ⟨b2, hs, g9, rfl⟩
  refine then_n (ks8 _ _ (xseq_k fun KS496 ks496 => (xregS [0, 1, 2] fun KR497 kr497 => ?_)))
  refine wpS.tk 0 false (some 20) (.slice (some ⟨b2, 0 + (0 : Int).toNat * 1, none⟩) ((16 : Int).toNat - (0 : Int).toNat) (16 - (0 : Int).toNat)) (yld_slA2 (t := 42) (e := 5) (n := 16) (low := Option.none) (high := Option.none) (lo := 0) (hi := 16) (by kernel_rfl) (by kernel_rfl) (by kernel_rfl) (.inl ⟨rfl, rfl⟩) (.inl ⟨rfl, rfl⟩) (by decide) (by decide) (by decide) (by decide)) ?_
  refine wpS.qs [(1, 4, .slice (some ⟨b2, 0 + (0 : Int).toNat * 1, none⟩) ((16 : Int).toNat - (0 : Int).toNat) (16 - (0 : Int).toNat)), (2, 5, .int .i64 0)] ?_
  refine wpS.fin rfl (kr497 _ _ (then_n (ks496 _ _ (xret ?_))))
  obtain ⟨q0, qr0⟩ := Prod.mk.inj (of_some h)
  have q1 := qr0
  subst q0
  subst q1
  have hs := hs.blkRow (lo := 0) (hi := 16) 0 rfl (by decide) (by decide) (by decide)
  exact qq _ _ (post_ret (by kernel_rfl) (run_results [.tmp 4, .tmp 5] [.slice (some ⟨b2, 0 + (0 : Int).toNat * 1, none⟩) ((16 : Int).toNat - (0 : Int).toNat) (16 - (0 : Int).toNat), .int .i64 0] (by kernel_rfl) (.cons (res_tmp (by kernel_rfl)) (.cons (res_tmp (by kernel_rfl)) .nil))) ⟨⟨(some ⟨b2, 0 + (0 : Int).toNat * 1, none⟩), ((16 : Int).toNat - (0 : Int).toNat), (16 - (0 : Int).toNat)⟩, congrArg Ending.returned (by kernel_rfl), (hs.pickR pick_nil)⟩)
 refine wpS.tk 1 false (some 12) (.bool true) (yld_b (nt hc) (fun _ => by kernel_rfl)) ?_
 refine wpS.fin rfl (kr7 _ _ (then_n (ks6 _ _ (wp_cond_t (by kernel_rfl) (xseq_k fun KS499 ks499 => (xregS [0, 1, 2] fun KR500 kr500 => ?_))))))
 refine wpS.qs [(0, 13, .int .i64 r1), (1, 4, .slice none 0 0), (2, 5, .int .i64 r1)] ?_
 refine wpS.fin rfl (kr500 _ _ (then_n (ks499 _ _ (xret (then_r ?_)))))
 obtain ⟨q0, qr0⟩ := Prod.mk.inj (of_some h)
 have q1 := qr0
 subst q0
 subst q1
 have hs := hs.addNilR (CI .u8)
 exact qq _ _ (post_ret (by kernel_rfl) (run_results [.tmp 4, .tmp 5] [.slice none 0 0, .int .i64 r1] (by kernel_rfl) (.cons (res_tmp (by kernel_rfl)) (.cons (res_tmp (by kernel_rfl)) .nil))) ⟨⟨none, 0, 0⟩, congrArg Ending.returned (by kernel_rfl), (hs.pickR pick_nil)⟩)
end Go.Proofs.Ytmpagpbnpgcecaa
