/- Printed by this work's own program: the code of each function below comes to the answer that its plain form tells. -/
import Derived.Test.YtmpagpbnpgcecaaMy
import Derived.Test.YtmpagpbnpgcecaaProg
import Derived.Test.YtmpagpbnpgcecaaEF0
import Derived.Test.YtmpagpbnpgcecaaEX0
set_option linter.unusedVariables false
set_option linter.unusedSimpArgs false
set_option maxRecDepth 100000
set_option maxHeartbeats 4000000
namespace Go.Proofs.Ytmpagpbnpgcecaa
open Go.Mx
attribute [local irreducible] wpOp

theorem aes_Block.ok {K : Nat} {a0 : List Int} {a1 : List Int} {r0 : List Int} {r1 : Int} {a0_A : Option Addr} {a0_n : Nat} {a0_c : Nat} {a1_A : Option Addr} {a1_n : Nat} {a1_c : Nat} (h : aes_Block.f K a0 a1 = some (r0, r1)) (w0 : World) (hp0 : RowL (CI .u8) w0 a0_A a0_n a0_c a0) (hp1 : RowL (CI .u8) w0 a1_A a1_n a1_c a1) : Calls Try.prog 18 #[.slice a0_A a0_n a0_c, .slice a1_A a1_n a1_c] w0 fun e w' => ∃ h : (Option Addr × Nat × Nat), e = .returned (.tuple #[.slice h.1 h.2.1 h.2.2, .int .i64 r1]) ∧ St w0 [] [.rowL (CI .u8) h.1 h.2.1 h.2.2 r0] [] w' := by
 refine calls_k Try.func18 rfl fun Q qq => ?_
 have hs := St.startR (all_cons (RowP.ent hp0) (all_cons (RowP.ent hp1) all_nil))
 refine wp_conv (a' := ⟨#[.slice a0_A a0_n a0_c, .slice a1_A a1_n a1_c, undef, undef, undef, undef, undef, undef, undef, undef, undef, undef, undef, undef, undef, undef, undef, undef, undef, undef, undef], []⟩) (by kernel_rfl) ?_
 refine xseq_k fun KS1 ks1 => ?_
 refine xregS [0, 1] fun KR2 kr2 => ?_
 refine wpS.qs [(0, 4, .slice none 0 0), (1, 5, .int .i64 0)] ?_
 refine wpS.fin rfl (kr2 _ _ (then_n (ks1 _ _ (xseq_k fun KS3 ks3 => (xseq_k fun KS4 ks4 => (xregS [0, 1, 2, 3] fun KR5 kr5 => ?_))))))
 refine wpS.qs [(0, 8, .slice a0_A a0_n a0_c), (1, 9, .slice a1_A a1_n a1_c)] ?_
 obtain ⟨r1, hg, h⟩ := of_bind h
 refine wpS.only 2 (op_call (d := (some 10)) (by kernel_rfl) hs (fun _ => by kernel_rfl) (aes_wrong.ok hg _ (hs.rowR 0 rfl) (hs.rowR 1 rfl)) ?_)
 intro w gw hs
 refine ⟨fun _ => trivial, ?_⟩
 refine wpS.q 3 6 (.int .i64 r1) ?_
 refine wpS.fin rfl (kr5 _ _ (then_n (ks4 _ _ (xseq_k fun KS6 ks6 => (xregS [0, 1] fun KR7 kr7 => ?_)))))
 refine wpS.q 0 11 (.int .i64 r1) ?_
 rcases of_if h with ⟨hc, h⟩ | ⟨hc, h⟩
 ·refine wpS.tk 1 false (some 12) (.bool false) (yld_b (nf hc) (fun _ => by kernel_rfl)) ?_
  refine wpS.fin rfl (kr7 _ _ (then_n (ks6 _ _ (wp_cond_f (by kernel_rfl) (xskip (then_n (ks3 _ _ (xseq_k fun KS8 ks8 => ?_))))))))
  obtain ⟨y3, hj, h⟩ := of_bind h
  refine wp_join (N := fun a w => ∃ (b2 : Nat), St w0 [] [.blk b2 (enc .u8 y3) 42] [.rowL (CI .u8) a0_A a0_n a0_c a0, .rowL (CI .u8) a1_A a1_n a1_c a1] w ∧ ∃ g9 : Nat → Value, a = ⟨#[.slice a0_A a0_n a0_c, .slice a1_A a1_n a1_c, undef, undef, .slice none 0 0, .int .i64 0, .int .i64 r1, .pointer (some ⟨b2, 0, none⟩), .slice a0_A a0_n a0_c, .slice a1_A a1_n a1_c, .int .i64 r1, .int .i64 r1, .bool false, undef, (g9 14), (g9 15), (g9 16), (g9 17), (g9 18), (g9 19), undef], []⟩) (fun N nj => ?_) ?_
  ·clear h
   have h := hj
   refine wp_regG [1, 5, 7] (fun k => ¬ k < w0.heap.size) 8 (by kernel_rfl) (by kernel_rfl) (by kernel_rfl) fun KR10 kr10 => ?_
   have hs := hs.drawn1
   refine wpG.q 0 14 (.slice a0_A a0_n a0_c) ?_
   refine wpG.q 2 16 (.slice a1_A a1_n a1_c) ?_
   obtain ⟨i0_11, h⟩ := of_chk h
   refine wpG.tD 3 false (some 17) (.pointer a1_A) (yld_toArr (t := 42) (e := 5) (n := 16) (len := a1_n) (c := a1_c) (by kernel_rfl) (by kernel_rfl) (by rw [RowL.length (C := (CI .u8)) (hs.rowR 1 rfl)]; exact i0_11)) ?_
   refine wpG.takeK [4, 5, 7] 4 (some 18) (.agg (enc .u8 (arrL 16 a1)).toArray) (by kernel_rfl) (by kernel_rfl) (yld_w0 hp1 hs (fun k hk hn => hn hk) fun hr => yld_loadArr (e := 42) (n := 16) (by decide) hr i0_11 (by kernel_rfl) (by kernel_rfl) (by kernel_rfl)) ?_
   refine wpG.many [1, 6] (by kernel_rfl) (by decide) (forall_cons ?_ (forall_cons ?_ forall_nil))
   ·have hsB13 := hs
    refine (op_inline (d := (some 15)) (f := 47) (args := #[.slice a0_A a0_n a0_c]) (by kernel_rfl) (fun _ => by kernel_rfl) fun R12 kI12 => ?_)
    refine calls_m Try.func47 rfl fun Q12 qq12 qn12 => ?_
    refine wp_conv (a' := ⟨#[.slice a0_A a0_n a0_c, undef, undef, undef, undef, undef, undef, undef, undef, undef, undef, undef, undef, undef, undef, undef, undef, undef, undef, undef, undef, undef, undef, undef, undef, undef, undef, undef, undef, undef, undef, undef, undef, undef, undef, undef, undef, undef, undef, undef, undef, undef, undef, undef, undef, undef, undef, undef, undef, undef, undef, undef, undef, undef, undef, undef, undef, undef, undef, undef, undef, undef, undef, undef, undef, undef, undef, undef, undef, undef, undef, undef, undef, undef, undef, undef, undef, undef, undef, undef, undef, undef, undef, undef, undef, undef, undef, undef, undef, undef, undef, undef, undef, undef, undef, undef, undef, undef, undef, undef, undef, undef, undef, undef, undef, undef, undef, undef, undef, undef, undef, undef, undef, undef, undef, undef, undef, undef, undef, undef, undef, undef], []⟩) (by kernel_rfl) ?_
    refine xseq_k fun KS14 ks14 => ?_
    refine xregS [0] fun KR15 kr15 => ?_
    refine wpS.q 0 2 (.pointer none) ?_
    refine wpS.fin rfl (kr15 _ _ (then_n (ks14 _ _ (xseq_k fun KS16 ks16 => (xregS [0, 1, 2, 3, 4] fun KR17 kr17 => ?_)))))
    obtain ⟨⟨r4_0, r4_1⟩, hg, h⟩ := of_bind h
    refine wpS.only 0 (op_callB (d := (some 14)) (by kernel_rfl) hs (fun _ => by kernel_rfl) (aes_made.ok hg _) ?_)
    intro b5 w gw hs
    refine ⟨fun _ => trivial, ?_⟩
    refine wpS.q 1 15 (.agg #[.pointer (some ⟨b5, 0, none⟩), .slice none 0 0]) ?_
    refine wpS.only 2 (op_box (t := 98) (v := .agg #[.pointer (some ⟨b5, 0, none⟩), .slice none 0 0]) (d := (some 16)) (by kernel_rfl) hs ([.pointer (some ⟨b5, 0, none⟩), .slice none 0 0]) (by kernel_rfl) (by kernel_rfl) ?_)
    intro b6 w gw hs
    refine ⟨fun _ => trivial, ?_⟩
    refine wpS.only 3 (op_alloc (t := 53) (d := (some 3)) (by kernel_rfl) hs ([.pointer none]) (.pointer none) (by kernel_rfl) (by kernel_rfl) (by kernel_rfl) ?_)
    intro b7 w gw hs
    refine ⟨fun _ => trivial, ?_⟩
    refine wpS.only 4 (op_store1 (t := 53) (o := 0) (v := .pointer (some ⟨b6, 0, none⟩)) (d := none) (by kernel_rfl) hs 0 rfl (by kernel_rfl) rfl (by kernel_rfl) (by simp) ?_)
    intro w kp hs
    refine ⟨fun _ => trivial, ?_⟩
    refine wpS.fin rfl (kr17 _ _ (then_n (ks16 _ _ (xseq_k fun KS18 ks18 => (xregS [0, 1, 2, 3] fun KR19 kr19 => ?_)))))
    refine wpS.q 0 17 (.slice a0_A a0_n a0_c) ?_
    refine wpS.tk 1 false (some 18) (.int .i64 (a0.length : Int)) (yld_lenL (hs.rowR 0 rfl) (fun _ => by kernel_rfl)) ?_
    refine wpS.q 2 19 (.int .i64 (iquo .i64 (a0.length : Int) 4)) ?_
    obtain ⟨x8, hx, h⟩ := of_bind h
    refine wpS.tk 3 false (some 4) (.int .i64 x8) (yld_int hx (fun _ => by kernel_rfl)) ?_
    refine wpS.fin rfl (kr19 _ _ (then_n (ks18 _ _ (xseq_k fun KS20 ks20 => (xregS [0, 1, 2, 3, 4, 5] fun KR21 kr21 => ?_)))))
    refine wpS.qs [(0, 20, .int .i64 x8), (1, 21, .int .i64 (iadd .i64 x8 7)), (2, 22, .int .i64 (imul .i64 4 (iadd .i64 x8 7)))] ?_
    obtain ⟨h0, h⟩ := of_chk h
    obtain ⟨h1, h⟩ := of_chk h
    refine wpS.only 3 (op_makeT0 (C := (CA .u8 4 (by decide))) (t := 99) (e := 101) (bytes := 4) (B := 35184372088832) (kl := .i64) (kc := .i64) (x := (imul .i64 4 (iadd .i64 x8 7))) (d := (some 23)) (by kernel_rfl) hs (by kernel_rfl) (by kernel_rfl) (by kernel_rfl) (by kernel_rfl) (by kernel_rfl) h0 h1 (by decide) (by decide) ?_)
    intro s9_A s9_n s9_c w gw hs
    refine ⟨fun _ => trivial, ?_⟩
    refine wpS.only 4 (op_alloc (t := 99) (d := (some 5)) (by kernel_rfl) hs ([.slice none 0 0]) (.slice none 0 0) (by kernel_rfl) (by kernel_rfl) (by kernel_rfl) ?_)
    intro b10 w gw hs
    refine ⟨fun _ => trivial, ?_⟩
    refine wpS.only 5 (op_store1 (t := 99) (o := 0) (v := .slice s9_A s9_n s9_c) (d := none) (by kernel_rfl) hs 0 rfl (by kernel_rfl) rfl (by kernel_rfl) (by simp) ?_)
    intro w kp hs
    refine ⟨fun _ => trivial, ?_⟩
    refine wpS.fin rfl (kr21 _ _ (then_n (ks20 _ _ (xseq_k fun KS22 ks22 => (xseq_k fun KS23 ks23 => (xregS [0, 1] fun KR24 kr24 => ?_))))))
    refine wpS.q 0 24 (.slice a0_A a0_n a0_c) ?_
    refine wpS.only 1 (op_inline (d := (some 25)) (f := 71) (args := #[.slice a0_A a0_n a0_c, .int .i64 4]) (by kernel_rfl) (fun _ => by kernel_rfl) fun R25 kI25 => ?_)
    refine calls_k Try.func71 rfl fun Q25 qq25 => ?_
    refine wp_conv (a' := ⟨#[.slice a0_A a0_n a0_c, .int .i64 4, undef, undef, undef, undef, undef, undef, undef], []⟩) (by kernel_rfl) ?_
    refine xseq_k fun KS26 ks26 => ?_
    refine xregS [0, 1, 2] fun KR27 kr27 => ?_
    refine wpS.only 0 (op_box (t := 26) (v := .slice a0_A a0_n a0_c) (d := (some 2)) (by kernel_rfl) hs ([.slice a0_A a0_n a0_c]) (by kernel_rfl) (by kernel_rfl) ?_)
    intro b11 w gw hs
    refine ⟨fun _ => trivial, ?_⟩
    refine wpS.only 1 (op_box (t := 3) (v := .int .i64 4) (d := (some 3)) (by kernel_rfl) hs ([.int .i64 4]) (by kernel_rfl) (by kernel_rfl) ?_)
    intro b12 w gw hs
    refine ⟨fun _ => trivial, ?_⟩
    refine wpS.q 2 4 (.nilFunc) ?_
    refine wpS.fin rfl (kr27 _ _ (then_n (ks26 _ _ (xseq_k fun KS28 ks28 => (xseq_k fun KS29 ks29 => (xregS [0, 1] fun KR30 kr30 => ?_))))))
    refine wpS.tk 0 true (some 5) (.int .i64 4) (yld_load1 (e := 3) (o := 0) hs 0 rfl (by kernel_rfl) (by kernel_rfl) (by rfl) .grow) ?_
    refine wpS.q 1 6 (.bool false) ?_
    refine wpS.fin rfl (kr30 _ _ (then_n (ks29 _ _ (wp_cond_f (by kernel_rfl) (xskip (then_n (ks28 _ _ (xseq_k fun KS31 ks31 => (xregS [0, 1] fun KR32 kr32 => ?_)))))))))
    refine wpS.qs [(0, 8, .func (.func 102) #[] #[.pointer (some ⟨b11, 0, none⟩), .pointer (some ⟨b12, 0, none⟩)]), (1, 4, .func (.func 102) #[] #[.pointer (some ⟨b11, 0, none⟩), .pointer (some ⟨b12, 0, none⟩)])] ?_
    refine wpS.fin rfl (kr32 _ _ (then_n (ks31 _ _ (xret ?_))))
    refine qq25 _ _ (post_ret (by kernel_rfl) (run_results [.tmp 4] [.func (.func 102) #[] #[.pointer (some ⟨b11, 0, none⟩), .pointer (some ⟨b12, 0, none⟩)]] (by kernel_rfl) (.cons (res_tmp (by kernel_rfl)) .nil)) ?_)
    refine kI25 _ _ ?_
    refine ⟨fun _ => trivial, ?_⟩
    refine wpS.fin rfl (kr24 _ _ (then_n (ks23 _ _ (xblock ?_))))
    refine wp_range (gf := 102) (lb := #[.pointer (some ⟨b11, 0, none⟩), .pointer (some ⟨b12, 0, none⟩)]) hs (by kernel_rfl) (fun _ _ => by kernel_rfl) fun l33 D33 rec33 w hok33 hs R33 kR33 => ?_
    refine calls_kn Try.func102 rfl fun Q33 qq33 qn33 => ?_
    refine wp_conv (a' := ⟨#[.func (.yield l33) #[] #[], .pointer (some ⟨b11, 0, none⟩), .pointer (some ⟨b12, 0, none⟩), undef, undef, undef, undef, undef, undef, undef, undef, undef, undef, undef, undef, undef, undef, undef, undef, undef, undef, undef, undef, undef, undef, undef, undef, undef, undef, undef, undef], []⟩) (by kernel_rfl) ?_
    refine xseq_k fun KS34 ks34 => ?_
    refine xregS [0] fun KR35 kr35 => ?_
    refine wpS.q 0 4 (.int .i64 0) ?_
    refine wpS.fin rfl (kr35 _ _ (then_n (ks34 _ _ ?_)))
    obtain ⟨y17, hy, hk0⟩ := of_bind h
    refine wp_exq (N := fun a w => ∃ (y17_A : Option Addr) (y17_n : Nat) (y17_c : Nat), St w0 [] [.obj l33 (.loop (rec33 .ready none)), .obj D33 (.deferred (some [])), .blk b12 ([.int .i64 4]) 3, .blk b11 ([.slice a0_A a0_n a0_c]) 26, .blk b10 ([.slice y17_A y17_n y17_c]) 99, .ownL (CA .u8 4 (by decide)) y17_A y17_n y17_c y17 101, .blk b7 ([.pointer (some ⟨b6, 0, none⟩)]) 53, .blk b6 ([.pointer (some ⟨b5, 0, none⟩), .slice none 0 0]) 98, .blk b5 (([] : List Value) ++ enc .u8 r4_0 ++ enc .u8 r4_1 ++ ([] : List Value)) 48] [.rowL (CI .u8) a0_A a0_n a0_c a0, .rowL (CI .u8) a1_A a1_n a1_c a1] w ∧ ∃ g37 : Nat → Value, a = ⟨#[.func (.yield l33) #[] #[], .pointer (some ⟨b11, 0, none⟩), .pointer (some ⟨b12, 0, none⟩), undef, (g37 4), (g37 5), (g37 6), (g37 7), (g37 8), (g37 9), (g37 10), (g37 11), (g37 12), (g37 13), (g37 14), (g37 15), (g37 16), (g37 17), (g37 18), (g37 19), (g37 20), (g37 21), (g37 22), (g37 23), (g37 24), (g37 25), (g37 26), (g37 27), (g37 28), (g37 29), (g37 30)], []⟩) (fun N0 nn0 => ?_) ?_
    ·clear hk0
     refine xblock ?_
     refine wp_loop_k (fun n a w => ∃ z13 z15, ∃ (z15_A : Option Addr) (z15_n : Nat) (z15_c : Nat), aes_Block.l0 K n a0 z13 z15 = some y17 ∧ St w0 [] [.obj l33 (.loop (rec33 .ready none)), .obj D33 (.deferred (some [])), .blk b12 ([.int .i64 4]) 3, .blk b11 ([.slice a0_A a0_n a0_c]) 26, .blk b10 ([.slice z15_A z15_n z15_c]) 99, .ownL (CA .u8 4 (by decide)) z15_A z15_n z15_c z15 101, .blk b7 ([.pointer (some ⟨b6, 0, none⟩)]) 53, .blk b6 ([.pointer (some ⟨b5, 0, none⟩), .slice none 0 0]) 98, .blk b5 (([] : List Value) ++ enc .u8 r4_0 ++ enc .u8 r4_1 ++ ([] : List Value)) 48] [.rowL (CI .u8) a0_A a0_n a0_c a0, .rowL (CI .u8) a1_A a1_n a1_c a1] w ∧ ∃ g36 : Nat → Value, a = ⟨#[.func (.yield l33) #[] #[], .pointer (some ⟨b11, 0, none⟩), .pointer (some ⟨b12, 0, none⟩), undef, .int .i64 z13, (g36 5), (g36 6), (g36 7), (g36 8), (g36 9), (g36 10), (g36 11), (g36 12), (g36 13), (g36 14), (g36 15), (g36 16), (g36 17), (g36 18), (g36 19), (g36 20), (g36 21), (g36 22), (g36 23), (g36 24), (g36 25), (g36 26), (g36 27), (g36 28), (g36 29), (g36 30)], []⟩) K ⟨0, ([] : List (Arr 4)), s9_A, s9_n, s9_c, hy, hs.conv rfl, exg (by kernel_rfl)⟩ ?_
     clear hs h hy
     rintro n a w ⟨z13, z15, z15_A, z15_n, z15_c, h, hs, g36, rfl⟩ KL0 kl0
     cases n with
     | zero => exact nomatch (show none = some _ from h)
     | succ n =>
      refine xseq_k fun KS38 ks38 => ?_
      refine xseq_k fun KS39 ks39 => ?_
      refine xregS [0, 1, 2, 3] fun KR40 kr40 => ?_
      refine wpS.q 0 6 (.int .i64 z13) ?_
      refine wpS.tk 1 true (some 7) (.slice a0_A a0_n a0_c) (yld_load1 (e := 26) (o := 0) hs 3 rfl (by kernel_rfl) (by kernel_rfl) (by rfl) .grow) ?_
      refine wpS.tk 2 false (some 8) (.int .i64 (a0.length : Int)) (yld_lenL (hs.rowR 0 rfl) (fun _ => by kernel_rfl)) ?_
      rcases of_if h with ⟨hc, h⟩ | ⟨hc, h⟩
      ·refine wpS.tk 3 false (some 9) (.bool true) (yld_b (dt hc) (fun _ => by kernel_rfl)) ?_
       refine wpS.fin rfl (kr40 _ _ (then_n (ks39 _ _ (wp_cond_t (by kernel_rfl) (xskip (then_n (ks38 _ _ (xseq_k fun KS41 ks41 => (xblock (xseq_k fun KS42 ks42 => ?_))))))))))
       refine wp_regG [] (fun k => True) 7 (by kernel_rfl) (by kernel_rfl) (by kernel_rfl) fun KR43 kr43 => ?_
       have hs := hs.drawn1
       refine wpG.tD 0 true (some 13) (.int .i64 4) (yld_load1 (e := 3) (o := 0) hs 2 rfl (by kernel_rfl) (by kernel_rfl) (by rfl) .grow) ?_
       refine wpG.tD 1 true (some 14) (.slice a0_A a0_n a0_c) (yld_load1 (e := 26) (o := 0) hs 3 rfl (by kernel_rfl) (by kernel_rfl) (by rfl) .grow) ?_
       refine wpG.q 2 15 (.int .i64 z13) ?_
       obtain ⟨h0, h⟩ := of_chk h
       obtain ⟨h1, h⟩ := of_chk h
       obtain ⟨h2, h⟩ := of_chk h
       obtain ⟨s18_A, hA⟩ : ∃ A, A = if a0_c = (z13 : Int).toNat then a0_A else adr a0_A ((z13 : Int).toNat * Cod.size (CI .u8)) := ⟨_, rfl⟩
       obtain ⟨s18_n, hn⟩ : ∃ n, n = ((a0.length : Int) : Int).toNat - (z13 : Int).toNat := ⟨_, rfl⟩
       obtain ⟨s18_c, hc⟩ : ∃ c, c = a0_c - (z13 : Int).toNat := ⟨_, rfl⟩
       refine wpG.tD 3 false (some 16) (.slice s18_A s18_n s18_c) (yld_sub (C := (CI .u8)) (t := 26) (e := 5) (low := some (.int .i64 z13)) (high := none) (lo := z13) (hi := (a0.length : Int)) (hs.rowR 0 rfl) (by kernel_rfl) (by kernel_rfl) (by kernel_rfl) (.inr ⟨_, rfl⟩) (.inl ⟨rfl, rfl⟩) h0 h1 h2 hA hn hc) ?_
       have hs := hs.addSub (C := (CI .u8)) 0 rfl h0 h1 h2 hA hn hc
       refine wpG.tD 4 false (some 17) (.int .i64 ((subL a0 z13 (a0.length : Int)).length : Int)) (yld_lenL (hs.rowR 0 rfl) (fun _ => by kernel_rfl)) ?_
       refine wpG.q 5 18 (.int .i64 (imin 4 ((subL a0 z13 (a0.length : Int)).length : Int))) ?_
       obtain ⟨x19, hx, h⟩ := of_bind h
       refine wpG.tD 6 false (some 5) (.int .i64 x19) (yld_int hx (fun _ => by kernel_rfl)) ?_
       refine wpG.fin (by kernel_rfl) rfl (kr43 _ _ ?_)
       refine then_n (ks42 _ _ (xseq_k fun KS44 ks44 => (xregS [0, 1, 2, 3, 4, 5, 6, 7, 8, 9, 10, 11] fun KR45 kr45 => ?_)))
       refine wpS.q 0 19 (.func (.yield l33) #[] #[]) ?_
       refine wpS.tk 1 true (some 20) (.slice a0_A a0_n a0_c) (yld_load1 (e := 26) (o := 0) hs 3 rfl (by kernel_rfl) (by kernel_rfl) (by rfl) .grow) ?_
       refine wpS.qs [(2, 21, .int .i64 z13), (3, 22, .int .i64 z13), (4, 23, .int .i64 x19), (5, 24, .int .i64 (iadd .i64 z13 x19)), (6, 25, .int .i64 z13), (7, 26, .int .i64 x19), (8, 27, .int .i64 (iadd .i64 z13 x19))] ?_
       obtain ⟨h0, h⟩ := of_chk h
       obtain ⟨h1, h⟩ := of_chk h
       obtain ⟨h2, h⟩ := of_chk h
       obtain ⟨h3, h⟩ := of_chk h
       obtain ⟨s20_A, hA⟩ : ∃ A, A = if ((iadd .i64 z13 x19) : Int).toNat = (z13 : Int).toNat then a0_A else adr a0_A ((z13 : Int).toNat * Cod.size (CI .u8)) := ⟨_, rfl⟩
       obtain ⟨s20_n, hn⟩ : ∃ n, n = ((iadd .i64 z13 x19) : Int).toNat - (z13 : Int).toNat := ⟨_, rfl⟩
       obtain ⟨s20_c, hc⟩ : ∃ c, c = ((iadd .i64 z13 x19) : Int).toNat - (z13 : Int).toNat := ⟨_, rfl⟩
       refine wpS.tk 9 false (some 28) (.slice s20_A s20_n s20_c) (yld_sub3 (mx := (iadd .i64 z13 x19)) (k := .i64) (C := (CI .u8)) (t := 26) (e := 5) (low := some (.int .i64 z13)) (high := some (.int .i64 (iadd .i64 z13 x19))) (lo := z13) (hi := (iadd .i64 z13 x19)) (hs.rowR 1 rfl) (by kernel_rfl) (by kernel_rfl) (by kernel_rfl) (.inr ⟨_, rfl⟩) ⟨_, rfl⟩ h0 h1 h2 h3 hA hn hc) ?_
       have hs := hs.addSub3 (C := (CI .u8)) 1 rfl h0 h1 h2 h3 hA hn hc
       refine wpS.onlyR 10 (op_yield (d := (some 29)) (by kernel_rfl) hs 0 rfl hok33 #[.slice s20_A s20_n s20_c] (by kernel_rfl) rfl (tm := #[.slice a0_A a0_n a0_c, undef, .pointer none, .pointer (some ⟨b7, 0, none⟩), .int .i64 x8, .pointer (some ⟨b10, 0, none⟩), undef, undef, undef, undef, undef, undef, undef, undef, .pointer (some ⟨b5, 0, none⟩), .agg #[.pointer (some ⟨b5, 0, none⟩), .slice none 0 0], .pointer (some ⟨b6, 0, none⟩), .slice a0_A a0_n a0_c, .int .i64 (a0.length : Int), .int .i64 (iquo .i64 (a0.length : Int) 4), .int .i64 x8, .int .i64 (iadd .i64 x8 7), .int .i64 (imul .i64 4 (iadd .i64 x8 7)), .slice s9_A s9_n s9_c, .slice a0_A a0_n a0_c, .func (.func 102) #[] #[.pointer (some ⟨b11, 0, none⟩), .pointer (some ⟨b12, 0, none⟩)], .slice s20_A s20_n s20_c, undef, undef, undef, undef, undef, undef, undef, undef, undef, undef, undef, undef, undef, undef, undef, undef, undef, undef, undef, undef, undef, undef, undef, undef, undef, undef, undef, undef, undef, undef, undef, undef, undef, undef, undef, undef, undef, undef, undef, undef, undef, undef, undef, undef, undef, undef, undef, undef, undef, undef, undef, undef, undef, undef, undef, undef, undef, undef, undef, undef, undef, undef, undef, undef, undef, undef, undef, undef, undef, undef, undef, undef, undef, undef, undef, undef, undef, undef, undef, undef, undef, undef, undef, undef, undef, undef, undef, undef, undef, undef, undef, undef, undef, undef, undef]) (by kernel_rfl) (by kernel_rfl) fun K46 k46 => ?_)
       refine xregS [0] fun KR47 kr47 => ?_
       refine wpS.q 0 6 (.slice s20_A s20_n s20_c) ?_
       refine wpS.fin rfl (kr47 _ _ (then_n (k46 _ _ 0 _ _ hs rfl fun w Qr46 hs qr46 => ?_)))
       dsimp only [List.set] at hs
       refine xblock ?_
       refine wp_regG [5, 6] (fun k => True) 7 (by kernel_rfl) (by kernel_rfl) (by kernel_rfl) fun KR48 kr48 => ?_
       have hs := hs.drawn1
       refine wpG.tD 0 true (some 27) (.slice z15_A z15_n z15_c) (yld_load1 (e := 99) (o := 0) hs 4 rfl (by kernel_rfl) (by kernel_rfl) (by rfl) .grow) ?_
       refine wpG.q 1 28 (.slice s20_A s20_n s20_c) ?_
       obtain ⟨i0_49, h⟩ := of_chk h
       refine wpG.tD 2 false (some 29) (.pointer s20_A) (yld_toArr (t := 101) (e := 5) (n := 4) (len := s20_n) (c := s20_c) (by kernel_rfl) (by kernel_rfl) (by rw [RowL.length (C := (CI .u8)) (hs.rowR 0 rfl)]; exact i0_49)) ?_
       refine wpG.take [3, 4, 5, 6] 3 true (some 30) (.agg (enc .u8 (arrL 4 (subL a0 z13 (iadd .i64 z13 x19)))).toArray) (by kernel_rfl) (by kernel_rfl) (yld_loadArr (e := 101) (n := 4) (by decide) (hs.rowR 0 rfl) i0_49 (by kernel_rfl) (by kernel_rfl) (by kernel_rfl)) ?_
       refine wpG.only 4 (by kernel_rfl) (op_litL (C := (CA .u8 4 (by decide))) (t := 99) (e := 101) (len := 1) (parts := #[(0, .agg (enc .u8 (arrL 4 (subL a0 z13 (iadd .i64 z13 x19)))).toArray)]) (l := [(arrL 4 (subL a0 z13 (iadd .i64 z13 x19)))]) (d := (some 31)) (by kernel_rfl) hs (by kernel_rfl) rfl (by kernel_rfl) (by kernel_rfl) (z := .agg (enc .u8 (zeroA 4)).toArray) (by kernel_rfl) rfl (by decide) (by decide) ?_)
       intro s21_A s21_n s21_c w gw hs
       refine ⟨.of gw, ?_⟩
       obtain ⟨h0, h⟩ := of_chk h
       refine wpG.only 5 (by kernel_rfl) (op_appendT (C := (CA .u8 4 (by decide))) (t := 99) (ty := 99) (e := 101) (bytes := 4) (B := 35184372088832) (d := (some 32)) (by kernel_rfl) hs 6 rfl (hs.rowL 0 rfl) (by kernel_rfl) (by kernel_rfl) (by kernel_rfl) (by kernel_rfl) (by kernel_rfl) h0 (by decide) (by decide) ?_)
       intro s22_A s22_n s22_c w hs
       refine ⟨⟨fun hf => absurd hf (by decide), .all _ _⟩, ?_⟩
       refine wpG.only 6 (by kernel_rfl) (op_store1 (t := 99) (o := 0) (v := .slice s22_A s22_n s22_c) (d := none) (by kernel_rfl) hs 5 rfl (by kernel_rfl) rfl (by kernel_rfl) (by simp) ?_)
       intro w kp hs
       refine ⟨⟨fun hf => absurd hf (by decide), .all _ _⟩, ?_⟩
       refine wpG.fin (by kernel_rfl) rfl (kr48 _ _ ?_)
       refine inBlock_n ?_
       refine round_n qr46 hs 1 rfl fun w hs => ?_
       dsimp only [List.set] at hs
       refine ⟨fun _ => trivial, ?_⟩
       refine wpS.q 11 30 (.bool false) ?_
       refine wpS.fin rfl (kr45 _ _ (then_n (ks44 _ _ (wp_cond_f (by kernel_rfl) (xskip (inBlock_n (then_n (ks41 _ _ (xregS [0, 1, 2, 3] fun KR50 kr50 => ?_)))))))))
       refine wpS.q 0 10 (.int .i64 z13) ?_
       refine wpS.tk 1 true (some 11) (.int .i64 4) (yld_load1 (e := 3) (o := 0) hs 3 rfl (by kernel_rfl) (by kernel_rfl) (by rfl) .grow) ?_
       refine wpS.q 2 12 (.int .i64 (iadd .i64 z13 4)) ?_
       obtain ⟨x23, hx, h⟩ := of_bind h
       refine wpS.tk 3 false (some 4) (.int .i64 x23) (yld_int hx (fun _ => by kernel_rfl)) ?_
       refine wpS.fin rfl (kr50 _ _ ?_)
       exact then_n (kl0 _ _ ⟨n, Nat.lt_succ_self n, x23, (z15 ++ ([(arrL 4 (subL a0 z13 (iadd .i64 z13 x19)))] : List (Arr 4))), s22_A, s22_n, s22_c, h, ((hs.drop (.cons _ (.cons_cons _ (.cons_cons _ (.cons_cons _ (.cons_cons _ (.cons_cons _ (.cons_cons _ (.cons_cons _ (.cons_cons _ (.cons_cons _ .slnil))))))))))).pickR (pick_cons 2 rfl (pick_cons 3 rfl pick_nil))), exg (by kernel_rfl)⟩)
      refine wpS.tk 3 false (some 9) (.bool false) (yld_b (df hc) (fun _ => by kernel_rfl)) ?_
      refine wpS.fin rfl (kr40 _ _ (then_n (ks39 _ _ (wp_cond_f (by kernel_rfl) (xexit (then_x (then_x (inBlock_hit ?_))))))))
      have q0 := of_some h
      subst q0
      exact exq_n (nn0 _ _ ⟨z15_A, z15_n, z15_c, (hs.conv rfl), exg (by kernel_rfl)⟩)
    clear hs h hy
    rintro a w ⟨y17_A, y17_n, y17_c, hs, g37, rfl⟩
    have h := hk0
    refine qn33 _ _ (post_nrm (by kernel_rfl) (run_results [] [] (by kernel_rfl) .nil) ?_)
    refine range_n (a1 := ⟨#[.slice a0_A a0_n a0_c, undef, .pointer none, .pointer (some ⟨b7, 0, none⟩), .int .i64 x8, .pointer (some ⟨b10, 0, none⟩), undef, undef, undef, undef, undef, undef, undef, undef, .pointer (some ⟨b5, 0, none⟩), .agg #[.pointer (some ⟨b5, 0, none⟩), .slice none 0 0], .pointer (some ⟨b6, 0, none⟩), .slice a0_A a0_n a0_c, .int .i64 (a0.length : Int), .int .i64 (iquo .i64 (a0.length : Int) 4), .int .i64 x8, .int .i64 (iadd .i64 x8 7), .int .i64 (imul .i64 4 (iadd .i64 x8 7)), .slice s9_A s9_n s9_c, .slice a0_A a0_n a0_c, .func (.func 102) #[] #[.pointer (some ⟨b11, 0, none⟩), .pointer (some ⟨b12, 0, none⟩)], undef, undef, undef, undef, undef, undef, undef, undef, undef, undef, undef, undef, undef, undef, undef, undef, undef, undef, undef, undef, undef, undef, undef, undef, undef, undef, undef, undef, undef, undef, undef, undef, undef, undef, undef, undef, undef, undef, undef, undef, undef, undef, undef, undef, undef, undef, undef, undef, undef, undef, undef, undef, undef, undef, undef, undef, undef, undef, undef, undef, undef, undef, undef, undef, undef, undef, undef, undef, undef, undef, undef, undef, undef, undef, undef, undef, undef, undef, undef, undef, undef, undef, undef, undef, undef, undef, undef, undef, undef, undef, undef, undef, undef, undef, undef, undef], [lmark D33]⟩) kR33 (by kernel_rfl) hs 0 rfl fun w hs => ?_
    dsimp only [List.set] at hs
    refine inBlock_n (then_n (ks22 _ _ (xseq_k fun KS51 ks51 => (xseq_k fun KS52 ks52 => (xregS [0, 1, 2] fun KR53 kr53 => ?_)))))
    refine wpS.qs [(0, 33, .int .i64 x8), (1, 7, .int .i64 x8), (2, 8, .int .u8 1)] ?_
    refine wpS.fin rfl (kr53 _ _ (then_n (ks52 _ _ ?_)))
    obtain ⟨y29, hy, hk1⟩ := of_bind h
    refine wp_exq (N := fun a w => ∃ (y29_A : Option Addr) (y29_n : Nat) (y29_c : Nat), St w0 [] [.obj l33 (.loop (rec33 .exhausted none)), .obj D33 (.deferred (some [])), .blk b12 ([.int .i64 4]) 3, .blk b11 ([.slice a0_A a0_n a0_c]) 26, .blk b10 ([.slice y29_A y29_n y29_c]) 99, .ownL (CA .u8 4 (by decide)) y29_A y29_n y29_c y29 101, .blk b7 ([.pointer (some ⟨b6, 0, none⟩)]) 53, .blk b6 ([.pointer (some ⟨b5, 0, none⟩), .slice none 0 0]) 98, .blk b5 (([] : List Value) ++ enc .u8 r4_0 ++ enc .u8 r4_1 ++ ([] : List Value)) 48] [.rowL (CI .u8) a0_A a0_n a0_c a0, .rowL (CI .u8) a1_A a1_n a1_c a1] w ∧ ∃ g55 : Nat → Value, a = ⟨#[.slice a0_A a0_n a0_c, undef, .pointer none, .pointer (some ⟨b7, 0, none⟩), .int .i64 x8, .pointer (some ⟨b10, 0, none⟩), undef, (g55 7), (g55 8), (g55 9), undef, undef, undef, undef, .pointer (some ⟨b5, 0, none⟩), .agg #[.pointer (some ⟨b5, 0, none⟩), .slice none 0 0], .pointer (some ⟨b6, 0, none⟩), .slice a0_A a0_n a0_c, .int .i64 (a0.length : Int), .int .i64 (iquo .i64 (a0.length : Int) 4), .int .i64 x8, .int .i64 (iadd .i64 x8 7), .int .i64 (imul .i64 4 (iadd .i64 x8 7)), .slice s9_A s9_n s9_c, .slice a0_A a0_n a0_c, .func (.func 102) #[] #[.pointer (some ⟨b11, 0, none⟩), .pointer (some ⟨b12, 0, none⟩)], undef, undef, undef, undef, undef, undef, undef, .int .i64 x8, (g55 34), (g55 35), (g55 36), (g55 37), (g55 38), (g55 39), (g55 40), (g55 41), (g55 42), (g55 43), (g55 44), (g55 45), (g55 46), (g55 47), (g55 48), (g55 49), (g55 50), (g55 51), (g55 52), (g55 53), (g55 54), (g55 55), (g55 56), (g55 57), (g55 58), (g55 59), (g55 60), (g55 61), (g55 62), (g55 63), (g55 64), (g55 65), (g55 66), (g55 67), (g55 68), (g55 69), (g55 70), (g55 71), (g55 72), (g55 73), (g55 74), (g55 75), (g55 76), (g55 77), (g55 78), (g55 79), (g55 80), (g55 81), (g55 82), (g55 83), (g55 84), (g55 85), (g55 86), (g55 87), (g55 88), (g55 89), (g55 90), (g55 91), (g55 92), (g55 93), (g55 94), undef, undef, undef, undef, undef, undef, undef, undef, undef, undef, undef, undef, undef, undef, undef, undef, undef, undef, undef, undef, undef, undef, undef, undef, undef, undef, undef], [lmark D33]⟩) (fun N1 nn1 => ?_) ?_
    ·clear hk1
     refine xblock ?_
     refine wp_loop_k (fun n a w => ∃ z24 z25 z27, ∃ (z27_A : Option Addr) (z27_n : Nat) (z27_c : Nat), aes_Block.l1 K n r4_0 r4_1 x8 z24 z25 z27 = some y29 ∧ St w0 [] [.obj l33 (.loop (rec33 .exhausted none)), .obj D33 (.deferred (some [])), .blk b12 ([.int .i64 4]) 3, .blk b11 ([.slice a0_A a0_n a0_c]) 26, .blk b10 ([.slice z27_A z27_n z27_c]) 99, .ownL (CA .u8 4 (by decide)) z27_A z27_n z27_c z27 101, .blk b7 ([.pointer (some ⟨b6, 0, none⟩)]) 53, .blk b6 ([.pointer (some ⟨b5, 0, none⟩), .slice none 0 0]) 98, .blk b5 (([] : List Value) ++ enc .u8 r4_0 ++ enc .u8 r4_1 ++ ([] : List Value)) 48] [.rowL (CI .u8) a0_A a0_n a0_c a0, .rowL (CI .u8) a1_A a1_n a1_c a1] w ∧ ∃ g54 : Nat → Value, a = ⟨#[.slice a0_A a0_n a0_c, undef, .pointer none, .pointer (some ⟨b7, 0, none⟩), .int .i64 x8, .pointer (some ⟨b10, 0, none⟩), undef, .int .i64 z24, .int .u8 z25, (g54 9), undef, undef, undef, undef, .pointer (some ⟨b5, 0, none⟩), .agg #[.pointer (some ⟨b5, 0, none⟩), .slice none 0 0], .pointer (some ⟨b6, 0, none⟩), .slice a0_A a0_n a0_c, .int .i64 (a0.length : Int), .int .i64 (iquo .i64 (a0.length : Int) 4), .int .i64 x8, .int .i64 (iadd .i64 x8 7), .int .i64 (imul .i64 4 (iadd .i64 x8 7)), .slice s9_A s9_n s9_c, .slice a0_A a0_n a0_c, .func (.func 102) #[] #[.pointer (some ⟨b11, 0, none⟩), .pointer (some ⟨b12, 0, none⟩)], undef, undef, undef, undef, undef, undef, undef, .int .i64 x8, (g54 34), (g54 35), (g54 36), (g54 37), (g54 38), (g54 39), (g54 40), (g54 41), (g54 42), (g54 43), (g54 44), (g54 45), (g54 46), (g54 47), (g54 48), (g54 49), (g54 50), (g54 51), (g54 52), (g54 53), (g54 54), (g54 55), (g54 56), (g54 57), (g54 58), (g54 59), (g54 60), (g54 61), (g54 62), (g54 63), (g54 64), (g54 65), (g54 66), (g54 67), (g54 68), (g54 69), (g54 70), (g54 71), (g54 72), (g54 73), (g54 74), (g54 75), (g54 76), (g54 77), (g54 78), (g54 79), (g54 80), (g54 81), (g54 82), (g54 83), (g54 84), (g54 85), (g54 86), (g54 87), (g54 88), (g54 89), (g54 90), (g54 91), (g54 92), (g54 93), (g54 94), undef, undef, undef, undef, undef, undef, undef, undef, undef, undef, undef, undef, undef, undef, undef, undef, undef, undef, undef, undef, undef, undef, undef, undef, undef, undef, undef], [lmark D33]⟩) K ⟨x8, 1, y17, y17_A, y17_n, y17_c, hy, hs.conv rfl, exg (by kernel_rfl)⟩ ?_
     clear hs h hy
     rintro n a w ⟨z24, z25, z27, z27_A, z27_n, z27_c, h, hs, g54, rfl⟩ KL1 kl1
     cases n with
     | zero => exact nomatch (show none = some _ from h)
     | succ n =>
      refine xseq_k fun KS56 ks56 => ?_
      refine xseq_k fun KS57 ks57 => ?_
      refine xregS [0, 1, 2, 3, 4] fun KR58 kr58 => ?_
      refine wpS.qs [(0, 34, .int .i64 z24), (1, 35, .int .i64 x8), (2, 36, .int .i64 (iadd .i64 x8 7)), (3, 37, .int .i64 (imul .i64 4 (iadd .i64 x8 7)))] ?_
      rcases of_if h with ⟨hc, h⟩ | ⟨hc, h⟩
      ·refine wpS.tk 4 false (some 38) (.bool true) (yld_b (dt hc) (fun _ => by kernel_rfl)) ?_
       refine wpS.fin rfl (kr58 _ _ (then_n (ks57 _ _ (wp_cond_t (by kernel_rfl) (xskip (then_n (ks56 _ _ (xseq_k fun KS59 ks59 => (xblock (xseq_k fun KS60 ks60 => (xregS [0, 1, 2, 3, 4, 5, 6] fun KR61 kr61 => ?_)))))))))))
       refine wpS.tk 0 true (some 41) (.slice z27_A z27_n z27_c) (yld_load1 (e := 99) (o := 0) hs 4 rfl (by kernel_rfl) (by kernel_rfl) (by rfl) .grow) ?_
       refine wpS.qs [(1, 42, .int .i64 z24), (2, 43, .int .i64 (isub .i64 z24 1))] ?_
       obtain ⟨x30, hx, h⟩ := of_bind h
       have hx := of_some hx
       subst hx
       obtain ⟨h0, h⟩ := of_chk h
       obtain ⟨h1, h⟩ := of_chk h
       have i0_62 := h0
       have i1_62 := h1
       refine wpS.tk 3 false (some 44) (.pointer (adr z27_A (((isub .i64 z24 1) : Int).toNat * Cod.size (CA .u8 4 (by decide))))) (yld_idxL (C := (CA .u8 4 (by decide))) (t := 99) (e := 101) (k := .i64) (x := (isub .i64 z24 1)) (hs.rowL 5 rfl) (by kernel_rfl) (by kernel_rfl) (by kernel_rfl) h0 h1) ?_
       refine wpS.tk 4 true (some 45) (.agg (enc .u8 (rdL (CA .u8 4 (by decide)) z27 (isub .i64 z24 1))).toArray) (yld_loadLA (C := (CA .u8 4 (by decide))) (e := 101) (x := (isub .i64 z24 1)) (hs.rowL 5 rfl) (by kernel_rfl) rfl (by kernel_rfl) (by kernel_rfl) i0_62 i1_62) ?_
       refine wpS.only 5 (op_alloc (t := 101) (d := (some 9)) (by kernel_rfl) hs (enc .u8 (zeroA 4)) (.agg (enc .u8 (zeroA 4)).toArray) (by kernel_rfl) (by kernel_rfl) (by kernel_rfl) ?_)
       intro b31 w gw hs
       refine ⟨fun _ => trivial, ?_⟩
       refine wpS.only 6 (op_storeW (t := 101) (v := .agg (enc .u8 (rdL (CA .u8 4 (by decide)) z27 (isub .i64 z24 1))).toArray) (d := none) (by kernel_rfl) hs 0 rfl (vs := enc .u8 (rdL (CA .u8 4 (by decide)) z27 (isub .i64 z24 1))) (n := 4) (by kernel_rfl) (by kernel_rfl) (by kernel_rfl) (by simp [enc_len]) (by simp [enc_len]) (by intro u hu; exact enc_one _ _ u hu) ?_)
       intro w kp hs
       refine ⟨fun _ => trivial, ?_⟩
       refine wpS.fin rfl (kr61 _ _ (then_n (ks60 _ _ ?_)))
       obtain ⟨⟨y32, y33⟩, hj, h⟩ := of_bind h
       refine xseq_k fun KS64 ks64 => wp_join (N := fun a w => St w0 [] [.blk b31 (enc .u8 y33) 101, .obj l33 (.loop (rec33 .exhausted none)), .obj D33 (.deferred (some [])), .blk b12 ([.int .i64 4]) 3, .blk b11 ([.slice a0_A a0_n a0_c]) 26, .blk b10 ([.slice z27_A z27_n z27_c]) 99, .ownL (CA .u8 4 (by decide)) z27_A z27_n z27_c z27 101, .blk b7 ([.pointer (some ⟨b6, 0, none⟩)]) 53, .blk b6 ([.pointer (some ⟨b5, 0, none⟩), .slice none 0 0]) 98, .blk b5 (([] : List Value) ++ enc .u8 r4_0 ++ enc .u8 r4_1 ++ ([] : List Value)) 48] [.rowL (CI .u8) a0_A a0_n a0_c a0, .rowL (CI .u8) a1_A a1_n a1_c a1] w ∧ ∃ g63 : Nat → Value, a = ⟨#[.slice a0_A a0_n a0_c, undef, .pointer none, .pointer (some ⟨b7, 0, none⟩), .int .i64 x8, .pointer (some ⟨b10, 0, none⟩), undef, .int .i64 z24, .int .u8 y32, .pointer (some ⟨b31, 0, none⟩), undef, undef, undef, undef, .pointer (some ⟨b5, 0, none⟩), .agg #[.pointer (some ⟨b5, 0, none⟩), .slice none 0 0], .pointer (some ⟨b6, 0, none⟩), .slice a0_A a0_n a0_c, .int .i64 (a0.length : Int), .int .i64 (iquo .i64 (a0.length : Int) 4), .int .i64 x8, .int .i64 (iadd .i64 x8 7), .int .i64 (imul .i64 4 (iadd .i64 x8 7)), .slice s9_A s9_n s9_c, .slice a0_A a0_n a0_c, .func (.func 102) #[] #[.pointer (some ⟨b11, 0, none⟩), .pointer (some ⟨b12, 0, none⟩)], undef, undef, undef, undef, undef, undef, undef, .int .i64 x8, .int .i64 z24, .int .i64 x8, .int .i64 (iadd .i64 x8 7), .int .i64 (imul .i64 4 (iadd .i64 x8 7)), .bool true, (g54 39), (g54 40), .slice z27_A z27_n z27_c, .int .i64 z24, .int .i64 (isub .i64 z24 1), .pointer (adr z27_A (((isub .i64 z24 1) : Int).toNat * Cod.size (CA .u8 4 (by decide)))), .agg (enc .u8 (rdL (CA .u8 4 (by decide)) z27 (isub .i64 z24 1))).toArray, (g63 46), (g63 47), (g63 48), (g63 49), (g63 50), (g63 51), (g63 52), (g63 53), (g63 54), (g63 55), (g63 56), (g63 57), (g63 58), (g63 59), (g63 60), (g63 61), (g63 62), (g63 63), (g63 64), (g63 65), (g63 66), (g63 67), (g63 68), (g63 69), (g63 70), (g63 71), (g63 72), (g63 73), (g63 74), (g63 75), (g63 76), (g63 77), (g63 78), (g63 79), (g63 80), (g63 81), (g63 82), (g63 83), (g54 84), (g54 85), (g54 86), (g54 87), (g54 88), (g54 89), (g54 90), (g54 91), (g54 92), (g54 93), (g54 94), undef, undef, undef, undef, undef, undef, undef, undef, undef, undef, undef, undef, undef, undef, undef, undef, undef, undef, undef, undef, undef, undef, undef, undef, undef, undef, undef], [lmark D33]⟩) (fun N nj => ?_) ?_
       ·clear h
        have h := hj
        refine xblock (xseq_k fun KS65 ks65 => (xregS [0, 1, 2, 3, 4] fun KR66 kr66 => ?_))
        refine wpS.qs [(0, 47, .int .i64 z24), (1, 48, .int .i64 x8)] ?_
        obtain ⟨h0, h⟩ := of_chk h
        refine wpS.tk 2 false (some 49) (.int .i64 (irem .i64 z24 x8)) (yld_rem (t := 3) (by kernel_rfl) h0) ?_
        rcases of_if h with ⟨hc, h⟩ | ⟨hc, h⟩
        ·refine wpS.tk 3 false (some 50) (.bool true) (yld_b (et hc) (fun _ => by kernel_rfl)) ?_
         refine wpS.q 4 46 (.bool true) ?_
         refine wpS.fin rfl (kr66 _ _ (then_n (ks65 _ _ (wp_cond_t (by kernel_rfl) (xseq_k fun KS67 ks67 => ?_)))))
         refine wp_regG [13, 17] (fun k => True) 18 (by kernel_rfl) (by kernel_rfl) (by kernel_rfl) fun KR68 kr68 => ?_
         have hs := hs.drawn1
         refine wpG.take [0, 1, 2, 3, 13, 16, 17] 0 true (some 51) (.pointer (some ⟨b6, 0, none⟩)) (by kernel_rfl) (by kernel_rfl) (yld_load1 (e := 53) (o := 0) hs 7 rfl (by kernel_rfl) (by kernel_rfl) (by rfl) .grow) ?_
         refine wpG.q 1 52 (.pointer (some ⟨b6, 0, none⟩)) ?_
         refine wpG.q 2 53 (.pointer (some ⟨b6, 0, none⟩)) ?_
         refine wpG.tD 3 true (some 54) (.pointer (some ⟨b5, 0, none⟩)) (yld_load1 (e := 49) (o := 0) hs 8 rfl (by kernel_rfl) (by kernel_rfl) (by rfl) .grow) ?_
         refine wpG.tD 4 false (some 55) (.pointer (some ⟨b31, 0 + (1 : Int).toNat * 1, none⟩)) (yld_idx (t := 101) (e := 5) (n := 4) (sz := 1) (k := .i64) (x := 1) (by kernel_rfl) (by kernel_rfl) (by kernel_rfl) (by decide) (by decide)) ?_
         refine wpG.take [5, 12, 13, 16, 17] 5 true (some 56) (.int .u8 (rd (rdL (CA .u8 4 (by decide)) z27 (isub .i64 z24 1)) 1)) (by kernel_rfl) (by kernel_rfl) (yld_loadA (e := 5) (x := 1) hs 0 rfl (by kernel_rfl) (by kernel_rfl) (by decide) (by decide) .grow) ?_
         refine wpG.tD 6 false (some 57) (.pointer (some ⟨b31, 0 + (2 : Int).toNat * 1, none⟩)) (yld_idx (t := 101) (e := 5) (n := 4) (sz := 1) (k := .i64) (x := 2) (by kernel_rfl) (by kernel_rfl) (by kernel_rfl) (by decide) (by decide)) ?_
         refine wpG.take [7, 12, 13, 16, 17] 7 true (some 58) (.int .u8 (rd (rdL (CA .u8 4 (by decide)) z27 (isub .i64 z24 1)) 2)) (by kernel_rfl) (by kernel_rfl) (yld_loadA (e := 5) (x := 2) hs 0 rfl (by kernel_rfl) (by kernel_rfl) (by decide) (by decide) .grow) ?_
         refine wpG.tD 8 false (some 59) (.pointer (some ⟨b31, 0 + (3 : Int).toNat * 1, none⟩)) (yld_idx (t := 101) (e := 5) (n := 4) (sz := 1) (k := .i64) (x := 3) (by kernel_rfl) (by kernel_rfl) (by kernel_rfl) (by decide) (by decide)) ?_
         refine wpG.take [9, 12, 13, 16, 17] 9 true (some 60) (.int .u8 (rd (rdL (CA .u8 4 (by decide)) z27 (isub .i64 z24 1)) 3)) (by kernel_rfl) (by kernel_rfl) (yld_loadA (e := 5) (x := 3) hs 0 rfl (by kernel_rfl) (by kernel_rfl) (by decide) (by decide) .grow) ?_
         refine wpG.tD 10 false (some 61) (.pointer (some ⟨b31, 0 + (0 : Int).toNat * 1, none⟩)) (yld_idx (t := 101) (e := 5) (n := 4) (sz := 1) (k := .i64) (x := 0) (by kernel_rfl) (by kernel_rfl) (by kernel_rfl) (by decide) (by decide)) ?_
         refine wpG.take [11, 12, 13, 16, 17] 11 true (some 62) (.int .u8 (rd (rdL (CA .u8 4 (by decide)) z27 (isub .i64 z24 1)) 0)) (by kernel_rfl) (by kernel_rfl) (yld_loadA (e := 5) (x := 0) hs 0 rfl (by kernel_rfl) (by kernel_rfl) (by decide) (by decide) .grow) ?_
         refine wpG.q 12 63 (.agg (enc .u8 (wr (wr (wr (wr (zeroA 4) 0 (rd (rdL (CA .u8 4 (by decide)) z27 (isub .i64 z24 1)) 1)) 1 (rd (rdL (CA .u8 4 (by decide)) z27 (isub .i64 z24 1)) 2)) 2 (rd (rdL (CA .u8 4 (by decide)) z27 (isub .i64 z24 1)) 3)) 3 (rd (rdL (CA .u8 4 (by decide)) z27 (isub .i64 z24 1)) 0))).toArray) ?_
         refine wpG.q 14 65 (.int .u8 z25) ?_
         refine wpG.q 15 66 (.agg (enc .u8 (wr (zeroA 4) 0 z25)).toArray) ?_
         obtain ⟨r34, hg, h⟩ := of_bind h
         refine wpG.only 13 (by kernel_rfl) (op_callX (d := (some 64)) (by kernel_rfl) hs 9 rfl (fun _ => by kernel_rfl) (aes_tables_boxed.ok hg _ (hs.blkAt 9 rfl)) ?_)
         intro w kp hs
         have hs := hs.conv (L' := [.blk b31 (enc .u8 (rdL (CA .u8 4 (by decide)) z27 (isub .i64 z24 1))) 101, .obj l33 (.loop (rec33 .exhausted none)), .obj D33 (.deferred (some [])), .blk b12 ([.int .i64 4]) 3, .blk b11 ([.slice a0_A a0_n a0_c]) 26, .blk b10 ([.slice z27_A z27_n z27_c]) 99, .ownL (CA .u8 4 (by decide)) z27_A z27_n z27_c z27 101, .blk b7 ([.pointer (some ⟨b6, 0, none⟩)]) 53, .blk b6 ([.pointer (some ⟨b5, 0, none⟩), .slice none 0 0]) 98, .blk b5 (([] : List Value) ++ enc .u8 r4_0 ++ enc .u8 r4_1 ++ ([] : List Value)) 48]) rfl
         refine ⟨⟨fun hf => absurd hf (by decide), .all _ _⟩, ?_⟩
         obtain ⟨r35, hg, h⟩ := of_bind h
         refine wpG.only 16 (by kernel_rfl) (op_call (d := (some 67)) (by kernel_rfl) hs (fun _ => by kernel_rfl) (aes_word_xor.ok hg _) ?_)
         intro w gw hs
         refine ⟨.of gw, ?_⟩
         refine wpG.only 17 (by kernel_rfl) (op_storeW (t := 101) (v := .agg (enc .u8 r35).toArray) (d := none) (by kernel_rfl) hs 0 rfl (vs := enc .u8 r35) (n := 4) (by kernel_rfl) (by kernel_rfl) (by kernel_rfl) (by simp [enc_len]) (by simp [enc_len]) (by intro u hu; exact enc_one _ _ u hu) ?_)
         intro w kp hs
         refine ⟨⟨fun hf => absurd hf (by decide), .all _ _⟩, ?_⟩
         refine wpG.fin (by kernel_rfl) rfl (kr68 _ _ ?_)
         refine then_n (ks67 _ _ (xregS [0, 1, 2] fun KR73 kr73 => ?_))
         refine wpS.q 0 68 (.int .u8 z25) ?_
         obtain ⟨r36, hg, h⟩ := of_bind h
         refine wpS.only 1 (op_call (d := (some 69)) (by kernel_rfl) hs (fun _ => by kernel_rfl) (aes_Mul.ok hg _) ?_)
         intro w gw hs
         refine ⟨fun _ => trivial, ?_⟩
         refine wpS.q 2 8 (.int .u8 r36) ?_
         refine wpS.fin rfl (kr73 _ _ (inBlock_n ?_))
         obtain ⟨q0, qr0⟩ := Prod.mk.inj (of_some h)
         have q1 := qr0
         subst q0
         subst q1
         exact nj _ _ ⟨(hs.conv rfl), exg (by kernel_rfl)⟩
        refine wpS.tk 3 false (some 50) (.bool false) (yld_b (ef hc) (fun _ => by kernel_rfl)) ?_
        refine wpS.q 4 46 (.bool false) ?_
        refine wpS.fin rfl (kr66 _ _ (then_n (ks65 _ _ (wp_cond_f (by kernel_rfl) (xseq_k fun KS74 ks74 => (xregS [0, 1, 2, 3, 4, 5, 6, 7] fun KR75 kr75 => ?_))))))
        refine wpS.q 0 71 (.int .i64 x8) ?_
        rcases of_if h with ⟨hc, h⟩ | ⟨hc, h⟩
        ·refine wpS.tk 1 false (some 72) (.bool true) (yld_b (et hc) (fun _ => by kernel_rfl)) ?_
         refine wpS.qs [(2, 73, .bool true), (3, 74, .int .i64 z24), (4, 75, .int .i64 (irem .i64 z24 8))] ?_
         rcases of_if h with ⟨hc, h⟩ | ⟨hc, h⟩
         ·refine wpS.tk 5 false (some 76) (.bool true) (yld_b (et hc) (fun _ => by kernel_rfl)) ?_
          refine wpS.qs [(6, 77, .bool true), (7, 70, .bool true)] ?_
          refine wpS.fin rfl (kr75 _ _ (then_n (ks74 _ _ (wp_cond_t (by kernel_rfl) ?_))))
          refine wp_regG [5, 6] (fun k => True) 7 (by kernel_rfl) (by kernel_rfl) (by kernel_rfl) fun KR76 kr76 => ?_
          have hs := hs.drawn1
          refine wpG.take [0, 1, 2, 3, 5, 6] 0 true (some 78) (.pointer (some ⟨b6, 0, none⟩)) (by kernel_rfl) (by kernel_rfl) (yld_load1 (e := 53) (o := 0) hs 7 rfl (by kernel_rfl) (by kernel_rfl) (by rfl) .grow) ?_
          refine wpG.q 1 79 (.pointer (some ⟨b6, 0, none⟩)) ?_
          refine wpG.q 2 80 (.pointer (some ⟨b6, 0, none⟩)) ?_
          refine wpG.tD 3 true (some 81) (.pointer (some ⟨b5, 0, none⟩)) (yld_load1 (e := 49) (o := 0) hs 8 rfl (by kernel_rfl) (by kernel_rfl) (by rfl) .grow) ?_
          refine wpG.tD 4 true (some 82) (.agg (enc .u8 (rdL (CA .u8 4 (by decide)) z27 (isub .i64 z24 1))).toArray) (yld_loadW (e := 101) (n := 4) hs 0 rfl (by kernel_rfl) (by kernel_rfl) (by kernel_rfl) (by exact enc_len _ _) .grow) ?_
          obtain ⟨r37, hg, h⟩ := of_bind h
          refine wpG.only 5 (by kernel_rfl) (op_callX (d := (some 83)) (by kernel_rfl) hs 9 rfl (fun _ => by kernel_rfl) (aes_tables_boxed.ok hg _ (hs.blkAt 9 rfl)) ?_)
          intro w kp hs
          have hs := hs.conv (L' := [.blk b31 (enc .u8 (rdL (CA .u8 4 (by decide)) z27 (isub .i64 z24 1))) 101, .obj l33 (.loop (rec33 .exhausted none)), .obj D33 (.deferred (some [])), .blk b12 ([.int .i64 4]) 3, .blk b11 ([.slice a0_A a0_n a0_c]) 26, .blk b10 ([.slice z27_A z27_n z27_c]) 99, .ownL (CA .u8 4 (by decide)) z27_A z27_n z27_c z27 101, .blk b7 ([.pointer (some ⟨b6, 0, none⟩)]) 53, .blk b6 ([.pointer (some ⟨b5, 0, none⟩), .slice none 0 0]) 98, .blk b5 (([] : List Value) ++ enc .u8 r4_0 ++ enc .u8 r4_1 ++ ([] : List Value)) 48]) rfl
          refine ⟨⟨fun hf => absurd hf (by decide), .all _ _⟩, ?_⟩
          refine wpG.only 6 (by kernel_rfl) (op_storeW (t := 101) (v := .agg (enc .u8 r37).toArray) (d := none) (by kernel_rfl) hs 0 rfl (vs := enc .u8 r37) (n := 4) (by kernel_rfl) (by kernel_rfl) (by kernel_rfl) (by simp [enc_len]) (by simp [enc_len]) (by intro u hu; exact enc_one _ _ u hu) ?_)
          intro w kp hs
          refine ⟨⟨fun hf => absurd hf (by decide), .all _ _⟩, ?_⟩
          refine wpG.fin (by kernel_rfl) rfl (kr76 _ _ ?_)
          refine inBlock_n ?_
          obtain ⟨q0, qr0⟩ := Prod.mk.inj (of_some h)
          have q1 := qr0
          subst q0
          subst q1
          exact nj _ _ ⟨(hs.conv rfl), exg (by kernel_rfl)⟩
         refine wpS.tk 5 false (some 76) (.bool false) (yld_b (ef hc) (fun _ => by kernel_rfl)) ?_
         refine wpS.qs [(6, 77, .bool false), (7, 70, .bool false)] ?_
         refine wpS.fin rfl (kr75 _ _ (then_n (ks74 _ _ (wp_cond_f (by kernel_rfl) (xskip (inBlock_n ?_))))))
         obtain ⟨q0, qr0⟩ := Prod.mk.inj (of_some h)
         have q1 := qr0
         subst q0
         subst q1
         exact nj _ _ ⟨(hs.conv rfl), exg (by kernel_rfl)⟩
        refine wpS.tk 1 false (some 72) (.bool false) (yld_b (ef hc) (fun _ => by kernel_rfl)) ?_
        refine wpS.qs [(2, 73, .bool false), (3, 74, undef), (4, 75, undef), (5, 76, undef), (6, 77, .bool false), (7, 70, .bool false)] ?_
        refine wpS.fin rfl (kr75 _ _ (then_n (ks74 _ _ (wp_cond_f (by kernel_rfl) (xskip (inBlock_n ?_))))))
        obtain ⟨q0, qr0⟩ := Prod.mk.inj (of_some h)
        have q1 := qr0
        subst q0
        subst q1
        exact nj _ _ ⟨(hs.conv rfl), exg (by kernel_rfl)⟩
       clear hj hs
       rintro a w ⟨hs, g63, rfl⟩
       refine then_n (ks64 _ _ ?_)
       refine wp_regG [10, 11] (fun k => True) 12 (by kernel_rfl) (by kernel_rfl) (by kernel_rfl) fun KR77 kr77 => ?_
       have hs := hs.drawn1
       refine wpG.tD 0 true (some 84) (.slice z27_A z27_n z27_c) (yld_load1 (e := 99) (o := 0) hs 5 rfl (by kernel_rfl) (by kernel_rfl) (by rfl) .grow) ?_
       refine wpG.take [1, 5, 6, 8, 9, 10, 11] 1 true (some 85) (.slice z27_A z27_n z27_c) (by kernel_rfl) (by kernel_rfl) (yld_load1 (e := 99) (o := 0) hs 5 rfl (by kernel_rfl) (by kernel_rfl) (by rfl) .grow) ?_
       refine wpG.q 2 86 (.int .i64 z24) ?_
       refine wpG.q 3 87 (.int .i64 x8) ?_
       refine wpG.q 4 88 (.int .i64 (isub .i64 z24 x8)) ?_
       obtain ⟨x38, hx, h⟩ := of_bind h
       have hx := of_some hx
       subst hx
       obtain ⟨h0, h⟩ := of_chk h
       obtain ⟨h1, h⟩ := of_chk h
       have i0_78 := h0
       have i1_78 := h1
       refine wpG.tD 5 false (some 89) (.pointer (adr z27_A (((isub .i64 z24 x8) : Int).toNat * Cod.size (CA .u8 4 (by decide))))) (yld_idxL (C := (CA .u8 4 (by decide))) (t := 99) (e := 101) (k := .i64) (x := (isub .i64 z24 x8)) (hs.rowL 6 rfl) (by kernel_rfl) (by kernel_rfl) (by kernel_rfl) h0 h1) ?_
       refine wpG.take [6, 8, 9, 10, 11] 6 true (some 90) (.agg (enc .u8 (rdL (CA .u8 4 (by decide)) z27 (isub .i64 z24 x8))).toArray) (by kernel_rfl) (by kernel_rfl) (yld_loadLA (C := (CA .u8 4 (by decide))) (e := 101) (x := (isub .i64 z24 x8)) (hs.rowL 6 rfl) (by kernel_rfl) rfl (by kernel_rfl) (by kernel_rfl) i0_78 i1_78) ?_
       refine wpG.take [7, 8, 9, 10, 11] 7 true (some 91) (.agg (enc .u8 y33).toArray) (by kernel_rfl) (by kernel_rfl) (yld_loadW (e := 101) (n := 4) hs 0 rfl (by kernel_rfl) (by kernel_rfl) (by kernel_rfl) (by exact enc_len _ _) .grow) ?_
       obtain ⟨r39, hg, h⟩ := of_bind h
       refine wpG.only 8 (by kernel_rfl) (op_call (d := (some 92)) (by kernel_rfl) hs (fun _ => by kernel_rfl) (aes_word_xor.ok hg _) ?_)
       intro w gw hs
       refine ⟨.of gw, ?_⟩
       refine wpG.only 9 (by kernel_rfl) (op_litL (C := (CA .u8 4 (by decide))) (t := 99) (e := 101) (len := 1) (parts := #[(0, .agg (enc .u8 r39).toArray)]) (l := [r39]) (d := (some 93)) (by kernel_rfl) hs (by kernel_rfl) rfl (by kernel_rfl) (by kernel_rfl) (z := .agg (enc .u8 (zeroA 4)).toArray) (by kernel_rfl) rfl (by decide) (by decide) ?_)
       intro s40_A s40_n s40_c w gw hs
       refine ⟨.of gw, ?_⟩
       obtain ⟨h0, h⟩ := of_chk h
       refine wpG.only 10 (by kernel_rfl) (op_appendT (C := (CA .u8 4 (by decide))) (t := 99) (ty := 99) (e := 101) (bytes := 4) (B := 35184372088832) (d := (some 94)) (by kernel_rfl) hs 7 rfl (hs.rowL 0 rfl) (by kernel_rfl) (by kernel_rfl) (by kernel_rfl) (by kernel_rfl) (by kernel_rfl) h0 (by decide) (by decide) ?_)
       intro s41_A s41_n s41_c w hs
       refine ⟨⟨fun hf => absurd hf (by decide), .all _ _⟩, ?_⟩
       refine wpG.only 11 (by kernel_rfl) (op_store1 (t := 99) (o := 0) (v := .slice s41_A s41_n s41_c) (d := none) (by kernel_rfl) hs 6 rfl (by kernel_rfl) rfl (by kernel_rfl) (by simp) ?_)
       intro w kp hs
       refine ⟨⟨fun hf => absurd hf (by decide), .all _ _⟩, ?_⟩
       refine wpG.fin (by kernel_rfl) rfl (kr77 _ _ ?_)
       refine inBlock_n (then_n (ks59 _ _ (xregS [0, 1, 2] fun KR79 kr79 => ?_)))
       refine wpS.qs [(0, 39, .int .i64 z24), (1, 40, .int .i64 (iadd .i64 z24 1))] ?_
       obtain ⟨x42, hx, h⟩ := of_bind h
       refine wpS.tk 2 false (some 7) (.int .i64 x42) (yld_int hx (fun _ => by kernel_rfl)) ?_
       refine wpS.fin rfl (kr79 _ _ ?_)
       exact then_n (kl1 _ _ ⟨n, Nat.lt_succ_self n, x42, y32, (z27 ++ ([r39] : List (Arr 4))), s41_A, s41_n, s41_c, h, (hs.drop (.cons _ (.cons _ (.cons_cons _ (.cons_cons _ (.cons_cons _ (.cons_cons _ (.cons_cons _ (.cons_cons _ (.cons_cons _ (.cons_cons _ (.cons_cons _ .slnil)))))))))))), exg (by kernel_rfl)⟩)
      refine wpS.tk 4 false (some 38) (.bool false) (yld_b (df hc) (fun _ => by kernel_rfl)) ?_
      refine wpS.fin rfl (kr58 _ _ (then_n (ks57 _ _ (wp_cond_f (by kernel_rfl) (xexit (then_x (then_x (inBlock_hit ?_))))))))
      have q0 := of_some h
      subst q0
      exact exq_n (nn1 _ _ ⟨z27_A, z27_n, z27_c, (hs.conv rfl), exg (by kernel_rfl)⟩)
    clear hs h hy
    rintro a w ⟨y29_A, y29_n, y29_c, hs, g55, rfl⟩
    have h := hk1
    refine then_n (ks51 _ _ (xseq_k fun KS80 ks80 => (xseq_k fun KS81 ks81 => (xregS [0, 1] fun KR82 kr82 => ?_))))
    refine wpS.tk 0 true (some 95) (.slice y29_A y29_n y29_c) (yld_load1 (e := 99) (o := 0) hs 4 rfl (by kernel_rfl) (by kernel_rfl) (by rfl) .grow) ?_
    refine wpS.only 1 (op_inline (d := (some 96)) (f := 85) (args := #[.slice y29_A y29_n y29_c, .int .i64 4]) (by kernel_rfl) (fun _ => by kernel_rfl) fun R83 kI83 => ?_)
    refine calls_k Try.func85 rfl fun Q83 qq83 => ?_
    refine wp_conv (a' := ⟨#[.slice y29_A y29_n y29_c, .int .i64 4, undef, undef, undef, undef, undef, undef, undef], []⟩) (by kernel_rfl) ?_
    refine xseq_k fun KS84 ks84 => ?_
    refine xregS [0, 1, 2] fun KR85 kr85 => ?_
    refine wpS.only 0 (op_box (t := 99) (v := .slice y29_A y29_n y29_c) (d := (some 2)) (by kernel_rfl) hs ([.slice y29_A y29_n y29_c]) (by kernel_rfl) (by kernel_rfl) ?_)
    intro b43 w gw hs
    refine ⟨fun _ => trivial, ?_⟩
    refine wpS.only 1 (op_box (t := 3) (v := .int .i64 4) (d := (some 3)) (by kernel_rfl) hs ([.int .i64 4]) (by kernel_rfl) (by kernel_rfl) ?_)
    intro b44 w gw hs
    refine ⟨fun _ => trivial, ?_⟩
    refine wpS.q 2 4 (.nilFunc) ?_
    refine wpS.fin rfl (kr85 _ _ (then_n (ks84 _ _ (xseq_k fun KS86 ks86 => (xseq_k fun KS87 ks87 => (xregS [0, 1] fun KR88 kr88 => ?_))))))
    refine wpS.tk 0 true (some 5) (.int .i64 4) (yld_load1 (e := 3) (o := 0) hs 0 rfl (by kernel_rfl) (by kernel_rfl) (by rfl) .grow) ?_
    refine wpS.q 1 6 (.bool false) ?_
    refine wpS.fin rfl (kr88 _ _ (then_n (ks87 _ _ (wp_cond_f (by kernel_rfl) (xskip (then_n (ks86 _ _ (xseq_k fun KS89 ks89 => (xregS [0, 1] fun KR90 kr90 => ?_)))))))))
    refine wpS.qs [(0, 8, .func (.func 108) #[] #[.pointer (some ⟨b43, 0, none⟩), .pointer (some ⟨b44, 0, none⟩)]), (1, 4, .func (.func 108) #[] #[.pointer (some ⟨b43, 0, none⟩), .pointer (some ⟨b44, 0, none⟩)])] ?_
    refine wpS.fin rfl (kr90 _ _ (then_n (ks89 _ _ (xret ?_))))
    refine qq83 _ _ (post_ret (by kernel_rfl) (run_results [.tmp 4] [.func (.func 108) #[] #[.pointer (some ⟨b43, 0, none⟩), .pointer (some ⟨b44, 0, none⟩)]] (by kernel_rfl) (.cons (res_tmp (by kernel_rfl)) .nil)) ?_)
    refine kI83 _ _ ?_
    refine ⟨fun _ => trivial, ?_⟩
    refine wpS.fin rfl (kr82 _ _ (then_n (ks81 _ _ (xblock ?_))))
    refine wp_range (gf := 108) (lb := #[.pointer (some ⟨b43, 0, none⟩), .pointer (some ⟨b44, 0, none⟩)]) hs (by kernel_rfl) (fun _ _ => by kernel_rfl) fun l91 D91 rec91 w hok91 hs R91 kR91 => ?_
    refine calls_kn Try.func108 rfl fun Q91 qq91 qn91 => ?_
    refine wp_conv (a' := ⟨#[.func (.yield l91) #[] #[], .pointer (some ⟨b43, 0, none⟩), .pointer (some ⟨b44, 0, none⟩), undef, undef, undef, undef, undef, undef, undef, undef, undef, undef, undef, undef, undef, undef, undef, undef, undef, undef, undef, undef, undef, undef, undef, undef, undef, undef, undef, undef], []⟩) (by kernel_rfl) ?_
    refine xseq_k fun KS92 ks92 => ?_
    refine xregS [0] fun KR93 kr93 => ?_
    refine wpS.q 0 4 (.int .i64 0) ?_
    refine wpS.fin rfl (kr93 _ _ (then_n (ks92 _ _ ?_)))
    have hs := hs.addNilL (CA .u8 16 (by decide)) 42
    have hs := hs.freeze 10 rfl
    obtain ⟨y48, hy, hk2⟩ := of_bind h
    refine wp_exq (N := fun a w => ∃ (y48_A : Option Addr) (y48_n : Nat) (y48_c : Nat), St w0 [] [.ownL (CA .u8 16 (by decide)) y48_A y48_n y48_c y48 42, .obj l91 (.loop (rec91 .ready none)), .obj D91 (.deferred (some [])), .blk b44 ([.int .i64 4]) 3, .blk b43 ([.slice y29_A y29_n y29_c]) 99, .obj l33 (.loop (rec33 .exhausted none)), .obj D33 (.deferred (some [])), .blk b12 ([.int .i64 4]) 3, .blk b11 ([.slice a0_A a0_n a0_c]) 26, .blk b10 ([.slice y29_A y29_n y29_c]) 99, .blk b7 ([.pointer (some ⟨b6, 0, none⟩)]) 53, .blk b6 ([.pointer (some ⟨b5, 0, none⟩), .slice y48_A y48_n y48_c]) 98, .blk b5 (([] : List Value) ++ enc .u8 r4_0 ++ enc .u8 r4_1 ++ ([] : List Value)) 48] [.rowL (CA .u8 4 (by decide)) y29_A y29_n y29_c y29, .rowL (CI .u8) a0_A a0_n a0_c a0, .rowL (CI .u8) a1_A a1_n a1_c a1] w ∧ ∃ g95 : Nat → Value, a = ⟨#[.func (.yield l91) #[] #[], .pointer (some ⟨b43, 0, none⟩), .pointer (some ⟨b44, 0, none⟩), undef, (g95 4), (g95 5), (g95 6), (g95 7), (g95 8), (g95 9), (g95 10), (g95 11), (g95 12), (g95 13), (g95 14), (g95 15), (g95 16), (g95 17), (g95 18), (g95 19), (g95 20), (g95 21), (g95 22), (g95 23), (g95 24), (g95 25), (g95 26), (g95 27), (g95 28), (g95 29), (g95 30)], []⟩) (fun N2 nn2 => ?_) ?_
    ·clear hk2
     refine xblock ?_
     refine wp_loop_k (fun n a w => ∃ z45 z46, ∃ (z46_A : Option Addr) (z46_n : Nat) (z46_c : Nat), aes_Block.l2 K n y29 z45 z46 = some y48 ∧ St w0 [] [.ownL (CA .u8 16 (by decide)) z46_A z46_n z46_c z46 42, .obj l91 (.loop (rec91 .ready none)), .obj D91 (.deferred (some [])), .blk b44 ([.int .i64 4]) 3, .blk b43 ([.slice y29_A y29_n y29_c]) 99, .obj l33 (.loop (rec33 .exhausted none)), .obj D33 (.deferred (some [])), .blk b12 ([.int .i64 4]) 3, .blk b11 ([.slice a0_A a0_n a0_c]) 26, .blk b10 ([.slice y29_A y29_n y29_c]) 99, .blk b7 ([.pointer (some ⟨b6, 0, none⟩)]) 53, .blk b6 ([.pointer (some ⟨b5, 0, none⟩), .slice z46_A z46_n z46_c]) 98, .blk b5 (([] : List Value) ++ enc .u8 r4_0 ++ enc .u8 r4_1 ++ ([] : List Value)) 48] [.rowL (CA .u8 4 (by decide)) y29_A y29_n y29_c y29, .rowL (CI .u8) a0_A a0_n a0_c a0, .rowL (CI .u8) a1_A a1_n a1_c a1] w ∧ ∃ g94 : Nat → Value, a = ⟨#[.func (.yield l91) #[] #[], .pointer (some ⟨b43, 0, none⟩), .pointer (some ⟨b44, 0, none⟩), undef, .int .i64 z45, (g94 5), (g94 6), (g94 7), (g94 8), (g94 9), (g94 10), (g94 11), (g94 12), (g94 13), (g94 14), (g94 15), (g94 16), (g94 17), (g94 18), (g94 19), (g94 20), (g94 21), (g94 22), (g94 23), (g94 24), (g94 25), (g94 26), (g94 27), (g94 28), (g94 29), (g94 30)], []⟩) K ⟨0, ([] : List (Arr 16)), none, 0, 0, hy, hs.conv rfl, exg (by kernel_rfl)⟩ ?_
     clear hs h hy
     rintro n a w ⟨z45, z46, z46_A, z46_n, z46_c, h, hs, g94, rfl⟩ KL2 kl2
     cases n with
     | zero => exact nomatch (show none = some _ from h)
     | succ n =>
      refine xseq_k fun KS96 ks96 => ?_
      refine xseq_k fun KS97 ks97 => ?_
      refine xregS [0, 1, 2, 3] fun KR98 kr98 => ?_
      refine wpS.q 0 6 (.int .i64 z45) ?_
      refine wpS.tk 1 true (some 7) (.slice y29_A y29_n y29_c) (yld_load1 (e := 99) (o := 0) hs 4 rfl (by kernel_rfl) (by kernel_rfl) (by rfl) .grow) ?_
      refine wpS.tk 2 false (some 8) (.int .i64 (y29.length : Int)) (yld_lenL (hs.rowR 0 rfl) (fun _ => by kernel_rfl)) ?_
      rcases of_if h with ⟨hc, h⟩ | ⟨hc, h⟩
      ·refine wpS.tk 3 false (some 9) (.bool true) (yld_b (dt hc) (fun _ => by kernel_rfl)) ?_
       refine wpS.fin rfl (kr98 _ _ (then_n (ks97 _ _ (wp_cond_t (by kernel_rfl) (xskip (then_n (ks96 _ _ (xseq_k fun KS99 ks99 => (xblock (xseq_k fun KS100 ks100 => ?_))))))))))
       refine wp_regG [] (fun k => True) 7 (by kernel_rfl) (by kernel_rfl) (by kernel_rfl) fun KR101 kr101 => ?_
       have hs := hs.drawn1
       refine wpG.tD 0 true (some 13) (.int .i64 4) (yld_load1 (e := 3) (o := 0) hs 3 rfl (by kernel_rfl) (by kernel_rfl) (by rfl) .grow) ?_
       refine wpG.tD 1 true (some 14) (.slice y29_A y29_n y29_c) (yld_load1 (e := 99) (o := 0) hs 4 rfl (by kernel_rfl) (by kernel_rfl) (by rfl) .grow) ?_
       refine wpG.q 2 15 (.int .i64 z45) ?_
       obtain ⟨h0, h⟩ := of_chk h
       obtain ⟨h1, h⟩ := of_chk h
       obtain ⟨h2, h⟩ := of_chk h
       obtain ⟨s50_A, hA⟩ : ∃ A, A = if y29_c = (z45 : Int).toNat then y29_A else adr y29_A ((z45 : Int).toNat * Cod.size (CA .u8 4 (by decide))) := ⟨_, rfl⟩
       obtain ⟨s50_n, hn⟩ : ∃ n, n = ((y29.length : Int) : Int).toNat - (z45 : Int).toNat := ⟨_, rfl⟩
       obtain ⟨s50_c, hc⟩ : ∃ c, c = y29_c - (z45 : Int).toNat := ⟨_, rfl⟩
       refine wpG.tD 3 false (some 16) (.slice s50_A s50_n s50_c) (yld_sub (C := (CA .u8 4 (by decide))) (t := 99) (e := 101) (low := some (.int .i64 z45)) (high := none) (lo := z45) (hi := (y29.length : Int)) (hs.rowR 0 rfl) (by kernel_rfl) (by kernel_rfl) (by kernel_rfl) (.inr ⟨_, rfl⟩) (.inl ⟨rfl, rfl⟩) h0 h1 h2 hA hn hc) ?_
       have hs := hs.addSub (C := (CA .u8 4 (by decide))) 0 rfl h0 h1 h2 hA hn hc
       refine wpG.tD 4 false (some 17) (.int .i64 ((subL y29 z45 (y29.length : Int)).length : Int)) (yld_lenL (hs.rowR 0 rfl) (fun _ => by kernel_rfl)) ?_
       refine wpG.q 5 18 (.int .i64 (imin 4 ((subL y29 z45 (y29.length : Int)).length : Int))) ?_
       obtain ⟨x51, hx, h⟩ := of_bind h
       refine wpG.tD 6 false (some 5) (.int .i64 x51) (yld_int hx (fun _ => by kernel_rfl)) ?_
       refine wpG.fin (by kernel_rfl) rfl (kr101 _ _ ?_)
       refine then_n (ks100 _ _ (xseq_k fun KS102 ks102 => (xregS [0, 1, 2, 3, 4, 5, 6, 7, 8, 9, 10, 11] fun KR103 kr103 => ?_)))
       refine wpS.q 0 19 (.func (.yield l91) #[] #[]) ?_
       refine wpS.tk 1 true (some 20) (.slice y29_A y29_n y29_c) (yld_load1 (e := 99) (o := 0) hs 4 rfl (by kernel_rfl) (by kernel_rfl) (by rfl) .grow) ?_
       refine wpS.qs [(2, 21, .int .i64 z45), (3, 22, .int .i64 z45), (4, 23, .int .i64 x51), (5, 24, .int .i64 (iadd .i64 z45 x51)), (6, 25, .int .i64 z45), (7, 26, .int .i64 x51), (8, 27, .int .i64 (iadd .i64 z45 x51))] ?_
       obtain ⟨h0, h⟩ := of_chk h
       obtain ⟨h1, h⟩ := of_chk h
       obtain ⟨h2, h⟩ := of_chk h
       obtain ⟨h3, h⟩ := of_chk h
       obtain ⟨s52_A, hA⟩ : ∃ A, A = if ((iadd .i64 z45 x51) : Int).toNat = (z45 : Int).toNat then y29_A else adr y29_A ((z45 : Int).toNat * Cod.size (CA .u8 4 (by decide))) := ⟨_, rfl⟩
       obtain ⟨s52_n, hn⟩ : ∃ n, n = ((iadd .i64 z45 x51) : Int).toNat - (z45 : Int).toNat := ⟨_, rfl⟩
       obtain ⟨s52_c, hc⟩ : ∃ c, c = ((iadd .i64 z45 x51) : Int).toNat - (z45 : Int).toNat := ⟨_, rfl⟩
       refine wpS.tk 9 false (some 28) (.slice s52_A s52_n s52_c) (yld_sub3 (mx := (iadd .i64 z45 x51)) (k := .i64) (C := (CA .u8 4 (by decide))) (t := 99) (e := 101) (low := some (.int .i64 z45)) (high := some (.int .i64 (iadd .i64 z45 x51))) (lo := z45) (hi := (iadd .i64 z45 x51)) (hs.rowR 1 rfl) (by kernel_rfl) (by kernel_rfl) (by kernel_rfl) (.inr ⟨_, rfl⟩) ⟨_, rfl⟩ h0 h1 h2 h3 hA hn hc) ?_
       have hs := hs.addSub3 (C := (CA .u8 4 (by decide))) 1 rfl h0 h1 h2 h3 hA hn hc
       refine wpS.onlyR 10 (op_yield (d := (some 29)) (by kernel_rfl) hs 1 rfl hok91 #[.slice s52_A s52_n s52_c] (by kernel_rfl) rfl (tm := #[.slice a0_A a0_n a0_c, undef, .pointer none, .pointer (some ⟨b7, 0, none⟩), .int .i64 x8, .pointer (some ⟨b10, 0, none⟩), undef, (g55 7), (g55 8), (g55 9), undef, undef, undef, undef, .pointer (some ⟨b5, 0, none⟩), .agg #[.pointer (some ⟨b5, 0, none⟩), .slice none 0 0], .pointer (some ⟨b6, 0, none⟩), .slice a0_A a0_n a0_c, .int .i64 (a0.length : Int), .int .i64 (iquo .i64 (a0.length : Int) 4), .int .i64 x8, .int .i64 (iadd .i64 x8 7), .int .i64 (imul .i64 4 (iadd .i64 x8 7)), .slice s9_A s9_n s9_c, .slice a0_A a0_n a0_c, .func (.func 102) #[] #[.pointer (some ⟨b11, 0, none⟩), .pointer (some ⟨b12, 0, none⟩)], undef, undef, undef, undef, undef, undef, undef, .int .i64 x8, (g55 34), (g55 35), (g55 36), (g55 37), (g55 38), (g55 39), (g55 40), (g55 41), (g55 42), (g55 43), (g55 44), (g55 45), (g55 46), (g55 47), (g55 48), (g55 49), (g55 50), (g55 51), (g55 52), (g55 53), (g55 54), (g55 55), (g55 56), (g55 57), (g55 58), (g55 59), (g55 60), (g55 61), (g55 62), (g55 63), (g55 64), (g55 65), (g55 66), (g55 67), (g55 68), (g55 69), (g55 70), (g55 71), (g55 72), (g55 73), (g55 74), (g55 75), (g55 76), (g55 77), (g55 78), (g55 79), (g55 80), (g55 81), (g55 82), (g55 83), (g55 84), (g55 85), (g55 86), (g55 87), (g55 88), (g55 89), (g55 90), (g55 91), (g55 92), (g55 93), (g55 94), .slice y29_A y29_n y29_c, .func (.func 108) #[] #[.pointer (some ⟨b43, 0, none⟩), .pointer (some ⟨b44, 0, none⟩)], .slice s52_A s52_n s52_c, undef, undef, undef, undef, undef, undef, undef, undef, undef, undef, undef, undef, undef, undef, undef, undef, undef, undef, undef, undef, undef, undef, undef, undef]) (by kernel_rfl) (by kernel_rfl) fun K104 k104 => ?_)
       refine xregS [0] fun KR105 kr105 => ?_
       refine wpS.q 0 10 (.slice s52_A s52_n s52_c) ?_
       refine wpS.fin rfl (kr105 _ _ (then_n (k104 _ _ 1 _ _ hs rfl fun w Qr104 hs qr104 => ?_)))
       dsimp only [List.set] at hs
       refine xblock (xseq_k fun KS106 ks106 => (xregS [0] fun KR107 kr107 => ?_))
       refine wpS.only 0 (op_alloc (t := 42) (d := (some 11)) (by kernel_rfl) hs (enc .u8 (zeroA 16)) (.agg (enc .u8 (zeroA 16)).toArray) (by kernel_rfl) (by kernel_rfl) (by kernel_rfl) ?_)
       intro b53 w gw hs
       refine ⟨fun _ => trivial, ?_⟩
       refine wpS.fin rfl (kr107 _ _ (then_n (ks106 _ _ (xseq_k fun KS108 ks108 => (xseq_k fun KS109 ks109 => (xregS [0, 1, 2] fun KR110 kr110 => ?_))))))
       refine wpS.q 0 98 (.slice s52_A s52_n s52_c) ?_
       refine wpS.tk 1 false (some 99) (.int .i64 ((subL y29 z45 (iadd .i64 z45 x51)).length : Int)) (yld_lenL (hs.rowR 0 rfl) (fun _ => by kernel_rfl)) ?_
       refine wpS.q 2 100 (.int .i64 0) ?_
       refine wpS.fin rfl (kr110 _ _ (then_n (ks109 _ _ ?_)))
       obtain ⟨y56, hy, hk3⟩ := of_bind h
       refine wp_exq (N := fun a w => St w0 [] [.blk b53 (enc .u8 y56) 42, .ownL (CA .u8 16 (by decide)) z46_A z46_n z46_c z46 42, .obj l91 (.loop (rec91 .busy none)), .obj D91 (.deferred (some [])), .blk b44 ([.int .i64 4]) 3, .blk b43 ([.slice y29_A y29_n y29_c]) 99, .obj l33 (.loop (rec33 .exhausted none)), .obj D33 (.deferred (some [])), .blk b12 ([.int .i64 4]) 3, .blk b11 ([.slice a0_A a0_n a0_c]) 26, .blk b10 ([.slice y29_A y29_n y29_c]) 99, .blk b7 ([.pointer (some ⟨b6, 0, none⟩)]) 53, .blk b6 ([.pointer (some ⟨b5, 0, none⟩), .slice z46_A z46_n z46_c]) 98, .blk b5 (([] : List Value) ++ enc .u8 r4_0 ++ enc .u8 r4_1 ++ ([] : List Value)) 48] [.rowL (CA .u8 4 (by decide)) s52_A s52_n s52_c (subL y29 z45 (iadd .i64 z45 x51)), .rowL (CA .u8 4 (by decide)) s50_A s50_n s50_c (subL y29 z45 (y29.length : Int)), .rowL (CA .u8 4 (by decide)) y29_A y29_n y29_c y29, .rowL (CI .u8) a0_A a0_n a0_c a0, .rowL (CI .u8) a1_A a1_n a1_c a1] w ∧ ∃ g112 : Nat → Value, a = ⟨#[.slice a0_A a0_n a0_c, undef, .pointer none, .pointer (some ⟨b7, 0, none⟩), .int .i64 x8, .pointer (some ⟨b10, 0, none⟩), undef, (g55 7), (g55 8), (g55 9), .slice s52_A s52_n s52_c, .pointer (some ⟨b53, 0, none⟩), (g112 12), (g112 13), .pointer (some ⟨b5, 0, none⟩), .agg #[.pointer (some ⟨b5, 0, none⟩), .slice none 0 0], .pointer (some ⟨b6, 0, none⟩), .slice a0_A a0_n a0_c, .int .i64 (a0.length : Int), .int .i64 (iquo .i64 (a0.length : Int) 4), .int .i64 x8, .int .i64 (iadd .i64 x8 7), .int .i64 (imul .i64 4 (iadd .i64 x8 7)), .slice s9_A s9_n s9_c, .slice a0_A a0_n a0_c, .func (.func 102) #[] #[.pointer (some ⟨b11, 0, none⟩), .pointer (some ⟨b12, 0, none⟩)], undef, undef, undef, undef, undef, undef, undef, .int .i64 x8, (g55 34), (g55 35), (g55 36), (g55 37), (g55 38), (g55 39), (g55 40), (g55 41), (g55 42), (g55 43), (g55 44), (g55 45), (g55 46), (g55 47), (g55 48), (g55 49), (g55 50), (g55 51), (g55 52), (g55 53), (g55 54), (g55 55), (g55 56), (g55 57), (g55 58), (g55 59), (g55 60), (g55 61), (g55 62), (g55 63), (g55 64), (g55 65), (g55 66), (g55 67), (g55 68), (g55 69), (g55 70), (g55 71), (g55 72), (g55 73), (g55 74), (g55 75), (g55 76), (g55 77), (g55 78), (g55 79), (g55 80), (g55 81), (g55 82), (g55 83), (g55 84), (g55 85), (g55 86), (g55 87), (g55 88), (g55 89), (g55 90), (g55 91), (g55 92), (g55 93), (g55 94), .slice y29_A y29_n y29_c, .func (.func 108) #[] #[.pointer (some ⟨b43, 0, none⟩), .pointer (some ⟨b44, 0, none⟩)], .slice s52_A s52_n s52_c, .slice s52_A s52_n s52_c, .int .i64 ((subL y29 z45 (iadd .i64 z45 x51)).length : Int), (g112 100), (g112 101), (g112 102), (g112 103), (g112 104), (g112 105), (g112 106), (g112 107), (g112 108), (g112 109), (g112 110), undef, undef, undef, undef, undef, undef, undef, undef, undef, undef, undef], []⟩) (fun N3 nn3 => ?_) ?_
       ·clear hk3
        refine xblock ?_
        refine wp_loop_k (fun n a w => ∃ z54 z55, aes_Block.l3 K n y29 z45 x51 z54 z55 = some y56 ∧ St w0 [] [.blk b53 (enc .u8 z55) 42, .ownL (CA .u8 16 (by decide)) z46_A z46_n z46_c z46 42, .obj l91 (.loop (rec91 .busy none)), .obj D91 (.deferred (some [])), .blk b44 ([.int .i64 4]) 3, .blk b43 ([.slice y29_A y29_n y29_c]) 99, .obj l33 (.loop (rec33 .exhausted none)), .obj D33 (.deferred (some [])), .blk b12 ([.int .i64 4]) 3, .blk b11 ([.slice a0_A a0_n a0_c]) 26, .blk b10 ([.slice y29_A y29_n y29_c]) 99, .blk b7 ([.pointer (some ⟨b6, 0, none⟩)]) 53, .blk b6 ([.pointer (some ⟨b5, 0, none⟩), .slice z46_A z46_n z46_c]) 98, .blk b5 (([] : List Value) ++ enc .u8 r4_0 ++ enc .u8 r4_1 ++ ([] : List Value)) 48] [.rowL (CA .u8 4 (by decide)) s52_A s52_n s52_c (subL y29 z45 (iadd .i64 z45 x51)), .rowL (CA .u8 4 (by decide)) s50_A s50_n s50_c (subL y29 z45 (y29.length : Int)), .rowL (CA .u8 4 (by decide)) y29_A y29_n y29_c y29, .rowL (CI .u8) a0_A a0_n a0_c a0, .rowL (CI .u8) a1_A a1_n a1_c a1] w ∧ ∃ g111 : Nat → Value, a = ⟨#[.slice a0_A a0_n a0_c, undef, .pointer none, .pointer (some ⟨b7, 0, none⟩), .int .i64 x8, .pointer (some ⟨b10, 0, none⟩), undef, (g55 7), (g55 8), (g55 9), .slice s52_A s52_n s52_c, .pointer (some ⟨b53, 0, none⟩), (g111 12), (g111 13), .pointer (some ⟨b5, 0, none⟩), .agg #[.pointer (some ⟨b5, 0, none⟩), .slice none 0 0], .pointer (some ⟨b6, 0, none⟩), .slice a0_A a0_n a0_c, .int .i64 (a0.length : Int), .int .i64 (iquo .i64 (a0.length : Int) 4), .int .i64 x8, .int .i64 (iadd .i64 x8 7), .int .i64 (imul .i64 4 (iadd .i64 x8 7)), .slice s9_A s9_n s9_c, .slice a0_A a0_n a0_c, .func (.func 102) #[] #[.pointer (some ⟨b11, 0, none⟩), .pointer (some ⟨b12, 0, none⟩)], undef, undef, undef, undef, undef, undef, undef, .int .i64 x8, (g55 34), (g55 35), (g55 36), (g55 37), (g55 38), (g55 39), (g55 40), (g55 41), (g55 42), (g55 43), (g55 44), (g55 45), (g55 46), (g55 47), (g55 48), (g55 49), (g55 50), (g55 51), (g55 52), (g55 53), (g55 54), (g55 55), (g55 56), (g55 57), (g55 58), (g55 59), (g55 60), (g55 61), (g55 62), (g55 63), (g55 64), (g55 65), (g55 66), (g55 67), (g55 68), (g55 69), (g55 70), (g55 71), (g55 72), (g55 73), (g55 74), (g55 75), (g55 76), (g55 77), (g55 78), (g55 79), (g55 80), (g55 81), (g55 82), (g55 83), (g55 84), (g55 85), (g55 86), (g55 87), (g55 88), (g55 89), (g55 90), (g55 91), (g55 92), (g55 93), (g55 94), .slice y29_A y29_n y29_c, .func (.func 108) #[] #[.pointer (some ⟨b43, 0, none⟩), .pointer (some ⟨b44, 0, none⟩)], .slice s52_A s52_n s52_c, .slice s52_A s52_n s52_c, .int .i64 ((subL y29 z45 (iadd .i64 z45 x51)).length : Int), .int .i64 z54, (g111 101), (g111 102), (g111 103), (g111 104), (g111 105), (g111 106), (g111 107), (g111 108), (g111 109), (g111 110), undef, undef, undef, undef, undef, undef, undef, undef, undef, undef, undef], []⟩) K ⟨0, (zeroA 16), hy, hs.conv rfl, exg (by kernel_rfl)⟩ ?_
        clear hs h hy
        rintro n a w ⟨z54, z55, h, hs, g111, rfl⟩ KL3 kl3
        cases n with
        | zero => exact nomatch (show none = some _ from h)
        | succ n =>
         refine xseq_k fun KS113 ks113 => ?_
         refine xregS [0] fun KR114 kr114 => ?_
         rcases of_if h with ⟨hc, h⟩ | ⟨hc, h⟩
         ·refine wpS.tk 0 false (some 101) (.bool true) (yld_b (dt hc) (fun _ => by kernel_rfl)) ?_
          refine wpS.fin rfl (kr114 _ _ (then_n (ks113 _ _ (xseq_k fun KS115 ks115 => (wp_cond_t (by kernel_rfl) (xskip (then_n (ks115 _ _ (xseq_k fun KS116 ks116 => (xblock (xseq_k fun KS117 ks117 => (xregS [0, 1, 2, 3, 4, 5] fun KR118 kr118 => ?_))))))))))))
          refine wpS.q 0 102 (.int .i64 z54) ?_
          obtain ⟨h0, h⟩ := of_chk h
          obtain ⟨h1, h⟩ := of_chk h
          have i0_119 := h0
          have i1_119 := h1
          refine wpS.tk 1 false (some 103) (.pointer (adr s52_A ((z54 : Int).toNat * Cod.size (CA .u8 4 (by decide))))) (yld_idxL (C := (CA .u8 4 (by decide))) (t := 99) (e := 101) (k := .i64) (x := z54) (hs.rowR 0 rfl) (by kernel_rfl) (by kernel_rfl) (by kernel_rfl) h0 h1) ?_
          refine wpS.tk 2 true (some 104) (.agg (enc .u8 (rdL (CA .u8 4 (by decide)) (subL y29 z45 (iadd .i64 z45 x51)) z54)).toArray) (yld_loadLA (C := (CA .u8 4 (by decide))) (e := 101) (x := z54) (hs.rowR 0 rfl) (by kernel_rfl) rfl (by kernel_rfl) (by kernel_rfl) i0_119 i1_119) ?_
          refine wpS.only 3 (op_alloc (t := 101) (d := (some 13)) (by kernel_rfl) hs (enc .u8 (zeroA 4)) (.agg (enc .u8 (zeroA 4)).toArray) (by kernel_rfl) (by kernel_rfl) (by kernel_rfl) ?_)
          intro b57 w gw hs
          refine ⟨fun _ => trivial, ?_⟩
          refine wpS.q 4 12 (.int .i64 z54) ?_
          refine wpS.only 5 (op_storeW (t := 101) (v := .agg (enc .u8 (rdL (CA .u8 4 (by decide)) (subL y29 z45 (iadd .i64 z45 x51)) z54)).toArray) (d := none) (by kernel_rfl) hs 0 rfl (vs := enc .u8 (rdL (CA .u8 4 (by decide)) (subL y29 z45 (iadd .i64 z45 x51)) z54)) (n := 4) (by kernel_rfl) (by kernel_rfl) (by kernel_rfl) (by simp [enc_len]) (by simp [enc_len]) (by intro u hu; exact enc_one _ _ u hu) ?_)
          intro w kp hs
          refine ⟨fun _ => trivial, ?_⟩
          refine wpS.fin rfl (kr118 _ _ (then_n (ks117 _ _ ?_)))
          refine wp_regG [4] (fun k => True) 5 (by kernel_rfl) (by kernel_rfl) (by kernel_rfl) fun KR120 kr120 => ?_
          have hs := hs.drawn1
          refine wpG.q 0 105 (.int .i64 z54) ?_
          refine wpG.q 1 106 (.int .i64 (imul .i64 4 z54)) ?_
          obtain ⟨b0_121, h⟩ := of_chk h
          obtain ⟨b1_121, h⟩ := of_chk h
          obtain ⟨b3_121, h⟩ := of_chk h
          refine wpG.tD 2 false (some 107) (.slice (some ⟨b53, 0 + ((imul .i64 4 z54) : Int).toNat * 1, none⟩) ((16 : Int).toNat - ((imul .i64 4 z54) : Int).toNat) (16 - ((imul .i64 4 z54) : Int).toNat)) (yld_slA2 (t := 42) (e := 5) (n := 16) (low := some (.int .i64 (imul .i64 4 z54))) (high := Option.none) (lo := (imul .i64 4 z54)) (hi := 16) (by kernel_rfl) (by kernel_rfl) (by kernel_rfl) (.inr ⟨_, rfl⟩) (.inl ⟨rfl, rfl⟩) b0_121 b1_121 (by decide) b3_121) ?_
          refine wpG.tD 3 false (some 108) (.slice (some ⟨b57, 0 + (0 : Int).toNat * 1, none⟩) ((4 : Int).toNat - (0 : Int).toNat) (4 - (0 : Int).toNat)) (yld_slA2 (t := 101) (e := 5) (n := 4) (low := Option.none) (high := Option.none) (lo := 0) (hi := 4) (by kernel_rfl) (by kernel_rfl) (by kernel_rfl) (.inl ⟨rfl, rfl⟩) (.inl ⟨rfl, rfl⟩) (by decide) (by decide) (by decide) (by decide)) ?_
          refine wpG.only 4 (by kernel_rfl) (op_copyA (td := 26) (ts := 26) (ty := 3) (e := 5) (n := 16) (k := .u8) (c := z55) (lo := (imul .i64 4 z54)) (hi := 16) (d := (some 109)) (by kernel_rfl) hs 1 rfl (hs.rowB (lo := 0) (hi := 4) 0 rfl (by decide) (by decide) (by decide)) (by kernel_rfl) (by kernel_rfl) (by kernel_rfl) b0_121 b1_121 (by decide) ?_)
          intro w kp hs
          refine ⟨⟨fun hf => absurd hf (by decide), .all _ _⟩, ?_⟩
          refine wpG.fin (by kernel_rfl) rfl (kr120 _ _ ?_)
          refine inBlock_n (then_n (ks116 _ _ (xregS [0, 1] fun KR123 kr123 => ?_)))
          refine wpS.qs [(0, 110, .int .i64 (iadd .i64 z54 1)), (1, 100, .int .i64 (iadd .i64 z54 1))] ?_
          refine wpS.fin rfl (kr123 _ _ ?_)
          exact then_n (kl3 _ _ ⟨n, Nat.lt_succ_self n, (iadd .i64 z54 1), (cpA z55 (imul .i64 4 z54) ((subL (lA (rdL (CA .u8 4 (by decide)) (subL y29 z45 (iadd .i64 z45 x51)) z54)) 0 4).take ((16 : Int).toNat - ((imul .i64 4 z54) : Int).toNat))), h, (hs.drop (.cons _ (.cons_cons _ (.cons_cons _ (.cons_cons _ (.cons_cons _ (.cons_cons _ (.cons_cons _ (.cons_cons _ (.cons_cons _ (.cons_cons _ (.cons_cons _ (.cons_cons _ (.cons_cons _ (.cons_cons _ (.cons_cons _ .slnil)))))))))))))))), exg (by kernel_rfl)⟩)
         refine wpS.tk 0 false (some 101) (.bool false) (yld_b (df hc) (fun _ => by kernel_rfl)) ?_
         refine wpS.fin rfl (kr114 _ _ (then_n (ks113 _ _ (xseq_k fun KS124 ks124 => (wp_cond_f (by kernel_rfl) (xexit (then_x (then_x (inBlock_hit ?_)))))))))
         have q0 := of_some h
         subst q0
         exact exq_n (nn3 _ _ ⟨(hs.conv rfl), exg (by kernel_rfl)⟩)
       clear hs h hy
       rintro a w ⟨hs, g112, rfl⟩
       have h := hk3
       refine then_n (ks108 _ _ ?_)
       refine wp_regG [7, 10] (fun k => ¬ k = b7) 11 (by kernel_rfl) (by kernel_rfl) (by kernel_rfl) fun KR125 kr125 => ?_
       have hs := hs.drawn1
       refine wpG.takeK [0, 8, 9, 10] 0 (some 111) (.pointer (some ⟨b6, 0, none⟩)) (by kernel_rfl) (by kernel_rfl) (yld_load1 (e := 53) (o := 0) hs 11 rfl (by kernel_rfl) (by kernel_rfl) (by rfl) (.keep (fun hn => hn rfl))) ?_
       refine wpG.take [1, 2, 3, 4, 7, 8, 9, 10] 1 true (some 112) (.pointer (some ⟨b6, 0, none⟩)) (by kernel_rfl) (by kernel_rfl) (yld_load1 (e := 53) (o := 0) hs 11 rfl (by kernel_rfl) (by kernel_rfl) (by rfl) .grow) ?_
       refine wpG.q 2 113 (.pointer (some ⟨b6, 0, none⟩)) ?_
       refine wpG.q 3 114 (.pointer (some ⟨b6, 1, none⟩)) ?_
       refine wpG.tD 4 true (some 115) (.slice z46_A z46_n z46_c) (yld_load1 (e := 96) (o := 1) hs 12 rfl (by kernel_rfl) (by kernel_rfl) (by rfl) .grow) ?_
       refine wpG.take [5, 6, 7, 8, 9, 10] 5 true (some 116) (.agg (enc .u8 y56).toArray) (by kernel_rfl) (by kernel_rfl) (yld_loadW (e := 42) (n := 16) hs 0 rfl (by kernel_rfl) (by kernel_rfl) (by kernel_rfl) (by exact enc_len _ _) .grow) ?_
       refine wpG.only 6 (by kernel_rfl) (op_litL (C := (CA .u8 16 (by decide))) (t := 96) (e := 42) (len := 1) (parts := #[(0, .agg (enc .u8 y56).toArray)]) (l := [y56]) (d := (some 117)) (by kernel_rfl) hs (by kernel_rfl) rfl (by kernel_rfl) (by kernel_rfl) (z := .agg (enc .u8 (zeroA 16)).toArray) (by kernel_rfl) rfl (by decide) (by decide) ?_)
       intro s58_A s58_n s58_c w gw hs
       refine ⟨.of gw, ?_⟩
       obtain ⟨h0, h⟩ := of_chk h
       have hsB128 := hs
       refine wpG.only 7 (by kernel_rfl) (op_appendT (C := (CA .u8 16 (by decide))) (t := 96) (ty := 96) (e := 42) (bytes := 16) (B := 8796093022208) (d := (some 118)) (by kernel_rfl) hs 2 rfl (hs.rowL 0 rfl) (by kernel_rfl) (by kernel_rfl) (by kernel_rfl) (by kernel_rfl) (by kernel_rfl) h0 (by decide) (by decide) ?_)
       intro s59_A s59_n s59_c w hs
       refine ⟨⟨fun hf => absurd hf (by decide), (keepB1 (hsB128.blkAt 12 rfl) (hs.blkAt 12 rfl))⟩, ?_⟩
       refine wpG.q 8 119 (.pointer (some ⟨b6, 0, none⟩)) ?_
       refine wpG.q 9 120 (.pointer (some ⟨b6, 1, none⟩)) ?_
       have hsB127 := hs
       refine wpG.only 10 (by kernel_rfl) (op_store1 (t := 96) (o := 1) (v := .slice s59_A s59_n s59_c) (d := none) (by kernel_rfl) hs 13 rfl (by kernel_rfl) rfl (by kernel_rfl) (by simp) ?_)
       intro w kp hs
       refine ⟨⟨fun hf => absurd hf (by decide), (keepB1 (hsB127.blkAt 12 rfl) (hs.blkAt 12 rfl))⟩, ?_⟩
       refine wpG.fin (by kernel_rfl) rfl (kr125 _ _ ?_)
       refine inBlock_n ?_
       refine round_n qr104 hs 3 rfl fun w hs => ?_
       dsimp only [List.set] at hs
       refine ⟨fun _ => trivial, ?_⟩
       refine wpS.q 11 30 (.bool false) ?_
       refine wpS.fin rfl (kr103 _ _ (then_n (ks102 _ _ (wp_cond_f (by kernel_rfl) (xskip (inBlock_n (then_n (ks99 _ _ (xregS [0, 1, 2, 3] fun KR126 kr126 => ?_)))))))))
       refine wpS.q 0 10 (.int .i64 z45) ?_
       refine wpS.tk 1 true (some 11) (.int .i64 4) (yld_load1 (e := 3) (o := 0) hs 5 rfl (by kernel_rfl) (by kernel_rfl) (by rfl) .grow) ?_
       refine wpS.q 2 12 (.int .i64 (iadd .i64 z45 4)) ?_
       obtain ⟨x60, hx, h⟩ := of_bind h
       refine wpS.tk 3 false (some 4) (.int .i64 x60) (yld_int hx (fun _ => by kernel_rfl)) ?_
       refine wpS.fin rfl (kr126 _ _ ?_)
       exact then_n (kl2 _ _ ⟨n, Nat.lt_succ_self n, x60, (z46 ++ ([y56] : List (Arr 16))), s59_A, s59_n, s59_c, h, ((hs.drop (.cons _ (.cons _ (.cons_cons _ (.cons_cons _ (.cons_cons _ (.cons_cons _ (.cons_cons _ (.cons_cons _ (.cons_cons _ (.cons_cons _ (.cons_cons _ (.cons_cons _ (.cons_cons _ (.cons_cons _ (.cons_cons _ .slnil)))))))))))))))).pickR (pick_cons 2 rfl (pick_cons 3 rfl (pick_cons 4 rfl pick_nil)))), exg (by kernel_rfl)⟩)
      refine wpS.tk 3 false (some 9) (.bool false) (yld_b (df hc) (fun _ => by kernel_rfl)) ?_
      refine wpS.fin rfl (kr98 _ _ (then_n (ks97 _ _ (wp_cond_f (by kernel_rfl) (xexit (then_x (then_x (inBlock_hit ?_))))))))
      have q0 := of_some h
      subst q0
      exact exq_n (nn2 _ _ ⟨z46_A, z46_n, z46_c, (hs.conv rfl), exg (by kernel_rfl)⟩)
    clear hs h hy
    rintro a w ⟨y48_A, y48_n, y48_c, hs, g95, rfl⟩
    have h := hk2
    refine qn91 _ _ (post_nrm (by kernel_rfl) (run_results [] [] (by kernel_rfl) .nil) ?_)
    refine range_n (a1 := ⟨#[.slice a0_A a0_n a0_c, undef, .pointer none, .pointer (some ⟨b7, 0, none⟩), .int .i64 x8, .pointer (some ⟨b10, 0, none⟩), undef, (g55 7), (g55 8), (g55 9), undef, undef, undef, undef, .pointer (some ⟨b5, 0, none⟩), .agg #[.pointer (some ⟨b5, 0, none⟩), .slice none 0 0], .pointer (some ⟨b6, 0, none⟩), .slice a0_A a0_n a0_c, .int .i64 (a0.length : Int), .int .i64 (iquo .i64 (a0.length : Int) 4), .int .i64 x8, .int .i64 (iadd .i64 x8 7), .int .i64 (imul .i64 4 (iadd .i64 x8 7)), .slice s9_A s9_n s9_c, .slice a0_A a0_n a0_c, .func (.func 102) #[] #[.pointer (some ⟨b11, 0, none⟩), .pointer (some ⟨b12, 0, none⟩)], undef, undef, undef, undef, undef, undef, undef, .int .i64 x8, (g55 34), (g55 35), (g55 36), (g55 37), (g55 38), (g55 39), (g55 40), (g55 41), (g55 42), (g55 43), (g55 44), (g55 45), (g55 46), (g55 47), (g55 48), (g55 49), (g55 50), (g55 51), (g55 52), (g55 53), (g55 54), (g55 55), (g55 56), (g55 57), (g55 58), (g55 59), (g55 60), (g55 61), (g55 62), (g55 63), (g55 64), (g55 65), (g55 66), (g55 67), (g55 68), (g55 69), (g55 70), (g55 71), (g55 72), (g55 73), (g55 74), (g55 75), (g55 76), (g55 77), (g55 78), (g55 79), (g55 80), (g55 81), (g55 82), (g55 83), (g55 84), (g55 85), (g55 86), (g55 87), (g55 88), (g55 89), (g55 90), (g55 91), (g55 92), (g55 93), (g55 94), .slice y29_A y29_n y29_c, .func (.func 108) #[] #[.pointer (some ⟨b43, 0, none⟩), .pointer (some ⟨b44, 0, none⟩)], undef, undef, undef, undef, undef, undef, undef, undef, undef, undef, undef, undef, undef, undef, undef, undef, undef, undef, undef, undef, undef, undef, undef, undef, undef], [lmark D91, lmark D33]⟩) kR91 (by kernel_rfl) hs 1 rfl fun w hs => ?_
    dsimp only [List.set] at hs
    refine inBlock_n (then_n (ks80 _ _ (xseq_k fun KS129 ks129 => (xregS [0, 1] fun KR130 kr130 => ?_))))
    refine wpS.tk 0 true (some 121) (.pointer (some ⟨b6, 0, none⟩)) (yld_load1 (e := 53) (o := 0) hs 10 rfl (by kernel_rfl) (by kernel_rfl) (by rfl) .grow) ?_
    refine wpS.q 1 2 (.pointer (some ⟨b6, 0, none⟩)) ?_
    refine wpS.fin rfl (kr130 _ _ (then_n (ks129 _ _ (xret ?_))))
    refine qq12 _ _ ?_
    refine leaves_mark hs 2 rfl fun w hs => ?_
    dsimp only [List.set] at hs
    refine leaves_mark hs 6 rfl fun w hs => ?_
    dsimp only [List.set] at hs
    refine leaves_end (run_results [.tmp 2] [.pointer (some ⟨b6, 0, none⟩)] (by kernel_rfl) (.cons (res_tmp (by kernel_rfl)) .nil)) ?_
    refine kI12 _ _ ?_
    refine ⟨⟨fun hf => absurd hf (by decide), (keepW hsB13 hs)⟩, ?_⟩
    refine wpG.many [5, 6] (by kernel_rfl) (by decide) (forall_cons ?_ (forall_cons ?_ forall_nil))
    ·have hsB132 := hs
     refine (op_inline (d := (some 19)) (f := 48) (args := #[.pointer (some ⟨b6, 0, none⟩), .agg (enc .u8 (arrL 16 a1)).toArray]) (by kernel_rfl) (fun _ => by kernel_rfl) fun R131 kI131 => ?_)
     refine calls_k Try.func48 rfl fun Q131 qq131 => ?_
     refine wp_conv (a' := ⟨#[.pointer (some ⟨b6, 0, none⟩), .agg (enc .u8 (arrL 16 a1)).toArray, undef, undef, undef, undef, undef, undef, undef, undef, undef, undef, undef, undef, undef, undef, undef, undef, undef, undef, undef, undef, undef, undef, undef, undef, undef, undef, undef, undef, undef, undef, undef, undef, undef, undef, undef, undef, undef, undef, undef, undef, undef, undef, undef, undef, undef, undef, undef, undef, undef, undef, undef], []⟩) (by kernel_rfl) ?_
     refine xseq_k fun KS133 ks133 => ?_
     refine xregS [0, 1] fun KR134 kr134 => ?_
     refine wpS.only 0 (op_box (t := 42) (v := .agg (enc .u8 (arrL 16 a1)).toArray) (d := (some 3)) (by kernel_rfl) hs (enc .u8 (arrL 16 a1)) (by kernel_rfl) (by kernel_rfl) ?_)
     intro b61 w gw hs
     refine ⟨fun _ => trivial, ?_⟩
     refine wpS.only 1 (op_alloc (t := 42) (d := (some 4)) (by kernel_rfl) hs (enc .u8 (zeroA 16)) (.agg (enc .u8 (zeroA 16)).toArray) (by kernel_rfl) (by kernel_rfl) (by kernel_rfl) ?_)
     intro b62 w gw hs
     refine ⟨fun _ => trivial, ?_⟩
     refine wpS.fin rfl (kr134 _ _ (then_n (ks133 _ _ (xseq_k fun KS135 ks135 => (xregS [0, 1, 2, 3, 4, 5, 6] fun KR136 kr136 => ?_)))))
     refine wpS.qs [(0, 9, .pointer (some ⟨b6, 0, none⟩)), (1, 10, .pointer (some ⟨b6, 0, none⟩)), (2, 11, .pointer (some ⟨b6, 1, none⟩))] ?_
     refine wpS.tk 3 true (some 12) (.slice y48_A y48_n y48_c) (yld_load1 (e := 96) (o := 1) hs 13 rfl (by kernel_rfl) (by kernel_rfl) (by rfl) .grow) ?_
     refine wpS.tk 4 false (some 13) (.int .i64 (y48.length : Int)) (yld_lenL (hs.rowL 2 rfl) (fun _ => by kernel_rfl)) ?_
     refine wpS.q 5 14 (.int .i64 (isub .i64 (y48.length : Int) 1)) ?_
     obtain ⟨x63, hx, h⟩ := of_bind h
     refine wpS.tk 6 false (some 5) (.int .i64 x63) (yld_int hx (fun _ => by kernel_rfl)) ?_
     refine wpS.fin rfl (kr136 _ _ (then_n (ks135 _ _ (xseq_k fun KS137 ks137 => (xregS [0, 1] fun KR138 kr138 => ?_)))))
     refine wpS.q 0 15 (.pointer (some ⟨b6, 0, none⟩)) ?_
     refine wpS.only 1 (op_inline (d := (some 16)) (f := 86) (args := #[.pointer (some ⟨b6, 0, none⟩), .pointer (some ⟨b61, 0, none⟩), .int .i64 0]) (by kernel_rfl) (fun _ => by kernel_rfl) fun R139 kI139 => ?_)
     refine calls_kn Try.func86 rfl fun Q139 qq139 qn139 => ?_
     refine wp_conv (a' := ⟨#[.pointer (some ⟨b6, 0, none⟩), .pointer (some ⟨b61, 0, none⟩), .int .i64 0, undef, undef, undef, undef, undef, undef, undef, undef, undef, undef, undef, undef, undef, undef, undef, undef, undef, undef, undef, undef, undef, undef, undef, undef, undef, undef], []⟩) (by kernel_rfl) ?_
     refine xseq_k fun KS140 ks140 => ?_
     refine xregS [0, 1, 2, 3, 4, 5, 6, 7] fun KR141 kr141 => ?_
     refine wpS.qs [(0, 8, .pointer (some ⟨b6, 0, none⟩)), (1, 9, .pointer (some ⟨b6, 0, none⟩)), (2, 10, .pointer (some ⟨b6, 1, none⟩))] ?_
     refine wpS.tk 3 true (some 11) (.slice y48_A y48_n y48_c) (yld_load1 (e := 96) (o := 1) hs 13 rfl (by kernel_rfl) (by kernel_rfl) (by rfl) .grow) ?_
     refine wpS.q 4 12 (.int .i64 0) ?_
     obtain ⟨h0, h⟩ := of_chk h
     obtain ⟨h1, h⟩ := of_chk h
     have i0_142 := h0
     have i1_142 := h1
     refine wpS.tk 5 false (some 13) (.pointer (adr y48_A ((0 : Int).toNat * Cod.size (CA .u8 16 (by decide))))) (yld_idxL (C := (CA .u8 16 (by decide))) (t := 96) (e := 42) (k := .i64) (x := 0) (hs.rowL 2 rfl) (by kernel_rfl) (by kernel_rfl) (by kernel_rfl) h0 h1) ?_
     refine wpS.tk 6 true (some 14) (.agg (enc .u8 (rdL (CA .u8 16 (by decide)) y48 0)).toArray) (yld_loadLA (C := (CA .u8 16 (by decide))) (e := 42) (x := 0) (hs.rowL 2 rfl) (by kernel_rfl) rfl (by kernel_rfl) (by kernel_rfl) i0_142 i1_142) ?_
     refine wpS.q 7 15 (.int .i64 0) ?_
     refine wpS.fin rfl (kr141 _ _ (then_n (ks140 _ _ ?_)))
     obtain ⟨y66, hy, hk4⟩ := of_bind h
     refine wp_exq (N := fun a w => St w0 [] [.blk b62 (enc .u8 (zeroA 16)) 42, .blk b61 (enc .u8 y66) 42, .ownL (CA .u8 16 (by decide)) y48_A y48_n y48_c y48 42, .obj l91 (.loop (rec91 .exhausted none)), .obj D91 (.deferred none), .blk b44 ([.int .i64 4]) 3, .blk b43 ([.slice y29_A y29_n y29_c]) 99, .obj l33 (.loop (rec33 .exhausted none)), .obj D33 (.deferred none), .blk b12 ([.int .i64 4]) 3, .blk b11 ([.slice a0_A a0_n a0_c]) 26, .blk b10 ([.slice y29_A y29_n y29_c]) 99, .blk b7 ([.pointer (some ⟨b6, 0, none⟩)]) 53, .blk b6 ([.pointer (some ⟨b5, 0, none⟩), .slice y48_A y48_n y48_c]) 98, .blk b5 (([] : List Value) ++ enc .u8 r4_0 ++ enc .u8 r4_1 ++ ([] : List Value)) 48] [.rowL (CA .u8 4 (by decide)) y29_A y29_n y29_c y29, .rowL (CI .u8) a0_A a0_n a0_c a0, .rowL (CI .u8) a1_A a1_n a1_c a1] w ∧ ∃ g144 : Nat → Value, a = ⟨#[.pointer (some ⟨b6, 0, none⟩), .pointer (some ⟨b61, 0, none⟩), .int .i64 0, undef, undef, undef, (g144 6), (g144 7), .pointer (some ⟨b6, 0, none⟩), .pointer (some ⟨b6, 0, none⟩), .pointer (some ⟨b6, 1, none⟩), .slice y48_A y48_n y48_c, .int .i64 0, .pointer (adr y48_A ((0 : Int).toNat * Cod.size (CA .u8 16 (by decide)))), .agg (enc .u8 (rdL (CA .u8 16 (by decide)) y48 0)).toArray, (g144 15), (g144 16), (g144 17), (g144 18), (g144 19), (g144 20), (g144 21), (g144 22), (g144 23), (g144 24), (g144 25), (g144 26), (g144 27), (g144 28)], []⟩) (fun N4 nn4 => ?_) ?_
     ·clear hk4
      refine xblock ?_
      refine wp_loop_k (fun n a w => ∃ z64 z65, aes_Block.l4 K n y48 z64 z65 = some y66 ∧ St w0 [] [.blk b62 (enc .u8 (zeroA 16)) 42, .blk b61 (enc .u8 z65) 42, .ownL (CA .u8 16 (by decide)) y48_A y48_n y48_c y48 42, .obj l91 (.loop (rec91 .exhausted none)), .obj D91 (.deferred none), .blk b44 ([.int .i64 4]) 3, .blk b43 ([.slice y29_A y29_n y29_c]) 99, .obj l33 (.loop (rec33 .exhausted none)), .obj D33 (.deferred none), .blk b12 ([.int .i64 4]) 3, .blk b11 ([.slice a0_A a0_n a0_c]) 26, .blk b10 ([.slice y29_A y29_n y29_c]) 99, .blk b7 ([.pointer (some ⟨b6, 0, none⟩)]) 53, .blk b6 ([.pointer (some ⟨b5, 0, none⟩), .slice y48_A y48_n y48_c]) 98, .blk b5 (([] : List Value) ++ enc .u8 r4_0 ++ enc .u8 r4_1 ++ ([] : List Value)) 48] [.rowL (CA .u8 4 (by decide)) y29_A y29_n y29_c y29, .rowL (CI .u8) a0_A a0_n a0_c a0, .rowL (CI .u8) a1_A a1_n a1_c a1] w ∧ ∃ g143 : Nat → Value, a = ⟨#[.pointer (some ⟨b6, 0, none⟩), .pointer (some ⟨b61, 0, none⟩), .int .i64 0, undef, undef, undef, (g143 6), (g143 7), .pointer (some ⟨b6, 0, none⟩), .pointer (some ⟨b6, 0, none⟩), .pointer (some ⟨b6, 1, none⟩), .slice y48_A y48_n y48_c, .int .i64 0, .pointer (adr y48_A ((0 : Int).toNat * Cod.size (CA .u8 16 (by decide)))), .agg (enc .u8 (rdL (CA .u8 16 (by decide)) y48 0)).toArray, .int .i64 z64, (g143 16), (g143 17), (g143 18), (g143 19), (g143 20), (g143 21), (g143 22), (g143 23), (g143 24), (g143 25), (g143 26), (g143 27), (g143 28)], []⟩) K ⟨0, (arrL 16 a1), hy, hs.conv rfl, exg (by kernel_rfl)⟩ ?_
      clear hs h hy
      rintro n a w ⟨z64, z65, h, hs, g143, rfl⟩ KL4 kl4
      cases n with
      | zero => exact nomatch (show none = some _ from h)
      | succ n =>
       refine xseq_k fun KS145 ks145 => ?_
       refine xregS [0] fun KR146 kr146 => ?_
       rcases of_if h with ⟨hc, h⟩ | ⟨hc, h⟩
       ·refine wpS.tk 0 false (some 16) (.bool true) (yld_b (dt hc) (fun _ => by kernel_rfl)) ?_
        refine wpS.fin rfl (kr146 _ _ (then_n (ks145 _ _ (xseq_k fun KS147 ks147 => (wp_cond_t (by kernel_rfl) (xskip (then_n (ks147 _ _ (xseq_k fun KS148 ks148 => (xblock (xseq_k fun KS149 ks149 => (xregS [0, 1, 2, 3] fun KR150 kr150 => ?_))))))))))))
        refine wpS.q 0 17 (.int .i64 z64) ?_
        obtain ⟨h0, h⟩ := of_chk h
        obtain ⟨h1, h⟩ := of_chk h
        refine wpS.tk 1 false (some 18) (.int .u8 (rd (rdL (CA .u8 16 (by decide)) y48 0) z64)) (yld_at (t := 42) (e := 5) (k' := .i64) (by kernel_rfl) (by kernel_rfl) (by kernel_rfl) (by kernel_rfl) h0 h1) ?_
        refine wpS.q 2 6 (.int .i64 z64) ?_
        obtain ⟨x67, hx, h⟩ := of_bind h
        refine wpS.tk 3 false (some 7) (.int .u8 x67) (yld_int hx (fun _ => by kernel_rfl)) ?_
        refine wpS.fin rfl (kr150 _ _ (then_n (ks149 _ _ ?_)))
        refine wp_regG [9] (fun k => True) 10 (by kernel_rfl) (by kernel_rfl) (by kernel_rfl) fun KR151 kr151 => ?_
        have hs := hs.drawn1
        refine wpG.q 0 19 (.pointer (some ⟨b61, 0, none⟩)) ?_
        refine wpG.q 1 20 (.int .i64 z64) ?_
        refine wpG.q 2 21 (.pointer (some ⟨b61, 0, none⟩)) ?_
        obtain ⟨i0_152, h⟩ := of_chk h
        obtain ⟨i1_152, h⟩ := of_chk h
        refine wpG.tD 3 false (some 22) (.pointer (some ⟨b61, 0 + (z64 : Int).toNat * 1, none⟩)) (yld_idx (t := 42) (e := 5) (n := 16) (sz := 1) (k := .i64) (x := z64) (by kernel_rfl) (by kernel_rfl) (by kernel_rfl) i0_152 i1_152) ?_
        refine wpG.tD 4 true (some 23) (.int .u8 (rd z65 z64)) (yld_loadA (e := 5) (x := z64) hs 1 rfl (by kernel_rfl) (by kernel_rfl) i0_152 i1_152 .grow) ?_
        refine wpG.q 5 24 (.int .u8 x67) ?_
        refine wpG.q 6 25 (.int .u8 (ixor .u8 (rd z65 z64) x67)) ?_
        refine wpG.q 7 26 (.pointer (some ⟨b61, 0, none⟩)) ?_
        obtain ⟨i0_153, h⟩ := of_chk h
        obtain ⟨i1_153, h⟩ := of_chk h
        refine wpG.tD 8 false (some 27) (.pointer (some ⟨b61, 0 + (z64 : Int).toNat * 1, none⟩)) (yld_idx (t := 42) (e := 5) (n := 16) (sz := 1) (k := .i64) (x := z64) (by kernel_rfl) (by kernel_rfl) (by kernel_rfl) i0_153 i1_153) ?_
        obtain ⟨x68, hx, h⟩ := of_bind h
        refine wpG.only 9 (by kernel_rfl) (op_storeA (t := 5) (x := z64) (v := x68) (d := none) (by kernel_rfl) hs 1 rfl (by cases hx; kernel_rfl) (by kernel_rfl) i0_153 i1_153 ?_)
        intro w kp hs
        refine ⟨⟨fun hf => absurd hf (by decide), .all _ _⟩, ?_⟩
        refine wpG.fin (by kernel_rfl) rfl (kr151 _ _ ?_)
        refine inBlock_n (then_n (ks148 _ _ (xregS [0, 1] fun KR154 kr154 => ?_)))
        refine wpS.qs [(0, 28, .int .i64 (iadd .i64 z64 1)), (1, 15, .int .i64 (iadd .i64 z64 1))] ?_
        refine wpS.fin rfl (kr154 _ _ ?_)
        exact then_n (kl4 _ _ ⟨n, Nat.lt_succ_self n, (iadd .i64 z64 1), (wr z65 z64 x68), h, (hs.conv rfl), exg (by kernel_rfl)⟩)
       refine wpS.tk 0 false (some 16) (.bool false) (yld_b (df hc) (fun _ => by kernel_rfl)) ?_
       refine wpS.fin rfl (kr146 _ _ (then_n (ks145 _ _ (xseq_k fun KS155 ks155 => (wp_cond_f (by kernel_rfl) (xexit (then_x (then_x (inBlock_hit ?_)))))))))
       have q0 := of_some h
       subst q0
       exact exq_n (nn4 _ _ ⟨(hs.conv rfl), exg (by kernel_rfl)⟩)
     clear hs h hy
     rintro a w ⟨hs, g144, rfl⟩
     have h := hk4
     refine qn139 _ _ (post_nrm (by kernel_rfl) (run_results [] [] (by kernel_rfl) .nil) ?_)
     refine kI139 _ _ ?_
     refine ⟨fun _ => trivial, ?_⟩
     refine wpS.fin rfl (kr138 _ _ (then_n (ks137 _ _ (xseq_k fun KS156 ks156 => (xseq_k fun KS157 ks157 => (xregS [0] fun KR158 kr158 => ?_))))))
     refine wpS.q 0 6 (.int .i64 1) ?_
     refine wpS.fin rfl (kr158 _ _ (then_n (ks157 _ _ ?_)))
     obtain ⟨y71, hy, hk5⟩ := of_bind h
     refine wp_exq (N := fun a w => St w0 [] [.blk b62 (enc .u8 (zeroA 16)) 42, .blk b61 (enc .u8 y71) 42, .ownL (CA .u8 16 (by decide)) y48_A y48_n y48_c y48 42, .obj l91 (.loop (rec91 .exhausted none)), .obj D91 (.deferred none), .blk b44 ([.int .i64 4]) 3, .blk b43 ([.slice y29_A y29_n y29_c]) 99, .obj l33 (.loop (rec33 .exhausted none)), .obj D33 (.deferred none), .blk b12 ([.int .i64 4]) 3, .blk b11 ([.slice a0_A a0_n a0_c]) 26, .blk b10 ([.slice y29_A y29_n y29_c]) 99, .blk b7 ([.pointer (some ⟨b6, 0, none⟩)]) 53, .blk b6 ([.pointer (some ⟨b5, 0, none⟩), .slice y48_A y48_n y48_c]) 98, .blk b5 (([] : List Value) ++ enc .u8 r4_0 ++ enc .u8 r4_1 ++ ([] : List Value)) 48] [.rowL (CA .u8 4 (by decide)) y29_A y29_n y29_c y29, .rowL (CI .u8) a0_A a0_n a0_c a0, .rowL (CI .u8) a1_A a1_n a1_c a1] w ∧ ∃ g160 : Nat → Value, a = ⟨#[.pointer (some ⟨b6, 0, none⟩), .agg (enc .u8 (arrL 16 a1)).toArray, undef, .pointer (some ⟨b61, 0, none⟩), .pointer (some ⟨b62, 0, none⟩), .int .i64 x63, (g160 6), (g160 7), (g160 8), .pointer (some ⟨b6, 0, none⟩), .pointer (some ⟨b6, 0, none⟩), .pointer (some ⟨b6, 1, none⟩), .slice y48_A y48_n y48_c, .int .i64 (y48.length : Int), .int .i64 (isub .i64 (y48.length : Int) 1), .pointer (some ⟨b6, 0, none⟩), .tuple #[], (g160 17), (g160 18), (g160 19), (g160 20), (g160 21), (g160 22), (g160 23), (g160 24), (g160 25), (g160 26), (g160 27), (g160 28), (g160 29), (g160 30), (g160 31), (g160 32), (g160 33), (g160 34), (g160 35), (g160 36), (g160 37), (g160 38), (g160 39), (g160 40), (g160 41), (g160 42), (g160 43), (g160 44), (g160 45), (g160 46), (g160 47), (g160 48), (g160 49), (g160 50), (g160 51), undef], []⟩) (fun N5 nn5 => ?_) ?_
     ·clear hk5
      refine xblock ?_
      refine wp_loop_k (fun n a w => ∃ z69 z70, aes_Block.l5 K n r4_0 y48 x63 z69 z70 = some y71 ∧ St w0 [] [.blk b62 (enc .u8 (zeroA 16)) 42, .blk b61 (enc .u8 z70) 42, .ownL (CA .u8 16 (by decide)) y48_A y48_n y48_c y48 42, .obj l91 (.loop (rec91 .exhausted none)), .obj D91 (.deferred none), .blk b44 ([.int .i64 4]) 3, .blk b43 ([.slice y29_A y29_n y29_c]) 99, .obj l33 (.loop (rec33 .exhausted none)), .obj D33 (.deferred none), .blk b12 ([.int .i64 4]) 3, .blk b11 ([.slice a0_A a0_n a0_c]) 26, .blk b10 ([.slice y29_A y29_n y29_c]) 99, .blk b7 ([.pointer (some ⟨b6, 0, none⟩)]) 53, .blk b6 ([.pointer (some ⟨b5, 0, none⟩), .slice y48_A y48_n y48_c]) 98, .blk b5 (([] : List Value) ++ enc .u8 r4_0 ++ enc .u8 r4_1 ++ ([] : List Value)) 48] [.rowL (CA .u8 4 (by decide)) y29_A y29_n y29_c y29, .rowL (CI .u8) a0_A a0_n a0_c a0, .rowL (CI .u8) a1_A a1_n a1_c a1] w ∧ ∃ g159 : Nat → Value, a = ⟨#[.pointer (some ⟨b6, 0, none⟩), .agg (enc .u8 (arrL 16 a1)).toArray, undef, .pointer (some ⟨b61, 0, none⟩), .pointer (some ⟨b62, 0, none⟩), .int .i64 x63, .int .i64 z69, (g159 7), (g159 8), .pointer (some ⟨b6, 0, none⟩), .pointer (some ⟨b6, 0, none⟩), .pointer (some ⟨b6, 1, none⟩), .slice y48_A y48_n y48_c, .int .i64 (y48.length : Int), .int .i64 (isub .i64 (y48.length : Int) 1), .pointer (some ⟨b6, 0, none⟩), .tuple #[], (g159 17), (g159 18), (g159 19), (g159 20), (g159 21), (g159 22), (g159 23), (g159 24), (g159 25), (g159 26), (g159 27), (g159 28), (g159 29), (g159 30), (g159 31), (g159 32), (g159 33), (g159 34), (g159 35), (g159 36), (g159 37), (g159 38), (g159 39), (g159 40), (g159 41), (g159 42), (g159 43), (g159 44), (g159 45), (g159 46), (g159 47), (g159 48), (g159 49), (g159 50), (g159 51), undef], []⟩) K ⟨1, y66, hy, hs.conv rfl, exg (by kernel_rfl)⟩ ?_
      clear hs h hy
      rintro n a w ⟨z69, z70, h, hs, g159, rfl⟩ KL5 kl5
      cases n with
      | zero => exact nomatch (show none = some _ from h)
      | succ n =>
       refine xseq_k fun KS161 ks161 => ?_
       refine xseq_k fun KS162 ks162 => ?_
       refine xregS [0, 1, 2] fun KR163 kr163 => ?_
       refine wpS.qs [(0, 17, .int .i64 z69), (1, 18, .int .i64 x63)] ?_
       rcases of_if h with ⟨hc, h⟩ | ⟨hc, h⟩
       ·refine wpS.tk 2 false (some 19) (.bool true) (yld_b (dt hc) (fun _ => by kernel_rfl)) ?_
        refine wpS.fin rfl (kr163 _ _ (then_n (ks162 _ _ (wp_cond_t (by kernel_rfl) (xskip (then_n (ks161 _ _ (xseq_k fun KS164 ks164 => (xblock (xseq_k fun KS165 ks165 => (xregS [0] fun KR166 kr166 => ?_)))))))))))
        refine wpS.only 0 (op_alloc (t := 42) (d := (some 7)) (by kernel_rfl) hs (enc .u8 (zeroA 16)) (.agg (enc .u8 (zeroA 16)).toArray) (by kernel_rfl) (by kernel_rfl) (by kernel_rfl) ?_)
        intro b72 w gw hs
        refine ⟨fun _ => trivial, ?_⟩
        refine wpS.fin rfl (kr166 _ _ (then_n (ks165 _ _ (xseq_k fun KS167 ks167 => (xseq_k fun KS168 ks168 => (xregS [0] fun KR169 kr169 => ?_))))))
        refine wpS.q 0 22 (.int .i64 0) ?_
        refine wpS.fin rfl (kr169 _ _ (then_n (ks168 _ _ ?_)))
        obtain ⟨y75, hy, hk6⟩ := of_bind h
        refine wp_exq (N := fun a w => St w0 [] [.blk b72 (enc .u8 y75) 42, .blk b62 (enc .u8 (zeroA 16)) 42, .blk b61 (enc .u8 z70) 42, .ownL (CA .u8 16 (by decide)) y48_A y48_n y48_c y48 42, .obj l91 (.loop (rec91 .exhausted none)), .obj D91 (.deferred none), .blk b44 ([.int .i64 4]) 3, .blk b43 ([.slice y29_A y29_n y29_c]) 99, .obj l33 (.loop (rec33 .exhausted none)), .obj D33 (.deferred none), .blk b12 ([.int .i64 4]) 3, .blk b11 ([.slice a0_A a0_n a0_c]) 26, .blk b10 ([.slice y29_A y29_n y29_c]) 99, .blk b7 ([.pointer (some ⟨b6, 0, none⟩)]) 53, .blk b6 ([.pointer (some ⟨b5, 0, none⟩), .slice y48_A y48_n y48_c]) 98, .blk b5 (([] : List Value) ++ enc .u8 r4_0 ++ enc .u8 r4_1 ++ ([] : List Value)) 48] [.rowL (CA .u8 4 (by decide)) y29_A y29_n y29_c y29, .rowL (CI .u8) a0_A a0_n a0_c a0, .rowL (CI .u8) a1_A a1_n a1_c a1] w ∧ ∃ g171 : Nat → Value, a = ⟨#[.pointer (some ⟨b6, 0, none⟩), .agg (enc .u8 (arrL 16 a1)).toArray, undef, .pointer (some ⟨b61, 0, none⟩), .pointer (some ⟨b62, 0, none⟩), .int .i64 x63, .int .i64 z69, .pointer (some ⟨b72, 0, none⟩), (g171 8), .pointer (some ⟨b6, 0, none⟩), .pointer (some ⟨b6, 0, none⟩), .pointer (some ⟨b6, 1, none⟩), .slice y48_A y48_n y48_c, .int .i64 (y48.length : Int), .int .i64 (isub .i64 (y48.length : Int) 1), .pointer (some ⟨b6, 0, none⟩), .tuple #[], .int .i64 z69, .int .i64 x63, .bool true, (g159 20), (g159 21), (g171 22), (g171 23), (g171 24), (g171 25), (g171 26), (g171 27), (g171 28), (g171 29), (g171 30), (g171 31), (g171 32), (g171 33), (g171 34), (g171 35), (g171 36), (g171 37), (g171 38), (g171 39), (g171 40), (g171 41), (g171 42), (g171 43), (g159 44), (g159 45), (g159 46), (g159 47), (g159 48), (g159 49), (g159 50), (g159 51), undef], []⟩) (fun N6 nn6 => ?_) ?_
        ·clear hk6
         refine xblock ?_
         refine wp_loop_k (fun n a w => ∃ z73 z74, aes_Block.l6 K n r4_0 z70 z73 z74 = some y75 ∧ St w0 [] [.blk b72 (enc .u8 z74) 42, .blk b62 (enc .u8 (zeroA 16)) 42, .blk b61 (enc .u8 z70) 42, .ownL (CA .u8 16 (by decide)) y48_A y48_n y48_c y48 42, .obj l91 (.loop (rec91 .exhausted none)), .obj D91 (.deferred none), .blk b44 ([.int .i64 4]) 3, .blk b43 ([.slice y29_A y29_n y29_c]) 99, .obj l33 (.loop (rec33 .exhausted none)), .obj D33 (.deferred none), .blk b12 ([.int .i64 4]) 3, .blk b11 ([.slice a0_A a0_n a0_c]) 26, .blk b10 ([.slice y29_A y29_n y29_c]) 99, .blk b7 ([.pointer (some ⟨b6, 0, none⟩)]) 53, .blk b6 ([.pointer (some ⟨b5, 0, none⟩), .slice y48_A y48_n y48_c]) 98, .blk b5 (([] : List Value) ++ enc .u8 r4_0 ++ enc .u8 r4_1 ++ ([] : List Value)) 48] [.rowL (CA .u8 4 (by decide)) y29_A y29_n y29_c y29, .rowL (CI .u8) a0_A a0_n a0_c a0, .rowL (CI .u8) a1_A a1_n a1_c a1] w ∧ ∃ g170 : Nat → Value, a = ⟨#[.pointer (some ⟨b6, 0, none⟩), .agg (enc .u8 (arrL 16 a1)).toArray, undef, .pointer (some ⟨b61, 0, none⟩), .pointer (some ⟨b62, 0, none⟩), .int .i64 x63, .int .i64 z69, .pointer (some ⟨b72, 0, none⟩), (g170 8), .pointer (some ⟨b6, 0, none⟩), .pointer (some ⟨b6, 0, none⟩), .pointer (some ⟨b6, 1, none⟩), .slice y48_A y48_n y48_c, .int .i64 (y48.length : Int), .int .i64 (isub .i64 (y48.length : Int) 1), .pointer (some ⟨b6, 0, none⟩), .tuple #[], .int .i64 z69, .int .i64 x63, .bool true, (g159 20), (g159 21), .int .i64 z73, (g170 23), (g170 24), (g170 25), (g170 26), (g170 27), (g170 28), (g170 29), (g170 30), (g170 31), (g170 32), (g170 33), (g170 34), (g170 35), (g170 36), (g170 37), (g170 38), (g170 39), (g170 40), (g170 41), (g170 42), (g170 43), (g159 44), (g159 45), (g159 46), (g159 47), (g159 48), (g159 49), (g159 50), (g159 51), undef], []⟩) K ⟨0, (zeroA 16), hy, hs.conv rfl, exg (by kernel_rfl)⟩ ?_
         clear hs h hy
         rintro n a w ⟨z73, z74, h, hs, g170, rfl⟩ KL6 kl6
         cases n with
         | zero => exact nomatch (show none = some _ from h)
         | succ n =>
          refine xseq_k fun KS172 ks172 => ?_
          refine xregS [0] fun KR173 kr173 => ?_
          rcases of_if h with ⟨hc, h⟩ | ⟨hc, h⟩
          ·refine wpS.tk 0 false (some 23) (.bool true) (yld_b (dt hc) (fun _ => by kernel_rfl)) ?_
           refine wpS.fin rfl (kr173 _ _ (then_n (ks172 _ _ (xseq_k fun KS174 ks174 => (wp_cond_t (by kernel_rfl) (xskip (then_n (ks174 _ _ (xseq_k fun KS175 ks175 => (xblock (xseq_k fun KS176 ks176 => (xregS [0, 1] fun KR177 kr177 => ?_))))))))))))
           refine wpS.qs [(0, 24, .int .i64 z73), (1, 8, .int .i64 z73)] ?_
           refine wpS.fin rfl (kr177 _ _ (then_n (ks176 _ _ ?_)))
           refine wp_regG [18] (fun k => True) 19 (by kernel_rfl) (by kernel_rfl) (by kernel_rfl) fun KR178 kr178 => ?_
           have hs := hs.drawn1
           refine wpG.q 0 25 (.int .i64 z73) ?_
           refine wpG.q 1 26 (.pointer (some ⟨b6, 0, none⟩)) ?_
           refine wpG.q 2 27 (.pointer (some ⟨b6, 0, none⟩)) ?_
           refine wpG.q 3 28 (.pointer (some ⟨b6, 0, none⟩)) ?_
           refine wpG.tD 4 true (some 29) (.pointer (some ⟨b5, 0, none⟩)) (yld_load1 (e := 49) (o := 0) hs 14 rfl (by kernel_rfl) (by kernel_rfl) (by rfl) .grow) ?_
           refine wpG.q 5 30 (.int .i64 z73) ?_
           refine wpG.q 6 31 (.int .i64 z73) ?_
           refine wpG.q 7 32 (.int .i64 (irem .i64 z73 4)) ?_
           refine wpG.q 8 33 (.int .i64 (imul .i64 4 (irem .i64 z73 4))) ?_
           refine wpG.q 9 34 (.int .i64 (iadd .i64 z73 (imul .i64 4 (irem .i64 z73 4)))) ?_
           refine wpG.q 10 35 (.int .i64 (irem .i64 (iadd .i64 z73 (imul .i64 4 (irem .i64 z73 4))) 16)) ?_
           obtain ⟨x76, hx, h⟩ := of_bind h
           have hx := of_some hx
           subst hx
           obtain ⟨i0_179, h⟩ := of_chk h
           obtain ⟨i1_179, h⟩ := of_chk h
           refine wpG.tD 11 false (some 36) (.pointer (some ⟨b61, 0 + ((irem .i64 (iadd .i64 z73 (imul .i64 4 (irem .i64 z73 4))) 16) : Int).toNat * 1, none⟩)) (yld_idx (t := 42) (e := 5) (n := 16) (sz := 1) (k := .i64) (x := (irem .i64 (iadd .i64 z73 (imul .i64 4 (irem .i64 z73 4))) 16)) (by kernel_rfl) (by kernel_rfl) (by kernel_rfl) i0_179 i1_179) ?_
           refine wpG.tD 12 true (some 37) (.int .u8 (rd z70 (irem .i64 (iadd .i64 z73 (imul .i64 4 (irem .i64 z73 4))) 16))) (yld_loadA (e := 5) (x := (irem .i64 (iadd .i64 z73 (imul .i64 4 (irem .i64 z73 4))) 16)) hs 2 rfl (by kernel_rfl) (by kernel_rfl) i0_179 i1_179 .grow) ?_
           refine wpG.q 13 38 (.pointer (some ⟨b5, 0, none⟩)) ?_
           refine wpG.q 14 39 (.pointer (some ⟨b5, 0, none⟩)) ?_
           obtain ⟨x77, hx, h⟩ := of_bind h
           have hx := of_some hx
           subst hx
           obtain ⟨i0_180, h⟩ := of_chk h
           obtain ⟨i1_180, h⟩ := of_chk h
           refine wpG.tD 15 false (some 40) (.pointer (some ⟨b5, 0 + ((rd z70 (irem .i64 (iadd .i64 z73 (imul .i64 4 (irem .i64 z73 4))) 16)) : Int).toNat * 1, none⟩)) (yld_idx (t := 46) (e := 5) (n := 256) (sz := 1) (k := .u8) (x := (rd z70 (irem .i64 (iadd .i64 z73 (imul .i64 4 (irem .i64 z73 4))) 16))) (by kernel_rfl) (by kernel_rfl) (by kernel_rfl) i0_180 i1_180) ?_
           refine wpG.tD 16 true (some 41) (.int .u8 (rd r4_0 (rd z70 (irem .i64 (iadd .i64 z73 (imul .i64 4 (irem .i64 z73 4))) 16)))) (yld_loadR (m := 0) (k := .u8) (pre := ([] : List Value)) (post := enc .u8 r4_1) (c := r4_0) (e := 5) (x := (rd z70 (irem .i64 (iadd .i64 z73 (imul .i64 4 (irem .i64 z73 4))) 16))) hs 15 rfl (by simp only [List.append_assoc, List.nil_append, List.cons_append, List.append_nil]) (by kernel_rfl) (by kernel_rfl) i0_180 i1_180 (by simp [enc_len]) .grow) ?_
           obtain ⟨i0_181, h⟩ := of_chk h
           obtain ⟨i1_181, h⟩ := of_chk h
           refine wpG.tD 17 false (some 42) (.pointer (some ⟨b72, 0 + (z73 : Int).toNat * 1, none⟩)) (yld_idx (t := 42) (e := 5) (n := 16) (sz := 1) (k := .i64) (x := z73) (by kernel_rfl) (by kernel_rfl) (by kernel_rfl) i0_181 i1_181) ?_
           obtain ⟨x78, hx, h⟩ := of_bind h
           refine wpG.only 18 (by kernel_rfl) (op_storeA (t := 5) (x := z73) (v := x78) (d := none) (by kernel_rfl) hs 0 rfl (by cases hx; kernel_rfl) (by kernel_rfl) i0_181 i1_181 ?_)
           intro w kp hs
           refine ⟨⟨fun hf => absurd hf (by decide), .all _ _⟩, ?_⟩
           refine wpG.fin (by kernel_rfl) rfl (kr178 _ _ ?_)
           refine inBlock_n (then_n (ks175 _ _ (xregS [0, 1] fun KR182 kr182 => ?_)))
           refine wpS.qs [(0, 43, .int .i64 (iadd .i64 z73 1)), (1, 22, .int .i64 (iadd .i64 z73 1))] ?_
           refine wpS.fin rfl (kr182 _ _ ?_)
           exact then_n (kl6 _ _ ⟨n, Nat.lt_succ_self n, (iadd .i64 z73 1), (wr z74 z73 x78), h, (hs.conv rfl), exg (by kernel_rfl)⟩)
          refine wpS.tk 0 false (some 23) (.bool false) (yld_b (df hc) (fun _ => by kernel_rfl)) ?_
          refine wpS.fin rfl (kr173 _ _ (then_n (ks172 _ _ (xseq_k fun KS183 ks183 => (wp_cond_f (by kernel_rfl) (xexit (then_x (then_x (inBlock_hit ?_)))))))))
          have q0 := of_some h
          subst q0
          exact exq_n (nn6 _ _ ⟨(hs.conv rfl), exg (by kernel_rfl)⟩)
        clear hs h hy
        rintro a w ⟨hs, g171, rfl⟩
        have h := hk6
        refine then_n (ks167 _ _ ?_)
        obtain ⟨y79, hj, h⟩ := of_bind h
        refine xseq_k fun KS185 ks185 => wp_join (N := fun a w => St w0 [] [.blk b72 (enc .u8 y75) 42, .blk b62 (enc .u8 (zeroA 16)) 42, .blk b61 (enc .u8 y79) 42, .ownL (CA .u8 16 (by decide)) y48_A y48_n y48_c y48 42, .obj l91 (.loop (rec91 .exhausted none)), .obj D91 (.deferred none), .blk b44 ([.int .i64 4]) 3, .blk b43 ([.slice y29_A y29_n y29_c]) 99, .obj l33 (.loop (rec33 .exhausted none)), .obj D33 (.deferred none), .blk b12 ([.int .i64 4]) 3, .blk b11 ([.slice a0_A a0_n a0_c]) 26, .blk b10 ([.slice y29_A y29_n y29_c]) 99, .blk b7 ([.pointer (some ⟨b6, 0, none⟩)]) 53, .blk b6 ([.pointer (some ⟨b5, 0, none⟩), .slice y48_A y48_n y48_c]) 98, .blk b5 (([] : List Value) ++ enc .u8 r4_0 ++ enc .u8 r4_1 ++ ([] : List Value)) 48] [.rowL (CA .u8 4 (by decide)) y29_A y29_n y29_c y29, .rowL (CI .u8) a0_A a0_n a0_c a0, .rowL (CI .u8) a1_A a1_n a1_c a1] w ∧ ∃ g184 : Nat → Value, a = ⟨#[.pointer (some ⟨b6, 0, none⟩), .agg (enc .u8 (arrL 16 a1)).toArray, undef, .pointer (some ⟨b61, 0, none⟩), .pointer (some ⟨b62, 0, none⟩), .int .i64 x63, .int .i64 z69, .pointer (some ⟨b72, 0, none⟩), (g171 8), .pointer (some ⟨b6, 0, none⟩), .pointer (some ⟨b6, 0, none⟩), .pointer (some ⟨b6, 1, none⟩), .slice y48_A y48_n y48_c, .int .i64 (y48.length : Int), .int .i64 (isub .i64 (y48.length : Int) 1), .pointer (some ⟨b6, 0, none⟩), .tuple #[], .int .i64 z69, .int .i64 x63, .bool true, (g159 20), (g159 21), (g171 22), (g171 23), (g171 24), (g171 25), (g171 26), (g171 27), (g171 28), (g171 29), (g171 30), (g171 31), (g171 32), (g171 33), (g171 34), (g171 35), (g171 36), (g171 37), (g171 38), (g171 39), (g171 40), (g171 41), (g171 42), (g171 43), (g184 44), (g184 45), (g184 46), (g184 47), (g184 48), (g159 49), (g159 50), (g159 51), undef], []⟩) (fun N nj => ?_) ?_
        ·clear h
         have h := hj
         refine xseq_k fun KS186 ks186 => ?_
         refine xregS [0, 1] fun KR187 kr187 => ?_
         refine wpS.tk 0 true (some 44) (.agg (enc .u8 y75).toArray) (yld_loadW (e := 42) (n := 16) hs 0 rfl (by kernel_rfl) (by kernel_rfl) (by kernel_rfl) (by exact enc_len _ _) .grow) ?_
         refine wpS.only 1 (op_storeW (t := 42) (v := .agg (enc .u8 y75).toArray) (d := none) (by kernel_rfl) hs 2 rfl (vs := enc .u8 y75) (n := 16) (by kernel_rfl) (by kernel_rfl) (by kernel_rfl) (by simp [enc_len]) (by simp [enc_len]) (by intro u hu; exact enc_one _ _ u hu) ?_)
         intro w kp hs
         refine ⟨fun _ => trivial, ?_⟩
         refine wpS.fin rfl (kr187 _ _ (then_n (ks186 _ _ (xseq_k fun KS188 ks188 => (xregS [0, 1, 2] fun KR189 kr189 => ?_)))))
         refine wpS.qs [(0, 45, .int .i64 z69), (1, 46, .int .i64 x63)] ?_
         rcases of_if h with ⟨hc, h⟩ | ⟨hc, h⟩
         ·refine wpS.tk 2 false (some 47) (.bool true) (yld_b (dt hc) (fun _ => by kernel_rfl)) ?_
          refine wpS.fin rfl (kr189 _ _ (then_n (ks188 _ _ (wp_cond_t (by kernel_rfl) (xregS [0] fun KR190 kr190 => ?_)))))
          obtain ⟨r80, hg, h⟩ := of_bind h
          refine wpS.only 0 (op_callX (d := (some 48)) (by kernel_rfl) hs 2 rfl (fun _ => by kernel_rfl) (aes_mix.ok hg _ (hs.blkAt 2 rfl)) ?_)
          intro w kp hs
          have hs := hs.conv (L' := [.blk b72 (enc .u8 y75) 42, .blk b62 (enc .u8 (zeroA 16)) 42, .blk b61 (enc .u8 r80) 42, .ownL (CA .u8 16 (by decide)) y48_A y48_n y48_c y48 42, .obj l91 (.loop (rec91 .exhausted none)), .obj D91 (.deferred none), .blk b44 ([.int .i64 4]) 3, .blk b43 ([.slice y29_A y29_n y29_c]) 99, .obj l33 (.loop (rec33 .exhausted none)), .obj D33 (.deferred none), .blk b12 ([.int .i64 4]) 3, .blk b11 ([.slice a0_A a0_n a0_c]) 26, .blk b10 ([.slice y29_A y29_n y29_c]) 99, .blk b7 ([.pointer (some ⟨b6, 0, none⟩)]) 53, .blk b6 ([.pointer (some ⟨b5, 0, none⟩), .slice y48_A y48_n y48_c]) 98, .blk b5 (([] : List Value) ++ enc .u8 r4_0 ++ enc .u8 r4_1 ++ ([] : List Value)) 48]) rfl
          refine ⟨fun _ => trivial, ?_⟩
          refine wpS.fin rfl (kr190 _ _ ?_)
          have q0 := of_some h
          subst q0
          exact nj _ _ ⟨(hs.conv rfl), exg (by kernel_rfl)⟩
         refine wpS.tk 2 false (some 47) (.bool false) (yld_b (df hc) (fun _ => by kernel_rfl)) ?_
         refine wpS.fin rfl (kr189 _ _ (then_n (ks188 _ _ (wp_cond_f (by kernel_rfl) (xskip ?_)))))
         have q0 := of_some h
         subst q0
         exact nj _ _ ⟨(hs.conv rfl), exg (by kernel_rfl)⟩
        clear hj hs
        rintro a w ⟨hs, g184, rfl⟩
        refine then_n (ks185 _ _ (xregS [0, 1, 2] fun KR191 kr191 => ?_))
        refine wpS.qs [(0, 49, .pointer (some ⟨b6, 0, none⟩)), (1, 50, .int .i64 z69)] ?_
        refine wpS.only 2 (op_inline (d := (some 51)) (f := 86) (args := #[.pointer (some ⟨b6, 0, none⟩), .pointer (some ⟨b61, 0, none⟩), .int .i64 z69]) (by kernel_rfl) (fun _ => by kernel_rfl) fun R192 kI192 => ?_)
        refine calls_kn Try.func86 rfl fun Q192 qq192 qn192 => ?_
        refine wp_conv (a' := ⟨#[.pointer (some ⟨b6, 0, none⟩), .pointer (some ⟨b61, 0, none⟩), .int .i64 z69, undef, undef, undef, undef, undef, undef, undef, undef, undef, undef, undef, undef, undef, undef, undef, undef, undef, undef, undef, undef, undef, undef, undef, undef, undef, undef], []⟩) (by kernel_rfl) ?_
        refine xseq_k fun KS193 ks193 => ?_
        refine xregS [0, 1, 2, 3, 4, 5, 6, 7] fun KR194 kr194 => ?_
        refine wpS.qs [(0, 8, .pointer (some ⟨b6, 0, none⟩)), (1, 9, .pointer (some ⟨b6, 0, none⟩)), (2, 10, .pointer (some ⟨b6, 1, none⟩))] ?_
        refine wpS.tk 3 true (some 11) (.slice y48_A y48_n y48_c) (yld_load1 (e := 96) (o := 1) hs 14 rfl (by kernel_rfl) (by kernel_rfl) (by rfl) .grow) ?_
        refine wpS.q 4 12 (.int .i64 z69) ?_
        obtain ⟨h0, h⟩ := of_chk h
        obtain ⟨h1, h⟩ := of_chk h
        have i0_195 := h0
        have i1_195 := h1
        refine wpS.tk 5 false (some 13) (.pointer (adr y48_A ((z69 : Int).toNat * Cod.size (CA .u8 16 (by decide))))) (yld_idxL (C := (CA .u8 16 (by decide))) (t := 96) (e := 42) (k := .i64) (x := z69) (hs.rowL 3 rfl) (by kernel_rfl) (by kernel_rfl) (by kernel_rfl) h0 h1) ?_
        refine wpS.tk 6 true (some 14) (.agg (enc .u8 (rdL (CA .u8 16 (by decide)) y48 z69)).toArray) (yld_loadLA (C := (CA .u8 16 (by decide))) (e := 42) (x := z69) (hs.rowL 3 rfl) (by kernel_rfl) rfl (by kernel_rfl) (by kernel_rfl) i0_195 i1_195) ?_
        refine wpS.q 7 15 (.int .i64 0) ?_
        refine wpS.fin rfl (kr194 _ _ (then_n (ks193 _ _ ?_)))
        obtain ⟨y83, hy, hk7⟩ := of_bind h
        refine wp_exq (N := fun a w => St w0 [] [.blk b72 (enc .u8 y75) 42, .blk b62 (enc .u8 (zeroA 16)) 42, .blk b61 (enc .u8 y83) 42, .ownL (CA .u8 16 (by decide)) y48_A y48_n y48_c y48 42, .obj l91 (.loop (rec91 .exhausted none)), .obj D91 (.deferred none), .blk b44 ([.int .i64 4]) 3, .blk b43 ([.slice y29_A y29_n y29_c]) 99, .obj l33 (.loop (rec33 .exhausted none)), .obj D33 (.deferred none), .blk b12 ([.int .i64 4]) 3, .blk b11 ([.slice a0_A a0_n a0_c]) 26, .blk b10 ([.slice y29_A y29_n y29_c]) 99, .blk b7 ([.pointer (some ⟨b6, 0, none⟩)]) 53, .blk b6 ([.pointer (some ⟨b5, 0, none⟩), .slice y48_A y48_n y48_c]) 98, .blk b5 (([] : List Value) ++ enc .u8 r4_0 ++ enc .u8 r4_1 ++ ([] : List Value)) 48] [.rowL (CA .u8 4 (by decide)) y29_A y29_n y29_c y29, .rowL (CI .u8) a0_A a0_n a0_c a0, .rowL (CI .u8) a1_A a1_n a1_c a1] w ∧ ∃ g197 : Nat → Value, a = ⟨#[.pointer (some ⟨b6, 0, none⟩), .pointer (some ⟨b61, 0, none⟩), .int .i64 z69, undef, undef, undef, (g197 6), (g197 7), .pointer (some ⟨b6, 0, none⟩), .pointer (some ⟨b6, 0, none⟩), .pointer (some ⟨b6, 1, none⟩), .slice y48_A y48_n y48_c, .int .i64 z69, .pointer (adr y48_A ((z69 : Int).toNat * Cod.size (CA .u8 16 (by decide)))), .agg (enc .u8 (rdL (CA .u8 16 (by decide)) y48 z69)).toArray, (g197 15), (g197 16), (g197 17), (g197 18), (g197 19), (g197 20), (g197 21), (g197 22), (g197 23), (g197 24), (g197 25), (g197 26), (g197 27), (g197 28)], []⟩) (fun N7 nn7 => ?_) ?_
        ·clear hk7
         refine xblock ?_
         refine wp_loop_k (fun n a w => ∃ z81 z82, aes_Block.l7 K n y48 z69 z81 z82 = some y83 ∧ St w0 [] [.blk b72 (enc .u8 y75) 42, .blk b62 (enc .u8 (zeroA 16)) 42, .blk b61 (enc .u8 z82) 42, .ownL (CA .u8 16 (by decide)) y48_A y48_n y48_c y48 42, .obj l91 (.loop (rec91 .exhausted none)), .obj D91 (.deferred none), .blk b44 ([.int .i64 4]) 3, .blk b43 ([.slice y29_A y29_n y29_c]) 99, .obj l33 (.loop (rec33 .exhausted none)), .obj D33 (.deferred none), .blk b12 ([.int .i64 4]) 3, .blk b11 ([.slice a0_A a0_n a0_c]) 26, .blk b10 ([.slice y29_A y29_n y29_c]) 99, .blk b7 ([.pointer (some ⟨b6, 0, none⟩)]) 53, .blk b6 ([.pointer (some ⟨b5, 0, none⟩), .slice y48_A y48_n y48_c]) 98, .blk b5 (([] : List Value) ++ enc .u8 r4_0 ++ enc .u8 r4_1 ++ ([] : List Value)) 48] [.rowL (CA .u8 4 (by decide)) y29_A y29_n y29_c y29, .rowL (CI .u8) a0_A a0_n a0_c a0, .rowL (CI .u8) a1_A a1_n a1_c a1] w ∧ ∃ g196 : Nat → Value, a = ⟨#[.pointer (some ⟨b6, 0, none⟩), .pointer (some ⟨b61, 0, none⟩), .int .i64 z69, undef, undef, undef, (g196 6), (g196 7), .pointer (some ⟨b6, 0, none⟩), .pointer (some ⟨b6, 0, none⟩), .pointer (some ⟨b6, 1, none⟩), .slice y48_A y48_n y48_c, .int .i64 z69, .pointer (adr y48_A ((z69 : Int).toNat * Cod.size (CA .u8 16 (by decide)))), .agg (enc .u8 (rdL (CA .u8 16 (by decide)) y48 z69)).toArray, .int .i64 z81, (g196 16), (g196 17), (g196 18), (g196 19), (g196 20), (g196 21), (g196 22), (g196 23), (g196 24), (g196 25), (g196 26), (g196 27), (g196 28)], []⟩) K ⟨0, y79, hy, hs.conv rfl, exg (by kernel_rfl)⟩ ?_
         clear hs h hy
         rintro n a w ⟨z81, z82, h, hs, g196, rfl⟩ KL7 kl7
         cases n with
         | zero => exact nomatch (show none = some _ from h)
         | succ n =>
          refine xseq_k fun KS198 ks198 => ?_
          refine xregS [0] fun KR199 kr199 => ?_
          rcases of_if h with ⟨hc, h⟩ | ⟨hc, h⟩
          ·refine wpS.tk 0 false (some 16) (.bool true) (yld_b (dt hc) (fun _ => by kernel_rfl)) ?_
           refine wpS.fin rfl (kr199 _ _ (then_n (ks198 _ _ (xseq_k fun KS200 ks200 => (wp_cond_t (by kernel_rfl) (xskip (then_n (ks200 _ _ (xseq_k fun KS201 ks201 => (xblock (xseq_k fun KS202 ks202 => (xregS [0, 1, 2, 3] fun KR203 kr203 => ?_))))))))))))
           refine wpS.q 0 17 (.int .i64 z81) ?_
           obtain ⟨h0, h⟩ := of_chk h
           obtain ⟨h1, h⟩ := of_chk h
           refine wpS.tk 1 false (some 18) (.int .u8 (rd (rdL (CA .u8 16 (by decide)) y48 z69) z81)) (yld_at (t := 42) (e := 5) (k' := .i64) (by kernel_rfl) (by kernel_rfl) (by kernel_rfl) (by kernel_rfl) h0 h1) ?_
           refine wpS.q 2 6 (.int .i64 z81) ?_
           obtain ⟨x84, hx, h⟩ := of_bind h
           refine wpS.tk 3 false (some 7) (.int .u8 x84) (yld_int hx (fun _ => by kernel_rfl)) ?_
           refine wpS.fin rfl (kr203 _ _ (then_n (ks202 _ _ ?_)))
           refine wp_regG [9] (fun k => True) 10 (by kernel_rfl) (by kernel_rfl) (by kernel_rfl) fun KR204 kr204 => ?_
           have hs := hs.drawn1
           refine wpG.q 0 19 (.pointer (some ⟨b61, 0, none⟩)) ?_
           refine wpG.q 1 20 (.int .i64 z81) ?_
           refine wpG.q 2 21 (.pointer (some ⟨b61, 0, none⟩)) ?_
           obtain ⟨i0_205, h⟩ := of_chk h
           obtain ⟨i1_205, h⟩ := of_chk h
           refine wpG.tD 3 false (some 22) (.pointer (some ⟨b61, 0 + (z81 : Int).toNat * 1, none⟩)) (yld_idx (t := 42) (e := 5) (n := 16) (sz := 1) (k := .i64) (x := z81) (by kernel_rfl) (by kernel_rfl) (by kernel_rfl) i0_205 i1_205) ?_
           refine wpG.tD 4 true (some 23) (.int .u8 (rd z82 z81)) (yld_loadA (e := 5) (x := z81) hs 2 rfl (by kernel_rfl) (by kernel_rfl) i0_205 i1_205 .grow) ?_
           refine wpG.q 5 24 (.int .u8 x84) ?_
           refine wpG.q 6 25 (.int .u8 (ixor .u8 (rd z82 z81) x84)) ?_
           refine wpG.q 7 26 (.pointer (some ⟨b61, 0, none⟩)) ?_
           obtain ⟨i0_206, h⟩ := of_chk h
           obtain ⟨i1_206, h⟩ := of_chk h
           refine wpG.tD 8 false (some 27) (.pointer (some ⟨b61, 0 + (z81 : Int).toNat * 1, none⟩)) (yld_idx (t := 42) (e := 5) (n := 16) (sz := 1) (k := .i64) (x := z81) (by kernel_rfl) (by kernel_rfl) (by kernel_rfl) i0_206 i1_206) ?_
           obtain ⟨x85, hx, h⟩ := of_bind h
           refine wpG.only 9 (by kernel_rfl) (op_storeA (t := 5) (x := z81) (v := x85) (d := none) (by kernel_rfl) hs 2 rfl (by cases hx; kernel_rfl) (by kernel_rfl) i0_206 i1_206 ?_)
           intro w kp hs
           refine ⟨⟨fun hf => absurd hf (by decide), .all _ _⟩, ?_⟩
           refine wpG.fin (by kernel_rfl) rfl (kr204 _ _ ?_)
           refine inBlock_n (then_n (ks201 _ _ (xregS [0, 1] fun KR207 kr207 => ?_)))
           refine wpS.qs [(0, 28, .int .i64 (iadd .i64 z81 1)), (1, 15, .int .i64 (iadd .i64 z81 1))] ?_
           refine wpS.fin rfl (kr207 _ _ ?_)
           exact then_n (kl7 _ _ ⟨n, Nat.lt_succ_self n, (iadd .i64 z81 1), (wr z82 z81 x85), h, (hs.conv rfl), exg (by kernel_rfl)⟩)
          refine wpS.tk 0 false (some 16) (.bool false) (yld_b (df hc) (fun _ => by kernel_rfl)) ?_
          refine wpS.fin rfl (kr199 _ _ (then_n (ks198 _ _ (xseq_k fun KS208 ks208 => (wp_cond_f (by kernel_rfl) (xexit (then_x (then_x (inBlock_hit ?_)))))))))
          have q0 := of_some h
          subst q0
          exact exq_n (nn7 _ _ ⟨(hs.conv rfl), exg (by kernel_rfl)⟩)
        clear hs h hy
        rintro a w ⟨hs, g197, rfl⟩
        have h := hk7
        refine qn192 _ _ (post_nrm (by kernel_rfl) (run_results [] [] (by kernel_rfl) .nil) ?_)
        refine kI192 _ _ ?_
        refine ⟨fun _ => trivial, ?_⟩
        refine wpS.fin rfl (kr191 _ _ (inBlock_n (then_n (ks164 _ _ (xregS [0, 1, 2] fun KR209 kr209 => ?_)))))
        refine wpS.qs [(0, 20, .int .i64 z69), (1, 21, .int .i64 (iadd .i64 z69 1))] ?_
        obtain ⟨x86, hx, h⟩ := of_bind h
        refine wpS.tk 2 false (some 6) (.int .i64 x86) (yld_int hx (fun _ => by kernel_rfl)) ?_
        refine wpS.fin rfl (kr209 _ _ ?_)
        exact then_n (kl5 _ _ ⟨n, Nat.lt_succ_self n, x86, y83, h, (hs.drop (.cons _ (.cons_cons _ (.cons_cons _ (.cons_cons _ (.cons_cons _ (.cons_cons _ (.cons_cons _ (.cons_cons _ (.cons_cons _ (.cons_cons _ (.cons_cons _ (.cons_cons _ (.cons_cons _ (.cons_cons _ (.cons_cons _ (.cons_cons _ .slnil))))))))))))))))), exg (by kernel_rfl)⟩)
       refine wpS.tk 2 false (some 19) (.bool false) (yld_b (df hc) (fun _ => by kernel_rfl)) ?_
       refine wpS.fin rfl (kr163 _ _ (then_n (ks162 _ _ (wp_cond_f (by kernel_rfl) (xexit (then_x (then_x (inBlock_hit ?_))))))))
       have q0 := of_some h
       subst q0
       exact exq_n (nn5 _ _ ⟨(hs.conv rfl), exg (by kernel_rfl)⟩)
     clear hs h hy
     rintro a w ⟨hs, g160, rfl⟩
     have h := hk5
     refine then_n (ks156 _ _ (xseq_k fun KS210 ks210 => (xregS [0, 1] fun KR211 kr211 => ?_)))
     refine wpS.tk 0 true (some 52) (.agg (enc .u8 y71).toArray) (yld_loadW (e := 42) (n := 16) hs 1 rfl (by kernel_rfl) (by kernel_rfl) (by kernel_rfl) (by exact enc_len _ _) .grow) ?_
     refine wpS.only 1 (op_storeW (t := 42) (v := .agg (enc .u8 y71).toArray) (d := none) (by kernel_rfl) hs 0 rfl (vs := enc .u8 y71) (n := 16) (by kernel_rfl) (by kernel_rfl) (by kernel_rfl) (by simp [enc_len]) (by simp [enc_len]) (by intro u hu; exact enc_one _ _ u hu) ?_)
     intro w kp hs
     refine ⟨fun _ => trivial, ?_⟩
     refine wpS.fin rfl (kr211 _ _ (then_n (ks210 _ _ (xret ?_))))
     refine qq131 _ _ (post_ret (by kernel_rfl) (run_results [.cell 4 42] [.agg (enc .u8 y71).toArray] (by kernel_rfl) (.cons (res_cellN (n := 16) hs 0 rfl (by kernel_rfl) (by kernel_rfl) (by kernel_rfl) (by exact enc_len _ _)) .nil)) ?_)
     refine kI131 _ _ ?_
     refine ⟨⟨fun hf => absurd hf (by decide), (keepW hsB132 hs)⟩, ?_⟩
     refine wpG.only 6 (by kernel_rfl) (op_alloc (t := 42) (d := (some 7)) (by kernel_rfl) hs (enc .u8 (zeroA 16)) (.agg (enc .u8 (zeroA 16)).toArray) (by kernel_rfl) (by kernel_rfl) (by kernel_rfl) ?_)
     intro b87 w gw hs
     refine ⟨.of gw, ?_⟩
     have hsB212 := hs
     refine wpG.only 7 (by kernel_rfl) (op_storeW (t := 42) (v := .agg (enc .u8 y71).toArray) (d := none) (by kernel_rfl) hs 0 rfl (vs := enc .u8 y71) (n := 16) (by kernel_rfl) (by kernel_rfl) (by kernel_rfl) (by simp [enc_len]) (by simp [enc_len]) (by intro u hu; exact enc_one _ _ u hu) ?_)
     intro w kp hs
     refine ⟨⟨fun hf => absurd hf (by decide), (keepW hsB212 hs)⟩, ?_⟩
     refine wpG.fin (by kernel_rfl) rfl (kr10 _ _ ?_)
     have q0 := of_some h
     subst q0
     exact nj _ _ ⟨b87, ((hs.drop (.cons_cons _ (.cons _ (.cons _ (.cons _ (.cons _ (.cons _ (.cons _ (.cons _ (.cons _ (.cons _ (.cons _ (.cons _ (.cons _ (.cons _ (.cons _ (.cons _ .slnil))))))))))))))))).pickR (pick_cons 1 rfl (pick_cons 2 rfl pick_nil))), exg (by kernel_rfl)⟩
    refine (op_alloc (t := 42) (d := (some 7)) (by kernel_rfl) hs (enc .u8 (zeroA 16)) (.agg (enc .u8 (zeroA 16)).toArray) (by kernel_rfl) (by kernel_rfl) (by kernel_rfl) ?_)
    intro b88 w gw hs
    refine ⟨.of gw, ?_⟩
    have hsB214 := hs
    refine wpG.only 5 (by kernel_rfl) (op_inline (d := (some 19)) (f := 48) (args := #[.pointer (some ⟨b6, 0, none⟩), .agg (enc .u8 (arrL 16 a1)).toArray]) (by kernel_rfl) (fun _ => by kernel_rfl) fun R213 kI213 => ?_)
    refine calls_k Try.func48 rfl fun Q213 qq213 => ?_
    refine wp_conv (a' := ⟨#[.pointer (some ⟨b6, 0, none⟩), .agg (enc .u8 (arrL 16 a1)).toArray, undef, undef, undef, undef, undef, undef, undef, undef, undef, undef, undef, undef, undef, undef, undef, undef, undef, undef, undef, undef, undef, undef, undef, undef, undef, undef, undef, undef, undef, undef, undef, undef, undef, undef, undef, undef, undef, undef, undef, undef, undef, undef, undef, undef, undef, undef, undef, undef, undef, undef, undef], []⟩) (by kernel_rfl) ?_
    refine xseq_k fun KS215 ks215 => ?_
    refine xregS [0, 1] fun KR216 kr216 => ?_
    refine wpS.only 0 (op_box (t := 42) (v := .agg (enc .u8 (arrL 16 a1)).toArray) (d := (some 3)) (by kernel_rfl) hs (enc .u8 (arrL 16 a1)) (by kernel_rfl) (by kernel_rfl) ?_)
    intro b89 w gw hs
    refine ⟨fun _ => trivial, ?_⟩
    refine wpS.only 1 (op_alloc (t := 42) (d := (some 4)) (by kernel_rfl) hs (enc .u8 (zeroA 16)) (.agg (enc .u8 (zeroA 16)).toArray) (by kernel_rfl) (by kernel_rfl) (by kernel_rfl) ?_)
    intro b90 w gw hs
    refine ⟨fun _ => trivial, ?_⟩
    refine wpS.fin rfl (kr216 _ _ (then_n (ks215 _ _ (xseq_k fun KS217 ks217 => (xregS [0, 1, 2, 3, 4, 5, 6] fun KR218 kr218 => ?_)))))
    refine wpS.qs [(0, 9, .pointer (some ⟨b6, 0, none⟩)), (1, 10, .pointer (some ⟨b6, 0, none⟩)), (2, 11, .pointer (some ⟨b6, 1, none⟩))] ?_
    refine wpS.tk 3 true (some 12) (.slice y48_A y48_n y48_c) (yld_load1 (e := 96) (o := 1) hs 14 rfl (by kernel_rfl) (by kernel_rfl) (by rfl) .grow) ?_
    refine wpS.tk 4 false (some 13) (.int .i64 (y48.length : Int)) (yld_lenL (hs.rowL 3 rfl) (fun _ => by kernel_rfl)) ?_
    refine wpS.q 5 14 (.int .i64 (isub .i64 (y48.length : Int) 1)) ?_
    obtain ⟨x91, hx, h⟩ := of_bind h
    refine wpS.tk 6 false (some 5) (.int .i64 x91) (yld_int hx (fun _ => by kernel_rfl)) ?_
    refine wpS.fin rfl (kr218 _ _ (then_n (ks217 _ _ (xseq_k fun KS219 ks219 => (xregS [0, 1] fun KR220 kr220 => ?_)))))
    refine wpS.q 0 15 (.pointer (some ⟨b6, 0, none⟩)) ?_
    refine wpS.only 1 (op_inline (d := (some 16)) (f := 86) (args := #[.pointer (some ⟨b6, 0, none⟩), .pointer (some ⟨b89, 0, none⟩), .int .i64 0]) (by kernel_rfl) (fun _ => by kernel_rfl) fun R221 kI221 => ?_)
    refine calls_kn Try.func86 rfl fun Q221 qq221 qn221 => ?_
    refine wp_conv (a' := ⟨#[.pointer (some ⟨b6, 0, none⟩), .pointer (some ⟨b89, 0, none⟩), .int .i64 0, undef, undef, undef, undef, undef, undef, undef, undef, undef, undef, undef, undef, undef, undef, undef, undef, undef, undef, undef, undef, undef, undef, undef, undef, undef, undef], []⟩) (by kernel_rfl) ?_
    refine xseq_k fun KS222 ks222 => ?_
    refine xregS [0, 1, 2, 3, 4, 5, 6, 7] fun KR223 kr223 => ?_
    refine wpS.qs [(0, 8, .pointer (some ⟨b6, 0, none⟩)), (1, 9, .pointer (some ⟨b6, 0, none⟩)), (2, 10, .pointer (some ⟨b6, 1, none⟩))] ?_
    refine wpS.tk 3 true (some 11) (.slice y48_A y48_n y48_c) (yld_load1 (e := 96) (o := 1) hs 14 rfl (by kernel_rfl) (by kernel_rfl) (by rfl) .grow) ?_
    refine wpS.q 4 12 (.int .i64 0) ?_
    obtain ⟨h0, h⟩ := of_chk h
    obtain ⟨h1, h⟩ := of_chk h
    have i0_224 := h0
    have i1_224 := h1
    refine wpS.tk 5 false (some 13) (.pointer (adr y48_A ((0 : Int).toNat * Cod.size (CA .u8 16 (by decide))))) (yld_idxL (C := (CA .u8 16 (by decide))) (t := 96) (e := 42) (k := .i64) (x := 0) (hs.rowL 3 rfl) (by kernel_rfl) (by kernel_rfl) (by kernel_rfl) h0 h1) ?_
    refine wpS.tk 6 true (some 14) (.agg (enc .u8 (rdL (CA .u8 16 (by decide)) y48 0)).toArray) (yld_loadLA (C := (CA .u8 16 (by decide))) (e := 42) (x := 0) (hs.rowL 3 rfl) (by kernel_rfl) rfl (by kernel_rfl) (by kernel_rfl) i0_224 i1_224) ?_
    refine wpS.q 7 15 (.int .i64 0) ?_
    refine wpS.fin rfl (kr223 _ _ (then_n (ks222 _ _ ?_)))
    obtain ⟨y94, hy, hk4⟩ := of_bind h
    refine wp_exq (N := fun a w => St w0 [] [.blk b90 (enc .u8 (zeroA 16)) 42, .blk b89 (enc .u8 y94) 42, .blk b88 (enc .u8 (zeroA 16)) 42, .ownL (CA .u8 16 (by decide)) y48_A y48_n y48_c y48 42, .obj l91 (.loop (rec91 .exhausted none)), .obj D91 (.deferred none), .blk b44 ([.int .i64 4]) 3, .blk b43 ([.slice y29_A y29_n y29_c]) 99, .obj l33 (.loop (rec33 .exhausted none)), .obj D33 (.deferred none), .blk b12 ([.int .i64 4]) 3, .blk b11 ([.slice a0_A a0_n a0_c]) 26, .blk b10 ([.slice y29_A y29_n y29_c]) 99, .blk b7 ([.pointer (some ⟨b6, 0, none⟩)]) 53, .blk b6 ([.pointer (some ⟨b5, 0, none⟩), .slice y48_A y48_n y48_c]) 98, .blk b5 (([] : List Value) ++ enc .u8 r4_0 ++ enc .u8 r4_1 ++ ([] : List Value)) 48] [.rowL (CA .u8 4 (by decide)) y29_A y29_n y29_c y29, .rowL (CI .u8) a0_A a0_n a0_c a0, .rowL (CI .u8) a1_A a1_n a1_c a1] w ∧ ∃ g226 : Nat → Value, a = ⟨#[.pointer (some ⟨b6, 0, none⟩), .pointer (some ⟨b89, 0, none⟩), .int .i64 0, undef, undef, undef, (g226 6), (g226 7), .pointer (some ⟨b6, 0, none⟩), .pointer (some ⟨b6, 0, none⟩), .pointer (some ⟨b6, 1, none⟩), .slice y48_A y48_n y48_c, .int .i64 0, .pointer (adr y48_A ((0 : Int).toNat * Cod.size (CA .u8 16 (by decide)))), .agg (enc .u8 (rdL (CA .u8 16 (by decide)) y48 0)).toArray, (g226 15), (g226 16), (g226 17), (g226 18), (g226 19), (g226 20), (g226 21), (g226 22), (g226 23), (g226 24), (g226 25), (g226 26), (g226 27), (g226 28)], []⟩) (fun N4 nn4 => ?_) ?_
    ·clear hk4
     refine xblock ?_
     refine wp_loop_k (fun n a w => ∃ z92 z93, aes_Block.l4 K n y48 z92 z93 = some y94 ∧ St w0 [] [.blk b90 (enc .u8 (zeroA 16)) 42, .blk b89 (enc .u8 z93) 42, .blk b88 (enc .u8 (zeroA 16)) 42, .ownL (CA .u8 16 (by decide)) y48_A y48_n y48_c y48 42, .obj l91 (.loop (rec91 .exhausted none)), .obj D91 (.deferred none), .blk b44 ([.int .i64 4]) 3, .blk b43 ([.slice y29_A y29_n y29_c]) 99, .obj l33 (.loop (rec33 .exhausted none)), .obj D33 (.deferred none), .blk b12 ([.int .i64 4]) 3, .blk b11 ([.slice a0_A a0_n a0_c]) 26, .blk b10 ([.slice y29_A y29_n y29_c]) 99, .blk b7 ([.pointer (some ⟨b6, 0, none⟩)]) 53, .blk b6 ([.pointer (some ⟨b5, 0, none⟩), .slice y48_A y48_n y48_c]) 98, .blk b5 (([] : List Value) ++ enc .u8 r4_0 ++ enc .u8 r4_1 ++ ([] : List Value)) 48] [.rowL (CA .u8 4 (by decide)) y29_A y29_n y29_c y29, .rowL (CI .u8) a0_A a0_n a0_c a0, .rowL (CI .u8) a1_A a1_n a1_c a1] w ∧ ∃ g225 : Nat → Value, a = ⟨#[.pointer (some ⟨b6, 0, none⟩), .pointer (some ⟨b89, 0, none⟩), .int .i64 0, undef, undef, undef, (g225 6), (g225 7), .pointer (some ⟨b6, 0, none⟩), .pointer (some ⟨b6, 0, none⟩), .pointer (some ⟨b6, 1, none⟩), .slice y48_A y48_n y48_c, .int .i64 0, .pointer (adr y48_A ((0 : Int).toNat * Cod.size (CA .u8 16 (by decide)))), .agg (enc .u8 (rdL (CA .u8 16 (by decide)) y48 0)).toArray, .int .i64 z92, (g225 16), (g225 17), (g225 18), (g225 19), (g225 20), (g225 21), (g225 22), (g225 23), (g225 24), (g225 25), (g225 26), (g225 27), (g225 28)], []⟩) K ⟨0, (arrL 16 a1), hy, hs.conv rfl, exg (by kernel_rfl)⟩ ?_
     clear hs h hy
     rintro n a w ⟨z92, z93, h, hs, g225, rfl⟩ KL4 kl4
     cases n with
     | zero => exact nomatch (show none = some _ from h)
     | succ n =>
      refine xseq_k fun KS227 ks227 => ?_
      refine xregS [0] fun KR228 kr228 => ?_
      rcases of_if h with ⟨hc, h⟩ | ⟨hc, h⟩
      ·refine wpS.tk 0 false (some 16) (.bool true) (yld_b (dt hc) (fun _ => by kernel_rfl)) ?_
       refine wpS.fin rfl (kr228 _ _ (then_n (ks227 _ _ (xseq_k fun KS229 ks229 => (wp_cond_t (by kernel_rfl) (xskip (then_n (ks229 _ _ (xseq_k fun KS230 ks230 => (xblock (xseq_k fun KS231 ks231 => (xregS [0, 1, 2, 3] fun KR232 kr232 => ?_))))))))))))
       refine wpS.q 0 17 (.int .i64 z92) ?_
       obtain ⟨h0, h⟩ := of_chk h
       obtain ⟨h1, h⟩ := of_chk h
       refine wpS.tk 1 false (some 18) (.int .u8 (rd (rdL (CA .u8 16 (by decide)) y48 0) z92)) (yld_at (t := 42) (e := 5) (k' := .i64) (by kernel_rfl) (by kernel_rfl) (by kernel_rfl) (by kernel_rfl) h0 h1) ?_
       refine wpS.q 2 6 (.int .i64 z92) ?_
       obtain ⟨x95, hx, h⟩ := of_bind h
       refine wpS.tk 3 false (some 7) (.int .u8 x95) (yld_int hx (fun _ => by kernel_rfl)) ?_
       refine wpS.fin rfl (kr232 _ _ (then_n (ks231 _ _ ?_)))
       refine wp_regG [9] (fun k => True) 10 (by kernel_rfl) (by kernel_rfl) (by kernel_rfl) fun KR233 kr233 => ?_
       have hs := hs.drawn1
       refine wpG.q 0 19 (.pointer (some ⟨b89, 0, none⟩)) ?_
       refine wpG.q 1 20 (.int .i64 z92) ?_
       refine wpG.q 2 21 (.pointer (some ⟨b89, 0, none⟩)) ?_
       obtain ⟨i0_234, h⟩ := of_chk h
       obtain ⟨i1_234, h⟩ := of_chk h
       refine wpG.tD 3 false (some 22) (.pointer (some ⟨b89, 0 + (z92 : Int).toNat * 1, none⟩)) (yld_idx (t := 42) (e := 5) (n := 16) (sz := 1) (k := .i64) (x := z92) (by kernel_rfl) (by kernel_rfl) (by kernel_rfl) i0_234 i1_234) ?_
       refine wpG.tD 4 true (some 23) (.int .u8 (rd z93 z92)) (yld_loadA (e := 5) (x := z92) hs 1 rfl (by kernel_rfl) (by kernel_rfl) i0_234 i1_234 .grow) ?_
       refine wpG.q 5 24 (.int .u8 x95) ?_
       refine wpG.q 6 25 (.int .u8 (ixor .u8 (rd z93 z92) x95)) ?_
       refine wpG.q 7 26 (.pointer (some ⟨b89, 0, none⟩)) ?_
       obtain ⟨i0_235, h⟩ := of_chk h
       obtain ⟨i1_235, h⟩ := of_chk h
       refine wpG.tD 8 false (some 27) (.pointer (some ⟨b89, 0 + (z92 : Int).toNat * 1, none⟩)) (yld_idx (t := 42) (e := 5) (n := 16) (sz := 1) (k := .i64) (x := z92) (by kernel_rfl) (by kernel_rfl) (by kernel_rfl) i0_235 i1_235) ?_
       obtain ⟨x96, hx, h⟩ := of_bind h
       refine wpG.only 9 (by kernel_rfl) (op_storeA (t := 5) (x := z92) (v := x96) (d := none) (by kernel_rfl) hs 1 rfl (by cases hx; kernel_rfl) (by kernel_rfl) i0_235 i1_235 ?_)
       intro w kp hs
       refine ⟨⟨fun hf => absurd hf (by decide), .all _ _⟩, ?_⟩
       refine wpG.fin (by kernel_rfl) rfl (kr233 _ _ ?_)
       refine inBlock_n (then_n (ks230 _ _ (xregS [0, 1] fun KR236 kr236 => ?_)))
       refine wpS.qs [(0, 28, .int .i64 (iadd .i64 z92 1)), (1, 15, .int .i64 (iadd .i64 z92 1))] ?_
       refine wpS.fin rfl (kr236 _ _ ?_)
       exact then_n (kl4 _ _ ⟨n, Nat.lt_succ_self n, (iadd .i64 z92 1), (wr z93 z92 x96), h, (hs.conv rfl), exg (by kernel_rfl)⟩)
      refine wpS.tk 0 false (some 16) (.bool false) (yld_b (df hc) (fun _ => by kernel_rfl)) ?_
      refine wpS.fin rfl (kr228 _ _ (then_n (ks227 _ _ (xseq_k fun KS237 ks237 => (wp_cond_f (by kernel_rfl) (xexit (then_x (then_x (inBlock_hit ?_)))))))))
      have q0 := of_some h
      subst q0
      exact exq_n (nn4 _ _ ⟨(hs.conv rfl), exg (by kernel_rfl)⟩)
    clear hs h hy
    rintro a w ⟨hs, g226, rfl⟩
    have h := hk4
    refine qn221 _ _ (post_nrm (by kernel_rfl) (run_results [] [] (by kernel_rfl) .nil) ?_)
    refine kI221 _ _ ?_
    refine ⟨fun _ => trivial, ?_⟩
    refine wpS.fin rfl (kr220 _ _ (then_n (ks219 _ _ (xseq_k fun KS238 ks238 => (xseq_k fun KS239 ks239 => (xregS [0] fun KR240 kr240 => ?_))))))
    refine wpS.q 0 6 (.int .i64 1) ?_
    refine wpS.fin rfl (kr240 _ _ (then_n (ks239 _ _ ?_)))
    obtain ⟨y99, hy, hk5⟩ := of_bind h
    refine wp_exq (N := fun a w => St w0 [] [.blk b90 (enc .u8 (zeroA 16)) 42, .blk b89 (enc .u8 y99) 42, .blk b88 (enc .u8 (zeroA 16)) 42, .ownL (CA .u8 16 (by decide)) y48_A y48_n y48_c y48 42, .obj l91 (.loop (rec91 .exhausted none)), .obj D91 (.deferred none), .blk b44 ([.int .i64 4]) 3, .blk b43 ([.slice y29_A y29_n y29_c]) 99, .obj l33 (.loop (rec33 .exhausted none)), .obj D33 (.deferred none), .blk b12 ([.int .i64 4]) 3, .blk b11 ([.slice a0_A a0_n a0_c]) 26, .blk b10 ([.slice y29_A y29_n y29_c]) 99, .blk b7 ([.pointer (some ⟨b6, 0, none⟩)]) 53, .blk b6 ([.pointer (some ⟨b5, 0, none⟩), .slice y48_A y48_n y48_c]) 98, .blk b5 (([] : List Value) ++ enc .u8 r4_0 ++ enc .u8 r4_1 ++ ([] : List Value)) 48] [.rowL (CA .u8 4 (by decide)) y29_A y29_n y29_c y29, .rowL (CI .u8) a0_A a0_n a0_c a0, .rowL (CI .u8) a1_A a1_n a1_c a1] w ∧ ∃ g242 : Nat → Value, a = ⟨#[.pointer (some ⟨b6, 0, none⟩), .agg (enc .u8 (arrL 16 a1)).toArray, undef, .pointer (some ⟨b89, 0, none⟩), .pointer (some ⟨b90, 0, none⟩), .int .i64 x91, (g242 6), (g242 7), (g242 8), .pointer (some ⟨b6, 0, none⟩), .pointer (some ⟨b6, 0, none⟩), .pointer (some ⟨b6, 1, none⟩), .slice y48_A y48_n y48_c, .int .i64 (y48.length : Int), .int .i64 (isub .i64 (y48.length : Int) 1), .pointer (some ⟨b6, 0, none⟩), .tuple #[], (g242 17), (g242 18), (g242 19), (g242 20), (g242 21), (g242 22), (g242 23), (g242 24), (g242 25), (g242 26), (g242 27), (g242 28), (g242 29), (g242 30), (g242 31), (g242 32), (g242 33), (g242 34), (g242 35), (g242 36), (g242 37), (g242 38), (g242 39), (g242 40), (g242 41), (g242 42), (g242 43), (g242 44), (g242 45), (g242 46), (g242 47), (g242 48), (g242 49), (g242 50), (g242 51), undef], []⟩) (fun N5 nn5 => ?_) ?_
    ·clear hk5
     refine xblock ?_
     refine wp_loop_k (fun n a w => ∃ z97 z98, aes_Block.l5 K n r4_0 y48 x91 z97 z98 = some y99 ∧ St w0 [] [.blk b90 (enc .u8 (zeroA 16)) 42, .blk b89 (enc .u8 z98) 42, .blk b88 (enc .u8 (zeroA 16)) 42, .ownL (CA .u8 16 (by decide)) y48_A y48_n y48_c y48 42, .obj l91 (.loop (rec91 .exhausted none)), .obj D91 (.deferred none), .blk b44 ([.int .i64 4]) 3, .blk b43 ([.slice y29_A y29_n y29_c]) 99, .obj l33 (.loop (rec33 .exhausted none)), .obj D33 (.deferred none), .blk b12 ([.int .i64 4]) 3, .blk b11 ([.slice a0_A a0_n a0_c]) 26, .blk b10 ([.slice y29_A y29_n y29_c]) 99, .blk b7 ([.pointer (some ⟨b6, 0, none⟩)]) 53, .blk b6 ([.pointer (some ⟨b5, 0, none⟩), .slice y48_A y48_n y48_c]) 98, .blk b5 (([] : List Value) ++ enc .u8 r4_0 ++ enc .u8 r4_1 ++ ([] : List Value)) 48] [.rowL (CA .u8 4 (by decide)) y29_A y29_n y29_c y29, .rowL (CI .u8) a0_A a0_n a0_c a0, .rowL (CI .u8) a1_A a1_n a1_c a1] w ∧ ∃ g241 : Nat → Value, a = ⟨#[.pointer (some ⟨b6, 0, none⟩), .agg (enc .u8 (arrL 16 a1)).toArray, undef, .pointer (some ⟨b89, 0, none⟩), .pointer (some ⟨b90, 0, none⟩), .int .i64 x91, .int .i64 z97, (g241 7), (g241 8), .pointer (some ⟨b6, 0, none⟩), .pointer (some ⟨b6, 0, none⟩), .pointer (some ⟨b6, 1, none⟩), .slice y48_A y48_n y48_c, .int .i64 (y48.length : Int), .int .i64 (isub .i64 (y48.length : Int) 1), .pointer (some ⟨b6, 0, none⟩), .tuple #[], (g241 17), (g241 18), (g241 19), (g241 20), (g241 21), (g241 22), (g241 23), (g241 24), (g241 25), (g241 26), (g241 27), (g241 28), (g241 29), (g241 30), (g241 31), (g241 32), (g241 33), (g241 34), (g241 35), (g241 36), (g241 37), (g241 38), (g241 39), (g241 40), (g241 41), (g241 42), (g241 43), (g241 44), (g241 45), (g241 46), (g241 47), (g241 48), (g241 49), (g241 50), (g241 51), undef], []⟩) K ⟨1, y94, hy, hs.conv rfl, exg (by kernel_rfl)⟩ ?_
     clear hs h hy
     rintro n a w ⟨z97, z98, h, hs, g241, rfl⟩ KL5 kl5
     cases n with
     | zero => exact nomatch (show none = some _ from h)
     | succ n =>
      refine xseq_k fun KS243 ks243 => ?_
      refine xseq_k fun KS244 ks244 => ?_
      refine xregS [0, 1, 2] fun KR245 kr245 => ?_
      refine wpS.qs [(0, 17, .int .i64 z97), (1, 18, .int .i64 x91)] ?_
      rcases of_if h with ⟨hc, h⟩ | ⟨hc, h⟩
      ·refine wpS.tk 2 false (some 19) (.bool true) (yld_b (dt hc) (fun _ => by kernel_rfl)) ?_
       refine wpS.fin rfl (kr245 _ _ (then_n (ks244 _ _ (wp_cond_t (by kernel_rfl) (xskip (then_n (ks243 _ _ (xseq_k fun KS246 ks246 => (xblock (xseq_k fun KS247 ks247 => (xregS [0] fun KR248 kr248 => ?_)))))))))))
       refine wpS.only 0 (op_alloc (t := 42) (d := (some 7)) (by kernel_rfl) hs (enc .u8 (zeroA 16)) (.agg (enc .u8 (zeroA 16)).toArray) (by kernel_rfl) (by kernel_rfl) (by kernel_rfl) ?_)
       intro b100 w gw hs
       refine ⟨fun _ => trivial, ?_⟩
       refine wpS.fin rfl (kr248 _ _ (then_n (ks247 _ _ (xseq_k fun KS249 ks249 => (xseq_k fun KS250 ks250 => (xregS [0] fun KR251 kr251 => ?_))))))
       refine wpS.q 0 22 (.int .i64 0) ?_
       refine wpS.fin rfl (kr251 _ _ (then_n (ks250 _ _ ?_)))
       obtain ⟨y103, hy, hk6⟩ := of_bind h
       refine wp_exq (N := fun a w => St w0 [] [.blk b100 (enc .u8 y103) 42, .blk b90 (enc .u8 (zeroA 16)) 42, .blk b89 (enc .u8 z98) 42, .blk b88 (enc .u8 (zeroA 16)) 42, .ownL (CA .u8 16 (by decide)) y48_A y48_n y48_c y48 42, .obj l91 (.loop (rec91 .exhausted none)), .obj D91 (.deferred none), .blk b44 ([.int .i64 4]) 3, .blk b43 ([.slice y29_A y29_n y29_c]) 99, .obj l33 (.loop (rec33 .exhausted none)), .obj D33 (.deferred none), .blk b12 ([.int .i64 4]) 3, .blk b11 ([.slice a0_A a0_n a0_c]) 26, .blk b10 ([.slice y29_A y29_n y29_c]) 99, .blk b7 ([.pointer (some ⟨b6, 0, none⟩)]) 53, .blk b6 ([.pointer (some ⟨b5, 0, none⟩), .slice y48_A y48_n y48_c]) 98, .blk b5 (([] : List Value) ++ enc .u8 r4_0 ++ enc .u8 r4_1 ++ ([] : List Value)) 48] [.rowL (CA .u8 4 (by decide)) y29_A y29_n y29_c y29, .rowL (CI .u8) a0_A a0_n a0_c a0, .rowL (CI .u8) a1_A a1_n a1_c a1] w ∧ ∃ g253 : Nat → Value, a = ⟨#[.pointer (some ⟨b6, 0, none⟩), .agg (enc .u8 (arrL 16 a1)).toArray, undef, .pointer (some ⟨b89, 0, none⟩), .pointer (some ⟨b90, 0, none⟩), .int .i64 x91, .int .i64 z97, .pointer (some ⟨b100, 0, none⟩), (g253 8), .pointer (some ⟨b6, 0, none⟩), .pointer (some ⟨b6, 0, none⟩), .pointer (some ⟨b6, 1, none⟩), .slice y48_A y48_n y48_c, .int .i64 (y48.length : Int), .int .i64 (isub .i64 (y48.length : Int) 1), .pointer (some ⟨b6, 0, none⟩), .tuple #[], .int .i64 z97, .int .i64 x91, .bool true, (g241 20), (g241 21), (g253 22), (g253 23), (g253 24), (g253 25), (g253 26), (g253 27), (g253 28), (g253 29), (g253 30), (g253 31), (g253 32), (g253 33), (g253 34), (g253 35), (g253 36), (g253 37), (g253 38), (g253 39), (g253 40), (g253 41), (g253 42), (g253 43), (g241 44), (g241 45), (g241 46), (g241 47), (g241 48), (g241 49), (g241 50), (g241 51), undef], []⟩) (fun N6 nn6 => ?_) ?_
       ·clear hk6
        refine xblock ?_
        refine wp_loop_k (fun n a w => ∃ z101 z102, aes_Block.l6 K n r4_0 z98 z101 z102 = some y103 ∧ St w0 [] [.blk b100 (enc .u8 z102) 42, .blk b90 (enc .u8 (zeroA 16)) 42, .blk b89 (enc .u8 z98) 42, .blk b88 (enc .u8 (zeroA 16)) 42, .ownL (CA .u8 16 (by decide)) y48_A y48_n y48_c y48 42, .obj l91 (.loop (rec91 .exhausted none)), .obj D91 (.deferred none), .blk b44 ([.int .i64 4]) 3, .blk b43 ([.slice y29_A y29_n y29_c]) 99, .obj l33 (.loop (rec33 .exhausted none)), .obj D33 (.deferred none), .blk b12 ([.int .i64 4]) 3, .blk b11 ([.slice a0_A a0_n a0_c]) 26, .blk b10 ([.slice y29_A y29_n y29_c]) 99, .blk b7 ([.pointer (some ⟨b6, 0, none⟩)]) 53, .blk b6 ([.pointer (some ⟨b5, 0, none⟩), .slice y48_A y48_n y48_c]) 98, .blk b5 (([] : List Value) ++ enc .u8 r4_0 ++ enc .u8 r4_1 ++ ([] : List Value)) 48] [.rowL (CA .u8 4 (by decide)) y29_A y29_n y29_c y29, .rowL (CI .u8) a0_A a0_n a0_c a0, .rowL (CI .u8) a1_A a1_n a1_c a1] w ∧ ∃ g252 : Nat → Value, a = ⟨#[.pointer (some ⟨b6, 0, none⟩), .agg (enc .u8 (arrL 16 a1)).toArray, undef, .pointer (some ⟨b89, 0, none⟩), .pointer (some ⟨b90, 0, none⟩), .int .i64 x91, .int .i64 z97, .pointer (some ⟨b100, 0, none⟩), (g252 8), .pointer (some ⟨b6, 0, none⟩), .pointer (some ⟨b6, 0, none⟩), .pointer (some ⟨b6, 1, none⟩), .slice y48_A y48_n y48_c, .int .i64 (y48.length : Int), .int .i64 (isub .i64 (y48.length : Int) 1), .pointer (some ⟨b6, 0, none⟩), .tuple #[], .int .i64 z97, .int .i64 x91, .bool true, (g241 20), (g241 21), .int .i64 z101, (g252 23), (g252 24), (g252 25), (g252 26), (g252 27), (g252 28), (g252 29), (g252 30), (g252 31), (g252 32), (g252 33), (g252 34), (g252 35), (g252 36), (g252 37), (g252 38), (g252 39), (g252 40), (g252 41), (g252 42), (g252 43), (g241 44), (g241 45), (g241 46), (g241 47), (g241 48), (g241 49), (g241 50), (g241 51), undef], []⟩) K ⟨0, (zeroA 16), hy, hs.conv rfl, exg (by kernel_rfl)⟩ ?_
        clear hs h hy
        rintro n a w ⟨z101, z102, h, hs, g252, rfl⟩ KL6 kl6
        cases n with
        | zero => exact nomatch (show none = some _ from h)
        | succ n =>
         refine xseq_k fun KS254 ks254 => ?_
         refine xregS [0] fun KR255 kr255 => ?_
         rcases of_if h with ⟨hc, h⟩ | ⟨hc, h⟩
         ·refine wpS.tk 0 false (some 23) (.bool true) (yld_b (dt hc) (fun _ => by kernel_rfl)) ?_
          refine wpS.fin rfl (kr255 _ _ (then_n (ks254 _ _ (xseq_k fun KS256 ks256 => (wp_cond_t (by kernel_rfl) (xskip (then_n (ks256 _ _ (xseq_k fun KS257 ks257 => (xblock (xseq_k fun KS258 ks258 => (xregS [0, 1] fun KR259 kr259 => ?_))))))))))))
          refine wpS.qs [(0, 24, .int .i64 z101), (1, 8, .int .i64 z101)] ?_
          refine wpS.fin rfl (kr259 _ _ (then_n (ks258 _ _ ?_)))
          refine wp_regG [18] (fun k => True) 19 (by kernel_rfl) (by kernel_rfl) (by kernel_rfl) fun KR260 kr260 => ?_
          have hs := hs.drawn1
          refine wpG.q 0 25 (.int .i64 z101) ?_
          refine wpG.q 1 26 (.pointer (some ⟨b6, 0, none⟩)) ?_
          refine wpG.q 2 27 (.pointer (some ⟨b6, 0, none⟩)) ?_
          refine wpG.q 3 28 (.pointer (some ⟨b6, 0, none⟩)) ?_
          refine wpG.tD 4 true (some 29) (.pointer (some ⟨b5, 0, none⟩)) (yld_load1 (e := 49) (o := 0) hs 15 rfl (by kernel_rfl) (by kernel_rfl) (by rfl) .grow) ?_
          refine wpG.q 5 30 (.int .i64 z101) ?_
          refine wpG.q 6 31 (.int .i64 z101) ?_
          refine wpG.q 7 32 (.int .i64 (irem .i64 z101 4)) ?_
          refine wpG.q 8 33 (.int .i64 (imul .i64 4 (irem .i64 z101 4))) ?_
          refine wpG.q 9 34 (.int .i64 (iadd .i64 z101 (imul .i64 4 (irem .i64 z101 4)))) ?_
          refine wpG.q 10 35 (.int .i64 (irem .i64 (iadd .i64 z101 (imul .i64 4 (irem .i64 z101 4))) 16)) ?_
          obtain ⟨x104, hx, h⟩ := of_bind h
          have hx := of_some hx
          subst hx
          obtain ⟨i0_261, h⟩ := of_chk h
          obtain ⟨i1_261, h⟩ := of_chk h
          refine wpG.tD 11 false (some 36) (.pointer (some ⟨b89, 0 + ((irem .i64 (iadd .i64 z101 (imul .i64 4 (irem .i64 z101 4))) 16) : Int).toNat * 1, none⟩)) (yld_idx (t := 42) (e := 5) (n := 16) (sz := 1) (k := .i64) (x := (irem .i64 (iadd .i64 z101 (imul .i64 4 (irem .i64 z101 4))) 16)) (by kernel_rfl) (by kernel_rfl) (by kernel_rfl) i0_261 i1_261) ?_
          refine wpG.tD 12 true (some 37) (.int .u8 (rd z98 (irem .i64 (iadd .i64 z101 (imul .i64 4 (irem .i64 z101 4))) 16))) (yld_loadA (e := 5) (x := (irem .i64 (iadd .i64 z101 (imul .i64 4 (irem .i64 z101 4))) 16)) hs 2 rfl (by kernel_rfl) (by kernel_rfl) i0_261 i1_261 .grow) ?_
          refine wpG.q 13 38 (.pointer (some ⟨b5, 0, none⟩)) ?_
          refine wpG.q 14 39 (.pointer (some ⟨b5, 0, none⟩)) ?_
          obtain ⟨x105, hx, h⟩ := of_bind h
          have hx := of_some hx
          subst hx
          obtain ⟨i0_262, h⟩ := of_chk h
          obtain ⟨i1_262, h⟩ := of_chk h
          refine wpG.tD 15 false (some 40) (.pointer (some ⟨b5, 0 + ((rd z98 (irem .i64 (iadd .i64 z101 (imul .i64 4 (irem .i64 z101 4))) 16)) : Int).toNat * 1, none⟩)) (yld_idx (t := 46) (e := 5) (n := 256) (sz := 1) (k := .u8) (x := (rd z98 (irem .i64 (iadd .i64 z101 (imul .i64 4 (irem .i64 z101 4))) 16))) (by kernel_rfl) (by kernel_rfl) (by kernel_rfl) i0_262 i1_262) ?_
          refine wpG.tD 16 true (some 41) (.int .u8 (rd r4_0 (rd z98 (irem .i64 (iadd .i64 z101 (imul .i64 4 (irem .i64 z101 4))) 16)))) (yld_loadR (m := 0) (k := .u8) (pre := ([] : List Value)) (post := enc .u8 r4_1) (c := r4_0) (e := 5) (x := (rd z98 (irem .i64 (iadd .i64 z101 (imul .i64 4 (irem .i64 z101 4))) 16))) hs 16 rfl (by simp only [List.append_assoc, List.nil_append, List.cons_append, List.append_nil]) (by kernel_rfl) (by kernel_rfl) i0_262 i1_262 (by simp [enc_len]) .grow) ?_
          obtain ⟨i0_263, h⟩ := of_chk h
          obtain ⟨i1_263, h⟩ := of_chk h
          refine wpG.tD 17 false (some 42) (.pointer (some ⟨b100, 0 + (z101 : Int).toNat * 1, none⟩)) (yld_idx (t := 42) (e := 5) (n := 16) (sz := 1) (k := .i64) (x := z101) (by kernel_rfl) (by kernel_rfl) (by kernel_rfl) i0_263 i1_263) ?_
          obtain ⟨x106, hx, h⟩ := of_bind h
          refine wpG.only 18 (by kernel_rfl) (op_storeA (t := 5) (x := z101) (v := x106) (d := none) (by kernel_rfl) hs 0 rfl (by cases hx; kernel_rfl) (by kernel_rfl) i0_263 i1_263 ?_)
          intro w kp hs
          refine ⟨⟨fun hf => absurd hf (by decide), .all _ _⟩, ?_⟩
          refine wpG.fin (by kernel_rfl) rfl (kr260 _ _ ?_)
          refine inBlock_n (then_n (ks257 _ _ (xregS [0, 1] fun KR264 kr264 => ?_)))
          refine wpS.qs [(0, 43, .int .i64 (iadd .i64 z101 1)), (1, 22, .int .i64 (iadd .i64 z101 1))] ?_
          refine wpS.fin rfl (kr264 _ _ ?_)
          exact then_n (kl6 _ _ ⟨n, Nat.lt_succ_self n, (iadd .i64 z101 1), (wr z102 z101 x106), h, (hs.conv rfl), exg (by kernel_rfl)⟩)
         refine wpS.tk 0 false (some 23) (.bool false) (yld_b (df hc) (fun _ => by kernel_rfl)) ?_
         refine wpS.fin rfl (kr255 _ _ (then_n (ks254 _ _ (xseq_k fun KS265 ks265 => (wp_cond_f (by kernel_rfl) (xexit (then_x (then_x (inBlock_hit ?_)))))))))
         have q0 := of_some h
         subst q0
         exact exq_n (nn6 _ _ ⟨(hs.conv rfl), exg (by kernel_rfl)⟩)
       clear hs h hy
       rintro a w ⟨hs, g253, rfl⟩
       have h := hk6
       refine then_n (ks249 _ _ ?_)
       obtain ⟨y107, hj, h⟩ := of_bind h
       refine xseq_k fun KS267 ks267 => wp_join (N := fun a w => St w0 [] [.blk b100 (enc .u8 y103) 42, .blk b90 (enc .u8 (zeroA 16)) 42, .blk b89 (enc .u8 y107) 42, .blk b88 (enc .u8 (zeroA 16)) 42, .ownL (CA .u8 16 (by decide)) y48_A y48_n y48_c y48 42, .obj l91 (.loop (rec91 .exhausted none)), .obj D91 (.deferred none), .blk b44 ([.int .i64 4]) 3, .blk b43 ([.slice y29_A y29_n y29_c]) 99, .obj l33 (.loop (rec33 .exhausted none)), .obj D33 (.deferred none), .blk b12 ([.int .i64 4]) 3, .blk b11 ([.slice a0_A a0_n a0_c]) 26, .blk b10 ([.slice y29_A y29_n y29_c]) 99, .blk b7 ([.pointer (some ⟨b6, 0, none⟩)]) 53, .blk b6 ([.pointer (some ⟨b5, 0, none⟩), .slice y48_A y48_n y48_c]) 98, .blk b5 (([] : List Value) ++ enc .u8 r4_0 ++ enc .u8 r4_1 ++ ([] : List Value)) 48] [.rowL (CA .u8 4 (by decide)) y29_A y29_n y29_c y29, .rowL (CI .u8) a0_A a0_n a0_c a0, .rowL (CI .u8) a1_A a1_n a1_c a1] w ∧ ∃ g266 : Nat → Value, a = ⟨#[.pointer (some ⟨b6, 0, none⟩), .agg (enc .u8 (arrL 16 a1)).toArray, undef, .pointer (some ⟨b89, 0, none⟩), .pointer (some ⟨b90, 0, none⟩), .int .i64 x91, .int .i64 z97, .pointer (some ⟨b100, 0, none⟩), (g253 8), .pointer (some ⟨b6, 0, none⟩), .pointer (some ⟨b6, 0, none⟩), .pointer (some ⟨b6, 1, none⟩), .slice y48_A y48_n y48_c, .int .i64 (y48.length : Int), .int .i64 (isub .i64 (y48.length : Int) 1), .pointer (some ⟨b6, 0, none⟩), .tuple #[], .int .i64 z97, .int .i64 x91, .bool true, (g241 20), (g241 21), (g253 22), (g253 23), (g253 24), (g253 25), (g253 26), (g253 27), (g253 28), (g253 29), (g253 30), (g253 31), (g253 32), (g253 33), (g253 34), (g253 35), (g253 36), (g253 37), (g253 38), (g253 39), (g253 40), (g253 41), (g253 42), (g253 43), (g266 44), (g266 45), (g266 46), (g266 47), (g266 48), (g241 49), (g241 50), (g241 51), undef], []⟩) (fun N nj => ?_) ?_
       ·clear h
        have h := hj
        refine xseq_k fun KS268 ks268 => ?_
        refine xregS [0, 1] fun KR269 kr269 => ?_
        refine wpS.tk 0 true (some 44) (.agg (enc .u8 y103).toArray) (yld_loadW (e := 42) (n := 16) hs 0 rfl (by kernel_rfl) (by kernel_rfl) (by kernel_rfl) (by exact enc_len _ _) .grow) ?_
        refine wpS.only 1 (op_storeW (t := 42) (v := .agg (enc .u8 y103).toArray) (d := none) (by kernel_rfl) hs 2 rfl (vs := enc .u8 y103) (n := 16) (by kernel_rfl) (by kernel_rfl) (by kernel_rfl) (by simp [enc_len]) (by simp [enc_len]) (by intro u hu; exact enc_one _ _ u hu) ?_)
        intro w kp hs
        refine ⟨fun _ => trivial, ?_⟩
        refine wpS.fin rfl (kr269 _ _ (then_n (ks268 _ _ (xseq_k fun KS270 ks270 => (xregS [0, 1, 2] fun KR271 kr271 => ?_)))))
        refine wpS.qs [(0, 45, .int .i64 z97), (1, 46, .int .i64 x91)] ?_
        rcases of_if h with ⟨hc, h⟩ | ⟨hc, h⟩
        ·refine wpS.tk 2 false (some 47) (.bool true) (yld_b (dt hc) (fun _ => by kernel_rfl)) ?_
         refine wpS.fin rfl (kr271 _ _ (then_n (ks270 _ _ (wp_cond_t (by kernel_rfl) (xregS [0] fun KR272 kr272 => ?_)))))
         obtain ⟨r108, hg, h⟩ := of_bind h
         refine wpS.only 0 (op_callX (d := (some 48)) (by kernel_rfl) hs 2 rfl (fun _ => by kernel_rfl) (aes_mix.ok hg _ (hs.blkAt 2 rfl)) ?_)
         intro w kp hs
         have hs := hs.conv (L' := [.blk b100 (enc .u8 y103) 42, .blk b90 (enc .u8 (zeroA 16)) 42, .blk b89 (enc .u8 r108) 42, .blk b88 (enc .u8 (zeroA 16)) 42, .ownL (CA .u8 16 (by decide)) y48_A y48_n y48_c y48 42, .obj l91 (.loop (rec91 .exhausted none)), .obj D91 (.deferred none), .blk b44 ([.int .i64 4]) 3, .blk b43 ([.slice y29_A y29_n y29_c]) 99, .obj l33 (.loop (rec33 .exhausted none)), .obj D33 (.deferred none), .blk b12 ([.int .i64 4]) 3, .blk b11 ([.slice a0_A a0_n a0_c]) 26, .blk b10 ([.slice y29_A y29_n y29_c]) 99, .blk b7 ([.pointer (some ⟨b6, 0, none⟩)]) 53, .blk b6 ([.pointer (some ⟨b5, 0, none⟩), .slice y48_A y48_n y48_c]) 98, .blk b5 (([] : List Value) ++ enc .u8 r4_0 ++ enc .u8 r4_1 ++ ([] : List Value)) 48]) rfl
         refine ⟨fun _ => trivial, ?_⟩
         refine wpS.fin rfl (kr272 _ _ ?_)
         have q0 := of_some h
         subst q0
         exact nj _ _ ⟨(hs.conv rfl), exg (by kernel_rfl)⟩
        refine wpS.tk 2 false (some 47) (.bool false) (yld_b (df hc) (fun _ => by kernel_rfl)) ?_
        refine wpS.fin rfl (kr271 _ _ (then_n (ks270 _ _ (wp_cond_f (by kernel_rfl) (xskip ?_)))))
        have q0 := of_some h
        subst q0
        exact nj _ _ ⟨(hs.conv rfl), exg (by kernel_rfl)⟩
       clear hj hs
       rintro a w ⟨hs, g266, rfl⟩
       refine then_n (ks267 _ _ (xregS [0, 1, 2] fun KR273 kr273 => ?_))
       refine wpS.qs [(0, 49, .pointer (some ⟨b6, 0, none⟩)), (1, 50, .int .i64 z97)] ?_
       refine wpS.only 2 (op_inline (d := (some 51)) (f := 86) (args := #[.pointer (some ⟨b6, 0, none⟩), .pointer (some ⟨b89, 0, none⟩), .int .i64 z97]) (by kernel_rfl) (fun _ => by kernel_rfl) fun R274 kI274 => ?_)
       refine calls_kn Try.func86 rfl fun Q274 qq274 qn274 => ?_
       refine wp_conv (a' := ⟨#[.pointer (some ⟨b6, 0, none⟩), .pointer (some ⟨b89, 0, none⟩), .int .i64 z97, undef, undef, undef, undef, undef, undef, undef, undef, undef, undef, undef, undef, undef, undef, undef, undef, undef, undef, undef, undef, undef, undef, undef, undef, undef, undef], []⟩) (by kernel_rfl) ?_
       refine xseq_k fun KS275 ks275 => ?_
       refine xregS [0, 1, 2, 3, 4, 5, 6, 7] fun KR276 kr276 => ?_
       refine wpS.qs [(0, 8, .pointer (some ⟨b6, 0, none⟩)), (1, 9, .pointer (some ⟨b6, 0, none⟩)), (2, 10, .pointer (some ⟨b6, 1, none⟩))] ?_
       refine wpS.tk 3 true (some 11) (.slice y48_A y48_n y48_c) (yld_load1 (e := 96) (o := 1) hs 15 rfl (by kernel_rfl) (by kernel_rfl) (by rfl) .grow) ?_
       refine wpS.q 4 12 (.int .i64 z97) ?_
       obtain ⟨h0, h⟩ := of_chk h
       obtain ⟨h1, h⟩ := of_chk h
       have i0_277 := h0
       have i1_277 := h1
       refine wpS.tk 5 false (some 13) (.pointer (adr y48_A ((z97 : Int).toNat * Cod.size (CA .u8 16 (by decide))))) (yld_idxL (C := (CA .u8 16 (by decide))) (t := 96) (e := 42) (k := .i64) (x := z97) (hs.rowL 4 rfl) (by kernel_rfl) (by kernel_rfl) (by kernel_rfl) h0 h1) ?_
       refine wpS.tk 6 true (some 14) (.agg (enc .u8 (rdL (CA .u8 16 (by decide)) y48 z97)).toArray) (yld_loadLA (C := (CA .u8 16 (by decide))) (e := 42) (x := z97) (hs.rowL 4 rfl) (by kernel_rfl) rfl (by kernel_rfl) (by kernel_rfl) i0_277 i1_277) ?_
       refine wpS.q 7 15 (.int .i64 0) ?_
       refine wpS.fin rfl (kr276 _ _ (then_n (ks275 _ _ ?_)))
       obtain ⟨y111, hy, hk7⟩ := of_bind h
       refine wp_exq (N := fun a w => St w0 [] [.blk b100 (enc .u8 y103) 42, .blk b90 (enc .u8 (zeroA 16)) 42, .blk b89 (enc .u8 y111) 42, .blk b88 (enc .u8 (zeroA 16)) 42, .ownL (CA .u8 16 (by decide)) y48_A y48_n y48_c y48 42, .obj l91 (.loop (rec91 .exhausted none)), .obj D91 (.deferred none), .blk b44 ([.int .i64 4]) 3, .blk b43 ([.slice y29_A y29_n y29_c]) 99, .obj l33 (.loop (rec33 .exhausted none)), .obj D33 (.deferred none), .blk b12 ([.int .i64 4]) 3, .blk b11 ([.slice a0_A a0_n a0_c]) 26, .blk b10 ([.slice y29_A y29_n y29_c]) 99, .blk b7 ([.pointer (some ⟨b6, 0, none⟩)]) 53, .blk b6 ([.pointer (some ⟨b5, 0, none⟩), .slice y48_A y48_n y48_c]) 98, .blk b5 (([] : List Value) ++ enc .u8 r4_0 ++ enc .u8 r4_1 ++ ([] : List Value)) 48] [.rowL (CA .u8 4 (by decide)) y29_A y29_n y29_c y29, .rowL (CI .u8) a0_A a0_n a0_c a0, .rowL (CI .u8) a1_A a1_n a1_c a1] w ∧ ∃ g279 : Nat → Value, a = ⟨#[.pointer (some ⟨b6, 0, none⟩), .pointer (some ⟨b89, 0, none⟩), .int .i64 z97, undef, undef, undef, (g279 6), (g279 7), .pointer (some ⟨b6, 0, none⟩), .pointer (some ⟨b6, 0, none⟩), .pointer (some ⟨b6, 1, none⟩), .slice y48_A y48_n y48_c, .int .i64 z97, .pointer (adr y48_A ((z97 : Int).toNat * Cod.size (CA .u8 16 (by decide)))), .agg (enc .u8 (rdL (CA .u8 16 (by decide)) y48 z97)).toArray, (g279 15), (g279 16), (g279 17), (g279 18), (g279 19), (g279 20), (g279 21), (g279 22), (g279 23), (g279 24), (g279 25), (g279 26), (g279 27), (g279 28)], []⟩) (fun N7 nn7 => ?_) ?_
       ·clear hk7
        refine xblock ?_
        refine wp_loop_k (fun n a w => ∃ z109 z110, aes_Block.l7 K n y48 z97 z109 z110 = some y111 ∧ St w0 [] [.blk b100 (enc .u8 y103) 42, .blk b90 (enc .u8 (zeroA 16)) 42, .blk b89 (enc .u8 z110) 42, .blk b88 (enc .u8 (zeroA 16)) 42, .ownL (CA .u8 16 (by decide)) y48_A y48_n y48_c y48 42, .obj l91 (.loop (rec91 .exhausted none)), .obj D91 (.deferred none), .blk b44 ([.int .i64 4]) 3, .blk b43 ([.slice y29_A y29_n y29_c]) 99, .obj l33 (.loop (rec33 .exhausted none)), .obj D33 (.deferred none), .blk b12 ([.int .i64 4]) 3, .blk b11 ([.slice a0_A a0_n a0_c]) 26, .blk b10 ([.slice y29_A y29_n y29_c]) 99, .blk b7 ([.pointer (some ⟨b6, 0, none⟩)]) 53, .blk b6 ([.pointer (some ⟨b5, 0, none⟩), .slice y48_A y48_n y48_c]) 98, .blk b5 (([] : List Value) ++ enc .u8 r4_0 ++ enc .u8 r4_1 ++ ([] : List Value)) 48] [.rowL (CA .u8 4 (by decide)) y29_A y29_n y29_c y29, .rowL (CI .u8) a0_A a0_n a0_c a0, .rowL (CI .u8) a1_A a1_n a1_c a1] w ∧ ∃ g278 : Nat → Value, a = ⟨#[.pointer (some ⟨b6, 0, none⟩), .pointer (some ⟨b89, 0, none⟩), .int .i64 z97, undef, undef, undef, (g278 6), (g278 7), .pointer (some ⟨b6, 0, none⟩), .pointer (some ⟨b6, 0, none⟩), .pointer (some ⟨b6, 1, none⟩), .slice y48_A y48_n y48_c, .int .i64 z97, .pointer (adr y48_A ((z97 : Int).toNat * Cod.size (CA .u8 16 (by decide)))), .agg (enc .u8 (rdL (CA .u8 16 (by decide)) y48 z97)).toArray, .int .i64 z109, (g278 16), (g278 17), (g278 18), (g278 19), (g278 20), (g278 21), (g278 22), (g278 23), (g278 24), (g278 25), (g278 26), (g278 27), (g278 28)], []⟩) K ⟨0, y107, hy, hs.conv rfl, exg (by kernel_rfl)⟩ ?_
        clear hs h hy
        rintro n a w ⟨z109, z110, h, hs, g278, rfl⟩ KL7 kl7
        cases n with
        | zero => exact nomatch (show none = some _ from h)
        | succ n =>
         refine xseq_k fun KS280 ks280 => ?_
         refine xregS [0] fun KR281 kr281 => ?_
         rcases of_if h with ⟨hc, h⟩ | ⟨hc, h⟩
         ·refine wpS.tk 0 false (some 16) (.bool true) (yld_b (dt hc) (fun _ => by kernel_rfl)) ?_
          refine wpS.fin rfl (kr281 _ _ (then_n (ks280 _ _ (xseq_k fun KS282 ks282 => (wp_cond_t (by kernel_rfl) (xskip (then_n (ks282 _ _ (xseq_k fun KS283 ks283 => (xblock (xseq_k fun KS284 ks284 => (xregS [0, 1, 2, 3] fun KR285 kr285 => ?_))))))))))))
          refine wpS.q 0 17 (.int .i64 z109) ?_
          obtain ⟨h0, h⟩ := of_chk h
          obtain ⟨h1, h⟩ := of_chk h
          refine wpS.tk 1 false (some 18) (.int .u8 (rd (rdL (CA .u8 16 (by decide)) y48 z97) z109)) (yld_at (t := 42) (e := 5) (k' := .i64) (by kernel_rfl) (by kernel_rfl) (by kernel_rfl) (by kernel_rfl) h0 h1) ?_
          refine wpS.q 2 6 (.int .i64 z109) ?_
          obtain ⟨x112, hx, h⟩ := of_bind h
          refine wpS.tk 3 false (some 7) (.int .u8 x112) (yld_int hx (fun _ => by kernel_rfl)) ?_
          refine wpS.fin rfl (kr285 _ _ (then_n (ks284 _ _ ?_)))
          refine wp_regG [9] (fun k => True) 10 (by kernel_rfl) (by kernel_rfl) (by kernel_rfl) fun KR286 kr286 => ?_
          have hs := hs.drawn1
          refine wpG.q 0 19 (.pointer (some ⟨b89, 0, none⟩)) ?_
          refine wpG.q 1 20 (.int .i64 z109) ?_
          refine wpG.q 2 21 (.pointer (some ⟨b89, 0, none⟩)) ?_
          obtain ⟨i0_287, h⟩ := of_chk h
          obtain ⟨i1_287, h⟩ := of_chk h
          refine wpG.tD 3 false (some 22) (.pointer (some ⟨b89, 0 + (z109 : Int).toNat * 1, none⟩)) (yld_idx (t := 42) (e := 5) (n := 16) (sz := 1) (k := .i64) (x := z109) (by kernel_rfl) (by kernel_rfl) (by kernel_rfl) i0_287 i1_287) ?_
          refine wpG.tD 4 true (some 23) (.int .u8 (rd z110 z109)) (yld_loadA (e := 5) (x := z109) hs 2 rfl (by kernel_rfl) (by kernel_rfl) i0_287 i1_287 .grow) ?_
          refine wpG.q 5 24 (.int .u8 x112) ?_
          refine wpG.q 6 25 (.int .u8 (ixor .u8 (rd z110 z109) x112)) ?_
          refine wpG.q 7 26 (.pointer (some ⟨b89, 0, none⟩)) ?_
          obtain ⟨i0_288, h⟩ := of_chk h
          obtain ⟨i1_288, h⟩ := of_chk h
          refine wpG.tD 8 false (some 27) (.pointer (some ⟨b89, 0 + (z109 : Int).toNat * 1, none⟩)) (yld_idx (t := 42) (e := 5) (n := 16) (sz := 1) (k := .i64) (x := z109) (by kernel_rfl) (by kernel_rfl) (by kernel_rfl) i0_288 i1_288) ?_
          obtain ⟨x113, hx, h⟩ := of_bind h
          refine wpG.only 9 (by kernel_rfl) (op_storeA (t := 5) (x := z109) (v := x113) (d := none) (by kernel_rfl) hs 2 rfl (by cases hx; kernel_rfl) (by kernel_rfl) i0_288 i1_288 ?_)
          intro w kp hs
          refine ⟨⟨fun hf => absurd hf (by decide), .all _ _⟩, ?_⟩
          refine wpG.fin (by kernel_rfl) rfl (kr286 _ _ ?_)
          refine inBlock_n (then_n (ks283 _ _ (xregS [0, 1] fun KR289 kr289 => ?_)))
          refine wpS.qs [(0, 28, .int .i64 (iadd .i64 z109 1)), (1, 15, .int .i64 (iadd .i64 z109 1))] ?_
          refine wpS.fin rfl (kr289 _ _ ?_)
          exact then_n (kl7 _ _ ⟨n, Nat.lt_succ_self n, (iadd .i64 z109 1), (wr z110 z109 x113), h, (hs.conv rfl), exg (by kernel_rfl)⟩)
         refine wpS.tk 0 false (some 16) (.bool false) (yld_b (df hc) (fun _ => by kernel_rfl)) ?_
         refine wpS.fin rfl (kr281 _ _ (then_n (ks280 _ _ (xseq_k fun KS290 ks290 => (wp_cond_f (by kernel_rfl) (xexit (then_x (then_x (inBlock_hit ?_)))))))))
         have q0 := of_some h
         subst q0
         exact exq_n (nn7 _ _ ⟨(hs.conv rfl), exg (by kernel_rfl)⟩)
       clear hs h hy
       rintro a w ⟨hs, g279, rfl⟩
       have h := hk7
       refine qn274 _ _ (post_nrm (by kernel_rfl) (run_results [] [] (by kernel_rfl) .nil) ?_)
       refine kI274 _ _ ?_
       refine ⟨fun _ => trivial, ?_⟩
       refine wpS.fin rfl (kr273 _ _ (inBlock_n (then_n (ks246 _ _ (xregS [0, 1, 2] fun KR291 kr291 => ?_)))))
       refine wpS.qs [(0, 20, .int .i64 z97), (1, 21, .int .i64 (iadd .i64 z97 1))] ?_
       obtain ⟨x114, hx, h⟩ := of_bind h
       refine wpS.tk 2 false (some 6) (.int .i64 x114) (yld_int hx (fun _ => by kernel_rfl)) ?_
       refine wpS.fin rfl (kr291 _ _ ?_)
       exact then_n (kl5 _ _ ⟨n, Nat.lt_succ_self n, x114, y111, h, (hs.drop (.cons _ (.cons_cons _ (.cons_cons _ (.cons_cons _ (.cons_cons _ (.cons_cons _ (.cons_cons _ (.cons_cons _ (.cons_cons _ (.cons_cons _ (.cons_cons _ (.cons_cons _ (.cons_cons _ (.cons_cons _ (.cons_cons _ (.cons_cons _ (.cons_cons _ .slnil)))))))))))))))))), exg (by kernel_rfl)⟩)
      refine wpS.tk 2 false (some 19) (.bool false) (yld_b (df hc) (fun _ => by kernel_rfl)) ?_
      refine wpS.fin rfl (kr245 _ _ (then_n (ks244 _ _ (wp_cond_f (by kernel_rfl) (xexit (then_x (then_x (inBlock_hit ?_))))))))
      have q0 := of_some h
      subst q0
      exact exq_n (nn5 _ _ ⟨(hs.conv rfl), exg (by kernel_rfl)⟩)
    clear hs h hy
    rintro a w ⟨hs, g242, rfl⟩
    have h := hk5
    refine then_n (ks238 _ _ (xseq_k fun KS292 ks292 => (xregS [0, 1] fun KR293 kr293 => ?_)))
    refine wpS.tk 0 true (some 52) (.agg (enc .u8 y99).toArray) (yld_loadW (e := 42) (n := 16) hs 1 rfl (by kernel_rfl) (by kernel_rfl) (by kernel_rfl) (by exact enc_len _ _) .grow) ?_
    refine wpS.only 1 (op_storeW (t := 42) (v := .agg (enc .u8 y99).toArray) (d := none) (by kernel_rfl) hs 0 rfl (vs := enc .u8 y99) (n := 16) (by kernel_rfl) (by kernel_rfl) (by kernel_rfl) (by simp [enc_len]) (by simp [enc_len]) (by intro u hu; exact enc_one _ _ u hu) ?_)
    intro w kp hs
    refine ⟨fun _ => trivial, ?_⟩
    refine wpS.fin rfl (kr293 _ _ (then_n (ks292 _ _ (xret ?_))))
    refine qq213 _ _ (post_ret (by kernel_rfl) (run_results [.cell 4 42] [.agg (enc .u8 y99).toArray] (by kernel_rfl) (.cons (res_cellN (n := 16) hs 0 rfl (by kernel_rfl) (by kernel_rfl) (by kernel_rfl) (by exact enc_len _ _)) .nil)) ?_)
    refine kI213 _ _ ?_
    refine ⟨⟨fun hf => absurd hf (by decide), (keepW hsB214 hs)⟩, ?_⟩
    have hsB294 := hs
    refine wpG.only 7 (by kernel_rfl) (op_storeW (t := 42) (v := .agg (enc .u8 y99).toArray) (d := none) (by kernel_rfl) hs 2 rfl (vs := enc .u8 y99) (n := 16) (by kernel_rfl) (by kernel_rfl) (by kernel_rfl) (by simp [enc_len]) (by simp [enc_len]) (by intro u hu; exact enc_one _ _ u hu) ?_)
    intro w kp hs
    refine ⟨⟨fun hf => absurd hf (by decide), (keepW hsB294 hs)⟩, ?_⟩
    refine wpG.fin (by kernel_rfl) rfl (kr10 _ _ ?_)
    have q0 := of_some h
    subst q0
    exact nj _ _ ⟨b88, ((hs.drop (.cons _ (.cons _ (.cons_cons _ (.cons _ (.cons _ (.cons _ (.cons _ (.cons _ (.cons _ (.cons _ (.cons _ (.cons _ (.cons _ (.cons _ (.cons _ (.cons _ .slnil))))))))))))))))).pickR (pick_cons 1 rfl (pick_cons 2 rfl pick_nil))), exg (by kernel_rfl)⟩
   refine (op_alloc (t := 42) (d := (some 7)) (by kernel_rfl) hs (enc .u8 (zeroA 16)) (.agg (enc .u8 (zeroA 16)).toArray) (by kernel_rfl) (by kernel_rfl) (by kernel_rfl) ?_)
   intro b115 w gw hs
   refine ⟨.of gw, ?_⟩
   have hsB296 := hs
   refine wpG.only 1 (by kernel_rfl) (op_inline (d := (some 15)) (f := 47) (args := #[.slice a0_A a0_n a0_c]) (by kernel_rfl) (fun _ => by kernel_rfl) fun R295 kI295 => ?_)
   refine calls_m Try.func47 rfl fun Q295 qq295 qn295 => ?_
   refine wp_conv (a' := ⟨#[.slice a0_A a0_n a0_c, undef, undef, undef, undef, undef, undef, undef, undef, undef, undef, undef, undef, undef, undef, undef, undef, undef, undef, undef, undef, undef, undef, undef, undef, undef, undef, undef, undef, undef, undef, undef, undef, undef, undef, undef, undef, undef, undef, undef, undef, undef, undef, undef, undef, undef, undef, undef, undef, undef, undef, undef, undef, undef, undef, undef, undef, undef, undef, undef, undef, undef, undef, undef, undef, undef, undef, undef, undef, undef, undef, undef, undef, undef, undef, undef, undef, undef, undef, undef, undef, undef, undef, undef, undef, undef, undef, undef, undef, undef, undef, undef, undef, undef, undef, undef, undef, undef, undef, undef, undef, undef, undef, undef, undef, undef, undef, undef, undef, undef, undef, undef, undef, undef, undef, undef, undef, undef, undef, undef, undef, undef], []⟩) (by kernel_rfl) ?_
   refine xseq_k fun KS297 ks297 => ?_
   refine xregS [0] fun KR298 kr298 => ?_
   refine wpS.q 0 2 (.pointer none) ?_
   refine wpS.fin rfl (kr298 _ _ (then_n (ks297 _ _ (xseq_k fun KS299 ks299 => (xregS [0, 1, 2, 3, 4] fun KR300 kr300 => ?_)))))
   obtain ⟨⟨r116_0, r116_1⟩, hg, h⟩ := of_bind h
   refine wpS.only 0 (op_callB (d := (some 14)) (by kernel_rfl) hs (fun _ => by kernel_rfl) (aes_made.ok hg _) ?_)
   intro b117 w gw hs
   refine ⟨fun _ => trivial, ?_⟩
   refine wpS.q 1 15 (.agg #[.pointer (some ⟨b117, 0, none⟩), .slice none 0 0]) ?_
   refine wpS.only 2 (op_box (t := 98) (v := .agg #[.pointer (some ⟨b117, 0, none⟩), .slice none 0 0]) (d := (some 16)) (by kernel_rfl) hs ([.pointer (some ⟨b117, 0, none⟩), .slice none 0 0]) (by kernel_rfl) (by kernel_rfl) ?_)
   intro b118 w gw hs
   refine ⟨fun _ => trivial, ?_⟩
   refine wpS.only 3 (op_alloc (t := 53) (d := (some 3)) (by kernel_rfl) hs ([.pointer none]) (.pointer none) (by kernel_rfl) (by kernel_rfl) (by kernel_rfl) ?_)
   intro b119 w gw hs
   refine ⟨fun _ => trivial, ?_⟩
   refine wpS.only 4 (op_store1 (t := 53) (o := 0) (v := .pointer (some ⟨b118, 0, none⟩)) (d := none) (by kernel_rfl) hs 0 rfl (by kernel_rfl) rfl (by kernel_rfl) (by simp) ?_)
   intro w kp hs
   refine ⟨fun _ => trivial, ?_⟩
   refine wpS.fin rfl (kr300 _ _ (then_n (ks299 _ _ (xseq_k fun KS301 ks301 => (xregS [0, 1, 2, 3] fun KR302 kr302 => ?_)))))
   refine wpS.q 0 17 (.slice a0_A a0_n a0_c) ?_
   refine wpS.tk 1 false (some 18) (.int .i64 (a0.length : Int)) (yld_lenL (hs.rowR 0 rfl) (fun _ => by kernel_rfl)) ?_
   refine wpS.q 2 19 (.int .i64 (iquo .i64 (a0.length : Int) 4)) ?_
   obtain ⟨x120, hx, h⟩ := of_bind h
   refine wpS.tk 3 false (some 4) (.int .i64 x120) (yld_int hx (fun _ => by kernel_rfl)) ?_
   refine wpS.fin rfl (kr302 _ _ (then_n (ks301 _ _ (xseq_k fun KS303 ks303 => (xregS [0, 1, 2, 3, 4, 5] fun KR304 kr304 => ?_)))))
   refine wpS.qs [(0, 20, .int .i64 x120), (1, 21, .int .i64 (iadd .i64 x120 7)), (2, 22, .int .i64 (imul .i64 4 (iadd .i64 x120 7)))] ?_
   obtain ⟨h0, h⟩ := of_chk h
   obtain ⟨h1, h⟩ := of_chk h
   refine wpS.only 3 (op_makeT0 (C := (CA .u8 4 (by decide))) (t := 99) (e := 101) (bytes := 4) (B := 35184372088832) (kl := .i64) (kc := .i64) (x := (imul .i64 4 (iadd .i64 x120 7))) (d := (some 23)) (by kernel_rfl) hs (by kernel_rfl) (by kernel_rfl) (by kernel_rfl) (by kernel_rfl) (by kernel_rfl) h0 h1 (by decide) (by decide) ?_)
   intro s121_A s121_n s121_c w gw hs
   refine ⟨fun _ => trivial, ?_⟩
   refine wpS.only 4 (op_alloc (t := 99) (d := (some 5)) (by kernel_rfl) hs ([.slice none 0 0]) (.slice none 0 0) (by kernel_rfl) (by kernel_rfl) (by kernel_rfl) ?_)
   intro b122 w gw hs
   refine ⟨fun _ => trivial, ?_⟩
   refine wpS.only 5 (op_store1 (t := 99) (o := 0) (v := .slice s121_A s121_n s121_c) (d := none) (by kernel_rfl) hs 0 rfl (by kernel_rfl) rfl (by kernel_rfl) (by simp) ?_)
   intro w kp hs
   refine ⟨fun _ => trivial, ?_⟩
   refine wpS.fin rfl (kr304 _ _ (then_n (ks303 _ _ (xseq_k fun KS305 ks305 => (xseq_k fun KS306 ks306 => (xregS [0, 1] fun KR307 kr307 => ?_))))))
   refine wpS.q 0 24 (.slice a0_A a0_n a0_c) ?_
   refine wpS.only 1 (op_inline (d := (some 25)) (f := 71) (args := #[.slice a0_A a0_n a0_c, .int .i64 4]) (by kernel_rfl) (fun _ => by kernel_rfl) fun R308 kI308 => ?_)
   refine calls_k Try.func71 rfl fun Q308 qq308 => ?_
   refine wp_conv (a' := ⟨#[.slice a0_A a0_n a0_c, .int .i64 4, undef, undef, undef, undef, undef, undef, undef], []⟩) (by kernel_rfl) ?_
   refine xseq_k fun KS309 ks309 => ?_
   refine xregS [0, 1, 2] fun KR310 kr310 => ?_
   refine wpS.only 0 (op_box (t := 26) (v := .slice a0_A a0_n a0_c) (d := (some 2)) (by kernel_rfl) hs ([.slice a0_A a0_n a0_c]) (by kernel_rfl) (by kernel_rfl) ?_)
   intro b123 w gw hs
   refine ⟨fun _ => trivial, ?_⟩
   refine wpS.only 1 (op_box (t := 3) (v := .int .i64 4) (d := (some 3)) (by kernel_rfl) hs ([.int .i64 4]) (by kernel_rfl) (by kernel_rfl) ?_)
   intro b124 w gw hs
   refine ⟨fun _ => trivial, ?_⟩
   refine wpS.q 2 4 (.nilFunc) ?_
   refine wpS.fin rfl (kr310 _ _ (then_n (ks309 _ _ (xseq_k fun KS311 ks311 => (xseq_k fun KS312 ks312 => (xregS [0, 1] fun KR313 kr313 => ?_))))))
   refine wpS.tk 0 true (some 5) (.int .i64 4) (yld_load1 (e := 3) (o := 0) hs 0 rfl (by kernel_rfl) (by kernel_rfl) (by rfl) .grow) ?_
   refine wpS.q 1 6 (.bool false) ?_
   refine wpS.fin rfl (kr313 _ _ (then_n (ks312 _ _ (wp_cond_f (by kernel_rfl) (xskip (then_n (ks311 _ _ (xseq_k fun KS314 ks314 => (xregS [0, 1] fun KR315 kr315 => ?_)))))))))
   refine wpS.qs [(0, 8, .func (.func 102) #[] #[.pointer (some ⟨b123, 0, none⟩), .pointer (some ⟨b124, 0, none⟩)]), (1, 4, .func (.func 102) #[] #[.pointer (some ⟨b123, 0, none⟩), .pointer (some ⟨b124, 0, none⟩)])] ?_
   refine wpS.fin rfl (kr315 _ _ (then_n (ks314 _ _ (xret ?_))))
   refine qq308 _ _ (post_ret (by kernel_rfl) (run_results [.tmp 4] [.func (.func 102) #[] #[.pointer (some ⟨b123, 0, none⟩), .pointer (some ⟨b124, 0, none⟩)]] (by kernel_rfl) (.cons (res_tmp (by kernel_rfl)) .nil)) ?_)
   refine kI308 _ _ ?_
   refine ⟨fun _ => trivial, ?_⟩
   refine wpS.fin rfl (kr307 _ _ (then_n (ks306 _ _ (xblock ?_))))
   refine wp_range (gf := 102) (lb := #[.pointer (some ⟨b123, 0, none⟩), .pointer (some ⟨b124, 0, none⟩)]) hs (by kernel_rfl) (fun _ _ => by kernel_rfl) fun l316 D316 rec316 w hok316 hs R316 kR316 => ?_
   refine calls_kn Try.func102 rfl fun Q316 qq316 qn316 => ?_
   refine wp_conv (a' := ⟨#[.func (.yield l316) #[] #[], .pointer (some ⟨b123, 0, none⟩), .pointer (some ⟨b124, 0, none⟩), undef, undef, undef, undef, undef, undef, undef, undef, undef, undef, undef, undef, undef, undef, undef, undef, undef, undef, undef, undef, undef, undef, undef, undef, undef, undef, undef, undef], []⟩) (by kernel_rfl) ?_
   refine xseq_k fun KS317 ks317 => ?_
   refine xregS [0] fun KR318 kr318 => ?_
   refine wpS.q 0 4 (.int .i64 0) ?_
   refine wpS.fin rfl (kr318 _ _ (then_n (ks317 _ _ ?_)))
   obtain ⟨y129, hy, hk0⟩ := of_bind h
   refine wp_exq (N := fun a w => ∃ (y129_A : Option Addr) (y129_n : Nat) (y129_c : Nat), St w0 [] [.obj l316 (.loop (rec316 .ready none)), .obj D316 (.deferred (some [])), .blk b124 ([.int .i64 4]) 3, .blk b123 ([.slice a0_A a0_n a0_c]) 26, .blk b122 ([.slice y129_A y129_n y129_c]) 99, .ownL (CA .u8 4 (by decide)) y129_A y129_n y129_c y129 101, .blk b119 ([.pointer (some ⟨b118, 0, none⟩)]) 53, .blk b118 ([.pointer (some ⟨b117, 0, none⟩), .slice none 0 0]) 98, .blk b117 (([] : List Value) ++ enc .u8 r116_0 ++ enc .u8 r116_1 ++ ([] : List Value)) 48, .blk b115 (enc .u8 (zeroA 16)) 42] [.rowL (CI .u8) a0_A a0_n a0_c a0, .rowL (CI .u8) a1_A a1_n a1_c a1] w ∧ ∃ g320 : Nat → Value, a = ⟨#[.func (.yield l316) #[] #[], .pointer (some ⟨b123, 0, none⟩), .pointer (some ⟨b124, 0, none⟩), undef, (g320 4), (g320 5), (g320 6), (g320 7), (g320 8), (g320 9), (g320 10), (g320 11), (g320 12), (g320 13), (g320 14), (g320 15), (g320 16), (g320 17), (g320 18), (g320 19), (g320 20), (g320 21), (g320 22), (g320 23), (g320 24), (g320 25), (g320 26), (g320 27), (g320 28), (g320 29), (g320 30)], []⟩) (fun N0 nn0 => ?_) ?_
   ·clear hk0
    refine xblock ?_
    refine wp_loop_k (fun n a w => ∃ z125 z127, ∃ (z127_A : Option Addr) (z127_n : Nat) (z127_c : Nat), aes_Block.l0 K n a0 z125 z127 = some y129 ∧ St w0 [] [.obj l316 (.loop (rec316 .ready none)), .obj D316 (.deferred (some [])), .blk b124 ([.int .i64 4]) 3, .blk b123 ([.slice a0_A a0_n a0_c]) 26, .blk b122 ([.slice z127_A z127_n z127_c]) 99, .ownL (CA .u8 4 (by decide)) z127_A z127_n z127_c z127 101, .blk b119 ([.pointer (some ⟨b118, 0, none⟩)]) 53, .blk b118 ([.pointer (some ⟨b117, 0, none⟩), .slice none 0 0]) 98, .blk b117 (([] : List Value) ++ enc .u8 r116_0 ++ enc .u8 r116_1 ++ ([] : List Value)) 48, .blk b115 (enc .u8 (zeroA 16)) 42] [.rowL (CI .u8) a0_A a0_n a0_c a0, .rowL (CI .u8) a1_A a1_n a1_c a1] w ∧ ∃ g319 : Nat → Value, a = ⟨#[.func (.yield l316) #[] #[], .pointer (some ⟨b123, 0, none⟩), .pointer (some ⟨b124, 0, none⟩), undef, .int .i64 z125, (g319 5), (g319 6), (g319 7), (g319 8), (g319 9), (g319 10), (g319 11), (g319 12), (g319 13), (g319 14), (g319 15), (g319 16), (g319 17), (g319 18), (g319 19), (g319 20), (g319 21), (g319 22), (g319 23), (g319 24), (g319 25), (g319 26), (g319 27), (g319 28), (g319 29), (g319 30)], []⟩) K ⟨0, ([] : List (Arr 4)), s121_A, s121_n, s121_c, hy, hs.conv rfl, exg (by kernel_rfl)⟩ ?_
    clear hs h hy
    rintro n a w ⟨z125, z127, z127_A, z127_n, z127_c, h, hs, g319, rfl⟩ KL0 kl0
    cases n with
    | zero => exact nomatch (show none = some _ from h)
    | succ n =>
     refine xseq_k fun KS321 ks321 => ?_
     refine xseq_k fun KS322 ks322 => ?_
     refine xregS [0, 1, 2, 3] fun KR323 kr323 => ?_
     refine wpS.q 0 6 (.int .i64 z125) ?_
     refine wpS.tk 1 true (some 7) (.slice a0_A a0_n a0_c) (yld_load1 (e := 26) (o := 0) hs 3 rfl (by kernel_rfl) (by kernel_rfl) (by rfl) .grow) ?_
     refine wpS.tk 2 false (some 8) (.int .i64 (a0.length : Int)) (yld_lenL (hs.rowR 0 rfl) (fun _ => by kernel_rfl)) ?_
     rcases of_if h with ⟨hc, h⟩ | ⟨hc, h⟩
     ·refine wpS.tk 3 false (some 9) (.bool true) (yld_b (dt hc) (fun _ => by kernel_rfl)) ?_
      refine wpS.fin rfl (kr323 _ _ (then_n (ks322 _ _ (wp_cond_t (by kernel_rfl) (xskip (then_n (ks321 _ _ (xseq_k fun KS324 ks324 => (xblock (xseq_k fun KS325 ks325 => ?_))))))))))
      refine wp_regG [] (fun k => True) 7 (by kernel_rfl) (by kernel_rfl) (by kernel_rfl) fun KR326 kr326 => ?_
      have hs := hs.drawn1
      refine wpG.tD 0 true (some 13) (.int .i64 4) (yld_load1 (e := 3) (o := 0) hs 2 rfl (by kernel_rfl) (by kernel_rfl) (by rfl) .grow) ?_
      refine wpG.tD 1 true (some 14) (.slice a0_A a0_n a0_c) (yld_load1 (e := 26) (o := 0) hs 3 rfl (by kernel_rfl) (by kernel_rfl) (by rfl) .grow) ?_
      refine wpG.q 2 15 (.int .i64 z125) ?_
      obtain ⟨h0, h⟩ := of_chk h
      obtain ⟨h1, h⟩ := of_chk h
      obtain ⟨h2, h⟩ := of_chk h
      obtain ⟨s130_A, hA⟩ : ∃ A, A = if a0_c = (z125 : Int).toNat then a0_A else adr a0_A ((z125 : Int).toNat * Cod.size (CI .u8)) := ⟨_, rfl⟩
      obtain ⟨s130_n, hn⟩ : ∃ n, n = ((a0.length : Int) : Int).toNat - (z125 : Int).toNat := ⟨_, rfl⟩
      obtain ⟨s130_c, hc⟩ : ∃ c, c = a0_c - (z125 : Int).toNat := ⟨_, rfl⟩
      refine wpG.tD 3 false (some 16) (.slice s130_A s130_n s130_c) (yld_sub (C := (CI .u8)) (t := 26) (e := 5) (low := some (.int .i64 z125)) (high := none) (lo := z125) (hi := (a0.length : Int)) (hs.rowR 0 rfl) (by kernel_rfl) (by kernel_rfl) (by kernel_rfl) (.inr ⟨_, rfl⟩) (.inl ⟨rfl, rfl⟩) h0 h1 h2 hA hn hc) ?_
      have hs := hs.addSub (C := (CI .u8)) 0 rfl h0 h1 h2 hA hn hc
      refine wpG.tD 4 false (some 17) (.int .i64 ((subL a0 z125 (a0.length : Int)).length : Int)) (yld_lenL (hs.rowR 0 rfl) (fun _ => by kernel_rfl)) ?_
      refine wpG.q 5 18 (.int .i64 (imin 4 ((subL a0 z125 (a0.length : Int)).length : Int))) ?_
      obtain ⟨x131, hx, h⟩ := of_bind h
      refine wpG.tD 6 false (some 5) (.int .i64 x131) (yld_int hx (fun _ => by kernel_rfl)) ?_
      refine wpG.fin (by kernel_rfl) rfl (kr326 _ _ ?_)
      refine then_n (ks325 _ _ (xseq_k fun KS327 ks327 => (xregS [0, 1, 2, 3, 4, 5, 6, 7, 8, 9, 10, 11] fun KR328 kr328 => ?_)))
      refine wpS.q 0 19 (.func (.yield l316) #[] #[]) ?_
      refine wpS.tk 1 true (some 20) (.slice a0_A a0_n a0_c) (yld_load1 (e := 26) (o := 0) hs 3 rfl (by kernel_rfl) (by kernel_rfl) (by rfl) .grow) ?_
      refine wpS.qs [(2, 21, .int .i64 z125), (3, 22, .int .i64 z125), (4, 23, .int .i64 x131), (5, 24, .int .i64 (iadd .i64 z125 x131)), (6, 25, .int .i64 z125), (7, 26, .int .i64 x131), (8, 27, .int .i64 (iadd .i64 z125 x131))] ?_
      obtain ⟨h0, h⟩ := of_chk h
      obtain ⟨h1, h⟩ := of_chk h
      obtain ⟨h2, h⟩ := of_chk h
      obtain ⟨h3, h⟩ := of_chk h
      obtain ⟨s132_A, hA⟩ : ∃ A, A = if ((iadd .i64 z125 x131) : Int).toNat = (z125 : Int).toNat then a0_A else adr a0_A ((z125 : Int).toNat * Cod.size (CI .u8)) := ⟨_, rfl⟩
      obtain ⟨s132_n, hn⟩ : ∃ n, n = ((iadd .i64 z125 x131) : Int).toNat - (z125 : Int).toNat := ⟨_, rfl⟩
      obtain ⟨s132_c, hc⟩ : ∃ c, c = ((iadd .i64 z125 x131) : Int).toNat - (z125 : Int).toNat := ⟨_, rfl⟩
      refine wpS.tk 9 false (some 28) (.slice s132_A s132_n s132_c) (yld_sub3 (mx := (iadd .i64 z125 x131)) (k := .i64) (C := (CI .u8)) (t := 26) (e := 5) (low := some (.int .i64 z125)) (high := some (.int .i64 (iadd .i64 z125 x131))) (lo := z125) (hi := (iadd .i64 z125 x131)) (hs.rowR 1 rfl) (by kernel_rfl) (by kernel_rfl) (by kernel_rfl) (.inr ⟨_, rfl⟩) ⟨_, rfl⟩ h0 h1 h2 h3 hA hn hc) ?_
      have hs := hs.addSub3 (C := (CI .u8)) 1 rfl h0 h1 h2 h3 hA hn hc
      refine wpS.onlyR 10 (op_yield (d := (some 29)) (by kernel_rfl) hs 0 rfl hok316 #[.slice s132_A s132_n s132_c] (by kernel_rfl) rfl (tm := #[.slice a0_A a0_n a0_c, undef, .pointer none, .pointer (some ⟨b119, 0, none⟩), .int .i64 x120, .pointer (some ⟨b122, 0, none⟩), undef, undef, undef, undef, undef, undef, undef, undef, .pointer (some ⟨b117, 0, none⟩), .agg #[.pointer (some ⟨b117, 0, none⟩), .slice none 0 0], .pointer (some ⟨b118, 0, none⟩), .slice a0_A a0_n a0_c, .int .i64 (a0.length : Int), .int .i64 (iquo .i64 (a0.length : Int) 4), .int .i64 x120, .int .i64 (iadd .i64 x120 7), .int .i64 (imul .i64 4 (iadd .i64 x120 7)), .slice s121_A s121_n s121_c, .slice a0_A a0_n a0_c, .func (.func 102) #[] #[.pointer (some ⟨b123, 0, none⟩), .pointer (some ⟨b124, 0, none⟩)], .slice s132_A s132_n s132_c, undef, undef, undef, undef, undef, undef, undef, undef, undef, undef, undef, undef, undef, undef, undef, undef, undef, undef, undef, undef, undef, undef, undef, undef, undef, undef, undef, undef, undef, undef, undef, undef, undef, undef, undef, undef, undef, undef, undef, undef, undef, undef, undef, undef, undef, undef, undef, undef, undef, undef, undef, undef, undef, undef, undef, undef, undef, undef, undef, undef, undef, undef, undef, undef, undef, undef, undef, undef, undef, undef, undef, undef, undef, undef, undef, undef, undef, undef, undef, undef, undef, undef, undef, undef, undef, undef, undef, undef, undef, undef, undef, undef, undef, undef, undef]) (by kernel_rfl) (by kernel_rfl) fun K329 k329 => ?_)
      refine xregS [0] fun KR330 kr330 => ?_
      refine wpS.q 0 6 (.slice s132_A s132_n s132_c) ?_
      refine wpS.fin rfl (kr330 _ _ (then_n (k329 _ _ 0 _ _ hs rfl fun w Qr329 hs qr329 => ?_)))
      dsimp only [List.set] at hs
      refine xblock ?_
      refine wp_regG [5, 6] (fun k => True) 7 (by kernel_rfl) (by kernel_rfl) (by kernel_rfl) fun KR331 kr331 => ?_
      have hs := hs.drawn1
      refine wpG.tD 0 true (some 27) (.slice z127_A z127_n z127_c) (yld_load1 (e := 99) (o := 0) hs 4 rfl (by kernel_rfl) (by kernel_rfl) (by rfl) .grow) ?_
      refine wpG.q 1 28 (.slice s132_A s132_n s132_c) ?_
      obtain ⟨i0_332, h⟩ := of_chk h
      refine wpG.tD 2 false (some 29) (.pointer s132_A) (yld_toArr (t := 101) (e := 5) (n := 4) (len := s132_n) (c := s132_c) (by kernel_rfl) (by kernel_rfl) (by rw [RowL.length (C := (CI .u8)) (hs.rowR 0 rfl)]; exact i0_332)) ?_
      refine wpG.take [3, 4, 5, 6] 3 true (some 30) (.agg (enc .u8 (arrL 4 (subL a0 z125 (iadd .i64 z125 x131)))).toArray) (by kernel_rfl) (by kernel_rfl) (yld_loadArr (e := 101) (n := 4) (by decide) (hs.rowR 0 rfl) i0_332 (by kernel_rfl) (by kernel_rfl) (by kernel_rfl)) ?_
      refine wpG.only 4 (by kernel_rfl) (op_litL (C := (CA .u8 4 (by decide))) (t := 99) (e := 101) (len := 1) (parts := #[(0, .agg (enc .u8 (arrL 4 (subL a0 z125 (iadd .i64 z125 x131)))).toArray)]) (l := [(arrL 4 (subL a0 z125 (iadd .i64 z125 x131)))]) (d := (some 31)) (by kernel_rfl) hs (by kernel_rfl) rfl (by kernel_rfl) (by kernel_rfl) (z := .agg (enc .u8 (zeroA 4)).toArray) (by kernel_rfl) rfl (by decide) (by decide) ?_)
      intro s133_A s133_n s133_c w gw hs
      refine ⟨.of gw, ?_⟩
      obtain ⟨h0, h⟩ := of_chk h
      refine wpG.only 5 (by kernel_rfl) (op_appendT (C := (CA .u8 4 (by decide))) (t := 99) (ty := 99) (e := 101) (bytes := 4) (B := 35184372088832) (d := (some 32)) (by kernel_rfl) hs 6 rfl (hs.rowL 0 rfl) (by kernel_rfl) (by kernel_rfl) (by kernel_rfl) (by kernel_rfl) (by kernel_rfl) h0 (by decide) (by decide) ?_)
      intro s134_A s134_n s134_c w hs
      refine ⟨⟨fun hf => absurd hf (by decide), .all _ _⟩, ?_⟩
      refine wpG.only 6 (by kernel_rfl) (op_store1 (t := 99) (o := 0) (v := .slice s134_A s134_n s134_c) (d := none) (by kernel_rfl) hs 5 rfl (by kernel_rfl) rfl (by kernel_rfl) (by simp) ?_)
      intro w kp hs
      refine ⟨⟨fun hf => absurd hf (by decide), .all _ _⟩, ?_⟩
      refine wpG.fin (by kernel_rfl) rfl (kr331 _ _ ?_)
      refine inBlock_n ?_
      refine round_n qr329 hs 1 rfl fun w hs => ?_
      dsimp only [List.set] at hs
      refine ⟨fun _ => trivial, ?_⟩
      refine wpS.q 11 30 (.bool false) ?_
      refine wpS.fin rfl (kr328 _ _ (then_n (ks327 _ _ (wp_cond_f (by kernel_rfl) (xskip (inBlock_n (then_n (ks324 _ _ (xregS [0, 1, 2, 3] fun KR333 kr333 => ?_)))))))))
      refine wpS.q 0 10 (.int .i64 z125) ?_
      refine wpS.tk 1 true (some 11) (.int .i64 4) (yld_load1 (e := 3) (o := 0) hs 3 rfl (by kernel_rfl) (by kernel_rfl) (by rfl) .grow) ?_
      refine wpS.q 2 12 (.int .i64 (iadd .i64 z125 4)) ?_
      obtain ⟨x135, hx, h⟩ := of_bind h
      refine wpS.tk 3 false (some 4) (.int .i64 x135) (yld_int hx (fun _ => by kernel_rfl)) ?_
      refine wpS.fin rfl (kr333 _ _ ?_)
      exact then_n (kl0 _ _ ⟨n, Nat.lt_succ_self n, x135, (z127 ++ ([(arrL 4 (subL a0 z125 (iadd .i64 z125 x131)))] : List (Arr 4))), s134_A, s134_n, s134_c, h, ((hs.drop (.cons _ (.cons_cons _ (.cons_cons _ (.cons_cons _ (.cons_cons _ (.cons_cons _ (.cons_cons _ (.cons_cons _ (.cons_cons _ (.cons_cons _ (.cons_cons _ .slnil)))))))))))).pickR (pick_cons 2 rfl (pick_cons 3 rfl pick_nil))), exg (by kernel_rfl)⟩)
     refine wpS.tk 3 false (some 9) (.bool false) (yld_b (df hc) (fun _ => by kernel_rfl)) ?_
     refine wpS.fin rfl (kr323 _ _ (then_n (ks322 _ _ (wp_cond_f (by kernel_rfl) (xexit (then_x (then_x (inBlock_hit ?_))))))))
     have q0 := of_some h
     subst q0
     exact exq_n (nn0 _ _ ⟨z127_A, z127_n, z127_c, (hs.conv rfl), exg (by kernel_rfl)⟩)
   clear hs h hy
   rintro a w ⟨y129_A, y129_n, y129_c, hs, g320, rfl⟩
   have h := hk0
   refine qn316 _ _ (post_nrm (by kernel_rfl) (run_results [] [] (by kernel_rfl) .nil) ?_)
   refine range_n (a1 := ⟨#[.slice a0_A a0_n a0_c, undef, .pointer none, .pointer (some ⟨b119, 0, none⟩), .int .i64 x120, .pointer (some ⟨b122, 0, none⟩), undef, undef, undef, undef, undef, undef, undef, undef, .pointer (some ⟨b117, 0, none⟩), .agg #[.pointer (some ⟨b117, 0, none⟩), .slice none 0 0], .pointer (some ⟨b118, 0, none⟩), .slice a0_A a0_n a0_c, .int .i64 (a0.length : Int), .int .i64 (iquo .i64 (a0.length : Int) 4), .int .i64 x120, .int .i64 (iadd .i64 x120 7), .int .i64 (imul .i64 4 (iadd .i64 x120 7)), .slice s121_A s121_n s121_c, .slice a0_A a0_n a0_c, .func (.func 102) #[] #[.pointer (some ⟨b123, 0, none⟩), .pointer (some ⟨b124, 0, none⟩)], undef, undef, undef, undef, undef, undef, undef, undef, undef, undef, undef, undef, undef, undef, undef, undef, undef, undef, undef, undef, undef, undef, undef, undef, undef, undef, undef, undef, undef, undef, undef, undef, undef, undef, undef, undef, undef, undef, undef, undef, undef, undef, undef, undef, undef, undef, undef, undef, undef, undef, undef, undef, undef, undef, undef, undef, undef, undef, undef, undef, undef, undef, undef, undef, undef, undef, undef, undef, undef, undef, undef, undef, undef, undef, undef, undef, undef, undef, undef, undef, undef, undef, undef, undef, undef, undef, undef, undef, undef, undef, undef, undef, undef, undef, undef, undef], [lmark D316]⟩) kR316 (by kernel_rfl) hs 0 rfl fun w hs => ?_
   dsimp only [List.set] at hs
   refine inBlock_n (then_n (ks305 _ _ (xseq_k fun KS334 ks334 => (xseq_k fun KS335 ks335 => (xregS [0, 1, 2] fun KR336 kr336 => ?_)))))
   refine wpS.qs [(0, 33, .int .i64 x120), (1, 7, .int .i64 x120), (2, 8, .int .u8 1)] ?_
   refine wpS.fin rfl (kr336 _ _ (then_n (ks335 _ _ ?_)))
   obtain ⟨y141, hy, hk1⟩ := of_bind h
   refine wp_exq (N := fun a w => ∃ (y141_A : Option Addr) (y141_n : Nat) (y141_c : Nat), St w0 [] [.obj l316 (.loop (rec316 .exhausted none)), .obj D316 (.deferred (some [])), .blk b124 ([.int .i64 4]) 3, .blk b123 ([.slice a0_A a0_n a0_c]) 26, .blk b122 ([.slice y141_A y141_n y141_c]) 99, .ownL (CA .u8 4 (by decide)) y141_A y141_n y141_c y141 101, .blk b119 ([.pointer (some ⟨b118, 0, none⟩)]) 53, .blk b118 ([.pointer (some ⟨b117, 0, none⟩), .slice none 0 0]) 98, .blk b117 (([] : List Value) ++ enc .u8 r116_0 ++ enc .u8 r116_1 ++ ([] : List Value)) 48, .blk b115 (enc .u8 (zeroA 16)) 42] [.rowL (CI .u8) a0_A a0_n a0_c a0, .rowL (CI .u8) a1_A a1_n a1_c a1] w ∧ ∃ g338 : Nat → Value, a = ⟨#[.slice a0_A a0_n a0_c, undef, .pointer none, .pointer (some ⟨b119, 0, none⟩), .int .i64 x120, .pointer (some ⟨b122, 0, none⟩), undef, (g338 7), (g338 8), (g338 9), undef, undef, undef, undef, .pointer (some ⟨b117, 0, none⟩), .agg #[.pointer (some ⟨b117, 0, none⟩), .slice none 0 0], .pointer (some ⟨b118, 0, none⟩), .slice a0_A a0_n a0_c, .int .i64 (a0.length : Int), .int .i64 (iquo .i64 (a0.length : Int) 4), .int .i64 x120, .int .i64 (iadd .i64 x120 7), .int .i64 (imul .i64 4 (iadd .i64 x120 7)), .slice s121_A s121_n s121_c, .slice a0_A a0_n a0_c, .func (.func 102) #[] #[.pointer (some ⟨b123, 0, none⟩), .pointer (some ⟨b124, 0, none⟩)], undef, undef, undef, undef, undef, undef, undef, .int .i64 x120, (g338 34), (g338 35), (g338 36), (g338 37), (g338 38), (g338 39), (g338 40), (g338 41), (g338 42), (g338 43), (g338 44), (g338 45), (g338 46), (g338 47), (g338 48), (g338 49), (g338 50), (g338 51), (g338 52), (g338 53), (g338 54), (g338 55), (g338 56), (g338 57), (g338 58), (g338 59), (g338 60), (g338 61), (g338 62), (g338 63), (g338 64), (g338 65), (g338 66), (g338 67), (g338 68), (g338 69), (g338 70), (g338 71), (g338 72), (g338 73), (g338 74), (g338 75), (g338 76), (g338 77), (g338 78), (g338 79), (g338 80), (g338 81), (g338 82), (g338 83), (g338 84), (g338 85), (g338 86), (g338 87), (g338 88), (g338 89), (g338 90), (g338 91), (g338 92), (g338 93), (g338 94), undef, undef, undef, undef, undef, undef, undef, undef, undef, undef, undef, undef, undef, undef, undef, undef, undef, undef, undef, undef, undef, undef, undef, undef, undef, undef, undef], [lmark D316]⟩) (fun N1 nn1 => ?_) ?_
   ·clear hk1
    refine xblock ?_
    refine wp_loop_k (fun n a w => ∃ z136 z137 z139, ∃ (z139_A : Option Addr) (z139_n : Nat) (z139_c : Nat), aes_Block.l1 K n r116_0 r116_1 x120 z136 z137 z139 = some y141 ∧ St w0 [] [.obj l316 (.loop (rec316 .exhausted none)), .obj D316 (.deferred (some [])), .blk b124 ([.int .i64 4]) 3, .blk b123 ([.slice a0_A a0_n a0_c]) 26, .blk b122 ([.slice z139_A z139_n z139_c]) 99, .ownL (CA .u8 4 (by decide)) z139_A z139_n z139_c z139 101, .blk b119 ([.pointer (some ⟨b118, 0, none⟩)]) 53, .blk b118 ([.pointer (some ⟨b117, 0, none⟩), .slice none 0 0]) 98, .blk b117 (([] : List Value) ++ enc .u8 r116_0 ++ enc .u8 r116_1 ++ ([] : List Value)) 48, .blk b115 (enc .u8 (zeroA 16)) 42] [.rowL (CI .u8) a0_A a0_n a0_c a0, .rowL (CI .u8) a1_A a1_n a1_c a1] w ∧ ∃ g337 : Nat → Value, a = ⟨#[.slice a0_A a0_n a0_c, undef, .pointer none, .pointer (some ⟨b119, 0, none⟩), .int .i64 x120, .pointer (some ⟨b122, 0, none⟩), undef, .int .i64 z136, .int .u8 z137, (g337 9), undef, undef, undef, undef, .pointer (some ⟨b117, 0, none⟩), .agg #[.pointer (some ⟨b117, 0, none⟩), .slice none 0 0], .pointer (some ⟨b118, 0, none⟩), .slice a0_A a0_n a0_c, .int .i64 (a0.length : Int), .int .i64 (iquo .i64 (a0.length : Int) 4), .int .i64 x120, .int .i64 (iadd .i64 x120 7), .int .i64 (imul .i64 4 (iadd .i64 x120 7)), .slice s121_A s121_n s121_c, .slice a0_A a0_n a0_c, .func (.func 102) #[] #[.pointer (some ⟨b123, 0, none⟩), .pointer (some ⟨b124, 0, none⟩)], undef, undef, undef, undef, undef, undef, undef, .int .i64 x120, (g337 34), (g337 35), (g337 36), (g337 37), (g337 38), (g337 39), (g337 40), (g337 41), (g337 42), (g337 43), (g337 44), (g337 45), (g337 46), (g337 47), (g337 48), (g337 49), (g337 50), (g337 51), (g337 52), (g337 53), (g337 54), (g337 55), (g337 56), (g337 57), (g337 58), (g337 59), (g337 60), (g337 61), (g337 62), (g337 63), (g337 64), (g337 65), (g337 66), (g337 67), (g337 68), (g337 69), (g337 70), (g337 71), (g337 72), (g337 73), (g337 74), (g337 75), (g337 76), (g337 77), (g337 78), (g337 79), (g337 80), (g337 81), (g337 82), (g337 83), (g337 84), (g337 85), (g337 86), (g337 87), (g337 88), (g337 89), (g337 90), (g337 91), (g337 92), (g337 93), (g337 94), undef, undef, undef, undef, undef, undef, undef, undef, undef, undef, undef, undef, undef, undef, undef, undef, undef, undef, undef, undef, undef, undef, undef, undef, undef, undef, undef], [lmark D316]⟩) K ⟨x120, 1, y129, y129_A, y129_n, y129_c, hy, hs.conv rfl, exg (by kernel_rfl)⟩ ?_
    clear hs h hy
    rintro n a w ⟨z136, z137, z139, z139_A, z139_n, z139_c, h, hs, g337, rfl⟩ KL1 kl1
    cases n with
    | zero => exact nomatch (show none = some _ from h)
    | succ n =>
     refine xseq_k fun KS339 ks339 => ?_
     refine xseq_k fun KS340 ks340 => ?_
     refine xregS [0, 1, 2, 3, 4] fun KR341 kr341 => ?_
     refine wpS.qs [(0, 34, .int .i64 z136), (1, 35, .int .i64 x120), (2, 36, .int .i64 (iadd .i64 x120 7)), (3, 37, .int .i64 (imul .i64 4 (iadd .i64 x120 7)))] ?_
     rcases of_if h with ⟨hc, h⟩ | ⟨hc, h⟩
     ·refine wpS.tk 4 false (some 38) (.bool true) (yld_b (dt hc) (fun _ => by kernel_rfl)) ?_
      refine wpS.fin rfl (kr341 _ _ (then_n (ks340 _ _ (wp_cond_t (by kernel_rfl) (xskip (then_n (ks339 _ _ (xseq_k fun KS342 ks342 => (xblock (xseq_k fun KS343 ks343 => (xregS [0, 1, 2, 3, 4, 5, 6] fun KR344 kr344 => ?_)))))))))))
      refine wpS.tk 0 true (some 41) (.slice z139_A z139_n z139_c) (yld_load1 (e := 99) (o := 0) hs 4 rfl (by kernel_rfl) (by kernel_rfl) (by rfl) .grow) ?_
      refine wpS.qs [(1, 42, .int .i64 z136), (2, 43, .int .i64 (isub .i64 z136 1))] ?_
      obtain ⟨x142, hx, h⟩ := of_bind h
      have hx := of_some hx
      subst hx
      obtain ⟨h0, h⟩ := of_chk h
      obtain ⟨h1, h⟩ := of_chk h
      have i0_345 := h0
      have i1_345 := h1
      refine wpS.tk 3 false (some 44) (.pointer (adr z139_A (((isub .i64 z136 1) : Int).toNat * Cod.size (CA .u8 4 (by decide))))) (yld_idxL (C := (CA .u8 4 (by decide))) (t := 99) (e := 101) (k := .i64) (x := (isub .i64 z136 1)) (hs.rowL 5 rfl) (by kernel_rfl) (by kernel_rfl) (by kernel_rfl) h0 h1) ?_
      refine wpS.tk 4 true (some 45) (.agg (enc .u8 (rdL (CA .u8 4 (by decide)) z139 (isub .i64 z136 1))).toArray) (yld_loadLA (C := (CA .u8 4 (by decide))) (e := 101) (x := (isub .i64 z136 1)) (hs.rowL 5 rfl) (by kernel_rfl) rfl (by kernel_rfl) (by kernel_rfl) i0_345 i1_345) ?_
      refine wpS.only 5 (op_alloc (t := 101) (d := (some 9)) (by kernel_rfl) hs (enc .u8 (zeroA 4)) (.agg (enc .u8 (zeroA 4)).toArray) (by kernel_rfl) (by kernel_rfl) (by kernel_rfl) ?_)
      intro b143 w gw hs
      refine ⟨fun _ => trivial, ?_⟩
      refine wpS.only 6 (op_storeW (t := 101) (v := .agg (enc .u8 (rdL (CA .u8 4 (by decide)) z139 (isub .i64 z136 1))).toArray) (d := none) (by kernel_rfl) hs 0 rfl (vs := enc .u8 (rdL (CA .u8 4 (by decide)) z139 (isub .i64 z136 1))) (n := 4) (by kernel_rfl) (by kernel_rfl) (by kernel_rfl) (by simp [enc_len]) (by simp [enc_len]) (by intro u hu; exact enc_one _ _ u hu) ?_)
      intro w kp hs
      refine ⟨fun _ => trivial, ?_⟩
      refine wpS.fin rfl (kr344 _ _ (then_n (ks343 _ _ ?_)))
      obtain ⟨⟨y144, y145⟩, hj, h⟩ := of_bind h
      refine xseq_k fun KS347 ks347 => wp_join (N := fun a w => St w0 [] [.blk b143 (enc .u8 y145) 101, .obj l316 (.loop (rec316 .exhausted none)), .obj D316 (.deferred (some [])), .blk b124 ([.int .i64 4]) 3, .blk b123 ([.slice a0_A a0_n a0_c]) 26, .blk b122 ([.slice z139_A z139_n z139_c]) 99, .ownL (CA .u8 4 (by decide)) z139_A z139_n z139_c z139 101, .blk b119 ([.pointer (some ⟨b118, 0, none⟩)]) 53, .blk b118 ([.pointer (some ⟨b117, 0, none⟩), .slice none 0 0]) 98, .blk b117 (([] : List Value) ++ enc .u8 r116_0 ++ enc .u8 r116_1 ++ ([] : List Value)) 48, .blk b115 (enc .u8 (zeroA 16)) 42] [.rowL (CI .u8) a0_A a0_n a0_c a0, .rowL (CI .u8) a1_A a1_n a1_c a1] w ∧ ∃ g346 : Nat → Value, a = ⟨#[.slice a0_A a0_n a0_c, undef, .pointer none, .pointer (some ⟨b119, 0, none⟩), .int .i64 x120, .pointer (some ⟨b122, 0, none⟩), undef, .int .i64 z136, .int .u8 y144, .pointer (some ⟨b143, 0, none⟩), undef, undef, undef, undef, .pointer (some ⟨b117, 0, none⟩), .agg #[.pointer (some ⟨b117, 0, none⟩), .slice none 0 0], .pointer (some ⟨b118, 0, none⟩), .slice a0_A a0_n a0_c, .int .i64 (a0.length : Int), .int .i64 (iquo .i64 (a0.length : Int) 4), .int .i64 x120, .int .i64 (iadd .i64 x120 7), .int .i64 (imul .i64 4 (iadd .i64 x120 7)), .slice s121_A s121_n s121_c, .slice a0_A a0_n a0_c, .func (.func 102) #[] #[.pointer (some ⟨b123, 0, none⟩), .pointer (some ⟨b124, 0, none⟩)], undef, undef, undef, undef, undef, undef, undef, .int .i64 x120, .int .i64 z136, .int .i64 x120, .int .i64 (iadd .i64 x120 7), .int .i64 (imul .i64 4 (iadd .i64 x120 7)), .bool true, (g337 39), (g337 40), .slice z139_A z139_n z139_c, .int .i64 z136, .int .i64 (isub .i64 z136 1), .pointer (adr z139_A (((isub .i64 z136 1) : Int).toNat * Cod.size (CA .u8 4 (by decide)))), .agg (enc .u8 (rdL (CA .u8 4 (by decide)) z139 (isub .i64 z136 1))).toArray, (g346 46), (g346 47), (g346 48), (g346 49), (g346 50), (g346 51), (g346 52), (g346 53), (g346 54), (g346 55), (g346 56), (g346 57), (g346 58), (g346 59), (g346 60), (g346 61), (g346 62), (g346 63), (g346 64), (g346 65), (g346 66), (g346 67), (g346 68), (g346 69), (g346 70), (g346 71), (g346 72), (g346 73), (g346 74), (g346 75), (g346 76), (g346 77), (g346 78), (g346 79), (g346 80), (g346 81), (g346 82), (g346 83), (g337 84), (g337 85), (g337 86), (g337 87), (g337 88), (g337 89), (g337 90), (g337 91), (g337 92), (g337 93), (g337 94), undef, undef, undef, undef, undef, undef, undef, undef, undef, undef, undef, undef, undef, undef, undef, undef, undef, undef, undef, undef, undef, undef, undef, undef, undef, undef, undef], [lmark D316]⟩) (fun N nj => ?_) ?_
      ·clear h
       have h := hj
       refine xblock (xseq_k fun KS348 ks348 => (xregS [0, 1, 2, 3, 4] fun KR349 kr349 => ?_))
       refine wpS.qs [(0, 47, .int .i64 z136), (1, 48, .int .i64 x120)] ?_
       obtain ⟨h0, h⟩ := of_chk h
       refine wpS.tk 2 false (some 49) (.int .i64 (irem .i64 z136 x120)) (yld_rem (t := 3) (by kernel_rfl) h0) ?_
       rcases of_if h with ⟨hc, h⟩ | ⟨hc, h⟩
       ·refine wpS.tk 3 false (some 50) (.bool true) (yld_b (et hc) (fun _ => by kernel_rfl)) ?_
        refine wpS.q 4 46 (.bool true) ?_
        refine wpS.fin rfl (kr349 _ _ (then_n (ks348 _ _ (wp_cond_t (by kernel_rfl) (xseq_k fun KS350 ks350 => ?_)))))
        refine wp_regG [13, 17] (fun k => True) 18 (by kernel_rfl) (by kernel_rfl) (by kernel_rfl) fun KR351 kr351 => ?_
        have hs := hs.drawn1
        refine wpG.take [0, 1, 2, 3, 13, 16, 17] 0 true (some 51) (.pointer (some ⟨b118, 0, none⟩)) (by kernel_rfl) (by kernel_rfl) (yld_load1 (e := 53) (o := 0) hs 7 rfl (by kernel_rfl) (by kernel_rfl) (by rfl) .grow) ?_
        refine wpG.q 1 52 (.pointer (some ⟨b118, 0, none⟩)) ?_
        refine wpG.q 2 53 (.pointer (some ⟨b118, 0, none⟩)) ?_
        refine wpG.tD 3 true (some 54) (.pointer (some ⟨b117, 0, none⟩)) (yld_load1 (e := 49) (o := 0) hs 8 rfl (by kernel_rfl) (by kernel_rfl) (by rfl) .grow) ?_
        refine wpG.tD 4 false (some 55) (.pointer (some ⟨b143, 0 + (1 : Int).toNat * 1, none⟩)) (yld_idx (t := 101) (e := 5) (n := 4) (sz := 1) (k := .i64) (x := 1) (by kernel_rfl) (by kernel_rfl) (by kernel_rfl) (by decide) (by decide)) ?_
        refine wpG.take [5, 12, 13, 16, 17] 5 true (some 56) (.int .u8 (rd (rdL (CA .u8 4 (by decide)) z139 (isub .i64 z136 1)) 1)) (by kernel_rfl) (by kernel_rfl) (yld_loadA (e := 5) (x := 1) hs 0 rfl (by kernel_rfl) (by kernel_rfl) (by decide) (by decide) .grow) ?_
        refine wpG.tD 6 false (some 57) (.pointer (some ⟨b143, 0 + (2 : Int).toNat * 1, none⟩)) (yld_idx (t := 101) (e := 5) (n := 4) (sz := 1) (k := .i64) (x := 2) (by kernel_rfl) (by kernel_rfl) (by kernel_rfl) (by decide) (by decide)) ?_
        refine wpG.take [7, 12, 13, 16, 17] 7 true (some 58) (.int .u8 (rd (rdL (CA .u8 4 (by decide)) z139 (isub .i64 z136 1)) 2)) (by kernel_rfl) (by kernel_rfl) (yld_loadA (e := 5) (x := 2) hs 0 rfl (by kernel_rfl) (by kernel_rfl) (by decide) (by decide) .grow) ?_
        refine wpG.tD 8 false (some 59) (.pointer (some ⟨b143, 0 + (3 : Int).toNat * 1, none⟩)) (yld_idx (t := 101) (e := 5) (n := 4) (sz := 1) (k := .i64) (x := 3) (by kernel_rfl) (by kernel_rfl) (by kernel_rfl) (by decide) (by decide)) ?_
        refine wpG.take [9, 12, 13, 16, 17] 9 true (some 60) (.int .u8 (rd (rdL (CA .u8 4 (by decide)) z139 (isub .i64 z136 1)) 3)) (by kernel_rfl) (by kernel_rfl) (yld_loadA (e := 5) (x := 3) hs 0 rfl (by kernel_rfl) (by kernel_rfl) (by decide) (by decide) .grow) ?_
        refine wpG.tD 10 false (some 61) (.pointer (some ⟨b143, 0 + (0 : Int).toNat * 1, none⟩)) (yld_idx (t := 101) (e := 5) (n := 4) (sz := 1) (k := .i64) (x := 0) (by kernel_rfl) (by kernel_rfl) (by kernel_rfl) (by decide) (by decide)) ?_
        refine wpG.take [11, 12, 13, 16, 17] 11 true (some 62) (.int .u8 (rd (rdL (CA .u8 4 (by decide)) z139 (isub .i64 z136 1)) 0)) (by kernel_rfl) (by kernel_rfl) (yld_loadA (e := 5) (x := 0) hs 0 rfl (by kernel_rfl) (by kernel_rfl) (by decide) (by decide) .grow) ?_
        refine wpG.q 12 63 (.agg (enc .u8 (wr (wr (wr (wr (zeroA 4) 0 (rd (rdL (CA .u8 4 (by decide)) z139 (isub .i64 z136 1)) 1)) 1 (rd (rdL (CA .u8 4 (by decide)) z139 (isub .i64 z136 1)) 2)) 2 (rd (rdL (CA .u8 4 (by decide)) z139 (isub .i64 z136 1)) 3)) 3 (rd (rdL (CA .u8 4 (by decide)) z139 (isub .i64 z136 1)) 0))).toArray) ?_
        refine wpG.q 14 65 (.int .u8 z137) ?_
        refine wpG.q 15 66 (.agg (enc .u8 (wr (zeroA 4) 0 z137)).toArray) ?_
        obtain ⟨r146, hg, h⟩ := of_bind h
        refine wpG.only 13 (by kernel_rfl) (op_callX (d := (some 64)) (by kernel_rfl) hs 9 rfl (fun _ => by kernel_rfl) (aes_tables_boxed.ok hg _ (hs.blkAt 9 rfl)) ?_)
        intro w kp hs
        have hs := hs.conv (L' := [.blk b143 (enc .u8 (rdL (CA .u8 4 (by decide)) z139 (isub .i64 z136 1))) 101, .obj l316 (.loop (rec316 .exhausted none)), .obj D316 (.deferred (some [])), .blk b124 ([.int .i64 4]) 3, .blk b123 ([.slice a0_A a0_n a0_c]) 26, .blk b122 ([.slice z139_A z139_n z139_c]) 99, .ownL (CA .u8 4 (by decide)) z139_A z139_n z139_c z139 101, .blk b119 ([.pointer (some ⟨b118, 0, none⟩)]) 53, .blk b118 ([.pointer (some ⟨b117, 0, none⟩), .slice none 0 0]) 98, .blk b117 (([] : List Value) ++ enc .u8 r116_0 ++ enc .u8 r116_1 ++ ([] : List Value)) 48, .blk b115 (enc .u8 (zeroA 16)) 42]) rfl
        refine ⟨⟨fun hf => absurd hf (by decide), .all _ _⟩, ?_⟩
        obtain ⟨r147, hg, h⟩ := of_bind h
        refine wpG.only 16 (by kernel_rfl) (op_call (d := (some 67)) (by kernel_rfl) hs (fun _ => by kernel_rfl) (aes_word_xor.ok hg _) ?_)
        intro w gw hs
        refine ⟨.of gw, ?_⟩
        refine wpG.only 17 (by kernel_rfl) (op_storeW (t := 101) (v := .agg (enc .u8 r147).toArray) (d := none) (by kernel_rfl) hs 0 rfl (vs := enc .u8 r147) (n := 4) (by kernel_rfl) (by kernel_rfl) (by kernel_rfl) (by simp [enc_len]) (by simp [enc_len]) (by intro u hu; exact enc_one _ _ u hu) ?_)
        intro w kp hs
        refine ⟨⟨fun hf => absurd hf (by decide), .all _ _⟩, ?_⟩
        refine wpG.fin (by kernel_rfl) rfl (kr351 _ _ ?_)
        refine then_n (ks350 _ _ (xregS [0, 1, 2] fun KR356 kr356 => ?_))
        refine wpS.q 0 68 (.int .u8 z137) ?_
        obtain ⟨r148, hg, h⟩ := of_bind h
        refine wpS.only 1 (op_call (d := (some 69)) (by kernel_rfl) hs (fun _ => by kernel_rfl) (aes_Mul.ok hg _) ?_)
        intro w gw hs
        refine ⟨fun _ => trivial, ?_⟩
        refine wpS.q 2 8 (.int .u8 r148) ?_
        refine wpS.fin rfl (kr356 _ _ (inBlock_n ?_))
        obtain ⟨q0, qr0⟩ := Prod.mk.inj (of_some h)
        have q1 := qr0
        subst q0
        subst q1
        exact nj _ _ ⟨(hs.conv rfl), exg (by kernel_rfl)⟩
       refine wpS.tk 3 false (some 50) (.bool false) (yld_b (ef hc) (fun _ => by kernel_rfl)) ?_
       refine wpS.q 4 46 (.bool false) ?_
       refine wpS.fin rfl (kr349 _ _ (then_n (ks348 _ _ (wp_cond_f (by kernel_rfl) (xseq_k fun KS357 ks357 => (xregS [0, 1, 2, 3, 4, 5, 6, 7] fun KR358 kr358 => ?_))))))
       refine wpS.q 0 71 (.int .i64 x120) ?_
       rcases of_if h with ⟨hc, h⟩ | ⟨hc, h⟩
       ·refine wpS.tk 1 false (some 72) (.bool true) (yld_b (et hc) (fun _ => by kernel_rfl)) ?_
        refine wpS.qs [(2, 73, .bool true), (3, 74, .int .i64 z136), (4, 75, .int .i64 (irem .i64 z136 8))] ?_
        rcases of_if h with ⟨hc, h⟩ | ⟨hc, h⟩
        ·refine wpS.tk 5 false (some 76) (.bool true) (yld_b (et hc) (fun _ => by kernel_rfl)) ?_
         refine wpS.qs [(6, 77, .bool true), (7, 70, .bool true)] ?_
         refine wpS.fin rfl (kr358 _ _ (then_n (ks357 _ _ (wp_cond_t (by kernel_rfl) ?_))))
         refine wp_regG [5, 6] (fun k => True) 7 (by kernel_rfl) (by kernel_rfl) (by kernel_rfl) fun KR359 kr359 => ?_
         have hs := hs.drawn1
         refine wpG.take [0, 1, 2, 3, 5, 6] 0 true (some 78) (.pointer (some ⟨b118, 0, none⟩)) (by kernel_rfl) (by kernel_rfl) (yld_load1 (e := 53) (o := 0) hs 7 rfl (by kernel_rfl) (by kernel_rfl) (by rfl) .grow) ?_
         refine wpG.q 1 79 (.pointer (some ⟨b118, 0, none⟩)) ?_
         refine wpG.q 2 80 (.pointer (some ⟨b118, 0, none⟩)) ?_
         refine wpG.tD 3 true (some 81) (.pointer (some ⟨b117, 0, none⟩)) (yld_load1 (e := 49) (o := 0) hs 8 rfl (by kernel_rfl) (by kernel_rfl) (by rfl) .grow) ?_
         refine wpG.tD 4 true (some 82) (.agg (enc .u8 (rdL (CA .u8 4 (by decide)) z139 (isub .i64 z136 1))).toArray) (yld_loadW (e := 101) (n := 4) hs 0 rfl (by kernel_rfl) (by kernel_rfl) (by kernel_rfl) (by exact enc_len _ _) .grow) ?_
         obtain ⟨r149, hg, h⟩ := of_bind h
         refine wpG.only 5 (by kernel_rfl) (op_callX (d := (some 83)) (by kernel_rfl) hs 9 rfl (fun _ => by kernel_rfl) (aes_tables_boxed.ok hg _ (hs.blkAt 9 rfl)) ?_)
         intro w kp hs
         have hs := hs.conv (L' := [.blk b143 (enc .u8 (rdL (CA .u8 4 (by decide)) z139 (isub .i64 z136 1))) 101, .obj l316 (.loop (rec316 .exhausted none)), .obj D316 (.deferred (some [])), .blk b124 ([.int .i64 4]) 3, .blk b123 ([.slice a0_A a0_n a0_c]) 26, .blk b122 ([.slice z139_A z139_n z139_c]) 99, .ownL (CA .u8 4 (by decide)) z139_A z139_n z139_c z139 101, .blk b119 ([.pointer (some ⟨b118, 0, none⟩)]) 53, .blk b118 ([.pointer (some ⟨b117, 0, none⟩), .slice none 0 0]) 98, .blk b117 (([] : List Value) ++ enc .u8 r116_0 ++ enc .u8 r116_1 ++ ([] : List Value)) 48, .blk b115 (enc .u8 (zeroA 16)) 42]) rfl
         refine ⟨⟨fun hf => absurd hf (by decide), .all _ _⟩, ?_⟩
         refine wpG.only 6 (by kernel_rfl) (op_storeW (t := 101) (v := .agg (enc .u8 r149).toArray) (d := none) (by kernel_rfl) hs 0 rfl (vs := enc .u8 r149) (n := 4) (by kernel_rfl) (by kernel_rfl) (by kernel_rfl) (by simp [enc_len]) (by simp [enc_len]) (by intro u hu; exact enc_one _ _ u hu) ?_)
         intro w kp hs
         refine ⟨⟨fun hf => absurd hf (by decide), .all _ _⟩, ?_⟩
         refine wpG.fin (by kernel_rfl) rfl (kr359 _ _ ?_)
         refine inBlock_n ?_
         obtain ⟨q0, qr0⟩ := Prod.mk.inj (of_some h)
         have q1 := qr0
         subst q0
         subst q1
         exact nj _ _ ⟨(hs.conv rfl), exg (by kernel_rfl)⟩
        refine wpS.tk 5 false (some 76) (.bool false) (yld_b (ef hc) (fun _ => by kernel_rfl)) ?_
        refine wpS.qs [(6, 77, .bool false), (7, 70, .bool false)] ?_
        refine wpS.fin rfl (kr358 _ _ (then_n (ks357 _ _ (wp_cond_f (by kernel_rfl) (xskip (inBlock_n ?_))))))
        obtain ⟨q0, qr0⟩ := Prod.mk.inj (of_some h)
        have q1 := qr0
        subst q0
        subst q1
        exact nj _ _ ⟨(hs.conv rfl), exg (by kernel_rfl)⟩
       refine wpS.tk 1 false (some 72) (.bool false) (yld_b (ef hc) (fun _ => by kernel_rfl)) ?_
       refine wpS.qs [(2, 73, .bool false), (3, 74, undef), (4, 75, undef), (5, 76, undef), (6, 77, .bool false), (7, 70, .bool false)] ?_
       refine wpS.fin rfl (kr358 _ _ (then_n (ks357 _ _ (wp_cond_f (by kernel_rfl) (xskip (inBlock_n ?_))))))
       obtain ⟨q0, qr0⟩ := Prod.mk.inj (of_some h)
       have q1 := qr0
       subst q0
       subst q1
       exact nj _ _ ⟨(hs.conv rfl), exg (by kernel_rfl)⟩
      clear hj hs
      rintro a w ⟨hs, g346, rfl⟩
      refine then_n (ks347 _ _ ?_)
      refine wp_regG [10, 11] (fun k => True) 12 (by kernel_rfl) (by kernel_rfl) (by kernel_rfl) fun KR360 kr360 => ?_
      have hs := hs.drawn1
      refine wpG.tD 0 true (some 84) (.slice z139_A z139_n z139_c) (yld_load1 (e := 99) (o := 0) hs 5 rfl (by kernel_rfl) (by kernel_rfl) (by rfl) .grow) ?_
      refine wpG.take [1, 5, 6, 8, 9, 10, 11] 1 true (some 85) (.slice z139_A z139_n z139_c) (by kernel_rfl) (by kernel_rfl) (yld_load1 (e := 99) (o := 0) hs 5 rfl (by kernel_rfl) (by kernel_rfl) (by rfl) .grow) ?_
      refine wpG.q 2 86 (.int .i64 z136) ?_
      refine wpG.q 3 87 (.int .i64 x120) ?_
      refine wpG.q 4 88 (.int .i64 (isub .i64 z136 x120)) ?_
      obtain ⟨x150, hx, h⟩ := of_bind h
      have hx := of_some hx
      subst hx
      obtain ⟨h0, h⟩ := of_chk h
      obtain ⟨h1, h⟩ := of_chk h
      have i0_361 := h0
      have i1_361 := h1
      refine wpG.tD 5 false (some 89) (.pointer (adr z139_A (((isub .i64 z136 x120) : Int).toNat * Cod.size (CA .u8 4 (by decide))))) (yld_idxL (C := (CA .u8 4 (by decide))) (t := 99) (e := 101) (k := .i64) (x := (isub .i64 z136 x120)) (hs.rowL 6 rfl) (by kernel_rfl) (by kernel_rfl) (by kernel_rfl) h0 h1) ?_
      refine wpG.take [6, 8, 9, 10, 11] 6 true (some 90) (.agg (enc .u8 (rdL (CA .u8 4 (by decide)) z139 (isub .i64 z136 x120))).toArray) (by kernel_rfl) (by kernel_rfl) (yld_loadLA (C := (CA .u8 4 (by decide))) (e := 101) (x := (isub .i64 z136 x120)) (hs.rowL 6 rfl) (by kernel_rfl) rfl (by kernel_rfl) (by kernel_rfl) i0_361 i1_361) ?_
      refine wpG.take [7, 8, 9, 10, 11] 7 true (some 91) (.agg (enc .u8 y145).toArray) (by kernel_rfl) (by kernel_rfl) (yld_loadW (e := 101) (n := 4) hs 0 rfl (by kernel_rfl) (by kernel_rfl) (by kernel_rfl) (by exact enc_len _ _) .grow) ?_
      obtain ⟨r151, hg, h⟩ := of_bind h
      refine wpG.only 8 (by kernel_rfl) (op_call (d := (some 92)) (by kernel_rfl) hs (fun _ => by kernel_rfl) (aes_word_xor.ok hg _) ?_)
      intro w gw hs
      refine ⟨.of gw, ?_⟩
      refine wpG.only 9 (by kernel_rfl) (op_litL (C := (CA .u8 4 (by decide))) (t := 99) (e := 101) (len := 1) (parts := #[(0, .agg (enc .u8 r151).toArray)]) (l := [r151]) (d := (some 93)) (by kernel_rfl) hs (by kernel_rfl) rfl (by kernel_rfl) (by kernel_rfl) (z := .agg (enc .u8 (zeroA 4)).toArray) (by kernel_rfl) rfl (by decide) (by decide) ?_)
      intro s152_A s152_n s152_c w gw hs
      refine ⟨.of gw, ?_⟩
      obtain ⟨h0, h⟩ := of_chk h
      refine wpG.only 10 (by kernel_rfl) (op_appendT (C := (CA .u8 4 (by decide))) (t := 99) (ty := 99) (e := 101) (bytes := 4) (B := 35184372088832) (d := (some 94)) (by kernel_rfl) hs 7 rfl (hs.rowL 0 rfl) (by kernel_rfl) (by kernel_rfl) (by kernel_rfl) (by kernel_rfl) (by kernel_rfl) h0 (by decide) (by decide) ?_)
      intro s153_A s153_n s153_c w hs
      refine ⟨⟨fun hf => absurd hf (by decide), .all _ _⟩, ?_⟩
      refine wpG.only 11 (by kernel_rfl) (op_store1 (t := 99) (o := 0) (v := .slice s153_A s153_n s153_c) (d := none) (by kernel_rfl) hs 6 rfl (by kernel_rfl) rfl (by kernel_rfl) (by simp) ?_)
      intro w kp hs
      refine ⟨⟨fun hf => absurd hf (by decide), .all _ _⟩, ?_⟩
      refine wpG.fin (by kernel_rfl) rfl (kr360 _ _ ?_)
      refine inBlock_n (then_n (ks342 _ _ (xregS [0, 1, 2] fun KR362 kr362 => ?_)))
      refine wpS.qs [(0, 39, .int .i64 z136), (1, 40, .int .i64 (iadd .i64 z136 1))] ?_
      obtain ⟨x154, hx, h⟩ := of_bind h
      refine wpS.tk 2 false (some 7) (.int .i64 x154) (yld_int hx (fun _ => by kernel_rfl)) ?_
      refine wpS.fin rfl (kr362 _ _ ?_)
      exact then_n (kl1 _ _ ⟨n, Nat.lt_succ_self n, x154, y144, (z139 ++ ([r151] : List (Arr 4))), s153_A, s153_n, s153_c, h, (hs.drop (.cons _ (.cons _ (.cons_cons _ (.cons_cons _ (.cons_cons _ (.cons_cons _ (.cons_cons _ (.cons_cons _ (.cons_cons _ (.cons_cons _ (.cons_cons _ (.cons_cons _ .slnil))))))))))))), exg (by kernel_rfl)⟩)
     refine wpS.tk 4 false (some 38) (.bool false) (yld_b (df hc) (fun _ => by kernel_rfl)) ?_
     refine wpS.fin rfl (kr341 _ _ (then_n (ks340 _ _ (wp_cond_f (by kernel_rfl) (xexit (then_x (then_x (inBlock_hit ?_))))))))
     have q0 := of_some h
     subst q0
     exact exq_n (nn1 _ _ ⟨z139_A, z139_n, z139_c, (hs.conv rfl), exg (by kernel_rfl)⟩)
   clear hs h hy
   rintro a w ⟨y141_A, y141_n, y141_c, hs, g338, rfl⟩
   have h := hk1
   refine then_n (ks334 _ _ (xseq_k fun KS363 ks363 => (xseq_k fun KS364 ks364 => (xregS [0, 1] fun KR365 kr365 => ?_))))
   refine wpS.tk 0 true (some 95) (.slice y141_A y141_n y141_c) (yld_load1 (e := 99) (o := 0) hs 4 rfl (by kernel_rfl) (by kernel_rfl) (by rfl) .grow) ?_
   refine wpS.only 1 (op_inline (d := (some 96)) (f := 85) (args := #[.slice y141_A y141_n y141_c, .int .i64 4]) (by kernel_rfl) (fun _ => by kernel_rfl) fun R366 kI366 => ?_)
   refine calls_k Try.func85 rfl fun Q366 qq366 => ?_
   refine wp_conv (a' := ⟨#[.slice y141_A y141_n y141_c, .int .i64 4, undef, undef, undef, undef, undef, undef, undef], []⟩) (by kernel_rfl) ?_
   refine xseq_k fun KS367 ks367 => ?_
   refine xregS [0, 1, 2] fun KR368 kr368 => ?_
   refine wpS.only 0 (op_box (t := 99) (v := .slice y141_A y141_n y141_c) (d := (some 2)) (by kernel_rfl) hs ([.slice y141_A y141_n y141_c]) (by kernel_rfl) (by kernel_rfl) ?_)
   intro b155 w gw hs
   refine ⟨fun _ => trivial, ?_⟩
   refine wpS.only 1 (op_box (t := 3) (v := .int .i64 4) (d := (some 3)) (by kernel_rfl) hs ([.int .i64 4]) (by kernel_rfl) (by kernel_rfl) ?_)
   intro b156 w gw hs
   refine ⟨fun _ => trivial, ?_⟩
   refine wpS.q 2 4 (.nilFunc) ?_
   refine wpS.fin rfl (kr368 _ _ (then_n (ks367 _ _ (xseq_k fun KS369 ks369 => (xseq_k fun KS370 ks370 => (xregS [0, 1] fun KR371 kr371 => ?_))))))
   refine wpS.tk 0 true (some 5) (.int .i64 4) (yld_load1 (e := 3) (o := 0) hs 0 rfl (by kernel_rfl) (by kernel_rfl) (by rfl) .grow) ?_
   refine wpS.q 1 6 (.bool false) ?_
   refine wpS.fin rfl (kr371 _ _ (then_n (ks370 _ _ (wp_cond_f (by kernel_rfl) (xskip (then_n (ks369 _ _ (xseq_k fun KS372 ks372 => (xregS [0, 1] fun KR373 kr373 => ?_)))))))))
   refine wpS.qs [(0, 8, .func (.func 108) #[] #[.pointer (some ⟨b155, 0, none⟩), .pointer (some ⟨b156, 0, none⟩)]), (1, 4, .func (.func 108) #[] #[.pointer (some ⟨b155, 0, none⟩), .pointer (some ⟨b156, 0, none⟩)])] ?_
   refine wpS.fin rfl (kr373 _ _ (then_n (ks372 _ _ (xret ?_))))
   refine qq366 _ _ (post_ret (by kernel_rfl) (run_results [.tmp 4] [.func (.func 108) #[] #[.pointer (some ⟨b155, 0, none⟩), .pointer (some ⟨b156, 0, none⟩)]] (by kernel_rfl) (.cons (res_tmp (by kernel_rfl)) .nil)) ?_)
   refine kI366 _ _ ?_
   refine ⟨fun _ => trivial, ?_⟩
   refine wpS.fin rfl (kr365 _ _ (then_n (ks364 _ _ (xblock ?_))))
   refine wp_range (gf := 108) (lb := #[.pointer (some ⟨b155, 0, none⟩), .pointer (some ⟨b156, 0, none⟩)]) hs (by kernel_rfl) (fun _ _ => by kernel_rfl) fun l374 D374 rec374 w hok374 hs R374 kR374 => ?_
   refine calls_kn Try.func108 rfl fun Q374 qq374 qn374 => ?_
   refine wp_conv (a' := ⟨#[.func (.yield l374) #[] #[], .pointer (some ⟨b155, 0, none⟩), .pointer (some ⟨b156, 0, none⟩), undef, undef, undef, undef, undef, undef, undef, undef, undef, undef, undef, undef, undef, undef, undef, undef, undef, undef, undef, undef, undef, undef, undef, undef, undef, undef, undef, undef], []⟩) (by kernel_rfl) ?_
   refine xseq_k fun KS375 ks375 => ?_
   refine xregS [0] fun KR376 kr376 => ?_
   refine wpS.q 0 4 (.int .i64 0) ?_
   refine wpS.fin rfl (kr376 _ _ (then_n (ks375 _ _ ?_)))
   have hs := hs.addNilL (CA .u8 16 (by decide)) 42
   have hs := hs.freeze 10 rfl
   obtain ⟨y160, hy, hk2⟩ := of_bind h
   refine wp_exq (N := fun a w => ∃ (y160_A : Option Addr) (y160_n : Nat) (y160_c : Nat), St w0 [] [.ownL (CA .u8 16 (by decide)) y160_A y160_n y160_c y160 42, .obj l374 (.loop (rec374 .ready none)), .obj D374 (.deferred (some [])), .blk b156 ([.int .i64 4]) 3, .blk b155 ([.slice y141_A y141_n y141_c]) 99, .obj l316 (.loop (rec316 .exhausted none)), .obj D316 (.deferred (some [])), .blk b124 ([.int .i64 4]) 3, .blk b123 ([.slice a0_A a0_n a0_c]) 26, .blk b122 ([.slice y141_A y141_n y141_c]) 99, .blk b119 ([.pointer (some ⟨b118, 0, none⟩)]) 53, .blk b118 ([.pointer (some ⟨b117, 0, none⟩), .slice y160_A y160_n y160_c]) 98, .blk b117 (([] : List Value) ++ enc .u8 r116_0 ++ enc .u8 r116_1 ++ ([] : List Value)) 48, .blk b115 (enc .u8 (zeroA 16)) 42] [.rowL (CA .u8 4 (by decide)) y141_A y141_n y141_c y141, .rowL (CI .u8) a0_A a0_n a0_c a0, .rowL (CI .u8) a1_A a1_n a1_c a1] w ∧ ∃ g378 : Nat → Value, a = ⟨#[.func (.yield l374) #[] #[], .pointer (some ⟨b155, 0, none⟩), .pointer (some ⟨b156, 0, none⟩), undef, (g378 4), (g378 5), (g378 6), (g378 7), (g378 8), (g378 9), (g378 10), (g378 11), (g378 12), (g378 13), (g378 14), (g378 15), (g378 16), (g378 17), (g378 18), (g378 19), (g378 20), (g378 21), (g378 22), (g378 23), (g378 24), (g378 25), (g378 26), (g378 27), (g378 28), (g378 29), (g378 30)], []⟩) (fun N2 nn2 => ?_) ?_
   ·clear hk2
    refine xblock ?_
    refine wp_loop_k (fun n a w => ∃ z157 z158, ∃ (z158_A : Option Addr) (z158_n : Nat) (z158_c : Nat), aes_Block.l2 K n y141 z157 z158 = some y160 ∧ St w0 [] [.ownL (CA .u8 16 (by decide)) z158_A z158_n z158_c z158 42, .obj l374 (.loop (rec374 .ready none)), .obj D374 (.deferred (some [])), .blk b156 ([.int .i64 4]) 3, .blk b155 ([.slice y141_A y141_n y141_c]) 99, .obj l316 (.loop (rec316 .exhausted none)), .obj D316 (.deferred (some [])), .blk b124 ([.int .i64 4]) 3, .blk b123 ([.slice a0_A a0_n a0_c]) 26, .blk b122 ([.slice y141_A y141_n y141_c]) 99, .blk b119 ([.pointer (some ⟨b118, 0, none⟩)]) 53, .blk b118 ([.pointer (some ⟨b117, 0, none⟩), .slice z158_A z158_n z158_c]) 98, .blk b117 (([] : List Value) ++ enc .u8 r116_0 ++ enc .u8 r116_1 ++ ([] : List Value)) 48, .blk b115 (enc .u8 (zeroA 16)) 42] [.rowL (CA .u8 4 (by decide)) y141_A y141_n y141_c y141, .rowL (CI .u8) a0_A a0_n a0_c a0, .rowL (CI .u8) a1_A a1_n a1_c a1] w ∧ ∃ g377 : Nat → Value, a = ⟨#[.func (.yield l374) #[] #[], .pointer (some ⟨b155, 0, none⟩), .pointer (some ⟨b156, 0, none⟩), undef, .int .i64 z157, (g377 5), (g377 6), (g377 7), (g377 8), (g377 9), (g377 10), (g377 11), (g377 12), (g377 13), (g377 14), (g377 15), (g377 16), (g377 17), (g377 18), (g377 19), (g377 20), (g377 21), (g377 22), (g377 23), (g377 24), (g377 25), (g377 26), (g377 27), (g377 28), (g377 29), (g377 30)], []⟩) K ⟨0, ([] : List (Arr 16)), none, 0, 0, hy, hs.conv rfl, exg (by kernel_rfl)⟩ ?_
    clear hs h hy
    rintro n a w ⟨z157, z158, z158_A, z158_n, z158_c, h, hs, g377, rfl⟩ KL2 kl2
    cases n with
    | zero => exact nomatch (show none = some _ from h)
    | succ n =>
     refine xseq_k fun KS379 ks379 => ?_
     refine xseq_k fun KS380 ks380 => ?_
     refine xregS [0, 1, 2, 3] fun KR381 kr381 => ?_
     refine wpS.q 0 6 (.int .i64 z157) ?_
     refine wpS.tk 1 true (some 7) (.slice y141_A y141_n y141_c) (yld_load1 (e := 99) (o := 0) hs 4 rfl (by kernel_rfl) (by kernel_rfl) (by rfl) .grow) ?_
     refine wpS.tk 2 false (some 8) (.int .i64 (y141.length : Int)) (yld_lenL (hs.rowR 0 rfl) (fun _ => by kernel_rfl)) ?_
     rcases of_if h with ⟨hc, h⟩ | ⟨hc, h⟩
     ·refine wpS.tk 3 false (some 9) (.bool true) (yld_b (dt hc) (fun _ => by kernel_rfl)) ?_
      refine wpS.fin rfl (kr381 _ _ (then_n (ks380 _ _ (wp_cond_t (by kernel_rfl) (xskip (then_n (ks379 _ _ (xseq_k fun KS382 ks382 => (xblock (xseq_k fun KS383 ks383 => ?_))))))))))
      refine wp_regG [] (fun k => True) 7 (by kernel_rfl) (by kernel_rfl) (by kernel_rfl) fun KR384 kr384 => ?_
      have hs := hs.drawn1
      refine wpG.tD 0 true (some 13) (.int .i64 4) (yld_load1 (e := 3) (o := 0) hs 3 rfl (by kernel_rfl) (by kernel_rfl) (by rfl) .grow) ?_
      refine wpG.tD 1 true (some 14) (.slice y141_A y141_n y141_c) (yld_load1 (e := 99) (o := 0) hs 4 rfl (by kernel_rfl) (by kernel_rfl) (by rfl) .grow) ?_
      refine wpG.q 2 15 (.int .i64 z157) ?_
      obtain ⟨h0, h⟩ := of_chk h
      obtain ⟨h1, h⟩ := of_chk h
      obtain ⟨h2, h⟩ := of_chk h
      obtain ⟨s162_A, hA⟩ : ∃ A, A = if y141_c = (z157 : Int).toNat then y141_A else adr y141_A ((z157 : Int).toNat * Cod.size (CA .u8 4 (by decide))) := ⟨_, rfl⟩
      obtain ⟨s162_n, hn⟩ : ∃ n, n = ((y141.length : Int) : Int).toNat - (z157 : Int).toNat := ⟨_, rfl⟩
      obtain ⟨s162_c, hc⟩ : ∃ c, c = y141_c - (z157 : Int).toNat := ⟨_, rfl⟩
      refine wpG.tD 3 false (some 16) (.slice s162_A s162_n s162_c) (yld_sub (C := (CA .u8 4 (by decide))) (t := 99) (e := 101) (low := some (.int .i64 z157)) (high := none) (lo := z157) (hi := (y141.length : Int)) (hs.rowR 0 rfl) (by kernel_rfl) (by kernel_rfl) (by kernel_rfl) (.inr ⟨_, rfl⟩) (.inl ⟨rfl, rfl⟩) h0 h1 h2 hA hn hc) ?_
      have hs := hs.addSub (C := (CA .u8 4 (by decide))) 0 rfl h0 h1 h2 hA hn hc
      refine wpG.tD 4 false (some 17) (.int .i64 ((subL y141 z157 (y141.length : Int)).length : Int)) (yld_lenL (hs.rowR 0 rfl) (fun _ => by kernel_rfl)) ?_
      refine wpG.q 5 18 (.int .i64 (imin 4 ((subL y141 z157 (y141.length : Int)).length : Int))) ?_
      obtain ⟨x163, hx, h⟩ := of_bind h
      refine wpG.tD 6 false (some 5) (.int .i64 x163) (yld_int hx (fun _ => by kernel_rfl)) ?_
      refine wpG.fin (by kernel_rfl) rfl (kr384 _ _ ?_)
      refine then_n (ks383 _ _ (xseq_k fun KS385 ks385 => (xregS [0, 1, 2, 3, 4, 5, 6, 7, 8, 9, 10, 11] fun KR386 kr386 => ?_)))
      refine wpS.q 0 19 (.func (.yield l374) #[] #[]) ?_
      refine wpS.tk 1 true (some 20) (.slice y141_A y141_n y141_c) (yld_load1 (e := 99) (o := 0) hs 4 rfl (by kernel_rfl) (by kernel_rfl) (by rfl) .grow) ?_
      refine wpS.qs [(2, 21, .int .i64 z157), (3, 22, .int .i64 z157), (4, 23, .int .i64 x163), (5, 24, .int .i64 (iadd .i64 z157 x163)), (6, 25, .int .i64 z157), (7, 26, .int .i64 x163), (8, 27, .int .i64 (iadd .i64 z157 x163))] ?_
      obtain ⟨h0, h⟩ := of_chk h
      obtain ⟨h1, h⟩ := of_chk h
      obtain ⟨h2, h⟩ := of_chk h
      obtain ⟨h3, h⟩ := of_chk h
      obtain ⟨s164_A, hA⟩ : ∃ A, A = if ((iadd .i64 z157 x163) : Int).toNat = (z157 : Int).toNat then y141_A else adr y141_A ((z157 : Int).toNat * Cod.size (CA .u8 4 (by decide))) := ⟨_, rfl⟩
      obtain ⟨s164_n, hn⟩ : ∃ n, n = ((iadd .i64 z157 x163) : Int).toNat - (z157 : Int).toNat := ⟨_, rfl⟩
      obtain ⟨s164_c, hc⟩ : ∃ c, c = ((iadd .i64 z157 x163) : Int).toNat - (z157 : Int).toNat := ⟨_, rfl⟩
      refine wpS.tk 9 false (some 28) (.slice s164_A s164_n s164_c) (yld_sub3 (mx := (iadd .i64 z157 x163)) (k := .i64) (C := (CA .u8 4 (by decide))) (t := 99) (e := 101) (low := some (.int .i64 z157)) (high := some (.int .i64 (iadd .i64 z157 x163))) (lo := z157) (hi := (iadd .i64 z157 x163)) (hs.rowR 1 rfl) (by kernel_rfl) (by kernel_rfl) (by kernel_rfl) (.inr ⟨_, rfl⟩) ⟨_, rfl⟩ h0 h1 h2 h3 hA hn hc) ?_
      have hs := hs.addSub3 (C := (CA .u8 4 (by decide))) 1 rfl h0 h1 h2 h3 hA hn hc
      refine wpS.onlyR 10 (op_yield (d := (some 29)) (by kernel_rfl) hs 1 rfl hok374 #[.slice s164_A s164_n s164_c] (by kernel_rfl) rfl (tm := #[.slice a0_A a0_n a0_c, undef, .pointer none, .pointer (some ⟨b119, 0, none⟩), .int .i64 x120, .pointer (some ⟨b122, 0, none⟩), undef, (g338 7), (g338 8), (g338 9), undef, undef, undef, undef, .pointer (some ⟨b117, 0, none⟩), .agg #[.pointer (some ⟨b117, 0, none⟩), .slice none 0 0], .pointer (some ⟨b118, 0, none⟩), .slice a0_A a0_n a0_c, .int .i64 (a0.length : Int), .int .i64 (iquo .i64 (a0.length : Int) 4), .int .i64 x120, .int .i64 (iadd .i64 x120 7), .int .i64 (imul .i64 4 (iadd .i64 x120 7)), .slice s121_A s121_n s121_c, .slice a0_A a0_n a0_c, .func (.func 102) #[] #[.pointer (some ⟨b123, 0, none⟩), .pointer (some ⟨b124, 0, none⟩)], undef, undef, undef, undef, undef, undef, undef, .int .i64 x120, (g338 34), (g338 35), (g338 36), (g338 37), (g338 38), (g338 39), (g338 40), (g338 41), (g338 42), (g338 43), (g338 44), (g338 45), (g338 46), (g338 47), (g338 48), (g338 49), (g338 50), (g338 51), (g338 52), (g338 53), (g338 54), (g338 55), (g338 56), (g338 57), (g338 58), (g338 59), (g338 60), (g338 61), (g338 62), (g338 63), (g338 64), (g338 65), (g338 66), (g338 67), (g338 68), (g338 69), (g338 70), (g338 71), (g338 72), (g338 73), (g338 74), (g338 75), (g338 76), (g338 77), (g338 78), (g338 79), (g338 80), (g338 81), (g338 82), (g338 83), (g338 84), (g338 85), (g338 86), (g338 87), (g338 88), (g338 89), (g338 90), (g338 91), (g338 92), (g338 93), (g338 94), .slice y141_A y141_n y141_c, .func (.func 108) #[] #[.pointer (some ⟨b155, 0, none⟩), .pointer (some ⟨b156, 0, none⟩)], .slice s164_A s164_n s164_c, undef, undef, undef, undef, undef, undef, undef, undef, undef, undef, undef, undef, undef, undef, undef, undef, undef, undef, undef, undef, undef, undef, undef, undef]) (by kernel_rfl) (by kernel_rfl) fun K387 k387 => ?_)
      refine xregS [0] fun KR388 kr388 => ?_
      refine wpS.q 0 10 (.slice s164_A s164_n s164_c) ?_
      refine wpS.fin rfl (kr388 _ _ (then_n (k387 _ _ 1 _ _ hs rfl fun w Qr387 hs qr387 => ?_)))
      dsimp only [List.set] at hs
      refine xblock (xseq_k fun KS389 ks389 => (xregS [0] fun KR390 kr390 => ?_))
      refine wpS.only 0 (op_alloc (t := 42) (d := (some 11)) (by kernel_rfl) hs (enc .u8 (zeroA 16)) (.agg (enc .u8 (zeroA 16)).toArray) (by kernel_rfl) (by kernel_rfl) (by kernel_rfl) ?_)
      intro b165 w gw hs
      refine ⟨fun _ => trivial, ?_⟩
      refine wpS.fin rfl (kr390 _ _ (then_n (ks389 _ _ (xseq_k fun KS391 ks391 => (xseq_k fun KS392 ks392 => (xregS [0, 1, 2] fun KR393 kr393 => ?_))))))
      refine wpS.q 0 98 (.slice s164_A s164_n s164_c) ?_
      refine wpS.tk 1 false (some 99) (.int .i64 ((subL y141 z157 (iadd .i64 z157 x163)).length : Int)) (yld_lenL (hs.rowR 0 rfl) (fun _ => by kernel_rfl)) ?_
      refine wpS.q 2 100 (.int .i64 0) ?_
      refine wpS.fin rfl (kr393 _ _ (then_n (ks392 _ _ ?_)))
      obtain ⟨y168, hy, hk3⟩ := of_bind h
      refine wp_exq (N := fun a w => St w0 [] [.blk b165 (enc .u8 y168) 42, .ownL (CA .u8 16 (by decide)) z158_A z158_n z158_c z158 42, .obj l374 (.loop (rec374 .busy none)), .obj D374 (.deferred (some [])), .blk b156 ([.int .i64 4]) 3, .blk b155 ([.slice y141_A y141_n y141_c]) 99, .obj l316 (.loop (rec316 .exhausted none)), .obj D316 (.deferred (some [])), .blk b124 ([.int .i64 4]) 3, .blk b123 ([.slice a0_A a0_n a0_c]) 26, .blk b122 ([.slice y141_A y141_n y141_c]) 99, .blk b119 ([.pointer (some ⟨b118, 0, none⟩)]) 53, .blk b118 ([.pointer (some ⟨b117, 0, none⟩), .slice z158_A z158_n z158_c]) 98, .blk b117 (([] : List Value) ++ enc .u8 r116_0 ++ enc .u8 r116_1 ++ ([] : List Value)) 48, .blk b115 (enc .u8 (zeroA 16)) 42] [.rowL (CA .u8 4 (by decide)) s164_A s164_n s164_c (subL y141 z157 (iadd .i64 z157 x163)), .rowL (CA .u8 4 (by decide)) s162_A s162_n s162_c (subL y141 z157 (y141.length : Int)), .rowL (CA .u8 4 (by decide)) y141_A y141_n y141_c y141, .rowL (CI .u8) a0_A a0_n a0_c a0, .rowL (CI .u8) a1_A a1_n a1_c a1] w ∧ ∃ g395 : Nat → Value, a = ⟨#[.slice a0_A a0_n a0_c, undef, .pointer none, .pointer (some ⟨b119, 0, none⟩), .int .i64 x120, .pointer (some ⟨b122, 0, none⟩), undef, (g338 7), (g338 8), (g338 9), .slice s164_A s164_n s164_c, .pointer (some ⟨b165, 0, none⟩), (g395 12), (g395 13), .pointer (some ⟨b117, 0, none⟩), .agg #[.pointer (some ⟨b117, 0, none⟩), .slice none 0 0], .pointer (some ⟨b118, 0, none⟩), .slice a0_A a0_n a0_c, .int .i64 (a0.length : Int), .int .i64 (iquo .i64 (a0.length : Int) 4), .int .i64 x120, .int .i64 (iadd .i64 x120 7), .int .i64 (imul .i64 4 (iadd .i64 x120 7)), .slice s121_A s121_n s121_c, .slice a0_A a0_n a0_c, .func (.func 102) #[] #[.pointer (some ⟨b123, 0, none⟩), .pointer (some ⟨b124, 0, none⟩)], undef, undef, undef, undef, undef, undef, undef, .int .i64 x120, (g338 34), (g338 35), (g338 36), (g338 37), (g338 38), (g338 39), (g338 40), (g338 41), (g338 42), (g338 43), (g338 44), (g338 45), (g338 46), (g338 47), (g338 48), (g338 49), (g338 50), (g338 51), (g338 52), (g338 53), (g338 54), (g338 55), (g338 56), (g338 57), (g338 58), (g338 59), (g338 60), (g338 61), (g338 62), (g338 63), (g338 64), (g338 65), (g338 66), (g338 67), (g338 68), (g338 69), (g338 70), (g338 71), (g338 72), (g338 73), (g338 74), (g338 75), (g338 76), (g338 77), (g338 78), (g338 79), (g338 80), (g338 81), (g338 82), (g338 83), (g338 84), (g338 85), (g338 86), (g338 87), (g338 88), (g338 89), (g338 90), (g338 91), (g338 92), (g338 93), (g338 94), .slice y141_A y141_n y141_c, .func (.func 108) #[] #[.pointer (some ⟨b155, 0, none⟩), .pointer (some ⟨b156, 0, none⟩)], .slice s164_A s164_n s164_c, .slice s164_A s164_n s164_c, .int .i64 ((subL y141 z157 (iadd .i64 z157 x163)).length : Int), (g395 100), (g395 101), (g395 102), (g395 103), (g395 104), (g395 105), (g395 106), (g395 107), (g395 108), (g395 109), (g395 110), undef, undef, undef, undef, undef, undef, undef, undef, undef, undef, undef], []⟩) (fun N3 nn3 => ?_) ?_
      ·clear hk3
       refine xblock ?_
       refine wp_loop_k (fun n a w => ∃ z166 z167, aes_Block.l3 K n y141 z157 x163 z166 z167 = some y168 ∧ St w0 [] [.blk b165 (enc .u8 z167) 42, .ownL (CA .u8 16 (by decide)) z158_A z158_n z158_c z158 42, .obj l374 (.loop (rec374 .busy none)), .obj D374 (.deferred (some [])), .blk b156 ([.int .i64 4]) 3, .blk b155 ([.slice y141_A y141_n y141_c]) 99, .obj l316 (.loop (rec316 .exhausted none)), .obj D316 (.deferred (some [])), .blk b124 ([.int .i64 4]) 3, .blk b123 ([.slice a0_A a0_n a0_c]) 26, .blk b122 ([.slice y141_A y141_n y141_c]) 99, .blk b119 ([.pointer (some ⟨b118, 0, none⟩)]) 53, .blk b118 ([.pointer (some ⟨b117, 0, none⟩), .slice z158_A z158_n z158_c]) 98, .blk b117 (([] : List Value) ++ enc .u8 r116_0 ++ enc .u8 r116_1 ++ ([] : List Value)) 48, .blk b115 (enc .u8 (zeroA 16)) 42] [.rowL (CA .u8 4 (by decide)) s164_A s164_n s164_c (subL y141 z157 (iadd .i64 z157 x163)), .rowL (CA .u8 4 (by decide)) s162_A s162_n s162_c (subL y141 z157 (y141.length : Int)), .rowL (CA .u8 4 (by decide)) y141_A y141_n y141_c y141, .rowL (CI .u8) a0_A a0_n a0_c a0, .rowL (CI .u8) a1_A a1_n a1_c a1] w ∧ ∃ g394 : Nat → Value, a = ⟨#[.slice a0_A a0_n a0_c, undef, .pointer none, .pointer (some ⟨b119, 0, none⟩), .int .i64 x120, .pointer (some ⟨b122, 0, none⟩), undef, (g338 7), (g338 8), (g338 9), .slice s164_A s164_n s164_c, .pointer (some ⟨b165, 0, none⟩), (g394 12), (g394 13), .pointer (some ⟨b117, 0, none⟩), .agg #[.pointer (some ⟨b117, 0, none⟩), .slice none 0 0], .pointer (some ⟨b118, 0, none⟩), .slice a0_A a0_n a0_c, .int .i64 (a0.length : Int), .int .i64 (iquo .i64 (a0.length : Int) 4), .int .i64 x120, .int .i64 (iadd .i64 x120 7), .int .i64 (imul .i64 4 (iadd .i64 x120 7)), .slice s121_A s121_n s121_c, .slice a0_A a0_n a0_c, .func (.func 102) #[] #[.pointer (some ⟨b123, 0, none⟩), .pointer (some ⟨b124, 0, none⟩)], undef, undef, undef, undef, undef, undef, undef, .int .i64 x120, (g338 34), (g338 35), (g338 36), (g338 37), (g338 38), (g338 39), (g338 40), (g338 41), (g338 42), (g338 43), (g338 44), (g338 45), (g338 46), (g338 47), (g338 48), (g338 49), (g338 50), (g338 51), (g338 52), (g338 53), (g338 54), (g338 55), (g338 56), (g338 57), (g338 58), (g338 59), (g338 60), (g338 61), (g338 62), (g338 63), (g338 64), (g338 65), (g338 66), (g338 67), (g338 68), (g338 69), (g338 70), (g338 71), (g338 72), (g338 73), (g338 74), (g338 75), (g338 76), (g338 77), (g338 78), (g338 79), (g338 80), (g338 81), (g338 82), (g338 83), (g338 84), (g338 85), (g338 86), (g338 87), (g338 88), (g338 89), (g338 90), (g338 91), (g338 92), (g338 93), (g338 94), .slice y141_A y141_n y141_c, .func (.func 108) #[] #[.pointer (some ⟨b155, 0, none⟩), .pointer (some ⟨b156, 0, none⟩)], .slice s164_A s164_n s164_c, .slice s164_A s164_n s164_c, .int .i64 ((subL y141 z157 (iadd .i64 z157 x163)).length : Int), .int .i64 z166, (g394 101), (g394 102), (g394 103), (g394 104), (g394 105), (g394 106), (g394 107), (g394 108), (g394 109), (g394 110), undef, undef, undef, undef, undef, undef, undef, undef, undef, undef, undef], []⟩) K ⟨0, (zeroA 16), hy, hs.conv rfl, exg (by kernel_rfl)⟩ ?_
       clear hs h hy
       rintro n a w ⟨z166, z167, h, hs, g394, rfl⟩ KL3 kl3
       cases n with
       | zero => exact nomatch (show none = some _ from h)
       | succ n =>
        refine xseq_k fun KS396 ks396 => ?_
        refine xregS [0] fun KR397 kr397 => ?_
        rcases of_if h with ⟨hc, h⟩ | ⟨hc, h⟩
        ·refine wpS.tk 0 false (some 101) (.bool true) (yld_b (dt hc) (fun _ => by kernel_rfl)) ?_
         refine wpS.fin rfl (kr397 _ _ (then_n (ks396 _ _ (xseq_k fun KS398 ks398 => (wp_cond_t (by kernel_rfl) (xskip (then_n (ks398 _ _ (xseq_k fun KS399 ks399 => (xblock (xseq_k fun KS400 ks400 => (xregS [0, 1, 2, 3, 4, 5] fun KR401 kr401 => ?_))))))))))))
         refine wpS.q 0 102 (.int .i64 z166) ?_
         obtain ⟨h0, h⟩ := of_chk h
         obtain ⟨h1, h⟩ := of_chk h
         have i0_402 := h0
         have i1_402 := h1
         refine wpS.tk 1 false (some 103) (.pointer (adr s164_A ((z166 : Int).toNat * Cod.size (CA .u8 4 (by decide))))) (yld_idxL (C := (CA .u8 4 (by decide))) (t := 99) (e := 101) (k := .i64) (x := z166) (hs.rowR 0 rfl) (by kernel_rfl) (by kernel_rfl) (by kernel_rfl) h0 h1) ?_
         refine wpS.tk 2 true (some 104) (.agg (enc .u8 (rdL (CA .u8 4 (by decide)) (subL y141 z157 (iadd .i64 z157 x163)) z166)).toArray) (yld_loadLA (C := (CA .u8 4 (by decide))) (e := 101) (x := z166) (hs.rowR 0 rfl) (by kernel_rfl) rfl (by kernel_rfl) (by kernel_rfl) i0_402 i1_402) ?_
         refine wpS.only 3 (op_alloc (t := 101) (d := (some 13)) (by kernel_rfl) hs (enc .u8 (zeroA 4)) (.agg (enc .u8 (zeroA 4)).toArray) (by kernel_rfl) (by kernel_rfl) (by kernel_rfl) ?_)
         intro b169 w gw hs
         refine ⟨fun _ => trivial, ?_⟩
         refine wpS.q 4 12 (.int .i64 z166) ?_
         refine wpS.only 5 (op_storeW (t := 101) (v := .agg (enc .u8 (rdL (CA .u8 4 (by decide)) (subL y141 z157 (iadd .i64 z157 x163)) z166)).toArray) (d := none) (by kernel_rfl) hs 0 rfl (vs := enc .u8 (rdL (CA .u8 4 (by decide)) (subL y141 z157 (iadd .i64 z157 x163)) z166)) (n := 4) (by kernel_rfl) (by kernel_rfl) (by kernel_rfl) (by simp [enc_len]) (by simp [enc_len]) (by intro u hu; exact enc_one _ _ u hu) ?_)
         intro w kp hs
         refine ⟨fun _ => trivial, ?_⟩
         refine wpS.fin rfl (kr401 _ _ (then_n (ks400 _ _ ?_)))
         refine wp_regG [4] (fun k => True) 5 (by kernel_rfl) (by kernel_rfl) (by kernel_rfl) fun KR403 kr403 => ?_
         have hs := hs.drawn1
         refine wpG.q 0 105 (.int .i64 z166) ?_
         refine wpG.q 1 106 (.int .i64 (imul .i64 4 z166)) ?_
         obtain ⟨b0_404, h⟩ := of_chk h
         obtain ⟨b1_404, h⟩ := of_chk h
         obtain ⟨b3_404, h⟩ := of_chk h
         refine wpG.tD 2 false (some 107) (.slice (some ⟨b165, 0 + ((imul .i64 4 z166) : Int).toNat * 1, none⟩) ((16 : Int).toNat - ((imul .i64 4 z166) : Int).toNat) (16 - ((imul .i64 4 z166) : Int).toNat)) (yld_slA2 (t := 42) (e := 5) (n := 16) (low := some (.int .i64 (imul .i64 4 z166))) (high := Option.none) (lo := (imul .i64 4 z166)) (hi := 16) (by kernel_rfl) (by kernel_rfl) (by kernel_rfl) (.inr ⟨_, rfl⟩) (.inl ⟨rfl, rfl⟩) b0_404 b1_404 (by decide) b3_404) ?_
         refine wpG.tD 3 false (some 108) (.slice (some ⟨b169, 0 + (0 : Int).toNat * 1, none⟩) ((4 : Int).toNat - (0 : Int).toNat) (4 - (0 : Int).toNat)) (yld_slA2 (t := 101) (e := 5) (n := 4) (low := Option.none) (high := Option.none) (lo := 0) (hi := 4) (by kernel_rfl) (by kernel_rfl) (by kernel_rfl) (.inl ⟨rfl, rfl⟩) (.inl ⟨rfl, rfl⟩) (by decide) (by decide) (by decide) (by decide)) ?_
         refine wpG.only 4 (by kernel_rfl) (op_copyA (td := 26) (ts := 26) (ty := 3) (e := 5) (n := 16) (k := .u8) (c := z167) (lo := (imul .i64 4 z166)) (hi := 16) (d := (some 109)) (by kernel_rfl) hs 1 rfl (hs.rowB (lo := 0) (hi := 4) 0 rfl (by decide) (by decide) (by decide)) (by kernel_rfl) (by kernel_rfl) (by kernel_rfl) b0_404 b1_404 (by decide) ?_)
         intro w kp hs
         refine ⟨⟨fun hf => absurd hf (by decide), .all _ _⟩, ?_⟩
         refine wpG.fin (by kernel_rfl) rfl (kr403 _ _ ?_)
         refine inBlock_n (then_n (ks399 _ _ (xregS [0, 1] fun KR406 kr406 => ?_)))
         refine wpS.qs [(0, 110, .int .i64 (iadd .i64 z166 1)), (1, 100, .int .i64 (iadd .i64 z166 1))] ?_
         refine wpS.fin rfl (kr406 _ _ ?_)
         exact then_n (kl3 _ _ ⟨n, Nat.lt_succ_self n, (iadd .i64 z166 1), (cpA z167 (imul .i64 4 z166) ((subL (lA (rdL (CA .u8 4 (by decide)) (subL y141 z157 (iadd .i64 z157 x163)) z166)) 0 4).take ((16 : Int).toNat - ((imul .i64 4 z166) : Int).toNat))), h, (hs.drop (.cons _ (.cons_cons _ (.cons_cons _ (.cons_cons _ (.cons_cons _ (.cons_cons _ (.cons_cons _ (.cons_cons _ (.cons_cons _ (.cons_cons _ (.cons_cons _ (.cons_cons _ (.cons_cons _ (.cons_cons _ (.cons_cons _ (.cons_cons _ .slnil))))))))))))))))), exg (by kernel_rfl)⟩)
        refine wpS.tk 0 false (some 101) (.bool false) (yld_b (df hc) (fun _ => by kernel_rfl)) ?_
        refine wpS.fin rfl (kr397 _ _ (then_n (ks396 _ _ (xseq_k fun KS407 ks407 => (wp_cond_f (by kernel_rfl) (xexit (then_x (then_x (inBlock_hit ?_)))))))))
        have q0 := of_some h
        subst q0
        exact exq_n (nn3 _ _ ⟨(hs.conv rfl), exg (by kernel_rfl)⟩)
      clear hs h hy
      rintro a w ⟨hs, g395, rfl⟩
      have h := hk3
      refine then_n (ks391 _ _ ?_)
      refine wp_regG [7, 10] (fun k => ¬ k = b119) 11 (by kernel_rfl) (by kernel_rfl) (by kernel_rfl) fun KR408 kr408 => ?_
      have hs := hs.drawn1
      refine wpG.takeK [0, 8, 9, 10] 0 (some 111) (.pointer (some ⟨b118, 0, none⟩)) (by kernel_rfl) (by kernel_rfl) (yld_load1 (e := 53) (o := 0) hs 11 rfl (by kernel_rfl) (by kernel_rfl) (by rfl) (.keep (fun hn => hn rfl))) ?_
      refine wpG.take [1, 2, 3, 4, 7, 8, 9, 10] 1 true (some 112) (.pointer (some ⟨b118, 0, none⟩)) (by kernel_rfl) (by kernel_rfl) (yld_load1 (e := 53) (o := 0) hs 11 rfl (by kernel_rfl) (by kernel_rfl) (by rfl) .grow) ?_
      refine wpG.q 2 113 (.pointer (some ⟨b118, 0, none⟩)) ?_
      refine wpG.q 3 114 (.pointer (some ⟨b118, 1, none⟩)) ?_
      refine wpG.tD 4 true (some 115) (.slice z158_A z158_n z158_c) (yld_load1 (e := 96) (o := 1) hs 12 rfl (by kernel_rfl) (by kernel_rfl) (by rfl) .grow) ?_
      refine wpG.take [5, 6, 7, 8, 9, 10] 5 true (some 116) (.agg (enc .u8 y168).toArray) (by kernel_rfl) (by kernel_rfl) (yld_loadW (e := 42) (n := 16) hs 0 rfl (by kernel_rfl) (by kernel_rfl) (by kernel_rfl) (by exact enc_len _ _) .grow) ?_
      refine wpG.only 6 (by kernel_rfl) (op_litL (C := (CA .u8 16 (by decide))) (t := 96) (e := 42) (len := 1) (parts := #[(0, .agg (enc .u8 y168).toArray)]) (l := [y168]) (d := (some 117)) (by kernel_rfl) hs (by kernel_rfl) rfl (by kernel_rfl) (by kernel_rfl) (z := .agg (enc .u8 (zeroA 16)).toArray) (by kernel_rfl) rfl (by decide) (by decide) ?_)
      intro s170_A s170_n s170_c w gw hs
      refine ⟨.of gw, ?_⟩
      obtain ⟨h0, h⟩ := of_chk h
      have hsB411 := hs
      refine wpG.only 7 (by kernel_rfl) (op_appendT (C := (CA .u8 16 (by decide))) (t := 96) (ty := 96) (e := 42) (bytes := 16) (B := 8796093022208) (d := (some 118)) (by kernel_rfl) hs 2 rfl (hs.rowL 0 rfl) (by kernel_rfl) (by kernel_rfl) (by kernel_rfl) (by kernel_rfl) (by kernel_rfl) h0 (by decide) (by decide) ?_)
      intro s171_A s171_n s171_c w hs
      refine ⟨⟨fun hf => absurd hf (by decide), (keepB1 (hsB411.blkAt 12 rfl) (hs.blkAt 12 rfl))⟩, ?_⟩
      refine wpG.q 8 119 (.pointer (some ⟨b118, 0, none⟩)) ?_
      refine wpG.q 9 120 (.pointer (some ⟨b118, 1, none⟩)) ?_
      have hsB410 := hs
      refine wpG.only 10 (by kernel_rfl) (op_store1 (t := 96) (o := 1) (v := .slice s171_A s171_n s171_c) (d := none) (by kernel_rfl) hs 13 rfl (by kernel_rfl) rfl (by kernel_rfl) (by simp) ?_)
      intro w kp hs
      refine ⟨⟨fun hf => absurd hf (by decide), (keepB1 (hsB410.blkAt 12 rfl) (hs.blkAt 12 rfl))⟩, ?_⟩
      refine wpG.fin (by kernel_rfl) rfl (kr408 _ _ ?_)
      refine inBlock_n ?_
      refine round_n qr387 hs 3 rfl fun w hs => ?_
      dsimp only [List.set] at hs
      refine ⟨fun _ => trivial, ?_⟩
      refine wpS.q 11 30 (.bool false) ?_
      refine wpS.fin rfl (kr386 _ _ (then_n (ks385 _ _ (wp_cond_f (by kernel_rfl) (xskip (inBlock_n (then_n (ks382 _ _ (xregS [0, 1, 2, 3] fun KR409 kr409 => ?_)))))))))
      refine wpS.q 0 10 (.int .i64 z157) ?_
      refine wpS.tk 1 true (some 11) (.int .i64 4) (yld_load1 (e := 3) (o := 0) hs 5 rfl (by kernel_rfl) (by kernel_rfl) (by rfl) .grow) ?_
      refine wpS.q 2 12 (.int .i64 (iadd .i64 z157 4)) ?_
      obtain ⟨x172, hx, h⟩ := of_bind h
      refine wpS.tk 3 false (some 4) (.int .i64 x172) (yld_int hx (fun _ => by kernel_rfl)) ?_
      refine wpS.fin rfl (kr409 _ _ ?_)
      exact then_n (kl2 _ _ ⟨n, Nat.lt_succ_self n, x172, (z158 ++ ([y168] : List (Arr 16))), s171_A, s171_n, s171_c, h, ((hs.drop (.cons _ (.cons _ (.cons_cons _ (.cons_cons _ (.cons_cons _ (.cons_cons _ (.cons_cons _ (.cons_cons _ (.cons_cons _ (.cons_cons _ (.cons_cons _ (.cons_cons _ (.cons_cons _ (.cons_cons _ (.cons_cons _ (.cons_cons _ .slnil))))))))))))))))).pickR (pick_cons 2 rfl (pick_cons 3 rfl (pick_cons 4 rfl pick_nil)))), exg (by kernel_rfl)⟩)
     refine wpS.tk 3 false (some 9) (.bool false) (yld_b (df hc) (fun _ => by kernel_rfl)) ?_
     refine wpS.fin rfl (kr381 _ _ (then_n (ks380 _ _ (wp_cond_f (by kernel_rfl) (xexit (then_x (then_x (inBlock_hit ?_))))))))
     have q0 := of_some h
     subst q0
     exact exq_n (nn2 _ _ ⟨z158_A, z158_n, z158_c, (hs.conv rfl), exg (by kernel_rfl)⟩)
   clear hs h hy
   rintro a w ⟨y160_A, y160_n, y160_c, hs, g378, rfl⟩
   have h := hk2
   refine qn374 _ _ (post_nrm (by kernel_rfl) (run_results [] [] (by kernel_rfl) .nil) ?_)
   refine range_n (a1 := ⟨#[.slice a0_A a0_n a0_c, undef, .pointer none, .pointer (some ⟨b119, 0, none⟩), .int .i64 x120, .pointer (some ⟨b122, 0, none⟩), undef, (g338 7), (g338 8), (g338 9), undef, undef, undef, undef, .pointer (some ⟨b117, 0, none⟩), .agg #[.pointer (some ⟨b117, 0, none⟩), .slice none 0 0], .pointer (some ⟨b118, 0, none⟩), .slice a0_A a0_n a0_c, .int .i64 (a0.length : Int), .int .i64 (iquo .i64 (a0.length : Int) 4), .int .i64 x120, .int .i64 (iadd .i64 x120 7), .int .i64 (imul .i64 4 (iadd .i64 x120 7)), .slice s121_A s121_n s121_c, .slice a0_A a0_n a0_c, .func (.func 102) #[] #[.pointer (some ⟨b123, 0, none⟩), .pointer (some ⟨b124, 0, none⟩)], undef, undef, undef, undef, undef, undef, undef, .int .i64 x120, (g338 34), (g338 35), (g338 36), (g338 37), (g338 38), (g338 39), (g338 40), (g338 41), (g338 42), (g338 43), (g338 44), (g338 45), (g338 46), (g338 47), (g338 48), (g338 49), (g338 50), (g338 51), (g338 52), (g338 53), (g338 54), (g338 55), (g338 56), (g338 57), (g338 58), (g338 59), (g338 60), (g338 61), (g338 62), (g338 63), (g338 64), (g338 65), (g338 66), (g338 67), (g338 68), (g338 69), (g338 70), (g338 71), (g338 72), (g338 73), (g338 74), (g338 75), (g338 76), (g338 77), (g338 78), (g338 79), (g338 80), (g338 81), (g338 82), (g338 83), (g338 84), (g338 85), (g338 86), (g338 87), (g338 88), (g338 89), (g338 90), (g338 91), (g338 92), (g338 93), (g338 94), .slice y141_A y141_n y141_c, .func (.func 108) #[] #[.pointer (some ⟨b155, 0, none⟩), .pointer (some ⟨b156, 0, none⟩)], undef, undef, undef, undef, undef, undef, undef, undef, undef, undef, undef, undef, undef, undef, undef, undef, undef, undef, undef, undef, undef, undef, undef, undef, undef], [lmark D374, lmark D316]⟩) kR374 (by kernel_rfl) hs 1 rfl fun w hs => ?_
   dsimp only [List.set] at hs
   refine inBlock_n (then_n (ks363 _ _ (xseq_k fun KS412 ks412 => (xregS [0, 1] fun KR413 kr413 => ?_))))
   refine wpS.tk 0 true (some 121) (.pointer (some ⟨b118, 0, none⟩)) (yld_load1 (e := 53) (o := 0) hs 10 rfl (by kernel_rfl) (by kernel_rfl) (by rfl) .grow) ?_
   refine wpS.q 1 2 (.pointer (some ⟨b118, 0, none⟩)) ?_
   refine wpS.fin rfl (kr413 _ _ (then_n (ks412 _ _ (xret ?_))))
   refine qq295 _ _ ?_
   refine leaves_mark hs 2 rfl fun w hs => ?_
   dsimp only [List.set] at hs
   refine leaves_mark hs 6 rfl fun w hs => ?_
   dsimp only [List.set] at hs
   refine leaves_end (run_results [.tmp 2] [.pointer (some ⟨b118, 0, none⟩)] (by kernel_rfl) (.cons (res_tmp (by kernel_rfl)) .nil)) ?_
   refine kI295 _ _ ?_
   refine ⟨⟨fun hf => absurd hf (by decide), (keepW hsB296 hs)⟩, ?_⟩
   have hsB415 := hs
   refine wpG.only 5 (by kernel_rfl) (op_inline (d := (some 19)) (f := 48) (args := #[.pointer (some ⟨b118, 0, none⟩), .agg (enc .u8 (arrL 16 a1)).toArray]) (by kernel_rfl) (fun _ => by kernel_rfl) fun R414 kI414 => ?_)
   refine calls_k Try.func48 rfl fun Q414 qq414 => ?_
   refine wp_conv (a' := ⟨#[.pointer (some ⟨b118, 0, none⟩), .agg (enc .u8 (arrL 16 a1)).toArray, undef, undef, undef, undef, undef, undef, undef, undef, undef, undef, undef, undef, undef, undef, undef, undef, undef, undef, undef, undef, undef, undef, undef, undef, undef, undef, undef, undef, undef, undef, undef, undef, undef, undef, undef, undef, undef, undef, undef, undef, undef, undef, undef, undef, undef, undef, undef, undef, undef, undef, undef], []⟩) (by kernel_rfl) ?_
   refine xseq_k fun KS416 ks416 => ?_
   refine xregS [0, 1] fun KR417 kr417 => ?_
   refine wpS.only 0 (op_box (t := 42) (v := .agg (enc .u8 (arrL 16 a1)).toArray) (d := (some 3)) (by kernel_rfl) hs (enc .u8 (arrL 16 a1)) (by kernel_rfl) (by kernel_rfl) ?_)
   intro b173 w gw hs
   refine ⟨fun _ => trivial, ?_⟩
   refine wpS.only 1 (op_alloc (t := 42) (d := (some 4)) (by kernel_rfl) hs (enc .u8 (zeroA 16)) (.agg (enc .u8 (zeroA 16)).toArray) (by kernel_rfl) (by kernel_rfl) (by kernel_rfl) ?_)
   intro b174 w gw hs
   refine ⟨fun _ => trivial, ?_⟩
   refine wpS.fin rfl (kr417 _ _ (then_n (ks416 _ _ (xseq_k fun KS418 ks418 => (xregS [0, 1, 2, 3, 4, 5, 6] fun KR419 kr419 => ?_)))))
   refine wpS.qs [(0, 9, .pointer (some ⟨b118, 0, none⟩)), (1, 10, .pointer (some ⟨b118, 0, none⟩)), (2, 11, .pointer (some ⟨b118, 1, none⟩))] ?_
   refine wpS.tk 3 true (some 12) (.slice y160_A y160_n y160_c) (yld_load1 (e := 96) (o := 1) hs 13 rfl (by kernel_rfl) (by kernel_rfl) (by rfl) .grow) ?_
   refine wpS.tk 4 false (some 13) (.int .i64 (y160.length : Int)) (yld_lenL (hs.rowL 2 rfl) (fun _ => by kernel_rfl)) ?_
   refine wpS.q 5 14 (.int .i64 (isub .i64 (y160.length : Int) 1)) ?_
   obtain ⟨x175, hx, h⟩ := of_bind h
   refine wpS.tk 6 false (some 5) (.int .i64 x175) (yld_int hx (fun _ => by kernel_rfl)) ?_
   refine wpS.fin rfl (kr419 _ _ (then_n (ks418 _ _ (xseq_k fun KS420 ks420 => (xregS [0, 1] fun KR421 kr421 => ?_)))))
   refine wpS.q 0 15 (.pointer (some ⟨b118, 0, none⟩)) ?_
   refine wpS.only 1 (op_inline (d := (some 16)) (f := 86) (args := #[.pointer (some ⟨b118, 0, none⟩), .pointer (some ⟨b173, 0, none⟩), .int .i64 0]) (by kernel_rfl) (fun _ => by kernel_rfl) fun R422 kI422 => ?_)
   refine calls_kn Try.func86 rfl fun Q422 qq422 qn422 => ?_
   refine wp_conv (a' := ⟨#[.pointer (some ⟨b118, 0, none⟩), .pointer (some ⟨b173, 0, none⟩), .int .i64 0, undef, undef, undef, undef, undef, undef, undef, undef, undef, undef, undef, undef, undef, undef, undef, undef, undef, undef, undef, undef, undef, undef, undef, undef, undef, undef], []⟩) (by kernel_rfl) ?_
   refine xseq_k fun KS423 ks423 => ?_
   refine xregS [0, 1, 2, 3, 4, 5, 6, 7] fun KR424 kr424 => ?_
   refine wpS.qs [(0, 8, .pointer (some ⟨b118, 0, none⟩)), (1, 9, .pointer (some ⟨b118, 0, none⟩)), (2, 10, .pointer (some ⟨b118, 1, none⟩))] ?_
   refine wpS.tk 3 true (some 11) (.slice y160_A y160_n y160_c) (yld_load1 (e := 96) (o := 1) hs 13 rfl (by kernel_rfl) (by kernel_rfl) (by rfl) .grow) ?_
   refine wpS.q 4 12 (.int .i64 0) ?_
   obtain ⟨h0, h⟩ := of_chk h
   obtain ⟨h1, h⟩ := of_chk h
   have i0_425 := h0
   have i1_425 := h1
   refine wpS.tk 5 false (some 13) (.pointer (adr y160_A ((0 : Int).toNat * Cod.size (CA .u8 16 (by decide))))) (yld_idxL (C := (CA .u8 16 (by decide))) (t := 96) (e := 42) (k := .i64) (x := 0) (hs.rowL 2 rfl) (by kernel_rfl) (by kernel_rfl) (by kernel_rfl) h0 h1) ?_
   refine wpS.tk 6 true (some 14) (.agg (enc .u8 (rdL (CA .u8 16 (by decide)) y160 0)).toArray) (yld_loadLA (C := (CA .u8 16 (by decide))) (e := 42) (x := 0) (hs.rowL 2 rfl) (by kernel_rfl) rfl (by kernel_rfl) (by kernel_rfl) i0_425 i1_425) ?_
   refine wpS.q 7 15 (.int .i64 0) ?_
   refine wpS.fin rfl (kr424 _ _ (then_n (ks423 _ _ ?_)))
   obtain ⟨y178, hy, hk4⟩ := of_bind h
   refine wp_exq (N := fun a w => St w0 [] [.blk b174 (enc .u8 (zeroA 16)) 42, .blk b173 (enc .u8 y178) 42, .ownL (CA .u8 16 (by decide)) y160_A y160_n y160_c y160 42, .obj l374 (.loop (rec374 .exhausted none)), .obj D374 (.deferred none), .blk b156 ([.int .i64 4]) 3, .blk b155 ([.slice y141_A y141_n y141_c]) 99, .obj l316 (.loop (rec316 .exhausted none)), .obj D316 (.deferred none), .blk b124 ([.int .i64 4]) 3, .blk b123 ([.slice a0_A a0_n a0_c]) 26, .blk b122 ([.slice y141_A y141_n y141_c]) 99, .blk b119 ([.pointer (some ⟨b118, 0, none⟩)]) 53, .blk b118 ([.pointer (some ⟨b117, 0, none⟩), .slice y160_A y160_n y160_c]) 98, .blk b117 (([] : List Value) ++ enc .u8 r116_0 ++ enc .u8 r116_1 ++ ([] : List Value)) 48, .blk b115 (enc .u8 (zeroA 16)) 42] [.rowL (CA .u8 4 (by decide)) y141_A y141_n y141_c y141, .rowL (CI .u8) a0_A a0_n a0_c a0, .rowL (CI .u8) a1_A a1_n a1_c a1] w ∧ ∃ g427 : Nat → Value, a = ⟨#[.pointer (some ⟨b118, 0, none⟩), .pointer (some ⟨b173, 0, none⟩), .int .i64 0, undef, undef, undef, (g427 6), (g427 7), .pointer (some ⟨b118, 0, none⟩), .pointer (some ⟨b118, 0, none⟩), .pointer (some ⟨b118, 1, none⟩), .slice y160_A y160_n y160_c, .int .i64 0, .pointer (adr y160_A ((0 : Int).toNat * Cod.size (CA .u8 16 (by decide)))), .agg (enc .u8 (rdL (CA .u8 16 (by decide)) y160 0)).toArray, (g427 15), (g427 16), (g427 17), (g427 18), (g427 19), (g427 20), (g427 21), (g427 22), (g427 23), (g427 24), (g427 25), (g427 26), (g427 27), (g427 28)], []⟩) (fun N4 nn4 => ?_) ?_
   ·clear hk4
    refine xblock ?_
    refine wp_loop_k (fun n a w => ∃ z176 z177, aes_Block.l4 K n y160 z176 z177 = some y178 ∧ St w0 [] [.blk b174 (enc .u8 (zeroA 16)) 42, .blk b173 (enc .u8 z177) 42, .ownL (CA .u8 16 (by decide)) y160_A y160_n y160_c y160 42, .obj l374 (.loop (rec374 .exhausted none)), .obj D374 (.deferred none), .blk b156 ([.int .i64 4]) 3, .blk b155 ([.slice y141_A y141_n y141_c]) 99, .obj l316 (.loop (rec316 .exhausted none)), .obj D316 (.deferred none), .blk b124 ([.int .i64 4]) 3, .blk b123 ([.slice a0_A a0_n a0_c]) 26, .blk b122 ([.slice y141_A y141_n y141_c]) 99, .blk b119 ([.pointer (some ⟨b118, 0, none⟩)]) 53, .blk b118 ([.pointer (some ⟨b117, 0, none⟩), .slice y160_A y160_n y160_c]) 98, .blk b117 (([] : List Value) ++ enc .u8 r116_0 ++ enc .u8 r116_1 ++ ([] : List Value)) 48, .blk b115 (enc .u8 (zeroA 16)) 42] [.rowL (CA .u8 4 (by decide)) y141_A y141_n y141_c y141, .rowL (CI .u8) a0_A a0_n a0_c a0, .rowL (CI .u8) a1_A a1_n a1_c a1] w ∧ ∃ g426 : Nat → Value, a = ⟨#[.pointer (some ⟨b118, 0, none⟩), .pointer (some ⟨b173, 0, none⟩), .int .i64 0, undef, undef, undef, (g426 6), (g426 7), .pointer (some ⟨b118, 0, none⟩), .pointer (some ⟨b118, 0, none⟩), .pointer (some ⟨b118, 1, none⟩), .slice y160_A y160_n y160_c, .int .i64 0, .pointer (adr y160_A ((0 : Int).toNat * Cod.size (CA .u8 16 (by decide)))), .agg (enc .u8 (rdL (CA .u8 16 (by decide)) y160 0)).toArray, .int .i64 z176, (g426 16), (g426 17), (g426 18), (g426 19), (g426 20), (g426 21), (g426 22), (g426 23), (g426 24), (g426 25), (g426 26), (g426 27), (g426 28)], []⟩) K ⟨0, (arrL 16 a1), hy, hs.conv rfl, exg (by kernel_rfl)⟩ ?_
    clear hs h hy
    rintro n a w ⟨z176, z177, h, hs, g426, rfl⟩ KL4 kl4
    cases n with
    | zero => exact nomatch (show none = some _ from h)
    | succ n =>
     refine xseq_k fun KS428 ks428 => ?_
     refine xregS [0] fun KR429 kr429 => ?_
     rcases of_if h with ⟨hc, h⟩ | ⟨hc, h⟩
     ·refine wpS.tk 0 false (some 16) (.bool true) (yld_b (dt hc) (fun _ => by kernel_rfl)) ?_
      refine wpS.fin rfl (kr429 _ _ (then_n (ks428 _ _ (xseq_k fun KS430 ks430 => (wp_cond_t (by kernel_rfl) (xskip (then_n (ks430 _ _ (xseq_k fun KS431 ks431 => (xblock (xseq_k fun KS432 ks432 => (xregS [0, 1, 2, 3] fun KR433 kr433 => ?_))))))))))))
      refine wpS.q 0 17 (.int .i64 z176) ?_
      obtain ⟨h0, h⟩ := of_chk h
      obtain ⟨h1, h⟩ := of_chk h
      refine wpS.tk 1 false (some 18) (.int .u8 (rd (rdL (CA .u8 16 (by decide)) y160 0) z176)) (yld_at (t := 42) (e := 5) (k' := .i64) (by kernel_rfl) (by kernel_rfl) (by kernel_rfl) (by kernel_rfl) h0 h1) ?_
      refine wpS.q 2 6 (.int .i64 z176) ?_
      obtain ⟨x179, hx, h⟩ := of_bind h
      refine wpS.tk 3 false (some 7) (.int .u8 x179) (yld_int hx (fun _ => by kernel_rfl)) ?_
      refine wpS.fin rfl (kr433 _ _ (then_n (ks432 _ _ ?_)))
      refine wp_regG [9] (fun k => True) 10 (by kernel_rfl) (by kernel_rfl) (by kernel_rfl) fun KR434 kr434 => ?_
      have hs := hs.drawn1
      refine wpG.q 0 19 (.pointer (some ⟨b173, 0, none⟩)) ?_
      refine wpG.q 1 20 (.int .i64 z176) ?_
      refine wpG.q 2 21 (.pointer (some ⟨b173, 0, none⟩)) ?_
      obtain ⟨i0_435, h⟩ := of_chk h
      obtain ⟨i1_435, h⟩ := of_chk h
      refine wpG.tD 3 false (some 22) (.pointer (some ⟨b173, 0 + (z176 : Int).toNat * 1, none⟩)) (yld_idx (t := 42) (e := 5) (n := 16) (sz := 1) (k := .i64) (x := z176) (by kernel_rfl) (by kernel_rfl) (by kernel_rfl) i0_435 i1_435) ?_
      refine wpG.tD 4 true (some 23) (.int .u8 (rd z177 z176)) (yld_loadA (e := 5) (x := z176) hs 1 rfl (by kernel_rfl) (by kernel_rfl) i0_435 i1_435 .grow) ?_
      refine wpG.q 5 24 (.int .u8 x179) ?_
      refine wpG.q 6 25 (.int .u8 (ixor .u8 (rd z177 z176) x179)) ?_
      refine wpG.q 7 26 (.pointer (some ⟨b173, 0, none⟩)) ?_
      obtain ⟨i0_436, h⟩ := of_chk h
      obtain ⟨i1_436, h⟩ := of_chk h
      refine wpG.tD 8 false (some 27) (.pointer (some ⟨b173, 0 + (z176 : Int).toNat * 1, none⟩)) (yld_idx (t := 42) (e := 5) (n := 16) (sz := 1) (k := .i64) (x := z176) (by kernel_rfl) (by kernel_rfl) (by kernel_rfl) i0_436 i1_436) ?_
      obtain ⟨x180, hx, h⟩ := of_bind h
      refine wpG.only 9 (by kernel_rfl) (op_storeA (t := 5) (x := z176) (v := x180) (d := none) (by kernel_rfl) hs 1 rfl (by cases hx; kernel_rfl) (by kernel_rfl) i0_436 i1_436 ?_)
      intro w kp hs
      refine ⟨⟨fun hf => absurd hf (by decide), .all _ _⟩, ?_⟩
      refine wpG.fin (by kernel_rfl) rfl (kr434 _ _ ?_)
      refine inBlock_n (then_n (ks431 _ _ (xregS [0, 1] fun KR437 kr437 => ?_)))
      refine wpS.qs [(0, 28, .int .i64 (iadd .i64 z176 1)), (1, 15, .int .i64 (iadd .i64 z176 1))] ?_
      refine wpS.fin rfl (kr437 _ _ ?_)
      exact then_n (kl4 _ _ ⟨n, Nat.lt_succ_self n, (iadd .i64 z176 1), (wr z177 z176 x180), h, (hs.conv rfl), exg (by kernel_rfl)⟩)
     refine wpS.tk 0 false (some 16) (.bool false) (yld_b (df hc) (fun _ => by kernel_rfl)) ?_
     refine wpS.fin rfl (kr429 _ _ (then_n (ks428 _ _ (xseq_k fun KS438 ks438 => (wp_cond_f (by kernel_rfl) (xexit (then_x (then_x (inBlock_hit ?_)))))))))
     have q0 := of_some h
     subst q0
     exact exq_n (nn4 _ _ ⟨(hs.conv rfl), exg (by kernel_rfl)⟩)
   clear hs h hy
   rintro a w ⟨hs, g427, rfl⟩
   have h := hk4
   refine qn422 _ _ (post_nrm (by kernel_rfl) (run_results [] [] (by kernel_rfl) .nil) ?_)
   refine kI422 _ _ ?_
   refine ⟨fun _ => trivial, ?_⟩
   refine wpS.fin rfl (kr421 _ _ (then_n (ks420 _ _ (xseq_k fun KS439 ks439 => (xseq_k fun KS440 ks440 => (xregS [0] fun KR441 kr441 => ?_))))))
   refine wpS.q 0 6 (.int .i64 1) ?_
   refine wpS.fin rfl (kr441 _ _ (then_n (ks440 _ _ ?_)))
   obtain ⟨y183, hy, hk5⟩ := of_bind h
   refine wp_exq (N := fun a w => St w0 [] [.blk b174 (enc .u8 (zeroA 16)) 42, .blk b173 (enc .u8 y183) 42, .ownL (CA .u8 16 (by decide)) y160_A y160_n y160_c y160 42, .obj l374 (.loop (rec374 .exhausted none)), .obj D374 (.deferred none), .blk b156 ([.int .i64 4]) 3, .blk b155 ([.slice y141_A y141_n y141_c]) 99, .obj l316 (.loop (rec316 .exhausted none)), .obj D316 (.deferred none), .blk b124 ([.int .i64 4]) 3, .blk b123 ([.slice a0_A a0_n a0_c]) 26, .blk b122 ([.slice y141_A y141_n y141_c]) 99, .blk b119 ([.pointer (some ⟨b118, 0, none⟩)]) 53, .blk b118 ([.pointer (some ⟨b117, 0, none⟩), .slice y160_A y160_n y160_c]) 98, .blk b117 (([] : List Value) ++ enc .u8 r116_0 ++ enc .u8 r116_1 ++ ([] : List Value)) 48, .blk b115 (enc .u8 (zeroA 16)) 42] [.rowL (CA .u8 4 (by decide)) y141_A y141_n y141_c y141, .rowL (CI .u8) a0_A a0_n a0_c a0, .rowL (CI .u8) a1_A a1_n a1_c a1] w ∧ ∃ g443 : Nat → Value, a = ⟨#[.pointer (some ⟨b118, 0, none⟩), .agg (enc .u8 (arrL 16 a1)).toArray, undef, .pointer (some ⟨b173, 0, none⟩), .pointer (some ⟨b174, 0, none⟩), .int .i64 x175, (g443 6), (g443 7), (g443 8), .pointer (some ⟨b118, 0, none⟩), .pointer (some ⟨b118, 0, none⟩), .pointer (some ⟨b118, 1, none⟩), .slice y160_A y160_n y160_c, .int .i64 (y160.length : Int), .int .i64 (isub .i64 (y160.length : Int) 1), .pointer (some ⟨b118, 0, none⟩), .tuple #[], (g443 17), (g443 18), (g443 19), (g443 20), (g443 21), (g443 22), (g443 23), (g443 24), (g443 25), (g443 26), (g443 27), (g443 28), (g443 29), (g443 30), (g443 31), (g443 32), (g443 33), (g443 34), (g443 35), (g443 36), (g443 37), (g443 38), (g443 39), (g443 40), (g443 41), (g443 42), (g443 43), (g443 44), (g443 45), (g443 46), (g443 47), (g443 48), (g443 49), (g443 50), (g443 51), undef], []⟩) (fun N5 nn5 => ?_) ?_
   ·clear hk5
    refine xblock ?_
    refine wp_loop_k (fun n a w => ∃ z181 z182, aes_Block.l5 K n r116_0 y160 x175 z181 z182 = some y183 ∧ St w0 [] [.blk b174 (enc .u8 (zeroA 16)) 42, .blk b173 (enc .u8 z182) 42, .ownL (CA .u8 16 (by decide)) y160_A y160_n y160_c y160 42, .obj l374 (.loop (rec374 .exhausted none)), .obj D374 (.deferred none), .blk b156 ([.int .i64 4]) 3, .blk b155 ([.slice y141_A y141_n y141_c]) 99, .obj l316 (.loop (rec316 .exhausted none)), .obj D316 (.deferred none), .blk b124 ([.int .i64 4]) 3, .blk b123 ([.slice a0_A a0_n a0_c]) 26, .blk b122 ([.slice y141_A y141_n y141_c]) 99, .blk b119 ([.pointer (some ⟨b118, 0, none⟩)]) 53, .blk b118 ([.pointer (some ⟨b117, 0, none⟩), .slice y160_A y160_n y160_c]) 98, .blk b117 (([] : List Value) ++ enc .u8 r116_0 ++ enc .u8 r116_1 ++ ([] : List Value)) 48, .blk b115 (enc .u8 (zeroA 16)) 42] [.rowL (CA .u8 4 (by decide)) y141_A y141_n y141_c y141, .rowL (CI .u8) a0_A a0_n a0_c a0, .rowL (CI .u8) a1_A a1_n a1_c a1] w ∧ ∃ g442 : Nat → Value, a = ⟨#[.pointer (some ⟨b118, 0, none⟩), .agg (enc .u8 (arrL 16 a1)).toArray, undef, .pointer (some ⟨b173, 0, none⟩), .pointer (some ⟨b174, 0, none⟩), .int .i64 x175, .int .i64 z181, (g442 7), (g442 8), .pointer (some ⟨b118, 0, none⟩), .pointer (some ⟨b118, 0, none⟩), .pointer (some ⟨b118, 1, none⟩), .slice y160_A y160_n y160_c, .int .i64 (y160.length : Int), .int .i64 (isub .i64 (y160.length : Int) 1), .pointer (some ⟨b118, 0, none⟩), .tuple #[], (g442 17), (g442 18), (g442 19), (g442 20), (g442 21), (g442 22), (g442 23), (g442 24), (g442 25), (g442 26), (g442 27), (g442 28), (g442 29), (g442 30), (g442 31), (g442 32), (g442 33), (g442 34), (g442 35), (g442 36), (g442 37), (g442 38), (g442 39), (g442 40), (g442 41), (g442 42), (g442 43), (g442 44), (g442 45), (g442 46), (g442 47), (g442 48), (g442 49), (g442 50), (g442 51), undef], []⟩) K ⟨1, y178, hy, hs.conv rfl, exg (by kernel_rfl)⟩ ?_
    clear hs h hy
    rintro n a w ⟨z181, z182, h, hs, g442, rfl⟩ KL5 kl5
    cases n with
    | zero => exact nomatch (show none = some _ from h)
    | succ n =>
     refine xseq_k fun KS444 ks444 => ?_
     refine xseq_k fun KS445 ks445 => ?_
     refine xregS [0, 1, 2] fun KR446 kr446 => ?_
     refine wpS.qs [(0, 17, .int .i64 z181), (1, 18, .int .i64 x175)] ?_
     rcases of_if h with ⟨hc, h⟩ | ⟨hc, h⟩
     ·refine wpS.tk 2 false (some 19) (.bool true) (yld_b (dt hc) (fun _ => by kernel_rfl)) ?_
      refine wpS.fin rfl (kr446 _ _ (then_n (ks445 _ _ (wp_cond_t (by kernel_rfl) (xskip (then_n (ks444 _ _ (xseq_k fun KS447 ks447 => (xblock (xseq_k fun KS448 ks448 => (xregS [0] fun KR449 kr449 => ?_)))))))))))
      refine wpS.only 0 (op_alloc (t := 42) (d := (some 7)) (by kernel_rfl) hs (enc .u8 (zeroA 16)) (.agg (enc .u8 (zeroA 16)).toArray) (by kernel_rfl) (by kernel_rfl) (by kernel_rfl) ?_)
      intro b184 w gw hs
      refine ⟨fun _ => trivial, ?_⟩
      refine wpS.fin rfl (kr449 _ _ (then_n (ks448 _ _ (xseq_k fun KS450 ks450 => (xseq_k fun KS451 ks451 => (xregS [0] fun KR452 kr452 => ?_))))))
      refine wpS.q 0 22 (.int .i64 0) ?_
      refine wpS.fin rfl (kr452 _ _ (then_n (ks451 _ _ ?_)))
      obtain ⟨y187, hy, hk6⟩ := of_bind h
      refine wp_exq (N := fun a w => St w0 [] [.blk b184 (enc .u8 y187) 42, .blk b174 (enc .u8 (zeroA 16)) 42, .blk b173 (enc .u8 z182) 42, .ownL (CA .u8 16 (by decide)) y160_A y160_n y160_c y160 42, .obj l374 (.loop (rec374 .exhausted none)), .obj D374 (.deferred none), .blk b156 ([.int .i64 4]) 3, .blk b155 ([.slice y141_A y141_n y141_c]) 99, .obj l316 (.loop (rec316 .exhausted none)), .obj D316 (.deferred none), .blk b124 ([.int .i64 4]) 3, .blk b123 ([.slice a0_A a0_n a0_c]) 26, .blk b122 ([.slice y141_A y141_n y141_c]) 99, .blk b119 ([.pointer (some ⟨b118, 0, none⟩)]) 53, .blk b118 ([.pointer (some ⟨b117, 0, none⟩), .slice y160_A y160_n y160_c]) 98, .blk b117 (([] : List Value) ++ enc .u8 r116_0 ++ enc .u8 r116_1 ++ ([] : List Value)) 48, .blk b115 (enc .u8 (zeroA 16)) 42] [.rowL (CA .u8 4 (by decide)) y141_A y141_n y141_c y141, .rowL (CI .u8) a0_A a0_n a0_c a0, .rowL (CI .u8) a1_A a1_n a1_c a1] w ∧ ∃ g454 : Nat → Value, a = ⟨#[.pointer (some ⟨b118, 0, none⟩), .agg (enc .u8 (arrL 16 a1)).toArray, undef, .pointer (some ⟨b173, 0, none⟩), .pointer (some ⟨b174, 0, none⟩), .int .i64 x175, .int .i64 z181, .pointer (some ⟨b184, 0, none⟩), (g454 8), .pointer (some ⟨b118, 0, none⟩), .pointer (some ⟨b118, 0, none⟩), .pointer (some ⟨b118, 1, none⟩), .slice y160_A y160_n y160_c, .int .i64 (y160.length : Int), .int .i64 (isub .i64 (y160.length : Int) 1), .pointer (some ⟨b118, 0, none⟩), .tuple #[], .int .i64 z181, .int .i64 x175, .bool true, (g442 20), (g442 21), (g454 22), (g454 23), (g454 24), (g454 25), (g454 26), (g454 27), (g454 28), (g454 29), (g454 30), (g454 31), (g454 32), (g454 33), (g454 34), (g454 35), (g454 36), (g454 37), (g454 38), (g454 39), (g454 40), (g454 41), (g454 42), (g454 43), (g442 44), (g442 45), (g442 46), (g442 47), (g442 48), (g442 49), (g442 50), (g442 51), undef], []⟩) (fun N6 nn6 => ?_) ?_
      ·clear hk6
       refine xblock ?_
       refine wp_loop_k (fun n a w => ∃ z185 z186, aes_Block.l6 K n r116_0 z182 z185 z186 = some y187 ∧ St w0 [] [.blk b184 (enc .u8 z186) 42, .blk b174 (enc .u8 (zeroA 16)) 42, .blk b173 (enc .u8 z182) 42, .ownL (CA .u8 16 (by decide)) y160_A y160_n y160_c y160 42, .obj l374 (.loop (rec374 .exhausted none)), .obj D374 (.deferred none), .blk b156 ([.int .i64 4]) 3, .blk b155 ([.slice y141_A y141_n y141_c]) 99, .obj l316 (.loop (rec316 .exhausted none)), .obj D316 (.deferred none), .blk b124 ([.int .i64 4]) 3, .blk b123 ([.slice a0_A a0_n a0_c]) 26, .blk b122 ([.slice y141_A y141_n y141_c]) 99, .blk b119 ([.pointer (some ⟨b118, 0, none⟩)]) 53, .blk b118 ([.pointer (some ⟨b117, 0, none⟩), .slice y160_A y160_n y160_c]) 98, .blk b117 (([] : List Value) ++ enc .u8 r116_0 ++ enc .u8 r116_1 ++ ([] : List Value)) 48, .blk b115 (enc .u8 (zeroA 16)) 42] [.rowL (CA .u8 4 (by decide)) y141_A y141_n y141_c y141, .rowL (CI .u8) a0_A a0_n a0_c a0, .rowL (CI .u8) a1_A a1_n a1_c a1] w ∧ ∃ g453 : Nat → Value, a = ⟨#[.pointer (some ⟨b118, 0, none⟩), .agg (enc .u8 (arrL 16 a1)).toArray, undef, .pointer (some ⟨b173, 0, none⟩), .pointer (some ⟨b174, 0, none⟩), .int .i64 x175, .int .i64 z181, .pointer (some ⟨b184, 0, none⟩), (g453 8), .pointer (some ⟨b118, 0, none⟩), .pointer (some ⟨b118, 0, none⟩), .pointer (some ⟨b118, 1, none⟩), .slice y160_A y160_n y160_c, .int .i64 (y160.length : Int), .int .i64 (isub .i64 (y160.length : Int) 1), .pointer (some ⟨b118, 0, none⟩), .tuple #[], .int .i64 z181, .int .i64 x175, .bool true, (g442 20), (g442 21), .int .i64 z185, (g453 23), (g453 24), (g453 25), (g453 26), (g453 27), (g453 28), (g453 29), (g453 30), (g453 31), (g453 32), (g453 33), (g453 34), (g453 35), (g453 36), (g453 37), (g453 38), (g453 39), (g453 40), (g453 41), (g453 42), (g453 43), (g442 44), (g442 45), (g442 46), (g442 47), (g442 48), (g442 49), (g442 50), (g442 51), undef], []⟩) K ⟨0, (zeroA 16), hy, hs.conv rfl, exg (by kernel_rfl)⟩ ?_
       clear hs h hy
       rintro n a w ⟨z185, z186, h, hs, g453, rfl⟩ KL6 kl6
       cases n with
       | zero => exact nomatch (show none = some _ from h)
       | succ n =>
        refine xseq_k fun KS455 ks455 => ?_
        refine xregS [0] fun KR456 kr456 => ?_
        rcases of_if h with ⟨hc, h⟩ | ⟨hc, h⟩
        ·refine wpS.tk 0 false (some 23) (.bool true) (yld_b (dt hc) (fun _ => by kernel_rfl)) ?_
         refine wpS.fin rfl (kr456 _ _ (then_n (ks455 _ _ (xseq_k fun KS457 ks457 => (wp_cond_t (by kernel_rfl) (xskip (then_n (ks457 _ _ (xseq_k fun KS458 ks458 => (xblock (xseq_k fun KS459 ks459 => (xregS [0, 1] fun KR460 kr460 => ?_))))))))))))
         refine wpS.qs [(0, 24, .int .i64 z185), (1, 8, .int .i64 z185)] ?_
         refine wpS.fin rfl (kr460 _ _ (then_n (ks459 _ _ ?_)))
         refine wp_regG [18] (fun k => True) 19 (by kernel_rfl) (by kernel_rfl) (by kernel_rfl) fun KR461 kr461 => ?_
         have hs := hs.drawn1
         refine wpG.q 0 25 (.int .i64 z185) ?_
         refine wpG.q 1 26 (.pointer (some ⟨b118, 0, none⟩)) ?_
         refine wpG.q 2 27 (.pointer (some ⟨b118, 0, none⟩)) ?_
         refine wpG.q 3 28 (.pointer (some ⟨b118, 0, none⟩)) ?_
         refine wpG.tD 4 true (some 29) (.pointer (some ⟨b117, 0, none⟩)) (yld_load1 (e := 49) (o := 0) hs 14 rfl (by kernel_rfl) (by kernel_rfl) (by rfl) .grow) ?_
         refine wpG.q 5 30 (.int .i64 z185) ?_
         refine wpG.q 6 31 (.int .i64 z185) ?_
         refine wpG.q 7 32 (.int .i64 (irem .i64 z185 4)) ?_
         refine wpG.q 8 33 (.int .i64 (imul .i64 4 (irem .i64 z185 4))) ?_
         refine wpG.q 9 34 (.int .i64 (iadd .i64 z185 (imul .i64 4 (irem .i64 z185 4)))) ?_
         refine wpG.q 10 35 (.int .i64 (irem .i64 (iadd .i64 z185 (imul .i64 4 (irem .i64 z185 4))) 16)) ?_
         obtain ⟨x188, hx, h⟩ := of_bind h
         have hx := of_some hx
         subst hx
         obtain ⟨i0_462, h⟩ := of_chk h
         obtain ⟨i1_462, h⟩ := of_chk h
         refine wpG.tD 11 false (some 36) (.pointer (some ⟨b173, 0 + ((irem .i64 (iadd .i64 z185 (imul .i64 4 (irem .i64 z185 4))) 16) : Int).toNat * 1, none⟩)) (yld_idx (t := 42) (e := 5) (n := 16) (sz := 1) (k := .i64) (x := (irem .i64 (iadd .i64 z185 (imul .i64 4 (irem .i64 z185 4))) 16)) (by kernel_rfl) (by kernel_rfl) (by kernel_rfl) i0_462 i1_462) ?_
         refine wpG.tD 12 true (some 37) (.int .u8 (rd z182 (irem .i64 (iadd .i64 z185 (imul .i64 4 (irem .i64 z185 4))) 16))) (yld_loadA (e := 5) (x := (irem .i64 (iadd .i64 z185 (imul .i64 4 (irem .i64 z185 4))) 16)) hs 2 rfl (by kernel_rfl) (by kernel_rfl) i0_462 i1_462 .grow) ?_
         refine wpG.q 13 38 (.pointer (some ⟨b117, 0, none⟩)) ?_
         refine wpG.q 14 39 (.pointer (some ⟨b117, 0, none⟩)) ?_
         obtain ⟨x189, hx, h⟩ := of_bind h
         have hx := of_some hx
         subst hx
         obtain ⟨i0_463, h⟩ := of_chk h
         obtain ⟨i1_463, h⟩ := of_chk h
         refine wpG.tD 15 false (some 40) (.pointer (some ⟨b117, 0 + ((rd z182 (irem .i64 (iadd .i64 z185 (imul .i64 4 (irem .i64 z185 4))) 16)) : Int).toNat * 1, none⟩)) (yld_idx (t := 46) (e := 5) (n := 256) (sz := 1) (k := .u8) (x := (rd z182 (irem .i64 (iadd .i64 z185 (imul .i64 4 (irem .i64 z185 4))) 16))) (by kernel_rfl) (by kernel_rfl) (by kernel_rfl) i0_463 i1_463) ?_
         refine wpG.tD 16 true (some 41) (.int .u8 (rd r116_0 (rd z182 (irem .i64 (iadd .i64 z185 (imul .i64 4 (irem .i64 z185 4))) 16)))) (yld_loadR (m := 0) (k := .u8) (pre := ([] : List Value)) (post := enc .u8 r116_1) (c := r116_0) (e := 5) (x := (rd z182 (irem .i64 (iadd .i64 z185 (imul .i64 4 (irem .i64 z185 4))) 16))) hs 15 rfl (by simp only [List.append_assoc, List.nil_append, List.cons_append, List.append_nil]) (by kernel_rfl) (by kernel_rfl) i0_463 i1_463 (by simp [enc_len]) .grow) ?_
         obtain ⟨i0_464, h⟩ := of_chk h
         obtain ⟨i1_464, h⟩ := of_chk h
         refine wpG.tD 17 false (some 42) (.pointer (some ⟨b184, 0 + (z185 : Int).toNat * 1, none⟩)) (yld_idx (t := 42) (e := 5) (n := 16) (sz := 1) (k := .i64) (x := z185) (by kernel_rfl) (by kernel_rfl) (by kernel_rfl) i0_464 i1_464) ?_
         obtain ⟨x190, hx, h⟩ := of_bind h
         refine wpG.only 18 (by kernel_rfl) (op_storeA (t := 5) (x := z185) (v := x190) (d := none) (by kernel_rfl) hs 0 rfl (by cases hx; kernel_rfl) (by kernel_rfl) i0_464 i1_464 ?_)
         intro w kp hs
         refine ⟨⟨fun hf => absurd hf (by decide), .all _ _⟩, ?_⟩
         refine wpG.fin (by kernel_rfl) rfl (kr461 _ _ ?_)
         refine inBlock_n (then_n (ks458 _ _ (xregS [0, 1] fun KR465 kr465 => ?_)))
         refine wpS.qs [(0, 43, .int .i64 (iadd .i64 z185 1)), (1, 22, .int .i64 (iadd .i64 z185 1))] ?_
         refine wpS.fin rfl (kr465 _ _ ?_)
         exact then_n (kl6 _ _ ⟨n, Nat.lt_succ_self n, (iadd .i64 z185 1), (wr z186 z185 x190), h, (hs.conv rfl), exg (by kernel_rfl)⟩)
        refine wpS.tk 0 false (some 23) (.bool false) (yld_b (df hc) (fun _ => by kernel_rfl)) ?_
        refine wpS.fin rfl (kr456 _ _ (then_n (ks455 _ _ (xseq_k fun KS466 ks466 => (wp_cond_f (by kernel_rfl) (xexit (then_x (then_x (inBlock_hit ?_)))))))))
        have q0 := of_some h
        subst q0
        exact exq_n (nn6 _ _ ⟨(hs.conv rfl), exg (by kernel_rfl)⟩)
      clear hs h hy
      rintro a w ⟨hs, g454, rfl⟩
      have h := hk6
      refine then_n (ks450 _ _ ?_)
      obtain ⟨y191, hj, h⟩ := of_bind h
      refine xseq_k fun KS468 ks468 => wp_join (N := fun a w => St w0 [] [.blk b184 (enc .u8 y187) 42, .blk b174 (enc .u8 (zeroA 16)) 42, .blk b173 (enc .u8 y191) 42, .ownL (CA .u8 16 (by decide)) y160_A y160_n y160_c y160 42, .obj l374 (.loop (rec374 .exhausted none)), .obj D374 (.deferred none), .blk b156 ([.int .i64 4]) 3, .blk b155 ([.slice y141_A y141_n y141_c]) 99, .obj l316 (.loop (rec316 .exhausted none)), .obj D316 (.deferred none), .blk b124 ([.int .i64 4]) 3, .blk b123 ([.slice a0_A a0_n a0_c]) 26, .blk b122 ([.slice y141_A y141_n y141_c]) 99, .blk b119 ([.pointer (some ⟨b118, 0, none⟩)]) 53, .blk b118 ([.pointer (some ⟨b117, 0, none⟩), .slice y160_A y160_n y160_c]) 98, .blk b117 (([] : List Value) ++ enc .u8 r116_0 ++ enc .u8 r116_1 ++ ([] : List Value)) 48, .blk b115 (enc .u8 (zeroA 16)) 42] [.rowL (CA .u8 4 (by decide)) y141_A y141_n y141_c y141, .rowL (CI .u8) a0_A a0_n a0_c a0, .rowL (CI .u8) a1_A a1_n a1_c a1] w ∧ ∃ g467 : Nat → Value, a = ⟨#[.pointer (some ⟨b118, 0, none⟩), .agg (enc .u8 (arrL 16 a1)).toArray, undef, .pointer (some ⟨b173, 0, none⟩), .pointer (some ⟨b174, 0, none⟩), .int .i64 x175, .int .i64 z181, .pointer (some ⟨b184, 0, none⟩), (g454 8), .pointer (some ⟨b118, 0, none⟩), .pointer (some ⟨b118, 0, none⟩), .pointer (some ⟨b118, 1, none⟩), .slice y160_A y160_n y160_c, .int .i64 (y160.length : Int), .int .i64 (isub .i64 (y160.length : Int) 1), .pointer (some ⟨b118, 0, none⟩), .tuple #[], .int .i64 z181, .int .i64 x175, .bool true, (g442 20), (g442 21), (g454 22), (g454 23), (g454 24), (g454 25), (g454 26), (g454 27), (g454 28), (g454 29), (g454 30), (g454 31), (g454 32), (g454 33), (g454 34), (g454 35), (g454 36), (g454 37), (g454 38), (g454 39), (g454 40), (g454 41), (g454 42), (g454 43), (g467 44), (g467 45), (g467 46), (g467 47), (g467 48), (g442 49), (g442 50), (g442 51), undef], []⟩) (fun N nj => ?_) ?_
      ·clear h
       have h := hj
       refine xseq_k fun KS469 ks469 => ?_
       refine xregS [0, 1] fun KR470 kr470 => ?_
       refine wpS.tk 0 true (some 44) (.agg (enc .u8 y187).toArray) (yld_loadW (e := 42) (n := 16) hs 0 rfl (by kernel_rfl) (by kernel_rfl) (by kernel_rfl) (by exact enc_len _ _) .grow) ?_
       refine wpS.only 1 (op_storeW (t := 42) (v := .agg (enc .u8 y187).toArray) (d := none) (by kernel_rfl) hs 2 rfl (vs := enc .u8 y187) (n := 16) (by kernel_rfl) (by kernel_rfl) (by kernel_rfl) (by simp [enc_len]) (by simp [enc_len]) (by intro u hu; exact enc_one _ _ u hu) ?_)
       intro w kp hs
       refine ⟨fun _ => trivial, ?_⟩
       refine wpS.fin rfl (kr470 _ _ (then_n (ks469 _ _ (xseq_k fun KS471 ks471 => (xregS [0, 1, 2] fun KR472 kr472 => ?_)))))
       refine wpS.qs [(0, 45, .int .i64 z181), (1, 46, .int .i64 x175)] ?_
       rcases of_if h with ⟨hc, h⟩ | ⟨hc, h⟩
       ·refine wpS.tk 2 false (some 47) (.bool true) (yld_b (dt hc) (fun _ => by kernel_rfl)) ?_
        refine wpS.fin rfl (kr472 _ _ (then_n (ks471 _ _ (wp_cond_t (by kernel_rfl) (xregS [0] fun KR473 kr473 => ?_)))))
        obtain ⟨r192, hg, h⟩ := of_bind h
        refine wpS.only 0 (op_callX (d := (some 48)) (by kernel_rfl) hs 2 rfl (fun _ => by kernel_rfl) (aes_mix.ok hg _ (hs.blkAt 2 rfl)) ?_)
        intro w kp hs
        have hs := hs.conv (L' := [.blk b184 (enc .u8 y187) 42, .blk b174 (enc .u8 (zeroA 16)) 42, .blk b173 (enc .u8 r192) 42, .ownL (CA .u8 16 (by decide)) y160_A y160_n y160_c y160 42, .obj l374 (.loop (rec374 .exhausted none)), .obj D374 (.deferred none), .blk b156 ([.int .i64 4]) 3, .blk b155 ([.slice y141_A y141_n y141_c]) 99, .obj l316 (.loop (rec316 .exhausted none)), .obj D316 (.deferred none), .blk b124 ([.int .i64 4]) 3, .blk b123 ([.slice a0_A a0_n a0_c]) 26, .blk b122 ([.slice y141_A y141_n y141_c]) 99, .blk b119 ([.pointer (some ⟨b118, 0, none⟩)]) 53, .blk b118 ([.pointer (some ⟨b117, 0, none⟩), .slice y160_A y160_n y160_c]) 98, .blk b117 (([] : List Value) ++ enc .u8 r116_0 ++ enc .u8 r116_1 ++ ([] : List Value)) 48, .blk b115 (enc .u8 (zeroA 16)) 42]) rfl
        refine ⟨fun _ => trivial, ?_⟩
        refine wpS.fin rfl (kr473 _ _ ?_)
        have q0 := of_some h
        subst q0
        exact nj _ _ ⟨(hs.conv rfl), exg (by kernel_rfl)⟩
       refine wpS.tk 2 false (some 47) (.bool false) (yld_b (df hc) (fun _ => by kernel_rfl)) ?_
       refine wpS.fin rfl (kr472 _ _ (then_n (ks471 _ _ (wp_cond_f (by kernel_rfl) (xskip ?_)))))
       have q0 := of_some h
       subst q0
       exact nj _ _ ⟨(hs.conv rfl), exg (by kernel_rfl)⟩
      clear hj hs
      rintro a w ⟨hs, g467, rfl⟩
      refine then_n (ks468 _ _ (xregS [0, 1, 2] fun KR474 kr474 => ?_))
      refine wpS.qs [(0, 49, .pointer (some ⟨b118, 0, none⟩)), (1, 50, .int .i64 z181)] ?_
      refine wpS.only 2 (op_inline (d := (some 51)) (f := 86) (args := #[.pointer (some ⟨b118, 0, none⟩), .pointer (some ⟨b173, 0, none⟩), .int .i64 z181]) (by kernel_rfl) (fun _ => by kernel_rfl) fun R475 kI475 => ?_)
      refine calls_kn Try.func86 rfl fun Q475 qq475 qn475 => ?_
      refine wp_conv (a' := ⟨#[.pointer (some ⟨b118, 0, none⟩), .pointer (some ⟨b173, 0, none⟩), .int .i64 z181, undef, undef, undef, undef, undef, undef, undef, undef, undef, undef, undef, undef, undef, undef, undef, undef, undef, undef, undef, undef, undef, undef, undef, undef, undef, undef], []⟩) (by kernel_rfl) ?_
      refine xseq_k fun KS476 ks476 => ?_
      refine xregS [0, 1, 2, 3, 4, 5, 6, 7] fun KR477 kr477 => ?_
      refine wpS.qs [(0, 8, .pointer (some ⟨b118, 0, none⟩)), (1, 9, .pointer (some ⟨b118, 0, none⟩)), (2, 10, .pointer (some ⟨b118, 1, none⟩))] ?_
      refine wpS.tk 3 true (some 11) (.slice y160_A y160_n y160_c) (yld_load1 (e := 96) (o := 1) hs 14 rfl (by kernel_rfl) (by kernel_rfl) (by rfl) .grow) ?_
      refine wpS.q 4 12 (.int .i64 z181) ?_
      obtain ⟨h0, h⟩ := of_chk h
      obtain ⟨h1, h⟩ := of_chk h
      have i0_478 := h0
      have i1_478 := h1
      refine wpS.tk 5 false (some 13) (.pointer (adr y160_A ((z181 : Int).toNat * Cod.size (CA .u8 16 (by decide))))) (yld_idxL (C := (CA .u8 16 (by decide))) (t := 96) (e := 42) (k := .i64) (x := z181) (hs.rowL 3 rfl) (by kernel_rfl) (by kernel_rfl) (by kernel_rfl) h0 h1) ?_
      refine wpS.tk 6 true (some 14) (.agg (enc .u8 (rdL (CA .u8 16 (by decide)) y160 z181)).toArray) (yld_loadLA (C := (CA .u8 16 (by decide))) (e := 42) (x := z181) (hs.rowL 3 rfl) (by kernel_rfl) rfl (by kernel_rfl) (by kernel_rfl) i0_478 i1_478) ?_
      refine wpS.q 7 15 (.int .i64 0) ?_
      refine wpS.fin rfl (kr477 _ _ (then_n (ks476 _ _ ?_)))
      obtain ⟨y195, hy, hk7⟩ := of_bind h
      refine wp_exq (N := fun a w => St w0 [] [.blk b184 (enc .u8 y187) 42, .blk b174 (enc .u8 (zeroA 16)) 42, .blk b173 (enc .u8 y195) 42, .ownL (CA .u8 16 (by decide)) y160_A y160_n y160_c y160 42, .obj l374 (.loop (rec374 .exhausted none)), .obj D374 (.deferred none), .blk b156 ([.int .i64 4]) 3, .blk b155 ([.slice y141_A y141_n y141_c]) 99, .obj l316 (.loop (rec316 .exhausted none)), .obj D316 (.deferred none), .blk b124 ([.int .i64 4]) 3, .blk b123 ([.slice a0_A a0_n a0_c]) 26, .blk b122 ([.slice y141_A y141_n y141_c]) 99, .blk b119 ([.pointer (some ⟨b118, 0, none⟩)]) 53, .blk b118 ([.pointer (some ⟨b117, 0, none⟩), .slice y160_A y160_n y160_c]) 98, .blk b117 (([] : List Value) ++ enc .u8 r116_0 ++ enc .u8 r116_1 ++ ([] : List Value)) 48, .blk b115 (enc .u8 (zeroA 16)) 42] [.rowL (CA .u8 4 (by decide)) y141_A y141_n y141_c y141, .rowL (CI .u8) a0_A a0_n a0_c a0, .rowL (CI .u8) a1_A a1_n a1_c a1] w ∧ ∃ g480 : Nat → Value, a = ⟨#[.pointer (some ⟨b118, 0, none⟩), .pointer (some ⟨b173, 0, none⟩), .int .i64 z181, undef, undef, undef, (g480 6), (g480 7), .pointer (some ⟨b118, 0, none⟩), .pointer (some ⟨b118, 0, none⟩), .pointer (some ⟨b118, 1, none⟩), .slice y160_A y160_n y160_c, .int .i64 z181, .pointer (adr y160_A ((z181 : Int).toNat * Cod.size (CA .u8 16 (by decide)))), .agg (enc .u8 (rdL (CA .u8 16 (by decide)) y160 z181)).toArray, (g480 15), (g480 16), (g480 17), (g480 18), (g480 19), (g480 20), (g480 21), (g480 22), (g480 23), (g480 24), (g480 25), (g480 26), (g480 27), (g480 28)], []⟩) (fun N7 nn7 => ?_) ?_
      ·clear hk7
       refine xblock ?_
       refine wp_loop_k (fun n a w => ∃ z193 z194, aes_Block.l7 K n y160 z181 z193 z194 = some y195 ∧ St w0 [] [.blk b184 (enc .u8 y187) 42, .blk b174 (enc .u8 (zeroA 16)) 42, .blk b173 (enc .u8 z194) 42, .ownL (CA .u8 16 (by decide)) y160_A y160_n y160_c y160 42, .obj l374 (.loop (rec374 .exhausted none)), .obj D374 (.deferred none), .blk b156 ([.int .i64 4]) 3, .blk b155 ([.slice y141_A y141_n y141_c]) 99, .obj l316 (.loop (rec316 .exhausted none)), .obj D316 (.deferred none), .blk b124 ([.int .i64 4]) 3, .blk b123 ([.slice a0_A a0_n a0_c]) 26, .blk b122 ([.slice y141_A y141_n y141_c]) 99, .blk b119 ([.pointer (some ⟨b118, 0, none⟩)]) 53, .blk b118 ([.pointer (some ⟨b117, 0, none⟩), .slice y160_A y160_n y160_c]) 98, .blk b117 (([] : List Value) ++ enc .u8 r116_0 ++ enc .u8 r116_1 ++ ([] : List Value)) 48, .blk b115 (enc .u8 (zeroA 16)) 42] [.rowL (CA .u8 4 (by decide)) y141_A y141_n y141_c y141, .rowL (CI .u8) a0_A a0_n a0_c a0, .rowL (CI .u8) a1_A a1_n a1_c a1] w ∧ ∃ g479 : Nat → Value, a = ⟨#[.pointer (some ⟨b118, 0, none⟩), .pointer (some ⟨b173, 0, none⟩), .int .i64 z181, undef, undef, undef, (g479 6), (g479 7), .pointer (some ⟨b118, 0, none⟩), .pointer (some ⟨b118, 0, none⟩), .pointer (some ⟨b118, 1, none⟩), .slice y160_A y160_n y160_c, .int .i64 z181, .pointer (adr y160_A ((z181 : Int).toNat * Cod.size (CA .u8 16 (by decide)))), .agg (enc .u8 (rdL (CA .u8 16 (by decide)) y160 z181)).toArray, .int .i64 z193, (g479 16), (g479 17), (g479 18), (g479 19), (g479 20), (g479 21), (g479 22), (g479 23), (g479 24), (g479 25), (g479 26), (g479 27), (g479 28)], []⟩) K ⟨0, y191, hy, hs.conv rfl, exg (by kernel_rfl)⟩ ?_
       clear hs h hy
       rintro n a w ⟨z193, z194, h, hs, g479, rfl⟩ KL7 kl7
       cases n with
       | zero => exact nomatch (show none = some _ from h)
       | succ n =>
        refine xseq_k fun KS481 ks481 => ?_
        refine xregS [0] fun KR482 kr482 => ?_
        rcases of_if h with ⟨hc, h⟩ | ⟨hc, h⟩
        ·refine wpS.tk 0 false (some 16) (.bool true) (yld_b (dt hc) (fun _ => by kernel_rfl)) ?_
         refine wpS.fin rfl (kr482 _ _ (then_n (ks481 _ _ (xseq_k fun KS483 ks483 => (wp_cond_t (by kernel_rfl) (xskip (then_n (ks483 _ _ (xseq_k fun KS484 ks484 => (xblock (xseq_k fun KS485 ks485 => (xregS [0, 1, 2, 3] fun KR486 kr486 => ?_))))))))))))
         refine wpS.q 0 17 (.int .i64 z193) ?_
         obtain ⟨h0, h⟩ := of_chk h
         obtain ⟨h1, h⟩ := of_chk h
         refine wpS.tk 1 false (some 18) (.int .u8 (rd (rdL (CA .u8 16 (by decide)) y160 z181) z193)) (yld_at (t := 42) (e := 5) (k' := .i64) (by kernel_rfl) (by kernel_rfl) (by kernel_rfl) (by kernel_rfl) h0 h1) ?_
         refine wpS.q 2 6 (.int .i64 z193) ?_
         obtain ⟨x196, hx, h⟩ := of_bind h
         refine wpS.tk 3 false (some 7) (.int .u8 x196) (yld_int hx (fun _ => by kernel_rfl)) ?_
         refine wpS.fin rfl (kr486 _ _ (then_n (ks485 _ _ ?_)))
         refine wp_regG [9] (fun k => True) 10 (by kernel_rfl) (by kernel_rfl) (by kernel_rfl) fun KR487 kr487 => ?_
         have hs := hs.drawn1
         refine wpG.q 0 19 (.pointer (some ⟨b173, 0, none⟩)) ?_
         refine wpG.q 1 20 (.int .i64 z193) ?_
         refine wpG.q 2 21 (.pointer (some ⟨b173, 0, none⟩)) ?_
         obtain ⟨i0_488, h⟩ := of_chk h
         obtain ⟨i1_488, h⟩ := of_chk h
         refine wpG.tD 3 false (some 22) (.pointer (some ⟨b173, 0 + (z193 : Int).toNat * 1, none⟩)) (yld_idx (t := 42) (e := 5) (n := 16) (sz := 1) (k := .i64) (x := z193) (by kernel_rfl) (by kernel_rfl) (by kernel_rfl) i0_488 i1_488) ?_
         refine wpG.tD 4 true (some 23) (.int .u8 (rd z194 z193)) (yld_loadA (e := 5) (x := z193) hs 2 rfl (by kernel_rfl) (by kernel_rfl) i0_488 i1_488 .grow) ?_
         refine wpG.q 5 24 (.int .u8 x196) ?_
         refine wpG.q 6 25 (.int .u8 (ixor .u8 (rd z194 z193) x196)) ?_
         refine wpG.q 7 26 (.pointer (some ⟨b173, 0, none⟩)) ?_
         obtain ⟨i0_489, h⟩ := of_chk h
         obtain ⟨i1_489, h⟩ := of_chk h
         refine wpG.tD 8 false (some 27) (.pointer (some ⟨b173, 0 + (z193 : Int).toNat * 1, none⟩)) (yld_idx (t := 42) (e := 5) (n := 16) (sz := 1) (k := .i64) (x := z193) (by kernel_rfl) (by kernel_rfl) (by kernel_rfl) i0_489 i1_489) ?_
         obtain ⟨x197, hx, h⟩ := of_bind h
         refine wpG.only 9 (by kernel_rfl) (op_storeA (t := 5) (x := z193) (v := x197) (d := none) (by kernel_rfl) hs 2 rfl (by cases hx; kernel_rfl) (by kernel_rfl) i0_489 i1_489 ?_)
         intro w kp hs
         refine ⟨⟨fun hf => absurd hf (by decide), .all _ _⟩, ?_⟩
         refine wpG.fin (by kernel_rfl) rfl (kr487 _ _ ?_)
         refine inBlock_n (then_n (ks484 _ _ (xregS [0, 1] fun KR490 kr490 => ?_)))
         refine wpS.qs [(0, 28, .int .i64 (iadd .i64 z193 1)), (1, 15, .int .i64 (iadd .i64 z193 1))] ?_
         refine wpS.fin rfl (kr490 _ _ ?_)
         exact then_n (kl7 _ _ ⟨n, Nat.lt_succ_self n, (iadd .i64 z193 1), (wr z194 z193 x197), h, (hs.conv rfl), exg (by kernel_rfl)⟩)
        refine wpS.tk 0 false (some 16) (.bool false) (yld_b (df hc) (fun _ => by kernel_rfl)) ?_
        refine wpS.fin rfl (kr482 _ _ (then_n (ks481 _ _ (xseq_k fun KS491 ks491 => (wp_cond_f (by kernel_rfl) (xexit (then_x (then_x (inBlock_hit ?_)))))))))
        have q0 := of_some h
        subst q0
        exact exq_n (nn7 _ _ ⟨(hs.conv rfl), exg (by kernel_rfl)⟩)
      clear hs h hy
      rintro a w ⟨hs, g480, rfl⟩
      have h := hk7
      refine qn475 _ _ (post_nrm (by kernel_rfl) (run_results [] [] (by kernel_rfl) .nil) ?_)
      refine kI475 _ _ ?_
      refine ⟨fun _ => trivial, ?_⟩
      refine wpS.fin rfl (kr474 _ _ (inBlock_n (then_n (ks447 _ _ (xregS [0, 1, 2] fun KR492 kr492 => ?_)))))
      refine wpS.qs [(0, 20, .int .i64 z181), (1, 21, .int .i64 (iadd .i64 z181 1))] ?_
      obtain ⟨x198, hx, h⟩ := of_bind h
      refine wpS.tk 2 false (some 6) (.int .i64 x198) (yld_int hx (fun _ => by kernel_rfl)) ?_
      refine wpS.fin rfl (kr492 _ _ ?_)
      exact then_n (kl5 _ _ ⟨n, Nat.lt_succ_self n, x198, y195, h, (hs.drop (.cons _ (.cons_cons _ (.cons_cons _ (.cons_cons _ (.cons_cons _ (.cons_cons _ (.cons_cons _ (.cons_cons _ (.cons_cons _ (.cons_cons _ (.cons_cons _ (.cons_cons _ (.cons_cons _ (.cons_cons _ (.cons_cons _ (.cons_cons _ (.cons_cons _ .slnil)))))))))))))))))), exg (by kernel_rfl)⟩)
     refine wpS.tk 2 false (some 19) (.bool false) (yld_b (df hc) (fun _ => by kernel_rfl)) ?_
     refine wpS.fin rfl (kr446 _ _ (then_n (ks445 _ _ (wp_cond_f (by kernel_rfl) (xexit (then_x (then_x (inBlock_hit ?_))))))))
     have q0 := of_some h
     subst q0
     exact exq_n (nn5 _ _ ⟨(hs.conv rfl), exg (by kernel_rfl)⟩)
   clear hs h hy
   rintro a w ⟨hs, g443, rfl⟩
   have h := hk5
   refine then_n (ks439 _ _ (xseq_k fun KS493 ks493 => (xregS [0, 1] fun KR494 kr494 => ?_)))
   refine wpS.tk 0 true (some 52) (.agg (enc .u8 y183).toArray) (yld_loadW (e := 42) (n := 16) hs 1 rfl (by kernel_rfl) (by kernel_rfl) (by kernel_rfl) (by exact enc_len _ _) .grow) ?_
   refine wpS.only 1 (op_storeW (t := 42) (v := .agg (enc .u8 y183).toArray) (d := none) (by kernel_rfl) hs 0 rfl (vs := enc .u8 y183) (n := 16) (by kernel_rfl) (by kernel_rfl) (by kernel_rfl) (by simp [enc_len]) (by simp [enc_len]) (by intro u hu; exact enc_one _ _ u hu) ?_)
   intro w kp hs
   refine ⟨fun _ => trivial, ?_⟩
   refine wpS.fin rfl (kr494 _ _ (then_n (ks493 _ _ (xret ?_))))
   refine qq414 _ _ (post_ret (by kernel_rfl) (run_results [.cell 4 42] [.agg (enc .u8 y183).toArray] (by kernel_rfl) (.cons (res_cellN (n := 16) hs 0 rfl (by kernel_rfl) (by kernel_rfl) (by kernel_rfl) (by exact enc_len _ _)) .nil)) ?_)
   refine kI414 _ _ ?_
   refine ⟨⟨fun hf => absurd hf (by decide), (keepW hsB415 hs)⟩, ?_⟩
   have hsB495 := hs
   refine wpG.only 7 (by kernel_rfl) (op_storeW (t := 42) (v := .agg (enc .u8 y183).toArray) (d := none) (by kernel_rfl) hs 15 rfl (vs := enc .u8 y183) (n := 16) (by kernel_rfl) (by kernel_rfl) (by kernel_rfl) (by simp [enc_len]) (by simp [enc_len]) (by intro u hu; exact enc_one _ _ u hu) ?_)
   intro w kp hs
   refine ⟨⟨fun hf => absurd hf (by decide), (keepW hsB495 hs)⟩, ?_⟩
   refine wpG.fin (by kernel_rfl) rfl (kr10 _ _ ?_)
   have q0 := of_some h
   subst q0
   exact nj _ _ ⟨b115, ((hs.drop (.cons _ (.cons _ (.cons _ (.cons _ (.cons _ (.cons _ (.cons _ (.cons _ (.cons _ (.cons _ (.cons _ (.cons _ (.cons _ (.cons _ (.cons _ (.cons_cons _ .slnil))))))))))))))))).pickR (pick_cons 1 rfl (pick_cons 2 rfl pick_nil))), exg (by kernel_rfl)⟩
  clear hj hs
  rintro a w ⟨b2, hs, g9, rfl⟩
  refine then_n (ks8 _ _ (xseq_k fun KS496 ks496 => (xregS [0, 1, 2] fun KR497 kr497 => ?_)))
  refine wpS.tk 0 false (some 20) (.slice (some ⟨b2, 0 + (0 : Int).toNat * 1, none⟩) ((16 : Int).toNat - (0 : Int).toNat) (16 - (0 : Int).toNat)) (yld_slA2 (t := 42) (e := 5) (n := 16) (low := Option.none) (high := Option.none) (lo := 0) (hi := 16) (by kernel_rfl) (by kernel_rfl) (by kernel_rfl) (.inl ⟨rfl, rfl⟩) (.inl ⟨rfl, rfl⟩) (by decide) (by decide) (by decide) (by decide)) ?_
  refine wpS.qs [(1, 4, .slice (some ⟨b2, 0 + (0 : Int).toNat * 1, none⟩) ((16 : Int).toNat - (0 : Int).toNat) (16 - (0 : Int).toNat)), (2, 5, .int .i64 0)] ?_
  refine wpS.fin rfl (kr497 _ _ (then_n (ks496 _ _ (xret ?_))))
  obtain ⟨q0, qr0⟩ := Prod.mk.inj (of_some h)
  have q1 := qr0
  subst q0
  subst q1
  have hs := hs.blkRow (lo := 0) (hi := 16) 0 rfl (by decide) (by decide) (by decide)
  exact qq _ _ (post_ret (by kernel_rfl) (run_results [.tmp 4, .tmp 5] [.slice (some ⟨b2, 0 + (0 : Int).toNat * 1, none⟩) ((16 : Int).toNat - (0 : Int).toNat) (16 - (0 : Int).toNat), .int .i64 0] (by kernel_rfl) (.cons (res_tmp (by kernel_rfl)) (.cons (res_tmp (by kernel_rfl)) .nil))) ⟨⟨(some ⟨b2, 0 + (0 : Int).toNat * 1, none⟩), ((16 : Int).toNat - (0 : Int).toNat), (16 - (0 : Int).toNat)⟩, congrArg Ending.returned (by kernel_rfl), (hs.pickR pick_nil)⟩)
 refine wpS.tk 1 false (some 12) (.bool true) (yld_b (nt hc) (fun _ => by kernel_rfl)) ?_
 refine wpS.fin rfl (kr7 _ _ (then_n (ks6 _ _ (wp_cond_t (by kernel_rfl) (xseq_k fun KS499 ks499 => (xregS [0, 1, 2] fun KR500 kr500 => ?_))))))
 refine wpS.qs [(0, 13, .int .i64 r1), (1, 4, .slice none 0 0), (2, 5, .int .i64 r1)] ?_
 refine wpS.fin rfl (kr500 _ _ (then_n (ks499 _ _ (xret (then_r ?_)))))
 obtain ⟨q0, qr0⟩ := Prod.mk.inj (of_some h)
 have q1 := qr0
 subst q0
 subst q1
 have hs := hs.addNilR (CI .u8)
 exact qq _ _ (post_ret (by kernel_rfl) (run_results [.tmp 4, .tmp 5] [.slice none 0 0, .int .i64 r1] (by kernel_rfl) (.cons (res_tmp (by kernel_rfl)) (.cons (res_tmp (by kernel_rfl)) .nil))) ⟨⟨none, 0, 0⟩, congrArg Ending.returned (by kernel_rfl), (hs.pickR pick_nil)⟩)
end Go.Proofs.Ytmpagpbnpgcecaa
