/- Printed by this work's own program: the code of each function below comes to the answer that its plain form tells. -/
import Derived.Test.YtmpagpbnpgcecaaMa
import Derived.Test.YtmpagpbnpgcecaaProg
import Derived.Test.YtmpagpbnpgcecaaQF0
import Derived.Test.YtmpagpbnpgcecaaQX0
import Derived.Test.YtmpagpbnpgcecaaQX1
import Derived.Test.YtmpagpbnpgcecaaQX2
import Derived.Test.YtmpagpbnpgcecaaQX3
set_option linter.unusedVariables false
set_option linter.unusedSimpArgs false
set_option maxRecDepth 100000
set_option maxHeartbeats 4000000
namespace Go.Proofs.Ytmpagpbnpgcecaa
open Go.Mx
attribute [local irreducible] wpOp

theorem wrap_Wrap.ok {K : Nat} {a0 : List Int} {a1 : List Int} {r0 : List Int} {r1 : Int} {a0_A : Option Addr} {a0_n : Nat} {a0_c : Nat} {a1_A : Option Addr} {a1_n : Nat} {a1_c : Nat} (h : wrap_Wrap.f K a0 a1 = some (r0, r1)) (w0 : World) (hp0 : RowL (CI .u8) w0 a0_A a0_n a0_c a0) (hp1 : RowL (CI .u8) w0 a1_A a1_n a1_c a1) : Calls Try.prog 24 #[.slice a0_A a0_n a0_c, .slice a1_A a1_n a1_c] w0 fun e w' => ∃ h : (Option Addr × Nat × Nat), e = .returned (.tuple #[.slice h.1 h.2.1 h.2.2, .int .i64 r1]) ∧ St w0 [] [.ownL (CI .u8) h.1 h.2.1 h.2.2 r0 5] [] w' := by
 refine calls_m Try.func24 rfl fun Q qq qn => ?_
 have hs := St.startR (all_cons (RowP.ent hp0) (all_cons (RowP.ent hp1) all_nil))
 refine wp_conv (a' := ⟨#[.slice a0_A a0_n a0_c, .slice a1_A a1_n a1_c, undef, undef, undef, undef, undef, undef, undef, undef, undef, undef, undef, undef, undef, undef, undef, undef, undef, undef, undef, undef, undef, undef, undef, undef, undef, undef, undef, undef, undef, undef, undef, undef, undef, undef], []⟩) (by kernel_rfl) ?_
 refine xseq_k fun KS1 ks1 => ?_
 refine xregS [0, 1, 2] fun KR2 kr2 => ?_
 refine wpS.only 0 (op_box (t := 26) (v := .slice a0_A a0_n a0_c) (d := (some 2)) (by kernel_rfl) hs ([.slice a0_A a0_n a0_c]) (by kernel_rfl) (by kernel_rfl) ?_)
 intro b1 w gw hs
 refine ⟨fun _ => trivial, ?_⟩
 refine wpS.qs [(1, 4, .slice none 0 0), (2, 5, .int .i64 0)] ?_
 refine wpS.fin rfl (kr2 _ _ (then_n (ks1 _ _ (xseq_k fun KS3 ks3 => (xseq_k fun KS4 ks4 => (xregS [0, 1, 2, 3] fun KR5 kr5 => ?_))))))
 refine wpS.tk 0 true (some 9) (.slice a0_A a0_n a0_c) (yld_load1 (e := 26) (o := 0) hs 0 rfl (by kernel_rfl) (by kernel_rfl) (by rfl) .grow) ?_
 refine wpS.q 1 10 (.slice a1_A a1_n a1_c) ?_
 obtain ⟨r2, hg, h⟩ := of_bind h
 refine wpS.only 2 (op_call (d := (some 11)) (by kernel_rfl) hs (fun _ => by kernel_rfl) (wrap_wrong.ok hg _ (hs.rowR 0 rfl) (hs.rowR 1 rfl)) ?_)
 intro w gw hs
 refine ⟨fun _ => trivial, ?_⟩
 refine wpS.q 3 6 (.int .i64 r2) ?_
 refine wpS.fin rfl (kr5 _ _ (then_n (ks4 _ _ (xseq_k fun KS6 ks6 => (xregS [0, 1] fun KR7 kr7 => ?_)))))
 refine wpS.q 0 12 (.int .i64 r2) ?_
 rcases of_if h with ⟨hc, h⟩ | ⟨hc, h⟩
 ·refine wpS.tk 1 false (some 13) (.bool false) (yld_b (nf hc) (fun _ => by kernel_rfl)) ?_
  refine wpS.fin rfl (kr7 _ _ (then_n (ks6 _ _ (wp_cond_f (by kernel_rfl) (xskip (then_n (ks3 _ _ (xseq_k fun KS8 ks8 => (xregS [0, 1, 2, 3] fun KR9 kr9 => ?_)))))))))
  refine wpS.q 0 15 (.slice a1_A a1_n a1_c) ?_
  refine wpS.only 1 (op_inline (d := (some 16)) (f := 56) (args := #[.int .u64 12008468691120727718, .slice a1_A a1_n a1_c]) (by kernel_rfl) (fun _ => by kernel_rfl) fun R10 kI10 => ?_)
  refine calls_k Try.func56 rfl fun Q10 qq10 => ?_
  refine wp_conv (a' := ⟨#[.int .u64 12008468691120727718, .slice a1_A a1_n a1_c, undef, undef, undef, undef, undef, undef, undef, undef, undef, undef], []⟩) (by kernel_rfl) ?_
  refine xseq_k fun KS11 ks11 => ?_
  refine xregS [0] fun KR12 kr12 => ?_
  refine wpS.q 0 4 (.pointer none) ?_
  refine wpS.fin rfl (kr12 _ _ (then_n (ks11 _ _ (xseq_k fun KS13 ks13 => (xregS [0, 1, 2, 3, 4, 5, 6, 7] fun KR14 kr14 => ?_)))))
  refine wpS.qs [(0, 5, .int .u64 12008468691120727718), (1, 6, .slice a1_A a1_n a1_c)] ?_
  obtain ⟨r3, hg, h⟩ := of_bind h
  refine wpS.only 2 (op_callH (d := (some 7)) (by kernel_rfl) hs (fun _ => by kernel_rfl) (slices_Clone_byte_byte.ok hg _ (hs.rowR 1 rfl)) ?_)
  rintro ⟨r3_A, r3_n, r3_c⟩ w gw hs
  have hs := hs.conv (L' := [.ownL (CI .u8) r3_A r3_n r3_c r3 5, .blk b1 ([.slice a0_A a0_n a0_c]) 26]) rfl
  refine ⟨fun _ => trivial, ?_⟩
  refine wpS.only 3 (op_inline (d := (some 8)) (f := 71) (args := #[.slice r3_A r3_n r3_c, .int .i64 8]) (by kernel_rfl) (fun _ => by kernel_rfl) fun R15 kI15 => ?_)
  refine calls_k Try.func71 rfl fun Q15 qq15 => ?_
  refine wp_conv (a' := ⟨#[.slice r3_A r3_n r3_c, .int .i64 8, undef, undef, undef, undef, undef, undef, undef], []⟩) (by kernel_rfl) ?_
  refine xseq_k fun KS16 ks16 => ?_
  refine xregS [0, 1, 2] fun KR17 kr17 => ?_
  refine wpS.only 0 (op_box (t := 26) (v := .slice r3_A r3_n r3_c) (d := (some 2)) (by kernel_rfl) hs ([.slice r3_A r3_n r3_c]) (by kernel_rfl) (by kernel_rfl) ?_)
  intro b4 w gw hs
  refine ⟨fun _ => trivial, ?_⟩
  refine wpS.only 1 (op_box (t := 3) (v := .int .i64 8) (d := (some 3)) (by kernel_rfl) hs ([.int .i64 8]) (by kernel_rfl) (by kernel_rfl) ?_)
  intro b5 w gw hs
  refine ⟨fun _ => trivial, ?_⟩
  refine wpS.q 2 4 (.nilFunc) ?_
  refine wpS.fin rfl (kr17 _ _ (then_n (ks16 _ _ (xseq_k fun KS18 ks18 => (xseq_k fun KS19 ks19 => (xregS [0, 1] fun KR20 kr20 => ?_))))))
  refine wpS.tk 0 true (some 5) (.int .i64 8) (yld_load1 (e := 3) (o := 0) hs 0 rfl (by kernel_rfl) (by kernel_rfl) (by rfl) .grow) ?_
  refine wpS.q 1 6 (.bool false) ?_
  refine wpS.fin rfl (kr20 _ _ (then_n (ks19 _ _ (wp_cond_f (by kernel_rfl) (xskip (then_n (ks18 _ _ (xseq_k fun KS21 ks21 => (xregS [0, 1] fun KR22 kr22 => ?_)))))))))
  refine wpS.qs [(0, 8, .func (.func 102) #[] #[.pointer (some ⟨b4, 0, none⟩), .pointer (some ⟨b5, 0, none⟩)]), (1, 4, .func (.func 102) #[] #[.pointer (some ⟨b4, 0, none⟩), .pointer (some ⟨b5, 0, none⟩)])] ?_
  refine wpS.fin rfl (kr22 _ _ (then_n (ks21 _ _ (xret ?_))))
  refine qq15 _ _ (post_ret (by kernel_rfl) (run_results [.tmp 4] [.func (.func 102) #[] #[.pointer (some ⟨b4, 0, none⟩), .pointer (some ⟨b5, 0, none⟩)]] (by kernel_rfl) (.cons (res_tmp (by kernel_rfl)) .nil)) ?_)
  refine kI15 _ _ ?_
  refine ⟨fun _ => trivial, ?_⟩
  refine wpS.only 4 (op_inline (d := (some 9)) (f := 92) (args := #[.func (.func 102) #[] #[.pointer (some ⟨b4, 0, none⟩), .pointer (some ⟨b5, 0, none⟩)]]) (by kernel_rfl) (fun _ => by kernel_rfl) fun R23 kI23 => ?_)
  refine calls_k Try.func92 rfl fun Q23 qq23 => ?_
  refine wp_conv (a' := ⟨#[.func (.func 102) #[] #[.pointer (some ⟨b4, 0, none⟩), .pointer (some ⟨b5, 0, none⟩)], undef, undef, undef, undef], []⟩) (by kernel_rfl) ?_
  refine xseq_k fun KS24 ks24 => ?_
  refine xregS [0] fun KR25 kr25 => ?_
  refine wpS.q 0 2 (.slice none 0 0) ?_
  refine wpS.fin rfl (kr25 _ _ (then_n (ks24 _ _ (xseq_k fun KS26 ks26 => (xregS [0, 1, 2] fun KR27 kr27 => ?_)))))
  refine wpS.q 0 3 (.func (.func 102) #[] #[.pointer (some ⟨b4, 0, none⟩), .pointer (some ⟨b5, 0, none⟩)]) ?_
  refine wpS.only 1 (op_inline (d := (some 4)) (f := 110) (args := #[.slice none 0 0, .func (.func 102) #[] #[.pointer (some ⟨b4, 0, none⟩), .pointer (some ⟨b5, 0, none⟩)]]) (by kernel_rfl) (fun _ => by kernel_rfl) fun R28 kI28 => ?_)
  refine calls_m Try.func110 rfl fun Q28 qq28 qn28 => ?_
  refine wp_conv (a' := ⟨#[.slice none 0 0, .func (.func 102) #[] #[.pointer (some ⟨b4, 0, none⟩), .pointer (some ⟨b5, 0, none⟩)], undef, undef, undef, undef, undef, undef, undef, undef, undef, undef, undef], []⟩) (by kernel_rfl) ?_
  refine xseq_k fun KS29 ks29 => ?_
  refine xregS [0, 1] fun KR30 kr30 => ?_
  refine wpS.only 0 (op_box (t := 44) (v := .slice none 0 0) (d := (some 2)) (by kernel_rfl) hs ([.slice none 0 0]) (by kernel_rfl) (by kernel_rfl) ?_)
  intro b6 w gw hs
  refine ⟨fun _ => trivial, ?_⟩
  refine wpS.q 1 4 (.slice none 0 0) ?_
  refine wpS.fin rfl (kr30 _ _ (then_n (ks29 _ _ (xseq_k fun KS31 ks31 => (xseq_k fun KS32 ks32 => (xregS [0] fun KR33 kr33 => ?_))))))
  refine wpS.q 0 6 (.func (.func 102) #[] #[.pointer (some ⟨b4, 0, none⟩), .pointer (some ⟨b5, 0, none⟩)]) ?_
  refine wpS.fin rfl (kr33 _ _ (then_n (ks32 _ _ (xblock ?_))))
  refine wp_range (gf := 102) (lb := #[.pointer (some ⟨b4, 0, none⟩), .pointer (some ⟨b5, 0, none⟩)]) hs (by kernel_rfl) (fun _ _ => by kernel_rfl) fun l34 D34 rec34 w hok34 hs R34 kR34 => ?_
  refine calls_kn Try.func102 rfl fun Q34 qq34 qn34 => ?_
  refine wp_conv (a' := ⟨#[.func (.yield l34) #[] #[], .pointer (some ⟨b4, 0, none⟩), .pointer (some ⟨b5, 0, none⟩), undef, undef, undef, undef, undef, undef, undef, undef, undef, undef, undef, undef, undef, undef, undef, undef, undef, undef, undef, undef, undef, undef, undef, undef, undef, undef, undef, undef], []⟩) (by kernel_rfl) ?_
  refine xseq_k fun KS35 ks35 => ?_
  refine xregS [0] fun KR36 kr36 => ?_
  refine wpS.q 0 4 (.int .i64 0) ?_
  refine wpS.fin rfl (kr36 _ _ (then_n (ks35 _ _ ?_)))
  have hs := (hs.addNilL CS 26).addInn0 (CI .u8)
  have hs := hs.freeze 6 rfl
  obtain ⟨y10, hy, hk0⟩ := of_bind h
  refine wp_exq (N := fun a w => ∃ (y10_A : Option Addr) (y10_n : Nat) (y10_c : Nat) (y10_H : List HS), St w0 [] [.ownL CS y10_A y10_n y10_c y10_H 26, .obj l34 (.loop (rec34 .ready none)), .obj D34 (.deferred (some [])), .blk b6 ([.slice y10_A y10_n y10_c]) 44, .blk b5 ([.int .i64 8]) 3, .blk b4 ([.slice r3_A r3_n r3_c]) 26, .blk b1 ([.slice a0_A a0_n a0_c]) 26] [.rowL (CI .u8) r3_A r3_n r3_c r3, .inn (CI .u8) y10_H y10, .rowL (CI .u8) a0_A a0_n a0_c a0, .rowL (CI .u8) a1_A a1_n a1_c a1] w ∧ ∃ g38 : Nat → Value, a = ⟨#[.func (.yield l34) #[] #[], .pointer (some ⟨b4, 0, none⟩), .pointer (some ⟨b5, 0, none⟩), undef, (g38 4), (g38 5), (g38 6), (g38 7), (g38 8), (g38 9), (g38 10), (g38 11), (g38 12), (g38 13), (g38 14), (g38 15), (g38 16), (g38 17), (g38 18), (g38 19), (g38 20), (g38 21), (g38 22), (g38 23), (g38 24), (g38 25), (g38 26), (g38 27), (g38 28), (g38 29), (g38 30)], []⟩) (fun N0 nn0 => ?_) ?_
  ·clear hk0
   refine xblock ?_
   refine wp_loop_k (fun n a w => ∃ z7 z8, ∃ (z8_A : Option Addr) (z8_n : Nat) (z8_c : Nat) (z8_H : List HS), wrap_Wrap.l0 K n r3 z7 z8 = some y10 ∧ St w0 [] [.ownL CS z8_A z8_n z8_c z8_H 26, .obj l34 (.loop (rec34 .ready none)), .obj D34 (.deferred (some [])), .blk b6 ([.slice z8_A z8_n z8_c]) 44, .blk b5 ([.int .i64 8]) 3, .blk b4 ([.slice r3_A r3_n r3_c]) 26, .blk b1 ([.slice a0_A a0_n a0_c]) 26] [.rowL (CI .u8) r3_A r3_n r3_c r3, .inn (CI .u8) z8_H z8, .rowL (CI .u8) a0_A a0_n a0_c a0, .rowL (CI .u8) a1_A a1_n a1_c a1] w ∧ ∃ g37 : Nat → Value, a = ⟨#[.func (.yield l34) #[] #[], .pointer (some ⟨b4, 0, none⟩), .pointer (some ⟨b5, 0, none⟩), undef, .int .i64 z7, (g37 5), (g37 6), (g37 7), (g37 8), (g37 9), (g37 10), (g37 11), (g37 12), (g37 13), (g37 14), (g37 15), (g37 16), (g37 17), (g37 18), (g37 19), (g37 20), (g37 21), (g37 22), (g37 23), (g37 24), (g37 25), (g37 26), (g37 27), (g37 28), (g37 29), (g37 30)], []⟩) K ⟨0, ([] : List (List Int)), none, 0, 0, [], hy, hs.conv rfl, exg (by kernel_rfl)⟩ ?_
   clear hs h hy
   rintro n a w ⟨z7, z8, z8_A, z8_n, z8_c, z8_H, h, hs, g37, rfl⟩ KL0 kl0
   cases n with
   | zero => exact nomatch (show none = some _ from h)
   | succ n =>
    refine xseq_k fun KS39 ks39 => ?_
    refine xseq_k fun KS40 ks40 => ?_
    refine xregS [0, 1, 2, 3] fun KR41 kr41 => ?_
    refine wpS.q 0 6 (.int .i64 z7) ?_
    refine wpS.tk 1 true (some 7) (.slice r3_A r3_n r3_c) (yld_load1 (e := 26) (o := 0) hs 5 rfl (by kernel_rfl) (by kernel_rfl) (by rfl) .grow) ?_
    refine wpS.tk 2 false (some 8) (.int .i64 (r3.length : Int)) (yld_lenL (hs.rowR 0 rfl) (fun _ => by kernel_rfl)) ?_
    rcases of_if h with ⟨hc, h⟩ | ⟨hc, h⟩
    ·refine wpS.tk 3 false (some 9) (.bool true) (yld_b (dt hc) (fun _ => by kernel_rfl)) ?_
     refine wpS.fin rfl (kr41 _ _ (then_n (ks40 _ _ (wp_cond_t (by kernel_rfl) (xskip (then_n (ks39 _ _ (xseq_k fun KS42 ks42 => (xblock (xseq_k fun KS43 ks43 => ?_))))))))))
     refine wp_regG [] (fun k => True) 7 (by kernel_rfl) (by kernel_rfl) (by kernel_rfl) fun KR44 kr44 => ?_
     have hs := hs.drawn1
     refine wpG.tD 0 true (some 13) (.int .i64 8) (yld_load1 (e := 3) (o := 0) hs 4 rfl (by kernel_rfl) (by kernel_rfl) (by rfl) .grow) ?_
     refine wpG.tD 1 true (some 14) (.slice r3_A r3_n r3_c) (yld_load1 (e := 26) (o := 0) hs 5 rfl (by kernel_rfl) (by kernel_rfl) (by rfl) .grow) ?_
     refine wpG.q 2 15 (.int .i64 z7) ?_
     obtain ⟨h0, h⟩ := of_chk h
     obtain ⟨h1, h⟩ := of_chk h
     obtain ⟨h2, h⟩ := of_chk h
     obtain ⟨s12_A, hA⟩ : ∃ A, A = if r3_c = (z7 : Int).toNat then r3_A else adr r3_A ((z7 : Int).toNat * Cod.size (CI .u8)) := ⟨_, rfl⟩
     obtain ⟨s12_n, hn⟩ : ∃ n, n = ((r3.length : Int) : Int).toNat - (z7 : Int).toNat := ⟨_, rfl⟩
     obtain ⟨s12_c, hc⟩ : ∃ c, c = r3_c - (z7 : Int).toNat := ⟨_, rfl⟩
     refine wpG.tD 3 false (some 16) (.slice s12_A s12_n s12_c) (yld_sub (C := (CI .u8)) (t := 26) (e := 5) (low := some (.int .i64 z7)) (high := none) (lo := z7) (hi := (r3.length : Int)) (hs.rowR 0 rfl) (by kernel_rfl) (by kernel_rfl) (by kernel_rfl) (.inr ⟨_, rfl⟩) (.inl ⟨rfl, rfl⟩) h0 h1 h2 hA hn hc) ?_
     have hs := hs.addSub (C := (CI .u8)) 0 rfl h0 h1 h2 hA hn hc
     refine wpG.tD 4 false (some 17) (.int .i64 ((subL r3 z7 (r3.length : Int)).length : Int)) (yld_lenL (hs.rowR 0 rfl) (fun _ => by kernel_rfl)) ?_
     refine wpG.q 5 18 (.int .i64 (imin 8 ((subL r3 z7 (r3.length : Int)).length : Int))) ?_
     obtain ⟨x13, hx, h⟩ := of_bind h
     refine wpG.tD 6 false (some 5) (.int .i64 x13) (yld_int hx (fun _ => by kernel_rfl)) ?_
     refine wpG.fin (by kernel_rfl) rfl (kr44 _ _ ?_)
     refine then_n (ks43 _ _ (xseq_k fun KS45 ks45 => (xregS [0, 1, 2, 3, 4, 5, 6, 7, 8, 9, 10, 11] fun KR46 kr46 => ?_)))
     refine wpS.q 0 19 (.func (.yield l34) #[] #[]) ?_
     refine wpS.tk 1 true (some 20) (.slice r3_A r3_n r3_c) (yld_load1 (e := 26) (o := 0) hs 5 rfl (by kernel_rfl) (by kernel_rfl) (by rfl) .grow) ?_
     refine wpS.qs [(2, 21, .int .i64 z7), (3, 22, .int .i64 z7), (4, 23, .int .i64 x13), (5, 24, .int .i64 (iadd .i64 z7 x13)), (6, 25, .int .i64 z7), (7, 26, .int .i64 x13), (8, 27, .int .i64 (iadd .i64 z7 x13))] ?_
     obtain ⟨h0, h⟩ := of_chk h
     obtain ⟨h1, h⟩ := of_chk h
     obtain ⟨h2, h⟩ := of_chk h
     obtain ⟨h3, h⟩ := of_chk h
     obtain ⟨s14_A, hA⟩ : ∃ A, A = if ((iadd .i64 z7 x13) : Int).toNat = (z7 : Int).toNat then r3_A else adr r3_A ((z7 : Int).toNat * Cod.size (CI .u8)) := ⟨_, rfl⟩
     obtain ⟨s14_n, hn⟩ : ∃ n, n = ((iadd .i64 z7 x13) : Int).toNat - (z7 : Int).toNat := ⟨_, rfl⟩
     obtain ⟨s14_c, hc⟩ : ∃ c, c = ((iadd .i64 z7 x13) : Int).toNat - (z7 : Int).toNat := ⟨_, rfl⟩
     refine wpS.tk 9 false (some 28) (.slice s14_A s14_n s14_c) (yld_sub3 (mx := (iadd .i64 z7 x13)) (k := .i64) (C := (CI .u8)) (t := 26) (e := 5) (low := some (.int .i64 z7)) (high := some (.int .i64 (iadd .i64 z7 x13))) (lo := z7) (hi := (iadd .i64 z7 x13)) (hs.rowR 1 rfl) (by kernel_rfl) (by kernel_rfl) (by kernel_rfl) (.inr ⟨_, rfl⟩) ⟨_, rfl⟩ h0 h1 h2 h3 hA hn hc) ?_
     have hs := hs.addSub3 (C := (CI .u8)) 1 rfl h0 h1 h2 h3 hA hn hc
     refine wpS.onlyR 10 (op_yield (d := (some 29)) (by kernel_rfl) hs 1 rfl hok34 #[.slice s14_A s14_n s14_c] (by kernel_rfl) rfl (tm := #[.slice none 0 0, .func (.func 102) #[] #[.pointer (some ⟨b4, 0, none⟩), .pointer (some ⟨b5, 0, none⟩)], .pointer (some ⟨b6, 0, none⟩), undef, .slice none 0 0, undef, .func (.func 102) #[] #[.pointer (some ⟨b4, 0, none⟩), .pointer (some ⟨b5, 0, none⟩)], .slice s14_A s14_n s14_c, undef, undef, undef, undef, undef]) (by kernel_rfl) (by kernel_rfl) fun K47 k47 => ?_)
     refine xregS [0] fun KR48 kr48 => ?_
     refine wpS.q 0 5 (.slice s14_A s14_n s14_c) ?_
     refine wpS.fin rfl (kr48 _ _ (then_n (k47 _ _ 1 _ _ hs rfl fun w Qr47 hs qr47 => ?_)))
     dsimp only [List.set] at hs
     refine xblock (xregS [0, 1, 2, 3, 4] fun KR49 kr49 => ?_)
     refine wpS.tk 0 true (some 8) (.slice z8_A z8_n z8_c) (yld_load1 (e := 44) (o := 0) hs 3 rfl (by kernel_rfl) (by kernel_rfl) (by rfl) .grow) ?_
     refine wpS.q 1 9 (.slice s14_A s14_n s14_c) ?_
     refine wpS.only 2 (op_lit (C := CS) (t := 44) (e := 26) (len := 1) (parts := #[(0, .slice s14_A s14_n s14_c)]) (l := ([(s14_A, s14_n, s14_c)] : List HS)) (d := (some 10)) (by kernel_rfl) hs (by kernel_rfl) (by kernel_rfl) (by kernel_rfl) (z := .slice none 0 0) (by kernel_rfl) rfl (by decide) (by decide) (by kernel_rfl) ?_)
     intro s15_A s15_n s15_c w gw hs
     refine ⟨fun _ => trivial, ?_⟩
     obtain ⟨h0, h⟩ := of_chk h
     refine wpS.only 3 (op_appendT (C := CS) (t := 44) (ty := 44) (e := 26) (bytes := 24) (B := 5864062014805) (d := (some 11)) (by kernel_rfl) hs 1 rfl (hs.rowL 0 rfl) (by kernel_rfl) (by kernel_rfl) (by kernel_rfl) (by kernel_rfl) (by kernel_rfl) (by rw [(hs.innR 3 rfl).length]; exact h0) (by decide) (by decide) ?_)
     intro s16_A s16_n s16_c w hs
     have hs := hs.innApp 3 0 rfl rfl
     refine ⟨fun _ => trivial, ?_⟩
     refine wpS.only 4 (op_store1 (t := 44) (o := 0) (v := .slice s16_A s16_n s16_c) (d := none) (by kernel_rfl) hs 4 rfl (by kernel_rfl) rfl (by kernel_rfl) (by simp) ?_)
     intro w kp hs
     refine ⟨fun _ => trivial, ?_⟩
     refine wpS.fin rfl (kr49 _ _ (inBlock_n ?_))
     refine round_n qr47 hs 2 rfl fun w hs => ?_
     dsimp only [List.set] at hs
     refine ⟨fun _ => trivial, ?_⟩
     refine wpS.q 11 30 (.bool false) ?_
     refine wpS.fin rfl (kr46 _ _ (then_n (ks45 _ _ (wp_cond_f (by kernel_rfl) (xskip (inBlock_n (then_n (ks42 _ _ (xregS [0, 1, 2, 3] fun KR50 kr50 => ?_)))))))))
     refine wpS.q 0 10 (.int .i64 z7) ?_
     refine wpS.tk 1 true (some 11) (.int .i64 8) (yld_load1 (e := 3) (o := 0) hs 5 rfl (by kernel_rfl) (by kernel_rfl) (by rfl) .grow) ?_
     refine wpS.q 2 12 (.int .i64 (iadd .i64 z7 8)) ?_
     obtain ⟨x17, hx, h⟩ := of_bind h
     refine wpS.tk 3 false (some 4) (.int .i64 x17) (yld_int hx (fun _ => by kernel_rfl)) ?_
     refine wpS.fin rfl (kr50 _ _ ?_)
     exact then_n (kl0 _ _ ⟨n, Nat.lt_succ_self n, x17, (z8 ++ [(subL r3 z7 (iadd .i64 z7 x13))]), s16_A, s16_n, s16_c, (z8_H ++ [(s14_A, s14_n, s14_c)]), h, ((hs.drop (.cons _ (.cons_cons _ (.cons_cons _ (.cons_cons _ (.cons_cons _ (.cons_cons _ (.cons_cons _ (.cons_cons _ .slnil))))))))).pickR (pick_cons 2 rfl (pick_cons 3 rfl (pick_cons 4 rfl (pick_cons 5 rfl pick_nil))))), exg (by kernel_rfl)⟩)
    refine wpS.tk 3 false (some 9) (.bool false) (yld_b (df hc) (fun _ => by kernel_rfl)) ?_
    refine wpS.fin rfl (kr41 _ _ (then_n (ks40 _ _ (wp_cond_f (by kernel_rfl) (xexit (then_x (then_x (inBlock_hit ?_))))))))
    have q0 := of_some h
    subst q0
    exact exq_n (nn0 _ _ ⟨z8_A, z8_n, z8_c, z8_H, (hs.conv rfl), exg (by kernel_rfl)⟩)
  clear hs h hy
  rintro a w ⟨y10_A, y10_n, y10_c, y10_H, hs, g38, rfl⟩
  have h := hk0
  refine qn34 _ _ (post_nrm (by kernel_rfl) (run_results [] [] (by kernel_rfl) .nil) ?_)
  refine range_n (a1 := ⟨#[.slice none 0 0, .func (.func 102) #[] #[.pointer (some ⟨b4, 0, none⟩), .pointer (some ⟨b5, 0, none⟩)], .pointer (some ⟨b6, 0, none⟩), undef, .slice none 0 0, undef, .func (.func 102) #[] #[.pointer (some ⟨b4, 0, none⟩), .pointer (some ⟨b5, 0, none⟩)], undef, undef, undef, undef, undef, undef], [lmark D34]⟩) kR34 (by kernel_rfl) hs 1 rfl fun w hs => ?_
  dsimp only [List.set] at hs
  refine inBlock_n (then_n (ks31 _ _ (xseq_k fun KS51 ks51 => (xregS [0, 1] fun KR52 kr52 => ?_))))
  refine wpS.tk 0 true (some 12) (.slice y10_A y10_n y10_c) (yld_load1 (e := 44) (o := 0) hs 3 rfl (by kernel_rfl) (by kernel_rfl) (by rfl) .grow) ?_
  refine wpS.q 1 4 (.slice y10_A y10_n y10_c) ?_
  refine wpS.fin rfl (kr52 _ _ (then_n (ks51 _ _ (xret ?_))))
  refine qq28 _ _ ?_
  refine leaves_mark hs 2 rfl fun w hs => ?_
  dsimp only [List.set] at hs
  refine leaves_end (run_results [.tmp 4] [.slice y10_A y10_n y10_c] (by kernel_rfl) (.cons (res_tmp (by kernel_rfl)) .nil)) ?_
  refine kI28 _ _ ?_
  refine ⟨fun _ => trivial, ?_⟩
  refine wpS.q 2 2 (.slice y10_A y10_n y10_c) ?_
  refine wpS.fin rfl (kr27 _ _ (then_n (ks26 _ _ (xret ?_))))
  refine qq23 _ _ (post_ret (by kernel_rfl) (run_results [.tmp 2] [.slice y10_A y10_n y10_c] (by kernel_rfl) (.cons (res_tmp (by kernel_rfl)) .nil)) ?_)
  refine kI23 _ _ ?_
  refine ⟨fun _ => trivial, ?_⟩
  refine wpS.q 5 10 (.agg #[.int .u64 12008468691120727718, .slice y10_A y10_n y10_c]) ?_
  refine wpS.only 6 (op_box (t := 72) (v := .agg #[.int .u64 12008468691120727718, .slice y10_A y10_n y10_c]) (d := (some 11)) (by kernel_rfl) hs ([.int .u64 12008468691120727718, .slice y10_A y10_n y10_c]) (by kernel_rfl) (by kernel_rfl) ?_)
  intro b18 w gw hs
  refine ⟨fun _ => trivial, ?_⟩
  refine wpS.q 7 4 (.pointer (some ⟨b18, 0, none⟩)) ?_
  refine wpS.fin rfl (kr14 _ _ (then_n (ks13 _ _ (xret ?_))))
  refine qq10 _ _ (post_ret (by kernel_rfl) (run_results [.tmp 4] [.pointer (some ⟨b18, 0, none⟩)] (by kernel_rfl) (.cons (res_tmp (by kernel_rfl)) .nil)) ?_)
  refine kI10 _ _ ?_
  refine ⟨fun _ => trivial, ?_⟩
  refine wpS.only 2 (op_alloc (t := 62) (d := (some 7)) (by kernel_rfl) hs ([.pointer none]) (.pointer none) (by kernel_rfl) (by kernel_rfl) (by kernel_rfl) ?_)
  intro b19 w gw hs
  refine ⟨fun _ => trivial, ?_⟩
  refine wpS.only 3 (op_store1 (t := 62) (o := 0) (v := .pointer (some ⟨b18, 0, none⟩)) (d := none) (by kernel_rfl) hs 0 rfl (by kernel_rfl) rfl (by kernel_rfl) (by simp) ?_)
  intro w kp hs
  refine ⟨fun _ => trivial, ?_⟩
  refine wpS.fin rfl (kr9 _ _ (then_n (ks8 _ _ (xseq_k fun KS53 ks53 => (xseq_k fun KS54 ks54 => (xregS [0, 1] fun KR55 kr55 => ?_))))))
  refine wpS.tk 0 true (some 17) (.pointer (some ⟨b18, 0, none⟩)) (yld_load1 (e := 62) (o := 0) hs 0 rfl (by kernel_rfl) (by kernel_rfl) (by rfl) .grow) ?_
  refine wpS.only 1 (op_inline (d := (some 18)) (f := 57) (args := #[.pointer (some ⟨b18, 0, none⟩), .bool false]) (by kernel_rfl) (fun _ => by kernel_rfl) fun R56 kI56 => ?_)
  refine calls_k Try.func57 rfl fun Q56 qq56 => ?_
  refine wp_conv (a' := ⟨#[.pointer (some ⟨b18, 0, none⟩), .bool false, undef, undef, undef, undef, undef, undef, undef, undef, undef, undef, undef], []⟩) (by kernel_rfl) ?_
  refine xseq_k fun KS57 ks57 => ?_
  refine xregS [0, 1] fun KR58 kr58 => ?_
  refine wpS.only 0 (op_box (t := 4) (v := .bool false) (d := (some 3)) (by kernel_rfl) hs ([.bool false]) (by kernel_rfl) (by kernel_rfl) ?_)
  intro b20 w gw hs
  refine ⟨fun _ => trivial, ?_⟩
  refine wpS.q 1 4 (.nilFunc) ?_
  refine wpS.fin rfl (kr58 _ _ (then_n (ks57 _ _ (xseq_k fun KS59 ks59 => (xregS [0, 1, 2, 3, 4, 5, 6, 7] fun KR60 kr60 => ?_)))))
  refine wpS.qs [(0, 6, .pointer (some ⟨b18, 0, none⟩)), (1, 7, .pointer (some ⟨b18, 0, none⟩)), (2, 8, .pointer (some ⟨b18, 1, none⟩))] ?_
  refine wpS.tk 3 true (some 9) (.slice y10_A y10_n y10_c) (yld_load1 (e := 44) (o := 1) hs 2 rfl (by kernel_rfl) (by kernel_rfl) (by rfl) .grow) ?_
  refine wpS.tk 4 false (some 10) (.int .i64 (y10.length : Int)) (yld_lenLL (LLP.mk (hs.rowL 3 rfl) (hs.innR 1 rfl)) (fun _ => by kernel_rfl)) ?_
  refine wpS.q 5 11 (.int .i64 (imul .i64 6 (y10.length : Int))) ?_
  refine wpS.only 6 (op_alloc (t := 3) (d := (some 5)) (by kernel_rfl) hs ([.int .i64 0]) (.int .i64 0) (by kernel_rfl) (by kernel_rfl) (by kernel_rfl) ?_)
  intro b21 w gw hs
  refine ⟨fun _ => trivial, ?_⟩
  obtain ⟨x22, hx, h⟩ := of_bind h
  refine wpS.only 7 (op_store1 (t := 3) (o := 0) (v := .int .i64 x22) (d := none) (by kernel_rfl) hs 0 rfl (by cases hx; kernel_rfl) rfl (by kernel_rfl) (by simp) ?_)
  intro w kp hs
  refine ⟨fun _ => trivial, ?_⟩
  refine wpS.fin rfl (kr60 _ _ (then_n (ks59 _ _ (xseq_k fun KS61 ks61 => (xregS [0, 1] fun KR62 kr62 => ?_)))))
  refine wpS.qs [(0, 12, .func (.func 94) #[] #[.pointer (some ⟨b21, 0, none⟩), .pointer (some ⟨b20, 0, none⟩)]), (1, 4, .func (.func 94) #[] #[.pointer (some ⟨b21, 0, none⟩), .pointer (some ⟨b20, 0, none⟩)])] ?_
  refine wpS.fin rfl (kr62 _ _ (then_n (ks61 _ _ (xret ?_))))
  refine qq56 _ _ (post_ret (by kernel_rfl) (run_results [.tmp 4] [.func (.func 94) #[] #[.pointer (some ⟨b21, 0, none⟩), .pointer (some ⟨b20, 0, none⟩)]] (by kernel_rfl) (.cons (res_tmp (by kernel_rfl)) .nil)) ?_)
  refine kI56 _ _ ?_
  refine ⟨fun _ => trivial, ?_⟩
  refine wpS.fin rfl (kr55 _ _ (then_n (ks54 _ _ (xblock ?_))))
  refine wp_range (gf := 94) (lb := #[.pointer (some ⟨b21, 0, none⟩), .pointer (some ⟨b20, 0, none⟩)]) hs (by kernel_rfl) (fun _ _ => by kernel_rfl) fun l63 D63 rec63 w hok63 hs R63 kR63 => ?_
  refine calls_kn Try.func94 rfl fun Q63 qq63 qn63 => ?_
  refine wp_conv (a' := ⟨#[.func (.yield l63) #[] #[], .pointer (some ⟨b21, 0, none⟩), .pointer (some ⟨b20, 0, none⟩), undef, undef, undef, undef, undef, undef, undef, undef, undef, undef, undef, undef, undef, undef, undef, undef, undef, undef], []⟩) (by kernel_rfl) ?_
  refine xseq_k fun KS64 ks64 => ?_
  refine xregS [0] fun KR65 kr65 => ?_
  refine wpS.q 0 4 (.int .i64 1) ?_
  refine wpS.fin rfl (kr65 _ _ (then_n (ks64 _ _ ?_)))
  obtain ⟨⟨y26_0, y27⟩, hy, hk1⟩ := of_bind h
  refine wp_exq (N := fun a w => ∃ (y27_H : List HS), St w0 [] [.obj l63 (.loop (rec63 .ready none)), .obj D63 (.deferred (some [])), .blk b21 ([.int .i64 x22]) 3, .blk b20 ([.bool false]) 4, .blk b19 ([.pointer (some ⟨b18, 0, none⟩)]) 62, .blk b18 ([.int .u64 y26_0, .slice y10_A y10_n y10_c]) 72, .ownL CS y10_A y10_n y10_c y27_H 26, .obj l34 (.loop (rec34 .exhausted none)), .obj D34 (.deferred none), .blk b6 ([.slice y10_A y10_n y10_c]) 44, .blk b5 ([.int .i64 8]) 3, .blk b4 ([.slice r3_A r3_n r3_c]) 26, .blk b1 ([.slice a0_A a0_n a0_c]) 26] [.rowL (CI .u8) r3_A r3_n r3_c r3, .inn (CI .u8) y27_H y27, .rowL (CI .u8) a0_A a0_n a0_c a0, .rowL (CI .u8) a1_A a1_n a1_c a1] w ∧ ∃ g67 : Nat → Value, a = ⟨#[.func (.yield l63) #[] #[], .pointer (some ⟨b21, 0, none⟩), .pointer (some ⟨b20, 0, none⟩), undef, (g67 4), (g67 5), (g67 6), (g67 7), (g67 8), (g67 9), (g67 10), (g67 11), (g67 12), (g67 13), (g67 14), (g67 15), (g67 16), (g67 17), (g67 18), (g67 19), (g67 20)], []⟩) (fun N1 nn1 => ?_) ?_
  ·clear hk1
   refine xblock ?_
   refine wp_loop_k (fun n a w => ∃ z23 z24_0 z25, ∃ (z25_H : List HS), wrap_Wrap.l1 K n a0 x22 z23 z24_0 z25 = some (y26_0, y27) ∧ St w0 [] [.obj l63 (.loop (rec63 .ready none)), .obj D63 (.deferred (some [])), .blk b21 ([.int .i64 x22]) 3, .blk b20 ([.bool false]) 4, .blk b19 ([.pointer (some ⟨b18, 0, none⟩)]) 62, .blk b18 ([.int .u64 z24_0, .slice y10_A y10_n y10_c]) 72, .ownL CS y10_A y10_n y10_c z25_H 26, .obj l34 (.loop (rec34 .exhausted none)), .obj D34 (.deferred none), .blk b6 ([.slice y10_A y10_n y10_c]) 44, .blk b5 ([.int .i64 8]) 3, .blk b4 ([.slice r3_A r3_n r3_c]) 26, .blk b1 ([.slice a0_A a0_n a0_c]) 26] [.rowL (CI .u8) r3_A r3_n r3_c r3, .inn (CI .u8) z25_H z25, .rowL (CI .u8) a0_A a0_n a0_c a0, .rowL (CI .u8) a1_A a1_n a1_c a1] w ∧ ∃ g66 : Nat → Value, a = ⟨#[.func (.yield l63) #[] #[], .pointer (some ⟨b21, 0, none⟩), .pointer (some ⟨b20, 0, none⟩), undef, .int .i64 z23, (g66 5), (g66 6), (g66 7), (g66 8), (g66 9), (g66 10), (g66 11), (g66 12), (g66 13), (g66 14), (g66 15), (g66 16), (g66 17), (g66 18), (g66 19), (g66 20)], []⟩) K ⟨1, 12008468691120727718, y10, y10_H, hy, hs.conv rfl, exg (by kernel_rfl)⟩ ?_
   clear hs h hy
   rintro n a w ⟨z23, z24_0, z25, z25_H, h, hs, g66, rfl⟩ KL1 kl1
   cases n with
   | zero => exact nomatch (show none = some _ from h)
   | succ n =>
    refine xseq_k fun KS68 ks68 => ?_
    refine xseq_k fun KS69 ks69 => ?_
    refine xregS [0, 1, 2] fun KR70 kr70 => ?_
    refine wpS.q 0 6 (.int .i64 z23) ?_
    refine wpS.tk 1 true (some 7) (.int .i64 x22) (yld_load1 (e := 3) (o := 0) hs 2 rfl (by kernel_rfl) (by kernel_rfl) (by rfl) .grow) ?_
    rcases of_if h with ⟨hc, h⟩ | ⟨hc, h⟩
    ·refine wpS.tk 2 false (some 8) (.bool true) (yld_b (dt hc) (fun _ => by kernel_rfl)) ?_
     refine wpS.fin rfl (kr70 _ _ (then_n (ks69 _ _ (wp_cond_t (by kernel_rfl) (xskip (then_n (ks68 _ _ (xseq_k fun KS71 ks71 => (xblock (xseq_k fun KS72 ks72 => (xregS [0, 1] fun KR73 kr73 => ?_)))))))))))
     refine wpS.qs [(0, 11, .int .i64 z23), (1, 5, .int .i64 z23)] ?_
     refine wpS.fin rfl (kr73 _ _ (then_n (ks72 _ _ (xseq_k fun KS74 ks74 => (xseq_k fun KS75 ks75 => (xregS [0] fun KR76 kr76 => ?_))))))
     refine wpS.tk 0 true (some 12) (.bool false) (yld_load1 (e := 4) (o := 0) hs 3 rfl (by kernel_rfl) (by kernel_rfl) (by rfl) .grow) ?_
     refine wpS.fin rfl (kr76 _ _ (then_n (ks75 _ _ (wp_cond_f (by kernel_rfl) (xskip (then_n (ks74 _ _ (xseq_k fun KS77 ks77 => (xregS [0, 1, 2, 3] fun KR78 kr78 => ?_)))))))))
     refine wpS.qs [(0, 17, .func (.yield l63) #[] #[]), (1, 18, .int .i64 z23)] ?_
     refine wpS.onlyR 2 (op_yield (d := (some 19)) (by kernel_rfl) hs 0 rfl hok63 #[.int .i64 z23] (by kernel_rfl) rfl (tm := #[.slice a0_A a0_n a0_c, .slice a1_A a1_n a1_c, .pointer (some ⟨b1, 0, none⟩), undef, .slice none 0 0, .int .i64 0, .int .i64 r2, .pointer (some ⟨b19, 0, none⟩), undef, .slice a0_A a0_n a0_c, .slice a1_A a1_n a1_c, .int .i64 r2, .int .i64 r2, .bool false, undef, .slice a1_A a1_n a1_c, .pointer (some ⟨b18, 0, none⟩), .pointer (some ⟨b18, 0, none⟩), .func (.func 94) #[] #[.pointer (some ⟨b21, 0, none⟩), .pointer (some ⟨b20, 0, none⟩)], .int .i64 z23, undef, undef, undef, undef, undef, undef, undef, undef, undef, undef, undef, undef, undef, undef, undef, undef]) (by kernel_rfl) (by kernel_rfl) fun K79 k79 => ?_)
     refine xregS [0] fun KR80 kr80 => ?_
     refine wpS.q 0 8 (.int .i64 z23) ?_
     refine wpS.fin rfl (kr80 _ _ (then_n (k79 _ _ 0 _ _ hs rfl fun w Qr79 hs qr79 => ?_)))
     dsimp only [List.set] at hs
     refine xblock (xregS [0, 1, 2, 3] fun KR81 kr81 => ?_)
     refine wpS.tk 0 true (some 20) (.pointer (some ⟨b18, 0, none⟩)) (yld_load1 (e := 62) (o := 0) hs 4 rfl (by kernel_rfl) (by kernel_rfl) (by rfl) .grow) ?_
     refine wpS.tk 1 true (some 21) (.slice a0_A a0_n a0_c) (yld_load1 (e := 26) (o := 0) hs 12 rfl (by kernel_rfl) (by kernel_rfl) (by rfl) .grow) ?_
     refine wpS.q 2 22 (.int .i64 z23) ?_
     have hs := hs.front 6 rfl
     have hs := hs.front 6 rfl
     try dsimp only [List.eraseIdx] at hs
     have hs := hs.pickR (pick_cons 1 rfl (pick_cons 2 rfl (pick_cons 0 rfl (pick_cons 3 rfl pick_nil))))
     obtain ⟨⟨r28, r29⟩, hg, h⟩ := of_bind h
     refine wpS.only 3 (wpOp_call (d := (some 23)) (by kernel_rfl) (fun _ => by kernel_rfl) (wrap_shelf_there_s.ok hg hs) ?_)
     rintro e w ⟨y30_H, rfl, hs⟩
     refine ⟨_, rfl, ?_⟩
     refine ⟨fun _ => trivial, ?_⟩
     refine wpS.fin rfl (kr81 _ _ (inBlock_n ?_))
     refine round_n qr79 hs 2 rfl fun w hs => ?_
     dsimp only [List.set] at hs
     refine ⟨fun _ => trivial, ?_⟩
     refine wpS.q 3 20 (.bool false) ?_
     refine wpS.fin rfl (kr78 _ _ (then_n (ks77 _ _ (wp_cond_f (by kernel_rfl) (xskip (inBlock_n (then_n (ks71 _ _ (xregS [0, 1, 2] fun KR82 kr82 => ?_)))))))))
     refine wpS.qs [(0, 9, .int .i64 z23), (1, 10, .int .i64 (iadd .i64 z23 1))] ?_
     obtain ⟨x31, hx, h⟩ := of_bind h
     refine wpS.tk 2 false (some 4) (.int .i64 x31) (yld_int hx (fun _ => by kernel_rfl)) ?_
     refine wpS.fin rfl (kr82 _ _ ?_)
     have hs := hs.front 6 rfl
     have hs := hs.front 6 rfl
     have hs := hs.front 6 rfl
     have hs := hs.front 6 rfl
     have hs := hs.front 6 rfl
     try dsimp only [List.eraseIdx] at hs
     exact then_n (kl1 _ _ ⟨n, Nat.lt_succ_self n, x31, r28, r29, y30_H, h, (hs.pickR (pick_cons 2 rfl (pick_cons 0 rfl (pick_cons 1 rfl (pick_cons 3 rfl pick_nil))))), exg (by kernel_rfl)⟩)
    refine wpS.tk 2 false (some 8) (.bool false) (yld_b (df hc) (fun _ => by kernel_rfl)) ?_
    refine wpS.fin rfl (kr70 _ _ (then_n (ks69 _ _ (wp_cond_f (by kernel_rfl) (xexit (then_x (then_x (inBlock_hit ?_))))))))
    obtain ⟨q0, qr0⟩ := Prod.mk.inj (of_some h)
    have q1 := qr0
    subst q0
    subst q1
    exact exq_n (nn1 _ _ ⟨z25_H, (hs.conv rfl), exg (by kernel_rfl)⟩)
  clear hs h hy
  rintro a w ⟨y27_H, hs, g67, rfl⟩
  have h := hk1
  refine qn63 _ _ (post_nrm (by kernel_rfl) (run_results [] [] (by kernel_rfl) .nil) ?_)
  refine range_n (a1 := ⟨#[.slice a0_A a0_n a0_c, .slice a1_A a1_n a1_c, .pointer (some ⟨b1, 0, none⟩), undef, .slice none 0 0, .int .i64 0, .int .i64 r2, .pointer (some ⟨b19, 0, none⟩), undef, .slice a0_A a0_n a0_c, .slice a1_A a1_n a1_c, .int .i64 r2, .int .i64 r2, .bool false, undef, .slice a1_A a1_n a1_c, .pointer (some ⟨b18, 0, none⟩), .pointer (some ⟨b18, 0, none⟩), .func (.func 94) #[] #[.pointer (some ⟨b21, 0, none⟩), .pointer (some ⟨b20, 0, none⟩)], undef, undef, undef, undef, undef, undef, undef, undef, undef, undef, undef, undef, undef, undef, undef, undef, undef], [lmark D63]⟩) kR63 (by kernel_rfl) hs 0 rfl fun w hs => ?_
  dsimp only [List.set] at hs
  refine inBlock_n (then_n (ks53 _ _ (xseq_k fun KS83 ks83 => ?_)))
  refine wp_regG [] (fun k => True) 14 (by kernel_rfl) (by kernel_rfl) (by kernel_rfl) fun KR84 kr84 => ?_
  have hs := hs.drawn1
  refine wpG.tD 0 true (some 24) (.pointer (some ⟨b18, 0, none⟩)) (yld_load1 (e := 62) (o := 0) hs 4 rfl (by kernel_rfl) (by kernel_rfl) (by rfl) .grow) ?_
  refine wpG.q 1 25 (.pointer (some ⟨b18, 0, none⟩)) ?_
  refine wpG.q 2 26 (.pointer (some ⟨b18, 0, none⟩)) ?_
  refine wpG.tD 3 true (some 27) (.int .u64 y26_0) (yld_load1 (e := 64) (o := 0) hs 5 rfl (by kernel_rfl) (by kernel_rfl) (by rfl) .grow) ?_
  refine wpG.tD 5 true (some 29) (.pointer (some ⟨b18, 0, none⟩)) (yld_load1 (e := 62) (o := 0) hs 4 rfl (by kernel_rfl) (by kernel_rfl) (by rfl) .grow) ?_
  refine wpG.q 6 30 (.pointer (some ⟨b18, 0, none⟩)) ?_
  refine wpG.q 7 31 (.pointer (some ⟨b18, 1, none⟩)) ?_
  refine wpG.tD 8 true (some 32) (.slice y10_A y10_n y10_c) (yld_load1 (e := 44) (o := 1) hs 5 rfl (by kernel_rfl) (by kernel_rfl) (by rfl) .grow) ?_
  obtain ⟨r32, hg, h⟩ := of_bind h
  refine wpG.only 4 (by kernel_rfl) (op_callH (d := (some 28)) (by kernel_rfl) hs (fun _ => by kernel_rfl) (bits_Be.ok hg _) ?_)
  rintro ⟨r32_A, r32_n, r32_c⟩ w gw hs
  have hs := hs.conv (L' := [.ownL (CI .u8) r32_A r32_n r32_c r32 5, .obj l63 (.loop (rec63 .exhausted none)), .obj D63 (.deferred (some [])), .blk b21 ([.int .i64 x22]) 3, .blk b20 ([.bool false]) 4, .blk b19 ([.pointer (some ⟨b18, 0, none⟩)]) 62, .blk b18 ([.int .u64 y26_0, .slice y10_A y10_n y10_c]) 72, .ownL CS y10_A y10_n y10_c y27_H 26, .obj l34 (.loop (rec34 .exhausted none)), .obj D34 (.deferred none), .blk b6 ([.slice y10_A y10_n y10_c]) 44, .blk b5 ([.int .i64 8]) 3, .blk b4 ([.slice r3_A r3_n r3_c]) 26, .blk b1 ([.slice a0_A a0_n a0_c]) 26]) rfl
  refine ⟨.of gw, ?_⟩
  obtain ⟨r33, hg, h⟩ := of_bind h
  refine wpG.only 9 (by kernel_rfl) (op_callH (d := (some 33)) (by kernel_rfl) hs (fun _ => by kernel_rfl) (bits_Join.ok hg _ (LLP.mk (hs.rowL 7 rfl) (hs.innR 1 rfl))) ?_)
  rintro ⟨r33_A, r33_n, r33_c⟩ w gw hs
  have hs := hs.conv (L' := [.ownL (CI .u8) r33_A r33_n r33_c r33 5, .ownL (CI .u8) r32_A r32_n r32_c r32 5, .obj l63 (.loop (rec63 .exhausted none)), .obj D63 (.deferred (some [])), .blk b21 ([.int .i64 x22]) 3, .blk b20 ([.bool false]) 4, .blk b19 ([.pointer (some ⟨b18, 0, none⟩)]) 62, .blk b18 ([.int .u64 y26_0, .slice y10_A y10_n y10_c]) 72, .ownL CS y10_A y10_n y10_c y27_H 26, .obj l34 (.loop (rec34 .exhausted none)), .obj D34 (.deferred none), .blk b6 ([.slice y10_A y10_n y10_c]) 44, .blk b5 ([.int .i64 8]) 3, .blk b4 ([.slice r3_A r3_n r3_c]) 26, .blk b1 ([.slice a0_A a0_n a0_c]) 26]) rfl
  refine ⟨.of gw, ?_⟩
  refine wpG.only 10 (by kernel_rfl) (op_lit (C := CS) (t := 44) (e := 26) (len := 2) (parts := #[(0, .slice r32_A r32_n r32_c), (1, .slice r33_A r33_n r33_c)]) (l := ([(r32_A, r32_n, r32_c), (r33_A, r33_n, r33_c)] : List HS)) (d := (some 34)) (by kernel_rfl) hs (by kernel_rfl) (by kernel_rfl) (by kernel_rfl) (z := .slice none 0 0) (by kernel_rfl) rfl (by decide) (by decide) (by kernel_rfl) ?_)
  intro s34_A s34_n s34_c w gw hs
  refine ⟨.of gw, ?_⟩
  obtain ⟨r35, hg, h⟩ := of_bind h
  refine wpG.only 11 (by kernel_rfl) (op_callH (d := (some 35)) (by kernel_rfl) hs (fun _ => by kernel_rfl) (bits_Join.ok hg _ (LLP.mk (hs.rowL 0 rfl) (inn_cons (hs.rowL 2 rfl) (inn_cons (hs.rowL 1 rfl) inn_nil)))) ?_)
  rintro ⟨r35_A, r35_n, r35_c⟩ w gw hs
  have hs := hs.conv (L' := [.ownL (CI .u8) r35_A r35_n r35_c r35 5, .ownL CS s34_A s34_n s34_c ([(r32_A, r32_n, r32_c), (r33_A, r33_n, r33_c)] : List HS) 26, .ownL (CI .u8) r33_A r33_n r33_c r33 5, .ownL (CI .u8) r32_A r32_n r32_c r32 5, .obj l63 (.loop (rec63 .exhausted none)), .obj D63 (.deferred (some [])), .blk b21 ([.int .i64 x22]) 3, .blk b20 ([.bool false]) 4, .blk b19 ([.pointer (some ⟨b18, 0, none⟩)]) 62, .blk b18 ([.int .u64 y26_0, .slice y10_A y10_n y10_c]) 72, .ownL CS y10_A y10_n y10_c y27_H 26, .obj l34 (.loop (rec34 .exhausted none)), .obj D34 (.deferred none), .blk b6 ([.slice y10_A y10_n y10_c]) 44, .blk b5 ([.int .i64 8]) 3, .blk b4 ([.slice r3_A r3_n r3_c]) 26, .blk b1 ([.slice a0_A a0_n a0_c]) 26]) rfl
  refine ⟨.of gw, ?_⟩
  refine wpG.q 12 4 (.slice r35_A r35_n r35_c) ?_
  refine wpG.q 13 5 (.int .i64 0) ?_
  refine wpG.fin (by kernel_rfl) rfl (kr84 _ _ ?_)
  refine then_n (ks83 _ _ (xret ?_))
  obtain ⟨q0, qr0⟩ := Prod.mk.inj (of_some h)
  have q1 := qr0
  subst q0
  subst q1
  refine qq _ _ ?_
  refine leaves_mark hs 5 rfl fun w hs => ?_
  dsimp only [List.set] at hs
  exact leaves_end (run_results [.tmp 4, .tmp 5] [.slice r35_A r35_n r35_c, .int .i64 0] (by kernel_rfl) (.cons (res_tmp (by kernel_rfl)) (.cons (res_tmp (by kernel_rfl)) .nil))) ⟨⟨r35_A, r35_n, r35_c⟩, congrArg Ending.returned (by kernel_rfl), ((hs.drop (.cons_cons _ (.cons _ (.cons _ (.cons _ (.cons _ (.cons _ (.cons _ (.cons _ (.cons _ (.cons _ (.cons _ (.cons _ (.cons _ (.cons _ (.cons _ (.cons _ (.cons _ .slnil)))))))))))))))))).pickR pick_nil)⟩
 refine wpS.tk 1 false (some 13) (.bool true) (yld_b (nt hc) (fun _ => by kernel_rfl)) ?_
 refine wpS.fin rfl (kr7 _ _ (then_n (ks6 _ _ (wp_cond_t (by kernel_rfl) (xseq_k fun KS85 ks85 => (xregS [0, 1, 2] fun KR86 kr86 => ?_))))))
 refine wpS.qs [(0, 14, .int .i64 r2), (1, 4, .slice none 0 0), (2, 5, .int .i64 r2)] ?_
 refine wpS.fin rfl (kr86 _ _ (then_n (ks85 _ _ (xret (then_r ?_)))))
 obtain ⟨q0, qr0⟩ := Prod.mk.inj (of_some h)
 have q1 := qr0
 subst q0
 subst q1
 refine qq _ _ ?_
 have hs := hs.addNilL (CI .u8) 5
 exact leaves_end (run_results [.tmp 4, .tmp 5] [.slice none 0 0, .int .i64 r2] (by kernel_rfl) (.cons (res_tmp (by kernel_rfl)) (.cons (res_tmp (by kernel_rfl)) .nil))) ⟨⟨none, 0, 0⟩, congrArg Ending.returned (by kernel_rfl), ((hs.drop (.cons_cons _ (.cons _ .slnil))).pickR pick_nil)⟩

theorem aes_unmix.ok {K : Nat} {a0 : Arr 16} {rp : Arr 16} {p0 : Nat} (h : aes_unmix.f K a0 = some rp) (w0 : World) (hb : w0.heap[p0]? = some (.cells (enc .u8 a0).toArray 42 (0, 0))) : Calls Try.prog 91 #[.pointer (some ⟨p0, 0, none⟩)] w0 fun e w' => e = .returned (.tuple #[]) ∧ St w0 [p0] [.blk p0 (enc .u8 rp) 42] [] w' := by
 refine calls_kn Try.func91 rfl fun Q qq qn => ?_
 have hs := St.startX hb allX_nil
 refine wp_conv (a' := ⟨#[.pointer (some ⟨p0, 0, none⟩), undef, undef, undef, undef, undef, undef], []⟩) (by kernel_rfl) ?_
 refine xseq_k fun KS1 ks1 => ?_
 refine xregS [0] fun KR2 kr2 => ?_
 refine wpS.q 0 2 (.int .i64 0) ?_
 refine wpS.fin rfl (kr2 _ _ (then_n (ks1 _ _ ?_)))
 obtain ⟨y3, hy, hk0⟩ := of_bind h
 refine wp_exq (N := fun a w => St w0 [p0] [.blk p0 (enc .u8 y3) 42] [] w ∧ ∃ g4 : Nat → Value, a = ⟨#[.pointer (some ⟨p0, 0, none⟩), undef, (g4 2), (g4 3), (g4 4), (g4 5), (g4 6)], []⟩) (fun N0 nn0 => ?_) ?_
 ·clear hk0
  refine xblock ?_
  refine wp_loop_k (fun n a w => ∃ z1 z2, aes_unmix.l0 K n z1 z2 = some y3 ∧ St w0 [p0] [.blk p0 (enc .u8 z2) 42] [] w ∧ ∃ g3 : Nat → Value, a = ⟨#[.pointer (some ⟨p0, 0, none⟩), undef, .int .i64 z1, (g3 3), (g3 4), (g3 5), (g3 6)], []⟩) K ⟨0, a0, hy, hs.conv rfl, exg (by kernel_rfl)⟩ ?_
  clear hs h hy
  rintro n a w ⟨z1, z2, h, hs, g3, rfl⟩ KL0 kl0
  cases n with
  | zero => exact nomatch (show none = some _ from h)
  | succ n =>
   refine xseq_k fun KS5 ks5 => ?_
   refine xregS [0] fun KR6 kr6 => ?_
   rcases of_if h with ⟨hc, h⟩ | ⟨hc, h⟩
   ·refine wpS.tk 0 false (some 3) (.bool true) (yld_b (dt hc) (fun _ => by kernel_rfl)) ?_
    refine wpS.fin rfl (kr6 _ _ (then_n (ks5 _ _ (xseq_k fun KS7 ks7 => (wp_cond_t (by kernel_rfl) (xskip (then_n (ks7 _ _ (xseq_k fun KS8 ks8 => (xblock (xregS [0, 1] fun KR9 kr9 => ?_)))))))))))
    refine wpS.q 0 4 (.pointer (some ⟨p0, 0, none⟩)) ?_
    obtain ⟨r4, hg, h⟩ := of_bind h
    refine wpS.only 1 (op_callX (d := (some 5)) (by kernel_rfl) hs 0 rfl (fun _ => by kernel_rfl) (aes_mix.ok hg _ (hs.blkAt 0 rfl)) ?_)
    intro w kp hs
    have hs := hs.conv (L' := [.blk p0 (enc .u8 r4) 42]) rfl
    refine ⟨fun _ => trivial, ?_⟩
    refine wpS.fin rfl (kr9 _ _ (inBlock_n (then_n (ks8 _ _ (xregS [0, 1] fun KR10 kr10 => ?_)))))
    refine wpS.qs [(0, 6, .int .i64 (iadd .i64 z1 1)), (1, 2, .int .i64 (iadd .i64 z1 1))] ?_
    refine wpS.fin rfl (kr10 _ _ ?_)
    exact then_n (kl0 _ _ ⟨n, Nat.lt_succ_self n, (iadd .i64 z1 1), r4, h, (hs.conv rfl), exg (by kernel_rfl)⟩)
   refine wpS.tk 0 false (some 3) (.bool false) (yld_b (df hc) (fun _ => by kernel_rfl)) ?_
   refine wpS.fin rfl (kr6 _ _ (then_n (ks5 _ _ (xseq_k fun KS11 ks11 => (wp_cond_f (by kernel_rfl) (xexit (then_x (then_x (inBlock_hit ?_)))))))))
   have q0 := of_some h
   subst q0
   exact exq_n (nn0 _ _ ⟨(hs.conv rfl), exg (by kernel_rfl)⟩)
 clear hs h hy
 rintro a w ⟨hs, g4, rfl⟩
 have h := hk0
 have q0 := of_some h
 subst q0
 exact qn _ _ (post_nrm (by kernel_rfl) (run_results [] [] (by kernel_rfl) .nil) ⟨congrArg Ending.returned (by kernel_rfl), (hs.conv rfl)⟩)

theorem aes_cipher_undo_s.ok {K : Nat} {ca0 : Arr 256} {ca1 : Arr 256} {ca2 : List (Arr 16)} {ca3 : Arr 16} {y1 : Arr 16} {cb0 : Nat} {cb1 : Nat} {ca2_A : Option Addr} {ca2_n : Nat} {ca2_c : Nat} (h : aes_cipher_undo_s.f K ca0 ca1 ca2 ca3 = some y1) {w0 w : World} {X : List Nat} {Lt Rt : List Ent} (hs : St w0 X (.blk cb0 ([.pointer (some ⟨cb1, 0, none⟩), .slice ca2_A ca2_n ca2_c]) 98 :: .blk cb1 (([] : List Value) ++ enc .u8 ca0 ++ enc .u8 ca1 ++ ([] : List Value)) 48 :: .ownL (CA .u8 16 (by decide)) ca2_A ca2_n ca2_c ca2 42 :: Lt) Rt w) : Calls Try.prog 53 #[.pointer (some ⟨cb0, 0, none⟩), .agg (enc .u8 ca3).toArray] w fun e w' => e = .returned (.agg (enc .u8 y1).toArray) ∧ St w0 X (.blk cb0 ([.pointer (some ⟨cb1, 0, none⟩), .slice ca2_A ca2_n ca2_c]) 98 :: .blk cb1 (([] : List Value) ++ enc .u8 ca0 ++ enc .u8 ca1 ++ ([] : List Value)) 48 :: .ownL (CA .u8 16 (by decide)) ca2_A ca2_n ca2_c ca2 42 :: Lt) Rt w' := by
 refine calls_k Try.func53 rfl fun Q qq => ?_
 refine wp_conv (a' := ⟨#[.pointer (some ⟨cb0, 0, none⟩), .agg (enc .u8 ca3).toArray, undef, undef, undef, undef, undef, undef, undef, undef, undef, undef, undef, undef, undef, undef, undef, undef, undef, undef, undef, undef, undef, undef, undef, undef, undef, undef, undef, undef, undef, undef, undef, undef, undef, undef, undef, undef, undef, undef, undef, undef, undef, undef, undef, undef, undef, undef, undef, undef, undef, undef, undef], []⟩) (by kernel_rfl) ?_
 refine xseq_k fun KS1 ks1 => ?_
 refine xregS [0, 1] fun KR2 kr2 => ?_
 refine wpS.only 0 (op_box (t := 42) (v := .agg (enc .u8 ca3).toArray) (d := (some 3)) (by kernel_rfl) hs (enc .u8 ca3) (by kernel_rfl) (by kernel_rfl) ?_)
 intro b2 w gw hs
 refine ⟨fun _ => trivial, ?_⟩
 refine wpS.only 1 (op_alloc (t := 42) (d := (some 4)) (by kernel_rfl) hs (enc .u8 (zeroA 16)) (.agg (enc .u8 (zeroA 16)).toArray) (by kernel_rfl) (by kernel_rfl) (by kernel_rfl) ?_)
 intro b3 w gw hs
 refine ⟨fun _ => trivial, ?_⟩
 refine wpS.fin rfl (kr2 _ _ (then_n (ks1 _ _ (xseq_k fun KS3 ks3 => (xregS [0, 1, 2, 3, 4, 5, 6] fun KR4 kr4 => ?_)))))
 refine wpS.qs [(0, 9, .pointer (some ⟨cb0, 0, none⟩)), (1, 10, .pointer (some ⟨cb0, 0, none⟩)), (2, 11, .pointer (some ⟨cb0, 1, none⟩))] ?_
 refine wpS.tk 3 true (some 12) (.slice ca2_A ca2_n ca2_c) (yld_load1 (e := 96) (o := 1) hs 2 rfl (by kernel_rfl) (by kernel_rfl) (by rfl) .grow) ?_
 refine wpS.tk 4 false (some 13) (.int .i64 (ca2.length : Int)) (yld_lenL (hs.rowL 4 rfl) (fun _ => by kernel_rfl)) ?_
 refine wpS.q 5 14 (.int .i64 (isub .i64 (ca2.length : Int) 1)) ?_
 obtain ⟨x4, hx, h⟩ := of_bind h
 refine wpS.tk 6 false (some 5) (.int .i64 x4) (yld_int hx (fun _ => by kernel_rfl)) ?_
 refine wpS.fin rfl (kr4 _ _ (then_n (ks3 _ _ (xseq_k fun KS5 ks5 => (xseq_k fun KS6 ks6 => (xregS [0, 1] fun KR7 kr7 => ?_))))))
 refine wpS.qs [(0, 15, .int .i64 x4), (1, 6, .int .i64 x4)] ?_
 refine wpS.fin rfl (kr7 _ _ (then_n (ks6 _ _ ?_)))
 obtain ⟨y7, hy, hk0⟩ := of_bind h
 refine wp_exq (N := fun a w => St w0 X (.blk b3 (enc .u8 (zeroA 16)) 42 :: .blk b2 (enc .u8 y7) 42 :: .blk cb0 ([.pointer (some ⟨cb1, 0, none⟩), .slice ca2_A ca2_n ca2_c]) 98 :: .blk cb1 (([] : List Value) ++ enc .u8 ca0 ++ enc .u8 ca1 ++ ([] : List Value)) 48 :: .ownL (CA .u8 16 (by decide)) ca2_A ca2_n ca2_c ca2 42 :: Lt) Rt w ∧ ∃ g9 : Nat → Value, a = ⟨#[.pointer (some ⟨cb0, 0, none⟩), .agg (enc .u8 ca3).toArray, undef, .pointer (some ⟨b2, 0, none⟩), .pointer (some ⟨b3, 0, none⟩), .int .i64 x4, (g9 6), (g9 7), (g9 8), .pointer (some ⟨cb0, 0, none⟩), .pointer (some ⟨cb0, 0, none⟩), .pointer (some ⟨cb0, 1, none⟩), .slice ca2_A ca2_n ca2_c, .int .i64 (ca2.length : Int), .int .i64 (isub .i64 (ca2.length : Int) 1), .int .i64 x4, (g9 16), (g9 17), (g9 18), (g9 19), (g9 20), (g9 21), (g9 22), (g9 23), (g9 24), (g9 25), (g9 26), (g9 27), (g9 28), (g9 29), (g9 30), (g9 31), (g9 32), (g9 33), (g9 34), (g9 35), (g9 36), (g9 37), (g9 38), (g9 39), (g9 40), (g9 41), (g9 42), (g9 43), (g9 44), (g9 45), (g9 46), (g9 47), (g9 48), (g9 49), undef, undef, undef], []⟩) (fun N0 nn0 => ?_) ?_
 ·clear hk0
  refine xblock ?_
  refine wp_loop_k (fun n a w => ∃ z5 z6, aes_cipher_undo_s.l0 K n ca0 ca1 ca2 x4 z5 z6 = some y7 ∧ St w0 X (.blk b3 (enc .u8 (zeroA 16)) 42 :: .blk b2 (enc .u8 z6) 42 :: .blk cb0 ([.pointer (some ⟨cb1, 0, none⟩), .slice ca2_A ca2_n ca2_c]) 98 :: .blk cb1 (([] : List Value) ++ enc .u8 ca0 ++ enc .u8 ca1 ++ ([] : List Value)) 48 :: .ownL (CA .u8 16 (by decide)) ca2_A ca2_n ca2_c ca2 42 :: Lt) Rt w ∧ ∃ g8 : Nat → Value, a = ⟨#[.pointer (some ⟨cb0, 0, none⟩), .agg (enc .u8 ca3).toArray, undef, .pointer (some ⟨b2, 0, none⟩), .pointer (some ⟨b3, 0, none⟩), .int .i64 x4, .int .i64 z5, (g8 7), (g8 8), .pointer (some ⟨cb0, 0, none⟩), .pointer (some ⟨cb0, 0, none⟩), .pointer (some ⟨cb0, 1, none⟩), .slice ca2_A ca2_n ca2_c, .int .i64 (ca2.length : Int), .int .i64 (isub .i64 (ca2.length : Int) 1), .int .i64 x4, (g8 16), (g8 17), (g8 18), (g8 19), (g8 20), (g8 21), (g8 22), (g8 23), (g8 24), (g8 25), (g8 26), (g8 27), (g8 28), (g8 29), (g8 30), (g8 31), (g8 32), (g8 33), (g8 34), (g8 35), (g8 36), (g8 37), (g8 38), (g8 39), (g8 40), (g8 41), (g8 42), (g8 43), (g8 44), (g8 45), (g8 46), (g8 47), (g8 48), (g8 49), undef, undef, undef], []⟩) K ⟨x4, ca3, hy, hs.conv rfl, exg (by kernel_rfl)⟩ ?_
  clear hs h hy
  rintro n a w ⟨z5, z6, h, hs, g8, rfl⟩ KL0 kl0
  cases n with
  | zero => exact nomatch (show none = some _ from h)
  | succ n =>
   refine xseq_k fun KS10 ks10 => ?_
   refine xseq_k fun KS11 ks11 => ?_
   refine xregS [0, 1] fun KR12 kr12 => ?_
   refine wpS.q 0 16 (.int .i64 z5) ?_
   rcases of_if h with ⟨hc, h⟩ | ⟨hc, h⟩
   ·refine wpS.tk 1 false (some 17) (.bool true) (yld_b (dt hc) (fun _ => by kernel_rfl)) ?_
    refine wpS.fin rfl (kr12 _ _ (then_n (ks11 _ _ (wp_cond_t (by kernel_rfl) (xskip (then_n (ks10 _ _ (xseq_k fun KS13 ks13 => (xblock (xseq_k fun KS14 ks14 => (xregS [0, 1, 2] fun KR15 kr15 => ?_)))))))))))
    refine wpS.qs [(0, 20, .pointer (some ⟨cb0, 0, none⟩)), (1, 21, .int .i64 z5)] ?_
    have hs := hs.front 1 rfl
    have hs := hs.front 4 rfl
    have hs := hs.front 4 rfl
    have hs := hs.front 4 rfl
    try dsimp only [List.eraseIdx] at hs
    obtain ⟨r8, hg, h⟩ := of_bind h
    refine wpS.only 2 (wpOp_call (d := (some 22)) (by kernel_rfl) (fun _ => by kernel_rfl) (aes_cipher_add_s.ok hg hs) ?_)
    rintro e w ⟨rfl, hs⟩
    refine ⟨_, rfl, ?_⟩
    refine ⟨fun _ => trivial, ?_⟩
    refine wpS.fin rfl (kr15 _ _ (then_n (ks14 _ _ ?_)))
    obtain ⟨y9, hj, h⟩ := of_bind h
    refine xseq_k fun KS17 ks17 => wp_join (N := fun a w => St w0 X (.blk cb0 ([.pointer (some ⟨cb1, 0, none⟩), .slice ca2_A ca2_n ca2_c]) 98 :: .blk cb1 (([] : List Value) ++ enc .u8 ca0 ++ enc .u8 ca1 ++ ([] : List Value)) 48 :: .ownL (CA .u8 16 (by decide)) ca2_A ca2_n ca2_c ca2 42 :: .blk b2 (enc .u8 y9) 42 :: .blk b3 (enc .u8 (zeroA 16)) 42 :: Lt) Rt w ∧ ∃ g16 : Nat → Value, a = ⟨#[.pointer (some ⟨cb0, 0, none⟩), .agg (enc .u8 ca3).toArray, undef, .pointer (some ⟨b2, 0, none⟩), .pointer (some ⟨b3, 0, none⟩), .int .i64 x4, .int .i64 z5, (g8 7), (g8 8), .pointer (some ⟨cb0, 0, none⟩), .pointer (some ⟨cb0, 0, none⟩), .pointer (some ⟨cb0, 1, none⟩), .slice ca2_A ca2_n ca2_c, .int .i64 (ca2.length : Int), .int .i64 (isub .i64 (ca2.length : Int) 1), .int .i64 x4, .int .i64 z5, .bool true, (g8 18), (g8 19), .pointer (some ⟨cb0, 0, none⟩), .int .i64 z5, .tuple #[], (g16 23), (g16 24), (g16 25), (g16 26), (g8 27), (g8 28), (g8 29), (g8 30), (g8 31), (g8 32), (g8 33), (g8 34), (g8 35), (g8 36), (g8 37), (g8 38), (g8 39), (g8 40), (g8 41), (g8 42), (g8 43), (g8 44), (g8 45), (g8 46), (g8 47), (g8 48), (g8 49), undef, undef, undef], []⟩) (fun N nj => ?_) ?_
    ·clear h
     have h := hj
     refine xseq_k fun KS18 ks18 => ?_
     refine xregS [0, 1, 2] fun KR19 kr19 => ?_
     refine wpS.qs [(0, 23, .int .i64 z5), (1, 24, .int .i64 x4)] ?_
     rcases of_if h with ⟨hc, h⟩ | ⟨hc, h⟩
     ·refine wpS.tk 2 false (some 25) (.bool true) (yld_b (dt hc) (fun _ => by kernel_rfl)) ?_
      refine wpS.fin rfl (kr19 _ _ (then_n (ks18 _ _ (wp_cond_t (by kernel_rfl) (xregS [0] fun KR20 kr20 => ?_)))))
      obtain ⟨r10, hg, h⟩ := of_bind h
      refine wpS.only 0 (op_callX (d := (some 26)) (by kernel_rfl) hs 3 rfl (fun _ => by kernel_rfl) (aes_unmix.ok hg _ (hs.blkAt 3 rfl)) ?_)
      intro w kp hs
      have hs := hs.conv (L' := (.blk cb0 ([.pointer (some ⟨cb1, 0, none⟩), .slice ca2_A ca2_n ca2_c]) 98 :: .blk cb1 (([] : List Value) ++ enc .u8 ca0 ++ enc .u8 ca1 ++ ([] : List Value)) 48 :: .ownL (CA .u8 16 (by decide)) ca2_A ca2_n ca2_c ca2 42 :: .blk b2 (enc .u8 r10) 42 :: .blk b3 (enc .u8 (zeroA 16)) 42 :: Lt)) rfl
      refine ⟨fun _ => trivial, ?_⟩
      refine wpS.fin rfl (kr20 _ _ ?_)
      have q0 := of_some h
      subst q0
      exact nj _ _ ⟨(hs.conv rfl), exg (by kernel_rfl)⟩
     refine wpS.tk 2 false (some 25) (.bool false) (yld_b (df hc) (fun _ => by kernel_rfl)) ?_
     refine wpS.fin rfl (kr19 _ _ (then_n (ks18 _ _ (wp_cond_f (by kernel_rfl) (xskip ?_)))))
     have q0 := of_some h
     subst q0
     exact nj _ _ ⟨(hs.conv rfl), exg (by kernel_rfl)⟩
    clear hj hs
    rintro a w ⟨hs, g16, rfl⟩
    refine then_n (ks17 _ _ (xseq_k fun KS21 ks21 => (xregS [0] fun KR22 kr22 => ?_)))
    refine wpS.only 0 (op_alloc (t := 42) (d := (some 7)) (by kernel_rfl) hs (enc .u8 (zeroA 16)) (.agg (enc .u8 (zeroA 16)).toArray) (by kernel_rfl) (by kernel_rfl) (by kernel_rfl) ?_)
    intro b11 w gw hs
    refine ⟨fun _ => trivial, ?_⟩
    refine wpS.fin rfl (kr22 _ _ (then_n (ks21 _ _ (xseq_k fun KS23 ks23 => (xseq_k fun KS24 ks24 => (xregS [0] fun KR25 kr25 => ?_))))))
    refine wpS.q 0 27 (.int .i64 0) ?_
    refine wpS.fin rfl (kr25 _ _ (then_n (ks24 _ _ ?_)))
    obtain ⟨y14, hy, hk1⟩ := of_bind h
    refine wp_exq (N := fun a w => St w0 X (.blk b11 (enc .u8 y14) 42 :: .blk cb0 ([.pointer (some ⟨cb1, 0, none⟩), .slice ca2_A ca2_n ca2_c]) 98 :: .blk cb1 (([] : List Value) ++ enc .u8 ca0 ++ enc .u8 ca1 ++ ([] : List Value)) 48 :: .ownL (CA .u8 16 (by decide)) ca2_A ca2_n ca2_c ca2 42 :: .blk b2 (enc .u8 y9) 42 :: .blk b3 (enc .u8 (zeroA 16)) 42 :: Lt) Rt w ∧ ∃ g27 : Nat → Value, a = ⟨#[.pointer (some ⟨cb0, 0, none⟩), .agg (enc .u8 ca3).toArray, undef, .pointer (some ⟨b2, 0, none⟩), .pointer (some ⟨b3, 0, none⟩), .int .i64 x4, .int .i64 z5, .pointer (some ⟨b11, 0, none⟩), (g27 8), .pointer (some ⟨cb0, 0, none⟩), .pointer (some ⟨cb0, 0, none⟩), .pointer (some ⟨cb0, 1, none⟩), .slice ca2_A ca2_n ca2_c, .int .i64 (ca2.length : Int), .int .i64 (isub .i64 (ca2.length : Int) 1), .int .i64 x4, .int .i64 z5, .bool true, (g8 18), (g8 19), .pointer (some ⟨cb0, 0, none⟩), .int .i64 z5, .tuple #[], (g16 23), (g16 24), (g16 25), (g16 26), (g27 27), (g27 28), (g27 29), (g27 30), (g27 31), (g27 32), (g27 33), (g27 34), (g27 35), (g27 36), (g27 37), (g27 38), (g27 39), (g27 40), (g27 41), (g27 42), (g27 43), (g27 44), (g27 45), (g27 46), (g27 47), (g27 48), (g8 49), undef, undef, undef], []⟩) (fun N1 nn1 => ?_) ?_
    ·clear hk1
     refine xblock ?_
     refine wp_loop_k (fun n a w => ∃ z12 z13, aes_cipher_undo_s.l1 K n ca1 y9 z12 z13 = some y14 ∧ St w0 X (.blk b11 (enc .u8 z13) 42 :: .blk cb0 ([.pointer (some ⟨cb1, 0, none⟩), .slice ca2_A ca2_n ca2_c]) 98 :: .blk cb1 (([] : List Value) ++ enc .u8 ca0 ++ enc .u8 ca1 ++ ([] : List Value)) 48 :: .ownL (CA .u8 16 (by decide)) ca2_A ca2_n ca2_c ca2 42 :: .blk b2 (enc .u8 y9) 42 :: .blk b3 (enc .u8 (zeroA 16)) 42 :: Lt) Rt w ∧ ∃ g26 : Nat → Value, a = ⟨#[.pointer (some ⟨cb0, 0, none⟩), .agg (enc .u8 ca3).toArray, undef, .pointer (some ⟨b2, 0, none⟩), .pointer (some ⟨b3, 0, none⟩), .int .i64 x4, .int .i64 z5, .pointer (some ⟨b11, 0, none⟩), (g26 8), .pointer (some ⟨cb0, 0, none⟩), .pointer (some ⟨cb0, 0, none⟩), .pointer (some ⟨cb0, 1, none⟩), .slice ca2_A ca2_n ca2_c, .int .i64 (ca2.length : Int), .int .i64 (isub .i64 (ca2.length : Int) 1), .int .i64 x4, .int .i64 z5, .bool true, (g8 18), (g8 19), .pointer (some ⟨cb0, 0, none⟩), .int .i64 z5, .tuple #[], (g16 23), (g16 24), (g16 25), (g16 26), .int .i64 z12, (g26 28), (g26 29), (g26 30), (g26 31), (g26 32), (g26 33), (g26 34), (g26 35), (g26 36), (g26 37), (g26 38), (g26 39), (g26 40), (g26 41), (g26 42), (g26 43), (g26 44), (g26 45), (g26 46), (g26 47), (g26 48), (g8 49), undef, undef, undef], []⟩) K ⟨0, (zeroA 16), hy, hs.conv rfl, exg (by kernel_rfl)⟩ ?_
     clear hs h hy
     rintro n a w ⟨z12, z13, h, hs, g26, rfl⟩ KL1 kl1
     cases n with
     | zero => exact nomatch (show none = some _ from h)
     | succ n =>
      refine xseq_k fun KS28 ks28 => ?_
      refine xregS [0] fun KR29 kr29 => ?_
      rcases of_if h with ⟨hc, h⟩ | ⟨hc, h⟩
      ·refine wpS.tk 0 false (some 28) (.bool true) (yld_b (dt hc) (fun _ => by kernel_rfl)) ?_
       refine wpS.fin rfl (kr29 _ _ (then_n (ks28 _ _ (xseq_k fun KS30 ks30 => (wp_cond_t (by kernel_rfl) (xskip (then_n (ks30 _ _ (xseq_k fun KS31 ks31 => (xblock (xseq_k fun KS32 ks32 => (xregS [0, 1] fun KR33 kr33 => ?_))))))))))))
       refine wpS.qs [(0, 29, .int .i64 z12), (1, 8, .int .i64 z12)] ?_
       refine wpS.fin rfl (kr33 _ _ (then_n (ks32 _ _ ?_)))
       refine wp_regG [18] (fun k => True) 19 (by kernel_rfl) (by kernel_rfl) (by kernel_rfl) fun KR34 kr34 => ?_
       have hs := hs.drawn1
       refine wpG.q 0 30 (.int .i64 z12) ?_
       refine wpG.q 1 31 (.int .i64 z12) ?_
       refine wpG.q 2 32 (.int .i64 (irem .i64 z12 4)) ?_
       refine wpG.q 3 33 (.int .i64 (imul .i64 4 (irem .i64 z12 4))) ?_
       refine wpG.q 4 34 (.int .i64 (iadd .i64 z12 (imul .i64 4 (irem .i64 z12 4)))) ?_
       refine wpG.q 5 35 (.int .i64 (irem .i64 (iadd .i64 z12 (imul .i64 4 (irem .i64 z12 4))) 16)) ?_
       refine wpG.q 6 36 (.pointer (some ⟨cb0, 0, none⟩)) ?_
       refine wpG.q 7 37 (.pointer (some ⟨cb0, 0, none⟩)) ?_
       refine wpG.q 8 38 (.pointer (some ⟨cb0, 0, none⟩)) ?_
       refine wpG.tD 9 true (some 39) (.pointer (some ⟨cb1, 0, none⟩)) (yld_load1 (e := 49) (o := 0) hs 1 rfl (by kernel_rfl) (by kernel_rfl) (by rfl) .grow) ?_
       refine wpG.q 10 40 (.int .i64 z12) ?_
       obtain ⟨i0_35, h⟩ := of_chk h
       obtain ⟨i1_35, h⟩ := of_chk h
       refine wpG.tD 11 false (some 41) (.pointer (some ⟨b2, 0 + (z12 : Int).toNat * 1, none⟩)) (yld_idx (t := 42) (e := 5) (n := 16) (sz := 1) (k := .i64) (x := z12) (by kernel_rfl) (by kernel_rfl) (by kernel_rfl) i0_35 i1_35) ?_
       refine wpG.tD 12 true (some 42) (.int .u8 (rd y9 z12)) (yld_loadA (e := 5) (x := z12) hs 4 rfl (by kernel_rfl) (by kernel_rfl) i0_35 i1_35 .grow) ?_
       refine wpG.q 13 43 (.pointer (some ⟨cb1, 0, none⟩)) ?_
       refine wpG.q 14 44 (.pointer (some ⟨cb1, 256, none⟩)) ?_
       obtain ⟨x15, hx, h⟩ := of_bind h
       have hx := of_some hx
       subst hx
       obtain ⟨i0_36, h⟩ := of_chk h
       obtain ⟨i1_36, h⟩ := of_chk h
       refine wpG.tD 15 false (some 45) (.pointer (some ⟨cb1, 256 + ((rd y9 z12) : Int).toNat * 1, none⟩)) (yld_idx (t := 46) (e := 5) (n := 256) (sz := 1) (k := .u8) (x := (rd y9 z12)) (by kernel_rfl) (by kernel_rfl) (by kernel_rfl) i0_36 i1_36) ?_
       refine wpG.tD 16 true (some 46) (.int .u8 (rd ca1 (rd y9 z12))) (yld_loadR (m := 256) (k := .u8) (pre := enc .u8 ca0) (post := ([] : List Value)) (c := ca1) (e := 5) (x := (rd y9 z12)) hs 2 rfl (by simp only [List.append_assoc, List.nil_append, List.cons_append, List.append_nil]) (by kernel_rfl) (by kernel_rfl) i0_36 i1_36 (by simp [enc_len]) .grow) ?_
       obtain ⟨x16, hx, h⟩ := of_bind h
       have hx := of_some hx
       subst hx
       obtain ⟨i0_37, h⟩ := of_chk h
       obtain ⟨i1_37, h⟩ := of_chk h
       refine wpG.tD 17 false (some 47) (.pointer (some ⟨b11, 0 + ((irem .i64 (iadd .i64 z12 (imul .i64 4 (irem .i64 z12 4))) 16) : Int).toNat * 1, none⟩)) (yld_idx (t := 42) (e := 5) (n := 16) (sz := 1) (k := .i64) (x := (irem .i64 (iadd .i64 z12 (imul .i64 4 (irem .i64 z12 4))) 16)) (by kernel_rfl) (by kernel_rfl) (by kernel_rfl) i0_37 i1_37) ?_
       obtain ⟨x17, hx, h⟩ := of_bind h
       refine wpG.only 18 (by kernel_rfl) (op_storeA (t := 5) (x := (irem .i64 (iadd .i64 z12 (imul .i64 4 (irem .i64 z12 4))) 16)) (v := x17) (d := none) (by kernel_rfl) hs 0 rfl (by cases hx; kernel_rfl) (by kernel_rfl) i0_37 i1_37 ?_)
       intro w kp hs
       refine ⟨⟨fun hf => absurd hf (by decide), .all _ _⟩, ?_⟩
       refine wpG.fin (by kernel_rfl) rfl (kr34 _ _ ?_)
       refine inBlock_n (then_n (ks31 _ _ (xregS [0, 1] fun KR38 kr38 => ?_)))
       refine wpS.qs [(0, 48, .int .i64 (iadd .i64 z12 1)), (1, 27, .int .i64 (iadd .i64 z12 1))] ?_
       refine wpS.fin rfl (kr38 _ _ ?_)
       exact then_n (kl1 _ _ ⟨n, Nat.lt_succ_self n, (iadd .i64 z12 1), (wr z13 (irem .i64 (iadd .i64 z12 (imul .i64 4 (irem .i64 z12 4))) 16) x17), h, (hs.conv rfl), exg (by kernel_rfl)⟩)
      refine wpS.tk 0 false (some 28) (.bool false) (yld_b (df hc) (fun _ => by kernel_rfl)) ?_
      refine wpS.fin rfl (kr29 _ _ (then_n (ks28 _ _ (xseq_k fun KS39 ks39 => (wp_cond_f (by kernel_rfl) (xexit (then_x (then_x (inBlock_hit ?_)))))))))
      have q0 := of_some h
      subst q0
      exact exq_n (nn1 _ _ ⟨(hs.conv rfl), exg (by kernel_rfl)⟩)
    clear hs h hy
    rintro a w ⟨hs, g27, rfl⟩
    have h := hk1
    refine then_n (ks23 _ _ (xregS [0, 1] fun KR40 kr40 => ?_))
    refine wpS.tk 0 true (some 49) (.agg (enc .u8 y14).toArray) (yld_loadW (e := 42) (n := 16) hs 0 rfl (by kernel_rfl) (by kernel_rfl) (by kernel_rfl) (by exact enc_len _ _) .grow) ?_
    refine wpS.only 1 (op_storeW (t := 42) (v := .agg (enc .u8 y14).toArray) (d := none) (by kernel_rfl) hs 4 rfl (vs := enc .u8 y14) (n := 16) (by kernel_rfl) (by kernel_rfl) (by kernel_rfl) (by simp [enc_len]) (by simp [enc_len]) (by intro u hu; exact enc_one _ _ u hu) ?_)
    intro w kp hs
    refine ⟨fun _ => trivial, ?_⟩
    refine wpS.fin rfl (kr40 _ _ (inBlock_n (then_n (ks13 _ _ (xregS [0, 1, 2] fun KR41 kr41 => ?_)))))
    refine wpS.qs [(0, 18, .int .i64 z5), (1, 19, .int .i64 (isub .i64 z5 1))] ?_
    obtain ⟨x18, hx, h⟩ := of_bind h
    refine wpS.tk 2 false (some 6) (.int .i64 x18) (yld_int hx (fun _ => by kernel_rfl)) ?_
    refine wpS.fin rfl (kr41 _ _ ?_)
    have hs := hs.front 4 rfl
    have hs := hs.front 5 rfl
    try dsimp only [List.eraseIdx] at hs
    exact then_n (kl0 _ _ ⟨n, Nat.lt_succ_self n, x18, y14, h, (hs.drop (.cons_cons _ (.cons_cons _ (.cons _ (.cons_cons _ (.cons_cons _ (.cons_cons _ (.refl _)))))))), exg (by kernel_rfl)⟩)
   refine wpS.tk 1 false (some 17) (.bool false) (yld_b (df hc) (fun _ => by kernel_rfl)) ?_
   refine wpS.fin rfl (kr12 _ _ (then_n (ks11 _ _ (wp_cond_f (by kernel_rfl) (xexit (then_x (then_x (inBlock_hit ?_))))))))
   have q0 := of_some h
   subst q0
   exact exq_n (nn0 _ _ ⟨(hs.conv rfl), exg (by kernel_rfl)⟩)
 clear hs h hy
 rintro a w ⟨hs, g9, rfl⟩
 have h := hk0
 refine then_n (ks5 _ _ (xseq_k fun KS42 ks42 => (xregS [0, 1] fun KR43 kr43 => ?_)))
 refine wpS.q 0 50 (.pointer (some ⟨cb0, 0, none⟩)) ?_
 have hs := hs.front 1 rfl
 have hs := hs.front 4 rfl
 have hs := hs.front 4 rfl
 have hs := hs.front 4 rfl
 try dsimp only [List.eraseIdx] at hs
 obtain ⟨r19, hg, h⟩ := of_bind h
 refine wpS.only 1 (wpOp_call (d := (some 51)) (by kernel_rfl) (fun _ => by kernel_rfl) (aes_cipher_add_s.ok hg hs) ?_)
 rintro e w ⟨rfl, hs⟩
 refine ⟨_, rfl, ?_⟩
 refine ⟨fun _ => trivial, ?_⟩
 refine wpS.fin rfl (kr43 _ _ (then_n (ks42 _ _ (xseq_k fun KS44 ks44 => (xregS [0, 1] fun KR45 kr45 => ?_)))))
 refine wpS.tk 0 true (some 52) (.agg (enc .u8 r19).toArray) (yld_loadW (e := 42) (n := 16) hs 3 rfl (by kernel_rfl) (by kernel_rfl) (by kernel_rfl) (by exact enc_len _ _) .grow) ?_
 refine wpS.only 1 (op_storeW (t := 42) (v := .agg (enc .u8 r19).toArray) (d := none) (by kernel_rfl) hs 4 rfl (vs := enc .u8 r19) (n := 16) (by kernel_rfl) (by kernel_rfl) (by kernel_rfl) (by simp [enc_len]) (by simp [enc_len]) (by intro u hu; exact enc_one _ _ u hu) ?_)
 intro w kp hs
 refine ⟨fun _ => trivial, ?_⟩
 refine wpS.fin rfl (kr45 _ _ (then_n (ks44 _ _ (xret ?_))))
 have q0 := of_some h
 subst q0
 exact qq _ _ (post_ret (by kernel_rfl) (run_results [.cell 4 42] [.agg (enc .u8 r19).toArray] (by kernel_rfl) (.cons (res_cellN (n := 16) hs 4 rfl (by kernel_rfl) (by kernel_rfl) (by kernel_rfl) (by exact enc_len _ _)) .nil)) ⟨rfl, (hs.drop (.cons_cons _ (.cons_cons _ (.cons_cons _ (.cons _ (.cons _ (.refl _)))))))⟩)

theorem aes_Back.ok {K : Nat} {a0 : List Int} {a1 : List Int} {r0 : List Int} {r1 : Int} {a0_A : Option Addr} {a0_n : Nat} {a0_c : Nat} {a1_A : Option Addr} {a1_n : Nat} {a1_c : Nat} (h : aes_Back.f K a0 a1 = some (r0, r1)) (w0 : World) (hp0 : RowL (CI .u8) w0 a0_A a0_n a0_c a0) (hp1 : RowL (CI .u8) w0 a1_A a1_n a1_c a1) : Calls Try.prog 20 #[.slice a0_A a0_n a0_c, .slice a1_A a1_n a1_c] w0 fun e w' => ∃ h : (Option Addr × Nat × Nat), e = .returned (.tuple #[.slice h.1 h.2.1 h.2.2, .int .i64 r1]) ∧ St w0 [] [.rowL (CI .u8) h.1 h.2.1 h.2.2 r0] [] w' := by
 refine calls_k Try.func20 rfl fun Q qq => ?_
 have hs := St.startR (all_cons (RowP.ent hp0) (all_cons (RowP.ent hp1) all_nil))
 refine wp_conv (a' := ⟨#[.slice a0_A a0_n a0_c, .slice a1_A a1_n a1_c, undef, undef, undef, undef, undef, undef, undef, undef, undef, undef, undef, undef, undef, undef, undef, undef, undef, undef, undef], []⟩) (by kernel_rfl) ?_
 refine xseq_k fun KS1 ks1 => ?_
 refine xregS [0, 1] fun KR2 kr2 => ?_
 refine wpS.qs [(0, 4, .slice none 0 0), (1, 5, .int .i64 0)] ?_
 refine wpS.fin rfl (kr2 _ _ (then_n (ks1 _ _ (xseq_k fun KS3 ks3 => (xseq_k fun KS4 ks4 => (xregS [0, 1, 2, 3] fun KR5 kr5 => ?_))))))
 refine wpS.qs [(0, 8, .slice a0_A a0_n a0_c), (1, 9, .slice a1_A a1_n a1_c)] ?_
 obtain ⟨r1, hg, h⟩ := of_bind h
 refine wpS.only 2 (op_call (d := (some 10)) (by kernel_rfl) hs (fun _ => by kernel_rfl) (aes_wrong.ok hg _ (hs.rowR 0 rfl) (hs.rowR 1 rfl)) ?_)
 intro w gw hs
 refine ⟨fun _ => trivial, ?_⟩
 refine wpS.q 3 6 (.int .i64 r1) ?_
 refine wpS.fin rfl (kr5 _ _ (then_n (ks4 _ _ (xseq_k fun KS6 ks6 => (xregS [0, 1] fun KR7 kr7 => ?_)))))
 refine wpS.q 0 11 (.int .i64 r1) ?_
 rcases of_if h with ⟨hc, h⟩ | ⟨hc, h⟩
 ·refine wpS.tk 1 false (some 12) (.bool false) (yld_b (nf hc) (fun _ => by kernel_rfl)) ?_
  refine wpS.fin rfl (kr7 _ _ (then_n (ks6 _ _ (wp_cond_f (by kernel_rfl) (xskip (then_n (ks3 _ _ (xseq_k fun KS8 ks8 => ?_))))))))
  obtain ⟨y3, hj, h⟩ := of_bind h
  refine wp_join (N := fun a w => ∃ (b2 : Nat), St w0 [] [.blk b2 (enc .u8 y3) 42] [.rowL (CI .u8) a0_A a0_n a0_c a0, .rowL (CI .u8) a1_A a1_n a1_c a1] w ∧ ∃ g9 : Nat → Value, a = ⟨#[.slice a0_A a0_n a0_c, .slice a1_A a1_n a1_c, undef, undef, .slice none 0 0, .int .i64 0, .int .i64 r1, .pointer (some ⟨b2, 0, none⟩), .slice a0_A a0_n a0_c, .slice a1_A a1_n a1_c, .int .i64 r1, .int .i64 r1, .bool false, undef, (g9 14), (g9 15), (g9 16), (g9 17), (g9 18), (g9 19), undef], []⟩) (fun N nj => ?_) ?_
  ·clear h
   have h := hj
   refine wp_regG [1, 5, 7] (fun k => ¬ k < w0.heap.size) 8 (by kernel_rfl) (by kernel_rfl) (by kernel_rfl) fun KR10 kr10 => ?_
   have hs := hs.drawn1
   refine wpG.q 0 14 (.slice a0_A a0_n a0_c) ?_
   refine wpG.q 2 16 (.slice a1_A a1_n a1_c) ?_
   obtain ⟨i0_11, h⟩ := of_chk h
   refine wpG.tD 3 false (some 17) (.pointer a1_A) (yld_toArr (t := 42) (e := 5) (n := 16) (len := a1_n) (c := a1_c) (by kernel_rfl) (by kernel_rfl) (by rw [RowL.length (C := (CI .u8)) (hs.rowR 1 rfl)]; exact i0_11)) ?_
   refine wpG.takeK [4, 5, 7] 4 (some 18) (.agg (enc .u8 (arrL 16 a1)).toArray) (by kernel_rfl) (by kernel_rfl) (yld_w0 hp1 hs (fun k hk hn => hn hk) fun hr => yld_loadArr (e := 42) (n := 16) (by decide) hr i0_11 (by kernel_rfl) (by kernel_rfl) (by kernel_rfl)) ?_
   refine wpG.many [1, 6] (by kernel_rfl) (by decide) (forall_cons ?_ (forall_cons ?_ forall_nil))
   ·obtain ⟨⟨r4, r5, r6⟩, hg, h⟩ := of_bind h
    have hsB12 := hs
    refine (wpOp_call (d := (some 15)) (by kernel_rfl) (fun _ => by kernel_rfl) (aes_began_s.ok hg hs) ?_)
    rintro e w ⟨b7, b8, y9_A, y9_n, y9_c, rfl, hs⟩
    refine ⟨_, rfl, ?_⟩
    refine ⟨⟨fun hf => absurd hf (by decide), (keepW hsB12 hs)⟩, ?_⟩
    refine wpG.many [5, 6] (by kernel_rfl) (by decide) (forall_cons ?_ (forall_cons ?_ forall_nil))
    ·have hs := hs.front 0 rfl
     have hs := hs.front 1 rfl
     have hs := hs.front 2 rfl
     try dsimp only [List.eraseIdx] at hs
     obtain ⟨r12, hg, h⟩ := of_bind h
     have hsB13 := hs
     refine (wpOp_call (d := (some 19)) (by kernel_rfl) (fun _ => by kernel_rfl) (aes_cipher_undo_s.ok hg hs) ?_)
     rintro e w ⟨rfl, hs⟩
     refine ⟨_, rfl, ?_⟩
     refine ⟨⟨fun hf => absurd hf (by decide), (keepW hsB13 hs)⟩, ?_⟩
     refine wpG.only 6 (by kernel_rfl) (op_alloc (t := 42) (d := (some 7)) (by kernel_rfl) hs (enc .u8 (zeroA 16)) (.agg (enc .u8 (zeroA 16)).toArray) (by kernel_rfl) (by kernel_rfl) (by kernel_rfl) ?_)
     intro b13 w gw hs
     refine ⟨.of gw, ?_⟩
     have hsB14 := hs
     refine wpG.only 7 (by kernel_rfl) (op_storeW (t := 42) (v := .agg (enc .u8 r12).toArray) (d := none) (by kernel_rfl) hs 0 rfl (vs := enc .u8 r12) (n := 16) (by kernel_rfl) (by kernel_rfl) (by kernel_rfl) (by simp [enc_len]) (by simp [enc_len]) (by intro u hu; exact enc_one _ _ u hu) ?_)
     intro w kp hs
     refine ⟨⟨fun hf => absurd hf (by decide), (keepW hsB14 hs)⟩, ?_⟩
     refine wpG.fin (by kernel_rfl) rfl (kr10 _ _ ?_)
     have q0 := of_some h
     subst q0
     exact nj _ _ ⟨b13, (hs.drop (.cons_cons _ (.cons _ (.cons _ (.cons _ .slnil))))), exg (by kernel_rfl)⟩
    refine (op_alloc (t := 42) (d := (some 7)) (by kernel_rfl) hs (enc .u8 (zeroA 16)) (.agg (enc .u8 (zeroA 16)).toArray) (by kernel_rfl) (by kernel_rfl) (by kernel_rfl) ?_)
    intro b14 w gw hs
    refine ⟨.of gw, ?_⟩
    have hs := hs.front 1 rfl
    have hs := hs.front 2 rfl
    have hs := hs.front 3 rfl
    try dsimp only [List.eraseIdx] at hs
    obtain ⟨r15, hg, h⟩ := of_bind h
    have hsB15 := hs
    refine wpG.only 5 (by kernel_rfl) (wpOp_call (d := (some 19)) (by kernel_rfl) (fun _ => by kernel_rfl) (aes_cipher_undo_s.ok hg hs) ?_)
    rintro e w ⟨rfl, hs⟩
    refine ⟨_, rfl, ?_⟩
    refine ⟨⟨fun hf => absurd hf (by decide), (keepW hsB15 hs)⟩, ?_⟩
    have hsB16 := hs
    refine wpG.only 7 (by kernel_rfl) (op_storeW (t := 42) (v := .agg (enc .u8 r15).toArray) (d := none) (by kernel_rfl) hs 3 rfl (vs := enc .u8 r15) (n := 16) (by kernel_rfl) (by kernel_rfl) (by kernel_rfl) (by simp [enc_len]) (by simp [enc_len]) (by intro u hu; exact enc_one _ _ u hu) ?_)
    intro w kp hs
    refine ⟨⟨fun hf => absurd hf (by decide), (keepW hsB16 hs)⟩, ?_⟩
    refine wpG.fin (by kernel_rfl) rfl (kr10 _ _ ?_)
    have q0 := of_some h
    subst q0
    exact nj _ _ ⟨b14, (hs.drop (.cons _ (.cons _ (.cons _ (.cons_cons _ .slnil))))), exg (by kernel_rfl)⟩
   refine (op_alloc (t := 42) (d := (some 7)) (by kernel_rfl) hs (enc .u8 (zeroA 16)) (.agg (enc .u8 (zeroA 16)).toArray) (by kernel_rfl) (by kernel_rfl) (by kernel_rfl) ?_)
   intro b16 w gw hs
   refine ⟨.of gw, ?_⟩
   obtain ⟨⟨r17, r18, r19⟩, hg, h⟩ := of_bind h
   have hsB17 := hs
   refine wpG.only 1 (by kernel_rfl) (wpOp_call (d := (some 15)) (by kernel_rfl) (fun _ => by kernel_rfl) (aes_began_s.ok hg hs) ?_)
   rintro e w ⟨b20, b21, y22_A, y22_n, y22_c, rfl, hs⟩
   refine ⟨_, rfl, ?_⟩
   refine ⟨⟨fun hf => absurd hf (by decide), (keepW hsB17 hs)⟩, ?_⟩
   have hs := hs.front 0 rfl
   have hs := hs.front 1 rfl
   have hs := hs.front 2 rfl
   try dsimp only [List.eraseIdx] at hs
   obtain ⟨r25, hg, h⟩ := of_bind h
   have hsB18 := hs
   refine wpG.only 5 (by kernel_rfl) (wpOp_call (d := (some 19)) (by kernel_rfl) (fun _ => by kernel_rfl) (aes_cipher_undo_s.ok hg hs) ?_)
   rintro e w ⟨rfl, hs⟩
   refine ⟨_, rfl, ?_⟩
   refine ⟨⟨fun hf => absurd hf (by decide), (keepW hsB18 hs)⟩, ?_⟩
   have hsB19 := hs
   refine wpG.only 7 (by kernel_rfl) (op_storeW (t := 42) (v := .agg (enc .u8 r25).toArray) (d := none) (by kernel_rfl) hs 3 rfl (vs := enc .u8 r25) (n := 16) (by kernel_rfl) (by kernel_rfl) (by kernel_rfl) (by simp [enc_len]) (by simp [enc_len]) (by intro u hu; exact enc_one _ _ u hu) ?_)
   intro w kp hs
   refine ⟨⟨fun hf => absurd hf (by decide), (keepW hsB19 hs)⟩, ?_⟩
   refine wpG.fin (by kernel_rfl) rfl (kr10 _ _ ?_)
   have q0 := of_some h
   subst q0
   exact nj _ _ ⟨b16, (hs.drop (.cons _ (.cons _ (.cons _ (.cons_cons _ .slnil))))), exg (by kernel_rfl)⟩
  clear hj hs
  rintro a w ⟨b2, hs, g9, rfl⟩
  refine then_n (ks8 _ _ (xseq_k fun KS20 ks20 => (xregS [0, 1, 2] fun KR21 kr21 => ?_)))
  refine wpS.tk 0 false (some 20) (.slice (some ⟨b2, 0 + (0 : Int).toNat * 1, none⟩) ((16 : Int).toNat - (0 : Int).toNat) (16 - (0 : Int).toNat)) (yld_slA2 (t := 42) (e := 5) (n := 16) (low := Option.none) (high := Option.none) (lo := 0) (hi := 16) (by kernel_rfl) (by kernel_rfl) (by kernel_rfl) (.inl ⟨rfl, rfl⟩) (.inl ⟨rfl, rfl⟩) (by decide) (by decide) (by decide) (by decide)) ?_
  refine wpS.qs [(1, 4, .slice (some ⟨b2, 0 + (0 : Int).toNat * 1, none⟩) ((16 : Int).toNat - (0 : Int).toNat) (16 - (0 : Int).toNat)), (2, 5, .int .i64 0)] ?_
  refine wpS.fin rfl (kr21 _ _ (then_n (ks20 _ _ (xret ?_))))
  obtain ⟨q0, qr0⟩ := Prod.mk.inj (of_some h)
  have q1 := qr0
  subst q0
  subst q1
  have hs := hs.blkRow (lo := 0) (hi := 16) 0 rfl (by decide) (by decide) (by decide)
  exact qq _ _ (post_ret (by kernel_rfl) (run_results [.tmp 4, .tmp 5] [.slice (some ⟨b2, 0 + (0 : Int).toNat * 1, none⟩) ((16 : Int).toNat - (0 : Int).toNat) (16 - (0 : Int).toNat), .int .i64 0] (by kernel_rfl) (.cons (res_tmp (by kernel_rfl)) (.cons (res_tmp (by kernel_rfl)) .nil))) ⟨⟨(some ⟨b2, 0 + (0 : Int).toNat * 1, none⟩), ((16 : Int).toNat - (0 : Int).toNat), (16 - (0 : Int).toNat)⟩, congrArg Ending.returned (by kernel_rfl), (hs.pickR pick_nil)⟩)
 refine wpS.tk 1 false (some 12) (.bool true) (yld_b (nt hc) (fun _ => by kernel_rfl)) ?_
 refine wpS.fin rfl (kr7 _ _ (then_n (ks6 _ _ (wp_cond_t (by kernel_rfl) (xseq_k fun KS23 ks23 => (xregS [0, 1, 2] fun KR24 kr24 => ?_))))))
 refine wpS.qs [(0, 13, .int .i64 r1), (1, 4, .slice none 0 0), (2, 5, .int .i64 r1)] ?_
 refine wpS.fin rfl (kr24 _ _ (then_n (ks23 _ _ (xret (then_r ?_)))))
 obtain ⟨q0, qr0⟩ := Prod.mk.inj (of_some h)
 have q1 := qr0
 subst q0
 subst q1
 have hs := hs.addNilR (CI .u8)
 exact qq _ _ (post_ret (by kernel_rfl) (run_results [.tmp 4, .tmp 5] [.slice none 0 0, .int .i64 r1] (by kernel_rfl) (.cons (res_tmp (by kernel_rfl)) (.cons (res_tmp (by kernel_rfl)) .nil))) ⟨⟨none, 0, 0⟩, congrArg Ending.returned (by kernel_rfl), (hs.pickR pick_nil)⟩)

theorem wrap_shelf_undo_s.ok {K : Nat} {ca0 : Int} {ca1 : List (List Int)} {ca2 : List Int} {ca3 : Int} {y1_0 : Int} {y2 : List (List Int)} {cb0 : Nat} {ca1_A : Option Addr} {ca1_n : Nat} {ca1_c : Nat} {ca1_H : List HS} {ca2_A : Option Addr} {ca2_n : Nat} {ca2_c : Nat} (h : wrap_shelf_undo_s.f K ca0 ca1 ca2 ca3 = some (y1_0, y2)) {w0 w : World} {X : List Nat} {Lt Rt : List Ent} (hs : St w0 X (.blk cb0 ([.int .u64 ca0, .slice ca1_A ca1_n ca1_c]) 72 :: .ownL CS ca1_A ca1_n ca1_c ca1_H 26 :: Lt) (.inn (CI .u8) ca1_H ca1 :: .rowL (CI .u8) ca2_A ca2_n ca2_c ca2 :: Rt) w) : Calls Try.prog 64 #[.pointer (some ⟨cb0, 0, none⟩), .slice ca2_A ca2_n ca2_c, .int .i64 ca3] w fun e w' => ∃ (y2_H : List HS), e = .returned (.tuple #[]) ∧ St w0 X (.blk cb0 ([.int .u64 y1_0, .slice ca1_A ca1_n ca1_c]) 72 :: .ownL CS ca1_A ca1_n ca1_c y2_H 26 :: Lt) (.inn (CI .u8) y2_H y2 :: .rowL (CI .u8) ca2_A ca2_n ca2_c ca2 :: Rt) w' := by
 refine calls_kn Try.func64 rfl fun Q qq qn => ?_
 refine wp_conv (a' := ⟨#[.pointer (some ⟨cb0, 0, none⟩), .slice ca2_A ca2_n ca2_c, .int .i64 ca3, undef, undef, undef, undef, undef, undef, undef, undef, undef, undef, undef, undef, undef, undef, undef, undef, undef, undef, undef, undef, undef, undef, undef, undef, undef, undef, undef, undef, undef, undef, undef, undef, undef, undef, undef, undef, undef], []⟩) (by kernel_rfl) ?_
 refine xseq_k fun KS1 ks1 => ?_
 refine xregS [0, 1, 2, 3] fun KR2 kr2 => ?_
 refine wpS.qs [(0, 9, .pointer (some ⟨cb0, 0, none⟩)), (1, 10, .int .i64 ca3)] ?_
 refine wpS.only 2 (op_inline (d := (some 11)) (f := 95) (args := #[.pointer (some ⟨cb0, 0, none⟩), .int .i64 ca3]) (by kernel_rfl) (fun _ => by kernel_rfl) fun R3 kI3 => ?_)
 refine calls_k Try.func95 rfl fun Q3 qq3 => ?_
 refine wp_conv (a' := ⟨#[.pointer (some ⟨cb0, 0, none⟩), .int .i64 ca3, undef, undef, undef, undef, undef, undef, undef, undef, undef, undef, undef, undef, undef, undef, undef, undef], []⟩) (by kernel_rfl) ?_
 refine xseq_k fun KS4 ks4 => ?_
 refine xregS [0] fun KR5 kr5 => ?_
 refine wpS.q 0 4 (.pointer none) ?_
 refine wpS.fin rfl (kr5 _ _ (then_n (ks4 _ _ (xseq_k fun KS6 ks6 => ?_))))
 refine wp_regG [] (fun k => True) 14 (by kernel_rfl) (by kernel_rfl) (by kernel_rfl) fun KR7 kr7 => ?_
 have hs := hs.drawn1
 refine wpG.q 0 5 (.pointer (some ⟨cb0, 0, none⟩)) ?_
 refine wpG.q 1 6 (.pointer (some ⟨cb0, 0, none⟩)) ?_
 refine wpG.q 2 7 (.pointer (some ⟨cb0, 1, none⟩)) ?_
 refine wpG.tD 3 true (some 8) (.slice ca1_A ca1_n ca1_c) (yld_load1 (e := 44) (o := 1) hs 0 rfl (by kernel_rfl) (by kernel_rfl) (by rfl) .grow) ?_
 refine wpG.q 4 9 (.int .i64 ca3) ?_
 refine wpG.q 5 10 (.int .i64 (isub .i64 ca3 1)) ?_
 refine wpG.q 6 11 (.pointer (some ⟨cb0, 0, none⟩)) ?_
 refine wpG.q 7 12 (.pointer (some ⟨cb0, 0, none⟩)) ?_
 refine wpG.q 8 13 (.pointer (some ⟨cb0, 1, none⟩)) ?_
 refine wpG.tD 9 true (some 14) (.slice ca1_A ca1_n ca1_c) (yld_load1 (e := 44) (o := 1) hs 0 rfl (by kernel_rfl) (by kernel_rfl) (by rfl) .grow) ?_
 refine wpG.tD 10 false (some 15) (.int .i64 (ca1.length : Int)) (yld_lenLL (LLP.mk (hs.rowL 1 rfl) (hs.innR 0 rfl)) (fun _ => by kernel_rfl)) ?_
 obtain ⟨h0, h⟩ := of_chk h
 refine wpG.tD 11 false (some 16) (.int .i64 (irem .i64 (isub .i64 ca3 1) (ca1.length : Int))) (yld_rem (t := 3) (by kernel_rfl) h0) ?_
 obtain ⟨x3, hx, h⟩ := of_bind h
 have hx := of_some hx
 subst hx
 obtain ⟨h0, h⟩ := of_chk h
 obtain ⟨h1, h⟩ := of_chk h
 have i0_8 := h0
 have i1_8 := h1
 refine wpG.tD 12 false (some 17) (.pointer (adr ca1_A (((irem .i64 (isub .i64 ca3 1) (ca1.length : Int)) : Int).toNat * Cod.size (CI .u8)))) (yld_idxLL (C := (CI .u8)) (t := 44) (e := 26) (k := .i64) (x := (irem .i64 (isub .i64 ca3 1) (ca1.length : Int))) (LLP.mk (hs.rowL 1 rfl) (hs.innR 0 rfl)) (by kernel_rfl) (by kernel_rfl) (by kernel_rfl) h0 h1) ?_
 refine wpG.q 13 4 (.pointer (adr ca1_A (((irem .i64 (isub .i64 ca3 1) (ca1.length : Int)) : Int).toNat * Cod.size (CI .u8)))) ?_
 refine wpG.fin (by kernel_rfl) rfl (kr7 _ _ ?_)
 refine then_n (ks6 _ _ (xret ?_))
 refine qq3 _ _ (post_ret (by kernel_rfl) (run_results [.tmp 4] [.pointer (adr ca1_A (((irem .i64 (isub .i64 ca3 1) (ca1.length : Int)) : Int).toNat * Cod.size (CI .u8)))] (by kernel_rfl) (.cons (res_tmp (by kernel_rfl)) .nil)) ?_)
 refine kI3 _ _ ?_
 refine ⟨fun _ => trivial, ?_⟩
 refine wpS.q 3 6 (.pointer (adr ca1_A (((irem .i64 (isub .i64 ca3 1) (ca1.length : Int)) : Int).toNat * Cod.size (CI .u8)))) ?_
 refine wpS.fin rfl (kr2 _ _ (then_n (ks1 _ _ (xseq_k fun KS9 ks9 => ?_))))
 refine wp_regG [] (fun k => True) 20 (by kernel_rfl) (by kernel_rfl) (by kernel_rfl) fun KR10 kr10 => ?_
 have hs := hs.drawn1
 refine wpG.q 0 13 (.slice ca2_A ca2_n ca2_c) ?_
 refine wpG.q 1 14 (.pointer (some ⟨cb0, 0, none⟩)) ?_
 refine wpG.q 2 15 (.pointer (some ⟨cb0, 0, none⟩)) ?_
 refine wpG.q 3 16 (.pointer (some ⟨cb0, 0, none⟩)) ?_
 refine wpG.tD 4 true (some 17) (.int .u64 ca0) (yld_load1 (e := 64) (o := 0) hs 0 rfl (by kernel_rfl) (by kernel_rfl) (by rfl) .grow) ?_
 refine wpG.q 5 18 (.int .i64 ca3) ?_
 refine wpG.q 6 19 (.int .u64 (iconv .u64 ca3)) ?_
 refine wpG.q 7 20 (.int .u64 (ixor .u64 ca0 (iconv .u64 ca3))) ?_
 refine wpG.q 9 22 (.pointer (adr ca1_A (((irem .i64 (isub .i64 ca3 1) (ca1.length : Int)) : Int).toNat * Cod.size (CI .u8)))) ?_
 refine wpG.tD 10 false (some 23) (.pointer (adr ca1_A (((irem .i64 (isub .i64 ca3 1) (ca1.length : Int)) : Int).toNat * Cod.size (CI .u8)))) (yld_nilP (LLP.ne (LLP.mk (hs.rowL 1 rfl) (hs.innR 0 rfl)) i0_8 i1_8) (fun ad e w' => by subst e; kernel_rfl)) ?_
 obtain ⟨s4_A, hA⟩ : ∃ A, A = (rdL CS ca1_H (irem .i64 (isub .i64 ca3 1) (ca1.length : Int))).1 := ⟨_, rfl⟩
 obtain ⟨s4_n, hn⟩ : ∃ n, n = (rdL CS ca1_H (irem .i64 (isub .i64 ca3 1) (ca1.length : Int))).2.1 := ⟨_, rfl⟩
 obtain ⟨s4_c, hc⟩ : ∃ c, c = (rdL CS ca1_H (irem .i64 (isub .i64 ca3 1) (ca1.length : Int))).2.2 := ⟨_, rfl⟩
 refine wpG.tD 11 true (some 24) (.slice s4_A s4_n s4_c) (by subst hA hn hc; exact yld_loadLL (C := (CI .u8)) (e := 26) (x := (irem .i64 (isub .i64 ca3 1) (ca1.length : Int))) (LLP.mk (hs.rowL 1 rfl) (hs.innR 0 rfl)) (by kernel_rfl) (by kernel_rfl) i0_8 i1_8) ?_
 have hs := hs.addInnI (C := (CI .u8)) 0 rfl i0_8 i1_8 hA hn hc
 obtain ⟨r5, hg, h⟩ := of_bind h
 refine wpG.only 8 (by kernel_rfl) (op_callH (d := (some 21)) (by kernel_rfl) hs (fun _ => by kernel_rfl) (bits_Be.ok hg _) ?_)
 rintro ⟨r5_A, r5_n, r5_c⟩ w gw hs
 have hs := hs.conv (L' := (.ownL (CI .u8) r5_A r5_n r5_c r5 5 :: .blk cb0 ([.int .u64 ca0, .slice ca1_A ca1_n ca1_c]) 72 :: .ownL CS ca1_A ca1_n ca1_c ca1_H 26 :: Lt)) rfl
 refine ⟨.of gw, ?_⟩
 refine wpG.only 12 (by kernel_rfl) (op_lit (C := CS) (t := 44) (e := 26) (len := 2) (parts := #[(0, .slice r5_A r5_n r5_c), (1, .slice s4_A s4_n s4_c)]) (l := ([(r5_A, r5_n, r5_c), (s4_A, s4_n, s4_c)] : List HS)) (d := (some 25)) (by kernel_rfl) hs (by kernel_rfl) (by kernel_rfl) (by kernel_rfl) (z := .slice none 0 0) (by kernel_rfl) rfl (by decide) (by decide) (by kernel_rfl) ?_)
 intro s6_A s6_n s6_c w gw hs
 refine ⟨.of gw, ?_⟩
 obtain ⟨r7, hg, h⟩ := of_bind h
 refine wpG.only 13 (by kernel_rfl) (op_callH (d := (some 26)) (by kernel_rfl) hs (fun _ => by kernel_rfl) (bits_Join.ok hg _ (LLP.mk (hs.rowL 0 rfl) (inn_cons (hs.rowL 1 rfl) (inn_cons (hs.rowR 0 rfl) inn_nil)))) ?_)
 rintro ⟨r7_A, r7_n, r7_c⟩ w gw hs
 have hs := hs.conv (L' := (.ownL (CI .u8) r7_A r7_n r7_c r7 5 :: .ownL CS s6_A s6_n s6_c ([(r5_A, r5_n, r5_c), (s4_A, s4_n, s4_c)] : List HS) 26 :: .ownL (CI .u8) r5_A r5_n r5_c r5 5 :: .blk cb0 ([.int .u64 ca0, .slice ca1_A ca1_n ca1_c]) 72 :: .ownL CS ca1_A ca1_n ca1_c ca1_H 26 :: Lt)) rfl
 refine ⟨.of gw, ?_⟩
 obtain ⟨⟨r8, r9⟩, hg, h⟩ := of_bind h
 refine wpG.only 14 (by kernel_rfl) (op_callH (d := (some 27)) (by kernel_rfl) hs (fun _ => by kernel_rfl) (aes_Back.ok hg _ (hs.rowR 2 rfl) (hs.rowL 0 rfl)) ?_)
 rintro ⟨r8_A, r8_n, r8_c⟩ w gw hs
 have hs := hs.conv (L' := (.rowL (CI .u8) r8_A r8_n r8_c r8 :: .ownL (CI .u8) r7_A r7_n r7_c r7 5 :: .ownL CS s6_A s6_n s6_c ([(r5_A, r5_n, r5_c), (s4_A, s4_n, s4_c)] : List HS) 26 :: .ownL (CI .u8) r5_A r5_n r5_c r5 5 :: .blk cb0 ([.int .u64 ca0, .slice ca1_A ca1_n ca1_c]) 72 :: .ownL CS ca1_A ca1_n ca1_c ca1_H 26 :: Lt)) rfl
 have hs := hs.toR 0 rfl
 refine ⟨.of gw, ?_⟩
 refine wpG.q 15 12 (.tuple #[.slice r8_A r8_n r8_c, .int .i64 r9]) ?_
 refine wpG.q 16 28 (.slice r8_A r8_n r8_c) ?_
 refine wpG.q 17 29 (.int .i64 r9) ?_
 refine wpG.q 18 7 (.slice r8_A r8_n r8_c) ?_
 refine wpG.q 19 8 (.int .i64 r9) ?_
 refine wpG.fin (by kernel_rfl) rfl (kr10 _ _ ?_)
 refine then_n (ks9 _ _ ?_)
 refine wp_regG [9, 11] (fun k => True) 12 (by kernel_rfl) (by kernel_rfl) (by kernel_rfl) fun KR11 kr11 => ?_
 have hs := hs.drawn1
 refine wpG.q 0 30 (.pointer (some ⟨cb0, 0, none⟩)) ?_
 refine wpG.q 1 31 (.pointer (adr ca1_A (((irem .i64 (isub .i64 ca3 1) (ca1.length : Int)) : Int).toNat * Cod.size (CI .u8)))) ?_
 refine wpG.q 2 32 (.slice r8_A r8_n r8_c) ?_
 obtain ⟨h0, h⟩ := of_chk h
 obtain ⟨h1, h⟩ := of_chk h
 obtain ⟨h2, h⟩ := of_chk h
 obtain ⟨s10_A, hA⟩ : ∃ A, A = if r8_c = (0 : Int).toNat then r8_A else adr r8_A ((0 : Int).toNat * Cod.size (CI .u8)) := ⟨_, rfl⟩
 obtain ⟨s10_n, hn⟩ : ∃ n, n = (8 : Int).toNat - (0 : Int).toNat := ⟨_, rfl⟩
 obtain ⟨s10_c, hc⟩ : ∃ c, c = r8_c - (0 : Int).toNat := ⟨_, rfl⟩
 refine wpG.tD 3 false (some 33) (.slice s10_A s10_n s10_c) (yld_sub (C := (CI .u8)) (t := 26) (e := 5) (low := none) (high := some (.int .i64 8)) (lo := 0) (hi := 8) (hs.rowR 0 rfl) (by kernel_rfl) (by kernel_rfl) (by kernel_rfl) (.inl ⟨rfl, rfl⟩) (.inr ⟨_, rfl⟩) h0 h1 h2 hA hn hc) ?_
 have hs := hs.addSub (C := (CI .u8)) 0 rfl h0 h1 h2 hA hn hc
 refine wpG.q 5 35 (.slice r8_A r8_n r8_c) ?_
 obtain ⟨h0, h⟩ := of_chk h
 obtain ⟨h1, h⟩ := of_chk h
 obtain ⟨h2, h⟩ := of_chk h
 obtain ⟨s11_A, hA⟩ : ∃ A, A = if r8_c = (8 : Int).toNat then r8_A else adr r8_A ((8 : Int).toNat * Cod.size (CI .u8)) := ⟨_, rfl⟩
 obtain ⟨s11_n, hn⟩ : ∃ n, n = ((r8.length : Int) : Int).toNat - (8 : Int).toNat := ⟨_, rfl⟩
 obtain ⟨s11_c, hc⟩ : ∃ c, c = r8_c - (8 : Int).toNat := ⟨_, rfl⟩
 refine wpG.tD 6 false (some 36) (.slice s11_A s11_n s11_c) (yld_sub (C := (CI .u8)) (t := 26) (e := 5) (low := some (.int .i64 8)) (high := none) (lo := 8) (hi := (r8.length : Int)) (hs.rowR 1 rfl) (by kernel_rfl) (by kernel_rfl) (by kernel_rfl) (.inr ⟨_, rfl⟩) (.inl ⟨rfl, rfl⟩) h0 h1 h2 hA hn hc) ?_
 have hs := hs.addSub (C := (CI .u8)) 1 rfl h0 h1 h2 hA hn hc
 obtain ⟨r12, hg, h⟩ := of_bind h
 refine wpG.only 4 (by kernel_rfl) (op_call (d := (some 34)) (by kernel_rfl) hs (fun _ => by kernel_rfl) (bits_Num.ok hg _ (hs.rowR 1 rfl)) ?_)
 intro w gw hs
 refine ⟨.of gw, ?_⟩
 refine wpG.q 7 37 (.pointer (some ⟨cb0, 0, none⟩)) ?_
 refine wpG.q 8 38 (.pointer (some ⟨cb0, 0, none⟩)) ?_
 refine wpG.only 9 (by kernel_rfl) (op_store1 (t := 64) (o := 0) (v := .int .u64 r12) (d := none) (by kernel_rfl) hs 3 rfl (by kernel_rfl) rfl (by kernel_rfl) (by simp) ?_)
 intro w kp hs
 refine ⟨⟨fun hf => absurd hf (by decide), .all _ _⟩, ?_⟩
 refine wpG.tD 10 false (some 39) (.pointer (adr ca1_A (((irem .i64 (isub .i64 ca3 1) (ca1.length : Int)) : Int).toNat * Cod.size (CI .u8)))) (yld_nilP (LLP.ne (LLP.mk (hs.rowL 4 rfl) (hs.innR 4 rfl)) i0_8 i1_8) (fun ad e w' => by subst e; kernel_rfl)) ?_
 refine wpG.only 11 (by kernel_rfl) (op_storeL (C := CS) (t := 26) (x := (irem .i64 (isub .i64 ca3 1) (ca1.length : Int))) (v := ((s11_A, s11_n, s11_c) : HS)) (d := none) (by kernel_rfl) hs 4 rfl (by kernel_rfl) (by kernel_rfl) i0_8 (by rw [(hs.innR 4 rfl).length]; exact i1_8) ?_)
 intro w hs
 have hs := hs.innSet (x := (irem .i64 (isub .i64 ca3 1) (ca1.length : Int))) 4 0 rfl rfl
 refine ⟨⟨fun hf => absurd hf (by decide), .all _ _⟩, ?_⟩
 refine wpG.fin (by kernel_rfl) rfl (kr11 _ _ ?_)
 obtain ⟨q0, qr0⟩ := Prod.mk.inj (of_some h)
 have q1 := qr0
 subst q0
 subst q1
 exact qn _ _ (post_nrm (by kernel_rfl) (run_results [] [] (by kernel_rfl) .nil) ⟨(wrL ca1_H (irem .i64 (isub .i64 ca3 1) (ca1.length : Int)) ((s11_A, s11_n, s11_c) : HS)), rfl, ((hs.drop (.cons _ (.cons _ (.cons _ (.cons_cons _ (.cons_cons _ (.refl _))))))).pickR (pick_cons 4 rfl (pick_cons 5 rfl (fun _ he => .tail _ (.tail _ (.tail _ (.tail _ (.tail _ (.tail _ (he))))))))))⟩)
end Go.Proofs.Ytmpagpbnpgcecaa
