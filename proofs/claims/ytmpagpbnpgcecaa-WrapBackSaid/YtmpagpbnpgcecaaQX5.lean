/- Printed by this work's own program: the code of each function below comes to the answer that its plain form tells. -/
import Derived.Test.YtmpagpbnpgcecaaMa
import Derived.Test.YtmpagpbnpgcecaaProg
import Derived.Test.YtmpagpbnpgcecaaQF0
import Derived.Test.YtmpagpbnpgcecaaQX0
import Derived.Test.YtmpagpbnpgcecaaQX1
import Derived.Test.YtmpagpbnpgcecaaQX2
import Derived.Test.YtmpagpbnpgcecaaQX3
import Derived.Test.YtmpagpbnpgcecaaQX4
set_option linter.unusedVariables false
set_option linter.unusedSimpArgs false
set_option maxRecDepth 100000
set_option maxHeartbeats 4000000
namespace Go.Proofs.Ytmpagpbnpgcecaa
open Go.Mx
attribute [local irreducible] wpOp

theorem wrap_Unwrap.ok {K : Nat} {a0 : List Int} {a1 : List Int} {r0 : List Int} {r1 : Int} {a0_A : Option Addr} {a0_n : Nat} {a0_c : Nat} {a1_A : Option Addr} {a1_n : Nat} {a1_c : Nat} (h : wrap_Unwrap.f K a0 a1 = some (r0, r1)) (w0 : World) (hp0 : RowL (CI .u8) w0 a0_A a0_n a0_c a0) (hp1 : RowL (CI .u8) w0 a1_A a1_n a1_c a1) : Calls Try.prog 26 #[.slice a0_A a0_n a0_c, .slice a1_A a1_n a1_c] w0 fun e w' => ∃ h : (Option Addr × Nat × Nat), e = .returned (.tuple #[.slice h.1 h.2.1 h.2.2, .int .i64 r1]) ∧ St w0 [] [.ownL (CI .u8) h.1 h.2.1 h.2.2 r0 5] [] w' := by
 refine calls_m Try.func26 rfl fun Q qq qn => ?_
 have hs := St.startR (all_cons (RowP.ent hp0) (all_cons (RowP.ent hp1) all_nil))
 refine wp_conv (a' := ⟨#[.slice a0_A a0_n a0_c, .slice a1_A a1_n a1_c, undef, undef, undef, undef, undef, undef, undef, undef, undef, undef, undef, undef, undef, undef, undef, undef, undef, undef, undef, undef, undef, undef, undef, undef, undef, undef, undef, undef, undef, undef, undef, undef, undef, undef, undef, undef], []⟩) (by kernel_rfl) ?_
 refine xseq_k fun KS1 ks1 => ?_
 refine xregS [0, 1, 2] fun KR2 kr2 => ?_
 refine wpS.only 0 (op_box (t := 26) (v := .slice a0_A a0_n a0_c) (d := (some 2)) (by kernel_rfl) hs ([.slice a0_A a0_n a0_c]) (by kernel_rfl) (by kernel_rfl) ?_)
 intro b1 w gw hs
 refine ⟨fun _ => trivial, ?_⟩
 refine wpS.qs [(1, 4, .slice none 0 0), (2, 5, .int .i64 0)] ?_
 refine wpS.fin rfl (kr2 _ _ (then_n (ks1 _ _ (xseq_k fun KS3 ks3 => (xseq_k fun KS4 ks4 => (xregS [0, 1, 2, 3] fun KR5 kr5 => ?_))))))
 refine wpS.tk 0 true (some 9) (.slice a0_A a0_n a0_c) (yld_load1 (e := 26) (o := 0) hs 0 rfl (by kernel_rfl) (by kernel_rfl) (by rfl) .grow) ?_
 refine wpS.q 1 10 (.slice a1_A a1_n a1_c) ?_
 obtain ⟨r2, hg, h⟩ := of_bind h
 refine wpS.only 2 (op_call (d := (some 11)) (by kernel_rfl) hs (fun _ => by kernel_rfl) (wrap_wrong.ok hg _ (hs.rowR 0 rfl) (hs.rowR 1 rfl)) ?_)
 intro w gw hs
 refine ⟨fun _ => trivial, ?_⟩
 refine wpS.q 3 6 (.int .i64 r2) ?_
 refine wpS.fin rfl (kr5 _ _ (then_n (ks4 _ _ (xseq_k fun KS6 ks6 => (xregS [0, 1] fun KR7 kr7 => ?_)))))
 refine wpS.q 0 12 (.int .i64 r2) ?_
 rcases of_if h with ⟨hc, h⟩ | ⟨hc, h⟩
 ·refine wpS.tk 1 false (some 13) (.bool false) (yld_b (nf hc) (fun _ => by kernel_rfl)) ?_
  refine wpS.fin rfl (kr7 _ _ (then_n (ks6 _ _ (wp_cond_f (by kernel_rfl) (xskip (then_n (ks3 _ _ (xseq_k fun KS8 ks8 => ?_))))))))
  obtain ⟨⟨y6_0, y7⟩, hj, h⟩ := of_bind h
  refine wp_join (N := fun a w => ∃ (b3 : Nat) (b5 : Nat) (y7_A : Option Addr) (y7_n : Nat) (y7_c : Nat) (y7_H : List HS), St w0 [] [.ownL CS y7_A y7_n y7_c y7_H 26, .blk b5 ([.int .u64 y6_0, .slice y7_A y7_n y7_c]) 72, .blk b3 ([.pointer (some ⟨b5, 0, none⟩)]) 62, .blk b1 ([.slice a0_A a0_n a0_c]) 26] [.inn (CI .u8) y7_H y7, .rowL (CI .u8) a0_A a0_n a0_c a0, .rowL (CI .u8) a1_A a1_n a1_c a1] w ∧ ∃ g9 : Nat → Value, a = ⟨#[.slice a0_A a0_n a0_c, .slice a1_A a1_n a1_c, .pointer (some ⟨b1, 0, none⟩), undef, .slice none 0 0, .int .i64 0, .int .i64 r2, .pointer (some ⟨b3, 0, none⟩), undef, .slice a0_A a0_n a0_c, .slice a1_A a1_n a1_c, .int .i64 r2, .int .i64 r2, .bool false, undef, (g9 15), (g9 16), (g9 17), (g9 18), (g9 19), (g9 20), undef, undef, undef, undef, undef, undef, undef, undef, undef, undef, undef, undef, undef, undef, undef, undef, undef], []⟩) (fun N nj => ?_) ?_
  ·clear h
   have h := hj
   refine wp_regG [5, 7] (fun k => True) 8 (by kernel_rfl) (by kernel_rfl) (by kernel_rfl) fun KR10 kr10 => ?_
   have hs := hs.drawn1
   refine wpG.q 0 15 (.slice a1_A a1_n a1_c) ?_
   obtain ⟨h0, h⟩ := of_chk h
   obtain ⟨h1, h⟩ := of_chk h
   obtain ⟨h2, h⟩ := of_chk h
   obtain ⟨s8_A, hA⟩ : ∃ A, A = if a1_c = (0 : Int).toNat then a1_A else adr a1_A ((0 : Int).toNat * Cod.size (CI .u8)) := ⟨_, rfl⟩
   obtain ⟨s8_n, hn⟩ : ∃ n, n = (8 : Int).toNat - (0 : Int).toNat := ⟨_, rfl⟩
   obtain ⟨s8_c, hc⟩ : ∃ c, c = a1_c - (0 : Int).toNat := ⟨_, rfl⟩
   refine wpG.tD 1 false (some 16) (.slice s8_A s8_n s8_c) (yld_sub (C := (CI .u8)) (t := 26) (e := 5) (low := none) (high := some (.int .i64 8)) (lo := 0) (hi := 8) (hs.rowR 1 rfl) (by kernel_rfl) (by kernel_rfl) (by kernel_rfl) (.inl ⟨rfl, rfl⟩) (.inr ⟨_, rfl⟩) h0 h1 h2 hA hn hc) ?_
   have hs := hs.addSub (C := (CI .u8)) 1 rfl h0 h1 h2 hA hn hc
   refine wpG.q 3 18 (.slice a1_A a1_n a1_c) ?_
   obtain ⟨h0, h⟩ := of_chk h
   obtain ⟨h1, h⟩ := of_chk h
   obtain ⟨h2, h⟩ := of_chk h
   obtain ⟨s9_A, hA⟩ : ∃ A, A = if a1_c = (8 : Int).toNat then a1_A else adr a1_A ((8 : Int).toNat * Cod.size (CI .u8)) := ⟨_, rfl⟩
   obtain ⟨s9_n, hn⟩ : ∃ n, n = ((a1.length : Int) : Int).toNat - (8 : Int).toNat := ⟨_, rfl⟩
   obtain ⟨s9_c, hc⟩ : ∃ c, c = a1_c - (8 : Int).toNat := ⟨_, rfl⟩
   refine wpG.tD 4 false (some 19) (.slice s9_A s9_n s9_c) (yld_sub (C := (CI .u8)) (t := 26) (e := 5) (low := some (.int .i64 8)) (high := none) (lo := 8) (hi := (a1.length : Int)) (hs.rowR 2 rfl) (by kernel_rfl) (by kernel_rfl) (by kernel_rfl) (.inr ⟨_, rfl⟩) (.inl ⟨rfl, rfl⟩) h0 h1 h2 hA hn hc) ?_
   have hs := hs.addSub (C := (CI .u8)) 2 rfl h0 h1 h2 hA hn hc
   refine wpG.many [2, 6] (by kernel_rfl) (by decide) (forall_cons ?_ (forall_cons ?_ forall_nil))
   ·obtain ⟨r10, hg, h⟩ := of_bind h
    refine (op_call (d := (some 17)) (by kernel_rfl) hs (fun _ => by kernel_rfl) (bits_Num.ok hg _ (hs.rowR 1 rfl)) ?_)
    intro w gw hs
    refine ⟨.of gw, ?_⟩
    refine wpG.many [5, 6] (by kernel_rfl) (by decide) (forall_cons ?_ (forall_cons ?_ forall_nil))
    ·refine (op_inline (d := (some 20)) (f := 56) (args := #[.int .u64 r10, .slice s9_A s9_n s9_c]) (by kernel_rfl) (fun _ => by kernel_rfl) fun R11 kI11 => ?_)
     refine calls_k Try.func56 rfl fun Q11 qq11 => ?_
     refine wp_conv (a' := ⟨#[.int .u64 r10, .slice s9_A s9_n s9_c, undef, undef, undef, undef, undef, undef, undef, undef, undef, undef], []⟩) (by kernel_rfl) ?_
     refine xseq_k fun KS12 ks12 => ?_
     refine xregS [0] fun KR13 kr13 => ?_
     refine wpS.q 0 4 (.pointer none) ?_
     refine wpS.fin rfl (kr13 _ _ (then_n (ks12 _ _ (xseq_k fun KS14 ks14 => (xregS [0, 1, 2, 3, 4, 5, 6, 7] fun KR15 kr15 => ?_)))))
     refine wpS.qs [(0, 5, .int .u64 r10), (1, 6, .slice s9_A s9_n s9_c)] ?_
     obtain ⟨r11, hg, h⟩ := of_bind h
     refine wpS.only 2 (op_callH (d := (some 7)) (by kernel_rfl) hs (fun _ => by kernel_rfl) (slices_Clone_byte_byte.ok hg _ (hs.rowR 0 rfl)) ?_)
     rintro ⟨r11_A, r11_n, r11_c⟩ w gw hs
     have hs := hs.conv (L' := [.ownL (CI .u8) r11_A r11_n r11_c r11 5, .blk b1 ([.slice a0_A a0_n a0_c]) 26]) rfl
     refine ⟨fun _ => trivial, ?_⟩
     refine wpS.only 3 (op_inline (d := (some 8)) (f := 71) (args := #[.slice r11_A r11_n r11_c, .int .i64 8]) (by kernel_rfl) (fun _ => by kernel_rfl) fun R16 kI16 => ?_)
     refine calls_k Try.func71 rfl fun Q16 qq16 => ?_
     refine wp_conv (a' := ⟨#[.slice r11_A r11_n r11_c, .int .i64 8, undef, undef, undef, undef, undef, undef, undef], []⟩) (by kernel_rfl) ?_
     refine xseq_k fun KS17 ks17 => ?_
     refine xregS [0, 1, 2] fun KR18 kr18 => ?_
     refine wpS.only 0 (op_box (t := 26) (v := .slice r11_A r11_n r11_c) (d := (some 2)) (by kernel_rfl) hs ([.slice r11_A r11_n r11_c]) (by kernel_rfl) (by kernel_rfl) ?_)
     intro b12 w gw hs
     refine ⟨fun _ => trivial, ?_⟩
     refine wpS.only 1 (op_box (t := 3) (v := .int .i64 8) (d := (some 3)) (by kernel_rfl) hs ([.int .i64 8]) (by kernel_rfl) (by kernel_rfl) ?_)
     intro b13 w gw hs
     refine ⟨fun _ => trivial, ?_⟩
     refine wpS.q 2 4 (.nilFunc) ?_
     refine wpS.fin rfl (kr18 _ _ (then_n (ks17 _ _ (xseq_k fun KS19 ks19 => (xseq_k fun KS20 ks20 => (xregS [0, 1] fun KR21 kr21 => ?_))))))
     refine wpS.tk 0 true (some 5) (.int .i64 8) (yld_load1 (e := 3) (o := 0) hs 0 rfl (by kernel_rfl) (by kernel_rfl) (by rfl) .grow) ?_
     refine wpS.q 1 6 (.bool false) ?_
     refine wpS.fin rfl (kr21 _ _ (then_n (ks20 _ _ (wp_cond_f (by kernel_rfl) (xskip (then_n (ks19 _ _ (xseq_k fun KS22 ks22 => (xregS [0, 1] fun KR23 kr23 => ?_)))))))))
     refine wpS.qs [(0, 8, .func (.func 102) #[] #[.pointer (some ⟨b12, 0, none⟩), .pointer (some ⟨b13, 0, none⟩)]), (1, 4, .func (.func 102) #[] #[.pointer (some ⟨b12, 0, none⟩), .pointer (some ⟨b13, 0, none⟩)])] ?_
     refine wpS.fin rfl (kr23 _ _ (then_n (ks22 _ _ (xret ?_))))
     refine qq16 _ _ (post_ret (by kernel_rfl) (run_results [.tmp 4] [.func (.func 102) #[] #[.pointer (some ⟨b12, 0, none⟩), .pointer (some ⟨b13, 0, none⟩)]] (by kernel_rfl) (.cons (res_tmp (by kernel_rfl)) .nil)) ?_)
     refine kI16 _ _ ?_
     refine ⟨fun _ => trivial, ?_⟩
     refine wpS.only 4 (op_inline (d := (some 9)) (f := 92) (args := #[.func (.func 102) #[] #[.pointer (some ⟨b12, 0, none⟩), .pointer (some ⟨b13, 0, none⟩)]]) (by kernel_rfl) (fun _ => by kernel_rfl) fun R24 kI24 => ?_)
     refine calls_k Try.func92 rfl fun Q24 qq24 => ?_
     refine wp_conv (a' := ⟨#[.func (.func 102) #[] #[.pointer (some ⟨b12, 0, none⟩), .pointer (some ⟨b13, 0, none⟩)], undef, undef, undef, undef], []⟩) (by kernel_rfl) ?_
     refine xseq_k fun KS25 ks25 => ?_
     refine xregS [0] fun KR26 kr26 => ?_
     refine wpS.q 0 2 (.slice none 0 0) ?_
     refine wpS.fin rfl (kr26 _ _ (then_n (ks25 _ _ (xseq_k fun KS27 ks27 => (xregS [0, 1, 2] fun KR28 kr28 => ?_)))))
     refine wpS.q 0 3 (.func (.func 102) #[] #[.pointer (some ⟨b12, 0, none⟩), .pointer (some ⟨b13, 0, none⟩)]) ?_
     refine wpS.only 1 (op_inline (d := (some 4)) (f := 110) (args := #[.slice none 0 0, .func (.func 102) #[] #[.pointer (some ⟨b12, 0, none⟩), .pointer (some ⟨b13, 0, none⟩)]]) (by kernel_rfl) (fun _ => by kernel_rfl) fun R29 kI29 => ?_)
     refine calls_m Try.func110 rfl fun Q29 qq29 qn29 => ?_
     refine wp_conv (a' := ⟨#[.slice none 0 0, .func (.func 102) #[] #[.pointer (some ⟨b12, 0, none⟩), .pointer (some ⟨b13, 0, none⟩)], undef, undef, undef, undef, undef, undef, undef, undef, undef, undef, undef], []⟩) (by kernel_rfl) ?_
     refine xseq_k fun KS30 ks30 => ?_
     refine xregS [0, 1] fun KR31 kr31 => ?_
     refine wpS.only 0 (op_box (t := 44) (v := .slice none 0 0) (d := (some 2)) (by kernel_rfl) hs ([.slice none 0 0]) (by kernel_rfl) (by kernel_rfl) ?_)
     intro b14 w gw hs
     refine ⟨fun _ => trivial, ?_⟩
     refine wpS.q 1 4 (.slice none 0 0) ?_
     refine wpS.fin rfl (kr31 _ _ (then_n (ks30 _ _ (xseq_k fun KS32 ks32 => (xseq_k fun KS33 ks33 => (xregS [0] fun KR34 kr34 => ?_))))))
     refine wpS.q 0 6 (.func (.func 102) #[] #[.pointer (some ⟨b12, 0, none⟩), .pointer (some ⟨b13, 0, none⟩)]) ?_
     refine wpS.fin rfl (kr34 _ _ (then_n (ks33 _ _ (xblock ?_))))
     refine wp_range (gf := 102) (lb := #[.pointer (some ⟨b12, 0, none⟩), .pointer (some ⟨b13, 0, none⟩)]) hs (by kernel_rfl) (fun _ _ => by kernel_rfl) fun l35 D35 rec35 w hok35 hs R35 kR35 => ?_
     refine calls_kn Try.func102 rfl fun Q35 qq35 qn35 => ?_
     refine wp_conv (a' := ⟨#[.func (.yield l35) #[] #[], .pointer (some ⟨b12, 0, none⟩), .pointer (some ⟨b13, 0, none⟩), undef, undef, undef, undef, undef, undef, undef, undef, undef, undef, undef, undef, undef, undef, undef, undef, undef, undef, undef, undef, undef, undef, undef, undef, undef, undef, undef, undef], []⟩) (by kernel_rfl) ?_
     refine xseq_k fun KS36 ks36 => ?_
     refine xregS [0] fun KR37 kr37 => ?_
     refine wpS.q 0 4 (.int .i64 0) ?_
     refine wpS.fin rfl (kr37 _ _ (then_n (ks36 _ _ ?_)))
     have hs := (hs.addNilL CS 26).addInn0 (CI .u8)
     have hs := hs.freeze 6 rfl
     obtain ⟨y18, hy, hk0⟩ := of_bind h
     refine wp_exq (N := fun a w => ∃ (y18_A : Option Addr) (y18_n : Nat) (y18_c : Nat) (y18_H : List HS), St w0 [] [.ownL CS y18_A y18_n y18_c y18_H 26, .obj l35 (.loop (rec35 .ready none)), .obj D35 (.deferred (some [])), .blk b14 ([.slice y18_A y18_n y18_c]) 44, .blk b13 ([.int .i64 8]) 3, .blk b12 ([.slice r11_A r11_n r11_c]) 26, .blk b1 ([.slice a0_A a0_n a0_c]) 26] [.rowL (CI .u8) r11_A r11_n r11_c r11, .inn (CI .u8) y18_H y18, .rowL (CI .u8) s9_A s9_n s9_c (subL a1 8 (a1.length : Int)), .rowL (CI .u8) s8_A s8_n s8_c (subL a1 0 8), .rowL (CI .u8) a0_A a0_n a0_c a0, .rowL (CI .u8) a1_A a1_n a1_c a1] w ∧ ∃ g39 : Nat → Value, a = ⟨#[.func (.yield l35) #[] #[], .pointer (some ⟨b12, 0, none⟩), .pointer (some ⟨b13, 0, none⟩), undef, (g39 4), (g39 5), (g39 6), (g39 7), (g39 8), (g39 9), (g39 10), (g39 11), (g39 12), (g39 13), (g39 14), (g39 15), (g39 16), (g39 17), (g39 18), (g39 19), (g39 20), (g39 21), (g39 22), (g39 23), (g39 24), (g39 25), (g39 26), (g39 27), (g39 28), (g39 29), (g39 30)], []⟩) (fun N0 nn0 => ?_) ?_
     ·clear hk0
      refine xblock ?_
      refine wp_loop_k (fun n a w => ∃ z15 z16, ∃ (z16_A : Option Addr) (z16_n : Nat) (z16_c : Nat) (z16_H : List HS), wrap_Unwrap.l0 K n r11 z15 z16 = some y18 ∧ St w0 [] [.ownL CS z16_A z16_n z16_c z16_H 26, .obj l35 (.loop (rec35 .ready none)), .obj D35 (.deferred (some [])), .blk b14 ([.slice z16_A z16_n z16_c]) 44, .blk b13 ([.int .i64 8]) 3, .blk b12 ([.slice r11_A r11_n r11_c]) 26, .blk b1 ([.slice a0_A a0_n a0_c]) 26] [.rowL (CI .u8) r11_A r11_n r11_c r11, .inn (CI .u8) z16_H z16, .rowL (CI .u8) s9_A s9_n s9_c (subL a1 8 (a1.length : Int)), .rowL (CI .u8) s8_A s8_n s8_c (subL a1 0 8), .rowL (CI .u8) a0_A a0_n a0_c a0, .rowL (CI .u8) a1_A a1_n a1_c a1] w ∧ ∃ g38 : Nat → Value, a = ⟨#[.func (.yield l35) #[] #[], .pointer (some ⟨b12, 0, none⟩), .pointer (some ⟨b13, 0, none⟩), undef, .int .i64 z15, (g38 5), (g38 6), (g38 7), (g38 8), (g38 9), (g38 10), (g38 11), (g38 12), (g38 13), (g38 14), (g38 15), (g38 16), (g38 17), (g38 18), (g38 19), (g38 20), (g38 21), (g38 22), (g38 23), (g38 24), (g38 25), (g38 26), (g38 27), (g38 28), (g38 29), (g38 30)], []⟩) K ⟨0, ([] : List (List Int)), none, 0, 0, [], hy, hs.conv rfl, exg (by kernel_rfl)⟩ ?_
      clear hs h hy
      rintro n a w ⟨z15, z16, z16_A, z16_n, z16_c, z16_H, h, hs, g38, rfl⟩ KL0 kl0
      cases n with
      | zero => exact nomatch (show none = some _ from h)
      | succ n =>
       refine xseq_k fun KS40 ks40 => ?_
       refine xseq_k fun KS41 ks41 => ?_
       refine xregS [0, 1, 2, 3] fun KR42 kr42 => ?_
       refine wpS.q 0 6 (.int .i64 z15) ?_
       refine wpS.tk 1 true (some 7) (.slice r11_A r11_n r11_c) (yld_load1 (e := 26) (o := 0) hs 5 rfl (by kernel_rfl) (by kernel_rfl) (by rfl) .grow) ?_
       refine wpS.tk 2 false (some 8) (.int .i64 (r11.length : Int)) (yld_lenL (hs.rowR 0 rfl) (fun _ => by kernel_rfl)) ?_
       rcases of_if h with ⟨hc, h⟩ | ⟨hc, h⟩
       ·refine wpS.tk 3 false (some 9) (.bool true) (yld_b (dt hc) (fun _ => by kernel_rfl)) ?_
        refine wpS.fin rfl (kr42 _ _ (then_n (ks41 _ _ (wp_cond_t (by kernel_rfl) (xskip (then_n (ks40 _ _ (xseq_k fun KS43 ks43 => (xblock (xseq_k fun KS44 ks44 => ?_))))))))))
        refine wp_regG [] (fun k => True) 7 (by kernel_rfl) (by kernel_rfl) (by kernel_rfl) fun KR45 kr45 => ?_
        have hs := hs.drawn1
        refine wpG.tD 0 true (some 13) (.int .i64 8) (yld_load1 (e := 3) (o := 0) hs 4 rfl (by kernel_rfl) (by kernel_rfl) (by rfl) .grow) ?_
        refine wpG.tD 1 true (some 14) (.slice r11_A r11_n r11_c) (yld_load1 (e := 26) (o := 0) hs 5 rfl (by kernel_rfl) (by kernel_rfl) (by rfl) .grow) ?_
        refine wpG.q 2 15 (.int .i64 z15) ?_
        obtain ⟨h0, h⟩ := of_chk h
        obtain ⟨h1, h⟩ := of_chk h
        obtain ⟨h2, h⟩ := of_chk h
        obtain ⟨s20_A, hA⟩ : ∃ A, A = if r11_c = (z15 : Int).toNat then r11_A else adr r11_A ((z15 : Int).toNat * Cod.size (CI .u8)) := ⟨_, rfl⟩
        obtain ⟨s20_n, hn⟩ : ∃ n, n = ((r11.length : Int) : Int).toNat - (z15 : Int).toNat := ⟨_, rfl⟩
        obtain ⟨s20_c, hc⟩ : ∃ c, c = r11_c - (z15 : Int).toNat := ⟨_, rfl⟩
        refine wpG.tD 3 false (some 16) (.slice s20_A s20_n s20_c) (yld_sub (C := (CI .u8)) (t := 26) (e := 5) (low := some (.int .i64 z15)) (high := none) (lo := z15) (hi := (r11.length : Int)) (hs.rowR 0 rfl) (by kernel_rfl) (by kernel_rfl) (by kernel_rfl) (.inr ⟨_, rfl⟩) (.inl ⟨rfl, rfl⟩) h0 h1 h2 hA hn hc) ?_
        have hs := hs.addSub (C := (CI .u8)) 0 rfl h0 h1 h2 hA hn hc
        refine wpG.tD 4 false (some 17) (.int .i64 ((subL r11 z15 (r11.length : Int)).length : Int)) (yld_lenL (hs.rowR 0 rfl) (fun _ => by kernel_rfl)) ?_
        refine wpG.q 5 18 (.int .i64 (imin 8 ((subL r11 z15 (r11.length : Int)).length : Int))) ?_
        obtain ⟨x21, hx, h⟩ := of_bind h
        refine wpG.tD 6 false (some 5) (.int .i64 x21) (yld_int hx (fun _ => by kernel_rfl)) ?_
        refine wpG.fin (by kernel_rfl) rfl (kr45 _ _ ?_)
        refine then_n (ks44 _ _ (xseq_k fun KS46 ks46 => (xregS [0, 1, 2, 3, 4, 5, 6, 7, 8, 9, 10, 11] fun KR47 kr47 => ?_)))
        refine wpS.q 0 19 (.func (.yield l35) #[] #[]) ?_
        refine wpS.tk 1 true (some 20) (.slice r11_A r11_n r11_c) (yld_load1 (e := 26) (o := 0) hs 5 rfl (by kernel_rfl) (by kernel_rfl) (by rfl) .grow) ?_
        refine wpS.qs [(2, 21, .int .i64 z15), (3, 22, .int .i64 z15), (4, 23, .int .i64 x21), (5, 24, .int .i64 (iadd .i64 z15 x21)), (6, 25, .int .i64 z15), (7, 26, .int .i64 x21), (8, 27, .int .i64 (iadd .i64 z15 x21))] ?_
        obtain ⟨h0, h⟩ := of_chk h
        obtain ⟨h1, h⟩ := of_chk h
        obtain ⟨h2, h⟩ := of_chk h
        obtain ⟨h3, h⟩ := of_chk h
        obtain ⟨s22_A, hA⟩ : ∃ A, A = if ((iadd .i64 z15 x21) : Int).toNat = (z15 : Int).toNat then r11_A else adr r11_A ((z15 : Int).toNat * Cod.size (CI .u8)) := ⟨_, rfl⟩
        obtain ⟨s22_n, hn⟩ : ∃ n, n = ((iadd .i64 z15 x21) : Int).toNat - (z15 : Int).toNat := ⟨_, rfl⟩
        obtain ⟨s22_c, hc⟩ : ∃ c, c = ((iadd .i64 z15 x21) : Int).toNat - (z15 : Int).toNat := ⟨_, rfl⟩
        refine wpS.tk 9 false (some 28) (.slice s22_A s22_n s22_c) (yld_sub3 (mx := (iadd .i64 z15 x21)) (k := .i64) (C := (CI .u8)) (t := 26) (e := 5) (low := some (.int .i64 z15)) (high := some (.int .i64 (iadd .i64 z15 x21))) (lo := z15) (hi := (iadd .i64 z15 x21)) (hs.rowR 1 rfl) (by kernel_rfl) (by kernel_rfl) (by kernel_rfl) (.inr ⟨_, rfl⟩) ⟨_, rfl⟩ h0 h1 h2 h3 hA hn hc) ?_
        have hs := hs.addSub3 (C := (CI .u8)) 1 rfl h0 h1 h2 h3 hA hn hc
        refine wpS.onlyR 10 (op_yield (d := (some 29)) (by kernel_rfl) hs 1 rfl hok35 #[.slice s22_A s22_n s22_c] (by kernel_rfl) rfl (tm := #[.slice none 0 0, .func (.func 102) #[] #[.pointer (some ⟨b12, 0, none⟩), .pointer (some ⟨b13, 0, none⟩)], .pointer (some ⟨b14, 0, none⟩), undef, .slice none 0 0, undef, .func (.func 102) #[] #[.pointer (some ⟨b12, 0, none⟩), .pointer (some ⟨b13, 0, none⟩)], .slice s22_A s22_n s22_c, undef, undef, undef, undef, undef]) (by kernel_rfl) (by kernel_rfl) fun K48 k48 => ?_)
        refine xregS [0] fun KR49 kr49 => ?_
        refine wpS.q 0 5 (.slice s22_A s22_n s22_c) ?_
        refine wpS.fin rfl (kr49 _ _ (then_n (k48 _ _ 1 _ _ hs rfl fun w Qr48 hs qr48 => ?_)))
        dsimp only [List.set] at hs
        refine xblock (xregS [0, 1, 2, 3, 4] fun KR50 kr50 => ?_)
        refine wpS.tk 0 true (some 8) (.slice z16_A z16_n z16_c) (yld_load1 (e := 44) (o := 0) hs 3 rfl (by kernel_rfl) (by kernel_rfl) (by rfl) .grow) ?_
        refine wpS.q 1 9 (.slice s22_A s22_n s22_c) ?_
        refine wpS.only 2 (op_lit (C := CS) (t := 44) (e := 26) (len := 1) (parts := #[(0, .slice s22_A s22_n s22_c)]) (l := ([(s22_A, s22_n, s22_c)] : List HS)) (d := (some 10)) (by kernel_rfl) hs (by kernel_rfl) (by kernel_rfl) (by kernel_rfl) (z := .slice none 0 0) (by kernel_rfl) rfl (by decide) (by decide) (by kernel_rfl) ?_)
        intro s23_A s23_n s23_c w gw hs
        refine ⟨fun _ => trivial, ?_⟩
        obtain ⟨h0, h⟩ := of_chk h
        refine wpS.only 3 (op_appendT (C := CS) (t := 44) (ty := 44) (e := 26) (bytes := 24) (B := 5864062014805) (d := (some 11)) (by kernel_rfl) hs 1 rfl (hs.rowL 0 rfl) (by kernel_rfl) (by kernel_rfl) (by kernel_rfl) (by kernel_rfl) (by kernel_rfl) (by rw [(hs.innR 3 rfl).length]; exact h0) (by decide) (by decide) ?_)
        intro s24_A s24_n s24_c w hs
        have hs := hs.innApp 3 0 rfl rfl
        refine ⟨fun _ => trivial, ?_⟩
        refine wpS.only 4 (op_store1 (t := 44) (o := 0) (v := .slice s24_A s24_n s24_c) (d := none) (by kernel_rfl) hs 4 rfl (by kernel_rfl) rfl (by kernel_rfl) (by simp) ?_)
        intro w kp hs
        refine ⟨fun _ => trivial, ?_⟩
        refine wpS.fin rfl (kr50 _ _ (inBlock_n ?_))
        refine round_n qr48 hs 2 rfl fun w hs => ?_
        dsimp only [List.set] at hs
        refine ⟨fun _ => trivial, ?_⟩
        refine wpS.q 11 30 (.bool false) ?_
        refine wpS.fin rfl (kr47 _ _ (then_n (ks46 _ _ (wp_cond_f (by kernel_rfl) (xskip (inBlock_n (then_n (ks43 _ _ (xregS [0, 1, 2, 3] fun KR51 kr51 => ?_)))))))))
        refine wpS.q 0 10 (.int .i64 z15) ?_
        refine wpS.tk 1 true (some 11) (.int .i64 8) (yld_load1 (e := 3) (o := 0) hs 5 rfl (by kernel_rfl) (by kernel_rfl) (by rfl) .grow) ?_
        refine wpS.q 2 12 (.int .i64 (iadd .i64 z15 8)) ?_
        obtain ⟨x25, hx, h⟩ := of_bind h
        refine wpS.tk 3 false (some 4) (.int .i64 x25) (yld_int hx (fun _ => by kernel_rfl)) ?_
        refine wpS.fin rfl (kr51 _ _ ?_)
        exact then_n (kl0 _ _ ⟨n, Nat.lt_succ_self n, x25, (z16 ++ [(subL r11 z15 (iadd .i64 z15 x21))]), s24_A, s24_n, s24_c, (z16_H ++ [(s22_A, s22_n, s22_c)]), h, ((hs.drop (.cons _ (.cons_cons _ (.cons_cons _ (.cons_cons _ (.cons_cons _ (.cons_cons _ (.cons_cons _ (.cons_cons _ .slnil))))))))).pickR (pick_cons 2 rfl (pick_cons 3 rfl (pick_cons 4 rfl (pick_cons 5 rfl (pick_cons 6 rfl (pick_cons 7 rfl pick_nil))))))), exg (by kernel_rfl)⟩)
       refine wpS.tk 3 false (some 9) (.bool false) (yld_b (df hc) (fun _ => by kernel_rfl)) ?_
       refine wpS.fin rfl (kr42 _ _ (then_n (ks41 _ _ (wp_cond_f (by kernel_rfl) (xexit (then_x (then_x (inBlock_hit ?_))))))))
       have q0 := of_some h
       subst q0
       exact exq_n (nn0 _ _ ⟨z16_A, z16_n, z16_c, z16_H, (hs.conv rfl), exg (by kernel_rfl)⟩)
     clear hs h hy
     rintro a w ⟨y18_A, y18_n, y18_c, y18_H, hs, g39, rfl⟩
     have h := hk0
     refine qn35 _ _ (post_nrm (by kernel_rfl) (run_results [] [] (by kernel_rfl) .nil) ?_)
     refine range_n (a1 := ⟨#[.slice none 0 0, .func (.func 102) #[] #[.pointer (some ⟨b12, 0, none⟩), .pointer (some ⟨b13, 0, none⟩)], .pointer (some ⟨b14, 0, none⟩), undef, .slice none 0 0, undef, .func (.func 102) #[] #[.pointer (some ⟨b12, 0, none⟩), .pointer (some ⟨b13, 0, none⟩)], undef, undef, undef, undef, undef, undef], [lmark D35]⟩) kR35 (by kernel_rfl) hs 1 rfl fun w hs => ?_
     dsimp only [List.set] at hs
     refine inBlock_n (then_n (ks32 _ _ (xseq_k fun KS52 ks52 => (xregS [0, 1] fun KR53 kr53 => ?_))))
     refine wpS.tk 0 true (some 12) (.slice y18_A y18_n y18_c) (yld_load1 (e := 44) (o := 0) hs 3 rfl (by kernel_rfl) (by kernel_rfl) (by rfl) .grow) ?_
     refine wpS.q 1 4 (.slice y18_A y18_n y18_c) ?_
     refine wpS.fin rfl (kr53 _ _ (then_n (ks52 _ _ (xret ?_))))
     refine qq29 _ _ ?_
     refine leaves_mark hs 2 rfl fun w hs => ?_
     dsimp only [List.set] at hs
     refine leaves_end (run_results [.tmp 4] [.slice y18_A y18_n y18_c] (by kernel_rfl) (.cons (res_tmp (by kernel_rfl)) .nil)) ?_
     refine kI29 _ _ ?_
     refine ⟨fun _ => trivial, ?_⟩
     refine wpS.q 2 2 (.slice y18_A y18_n y18_c) ?_
     refine wpS.fin rfl (kr28 _ _ (then_n (ks27 _ _ (xret ?_))))
     refine qq24 _ _ (post_ret (by kernel_rfl) (run_results [.tmp 2] [.slice y18_A y18_n y18_c] (by kernel_rfl) (.cons (res_tmp (by kernel_rfl)) .nil)) ?_)
     refine kI24 _ _ ?_
     refine ⟨fun _ => trivial, ?_⟩
     refine wpS.q 5 10 (.agg #[.int .u64 r10, .slice y18_A y18_n y18_c]) ?_
     refine wpS.only 6 (op_box (t := 72) (v := .agg #[.int .u64 r10, .slice y18_A y18_n y18_c]) (d := (some 11)) (by kernel_rfl) hs ([.int .u64 r10, .slice y18_A y18_n y18_c]) (by kernel_rfl) (by kernel_rfl) ?_)
     intro b26 w gw hs
     refine ⟨fun _ => trivial, ?_⟩
     refine wpS.q 7 4 (.pointer (some ⟨b26, 0, none⟩)) ?_
     refine wpS.fin rfl (kr15 _ _ (then_n (ks14 _ _ (xret ?_))))
     refine qq11 _ _ (post_ret (by kernel_rfl) (run_results [.tmp 4] [.pointer (some ⟨b26, 0, none⟩)] (by kernel_rfl) (.cons (res_tmp (by kernel_rfl)) .nil)) ?_)
     refine kI11 _ _ ?_
     refine ⟨⟨fun hf => absurd hf (by decide), .all _ _⟩, ?_⟩
     refine wpG.only 6 (by kernel_rfl) (op_alloc (t := 62) (d := (some 7)) (by kernel_rfl) hs ([.pointer none]) (.pointer none) (by kernel_rfl) (by kernel_rfl) (by kernel_rfl) ?_)
     intro b27 w gw hs
     refine ⟨.of gw, ?_⟩
     refine wpG.only 7 (by kernel_rfl) (op_store1 (t := 62) (o := 0) (v := .pointer (some ⟨b26, 0, none⟩)) (d := none) (by kernel_rfl) hs 0 rfl (by kernel_rfl) rfl (by kernel_rfl) (by simp) ?_)
     intro w kp hs
     refine ⟨⟨fun hf => absurd hf (by decide), .all _ _⟩, ?_⟩
     refine wpG.fin (by kernel_rfl) rfl (kr10 _ _ ?_)
     obtain ⟨q0, qr0⟩ := Prod.mk.inj (of_some h)
     have q1 := qr0
     subst q0
     subst q1
     have hs := hs.front 1 rfl
     have hs := hs.front 2 rfl
     try dsimp only [List.eraseIdx] at hs
     exact nj _ _ ⟨b27, b26, y18_A, y18_n, y18_c, y18_H, ((hs.drop (.cons_cons _ (.cons_cons _ (.cons_cons _ (.cons _ (.cons _ (.cons _ (.cons _ (.cons _ (.cons_cons _ .slnil)))))))))).pickR (pick_cons 1 rfl (pick_cons 4 rfl (pick_cons 5 rfl pick_nil)))), exg (by kernel_rfl)⟩
    refine (op_alloc (t := 62) (d := (some 7)) (by kernel_rfl) hs ([.pointer none]) (.pointer none) (by kernel_rfl) (by kernel_rfl) (by kernel_rfl) ?_)
    intro b28 w gw hs
    refine ⟨.of gw, ?_⟩
    refine wpG.only 5 (by kernel_rfl) (op_inline (d := (some 20)) (f := 56) (args := #[.int .u64 r10, .slice s9_A s9_n s9_c]) (by kernel_rfl) (fun _ => by kernel_rfl) fun R54 kI54 => ?_)
    refine calls_k Try.func56 rfl fun Q54 qq54 => ?_
    refine wp_conv (a' := ⟨#[.int .u64 r10, .slice s9_A s9_n s9_c, undef, undef, undef, undef, undef, undef, undef, undef, undef, undef], []⟩) (by kernel_rfl) ?_
    refine xseq_k fun KS55 ks55 => ?_
    refine xregS [0] fun KR56 kr56 => ?_
    refine wpS.q 0 4 (.pointer none) ?_
    refine wpS.fin rfl (kr56 _ _ (then_n (ks55 _ _ (xseq_k fun KS57 ks57 => (xregS [0, 1, 2, 3, 4, 5, 6, 7] fun KR58 kr58 => ?_)))))
    refine wpS.qs [(0, 5, .int .u64 r10), (1, 6, .slice s9_A s9_n s9_c)] ?_
    obtain ⟨r29, hg, h⟩ := of_bind h
    refine wpS.only 2 (op_callH (d := (some 7)) (by kernel_rfl) hs (fun _ => by kernel_rfl) (slices_Clone_byte_byte.ok hg _ (hs.rowR 0 rfl)) ?_)
    rintro ⟨r29_A, r29_n, r29_c⟩ w gw hs
    have hs := hs.conv (L' := [.ownL (CI .u8) r29_A r29_n r29_c r29 5, .blk b28 ([.pointer none]) 62, .blk b1 ([.slice a0_A a0_n a0_c]) 26]) rfl
    refine ⟨fun _ => trivial, ?_⟩
    refine wpS.only 3 (op_inline (d := (some 8)) (f := 71) (args := #[.slice r29_A r29_n r29_c, .int .i64 8]) (by kernel_rfl) (fun _ => by kernel_rfl) fun R59 kI59 => ?_)
    refine calls_k Try.func71 rfl fun Q59 qq59 => ?_
    refine wp_conv (a' := ⟨#[.slice r29_A r29_n r29_c, .int .i64 8, undef, undef, undef, undef, undef, undef, undef], []⟩) (by kernel_rfl) ?_
    refine xseq_k fun KS60 ks60 => ?_
    refine xregS [0, 1, 2] fun KR61 kr61 => ?_
    refine wpS.only 0 (op_box (t := 26) (v := .slice r29_A r29_n r29_c) (d := (some 2)) (by kernel_rfl) hs ([.slice r29_A r29_n r29_c]) (by kernel_rfl) (by kernel_rfl) ?_)
    intro b30 w gw hs
    refine ⟨fun _ => trivial, ?_⟩
    refine wpS.only 1 (op_box (t := 3) (v := .int .i64 8) (d := (some 3)) (by kernel_rfl) hs ([.int .i64 8]) (by kernel_rfl) (by kernel_rfl) ?_)
    intro b31 w gw hs
    refine ⟨fun _ => trivial, ?_⟩
    refine wpS.q 2 4 (.nilFunc) ?_
    refine wpS.fin rfl (kr61 _ _ (then_n (ks60 _ _ (xseq_k fun KS62 ks62 => (xseq_k fun KS63 ks63 => (xregS [0, 1] fun KR64 kr64 => ?_))))))
    refine wpS.tk 0 true (some 5) (.int .i64 8) (yld_load1 (e := 3) (o := 0) hs 0 rfl (by kernel_rfl) (by kernel_rfl) (by rfl) .grow) ?_
    refine wpS.q 1 6 (.bool false) ?_
    refine wpS.fin rfl (kr64 _ _ (then_n (ks63 _ _ (wp_cond_f (by kernel_rfl) (xskip (then_n (ks62 _ _ (xseq_k fun KS65 ks65 => (xregS [0, 1] fun KR66 kr66 => ?_)))))))))
    refine wpS.qs [(0, 8, .func (.func 102) #[] #[.pointer (some ⟨b30, 0, none⟩), .pointer (some ⟨b31, 0, none⟩)]), (1, 4, .func (.func 102) #[] #[.pointer (some ⟨b30, 0, none⟩), .pointer (some ⟨b31, 0, none⟩)])] ?_
    refine wpS.fin rfl (kr66 _ _ (then_n (ks65 _ _ (xret ?_))))
    refine qq59 _ _ (post_ret (by kernel_rfl) (run_results [.tmp 4] [.func (.func 102) #[] #[.pointer (some ⟨b30, 0, none⟩), .pointer (some ⟨b31, 0, none⟩)]] (by kernel_rfl) (.cons (res_tmp (by kernel_rfl)) .nil)) ?_)
    refine kI59 _ _ ?_
    refine ⟨fun _ => trivial, ?_⟩
    refine wpS.only 4 (op_inline (d := (some 9)) (f := 92) (args := #[.func (.func 102) #[] #[.pointer (some ⟨b30, 0, none⟩), .pointer (some ⟨b31, 0, none⟩)]]) (by kernel_rfl) (fun _ => by kernel_rfl) fun R67 kI67 => ?_)
    refine calls_k Try.func92 rfl fun Q67 qq67 => ?_
    refine wp_conv (a' := ⟨#[.func (.func 102) #[] #[.pointer (some ⟨b30, 0, none⟩), .pointer (some ⟨b31, 0, none⟩)], undef, undef, undef, undef], []⟩) (by kernel_rfl) ?_
    refine xseq_k fun KS68 ks68 => ?_
    refine xregS [0] fun KR69 kr69 => ?_
    refine wpS.q 0 2 (.slice none 0 0) ?_
    refine wpS.fin rfl (kr69 _ _ (then_n (ks68 _ _ (xseq_k fun KS70 ks70 => (xregS [0, 1, 2] fun KR71 kr71 => ?_)))))
    refine wpS.q 0 3 (.func (.func 102) #[] #[.pointer (some ⟨b30, 0, none⟩), .pointer (some ⟨b31, 0, none⟩)]) ?_
    refine wpS.only 1 (op_inline (d := (some 4)) (f := 110) (args := #[.slice none 0 0, .func (.func 102) #[] #[.pointer (some ⟨b30, 0, none⟩), .pointer (some ⟨b31, 0, none⟩)]]) (by kernel_rfl) (fun _ => by kernel_rfl) fun R72 kI72 => ?_)
    refine calls_m Try.func110 rfl fun Q72 qq72 qn72 => ?_
    refine wp_conv (a' := ⟨#[.slice none 0 0, .func (.func 102) #[] #[.pointer (some ⟨b30, 0, none⟩), .pointer (some ⟨b31, 0, none⟩)], undef, undef, undef, undef, undef, undef, undef, undef, undef, undef, undef], []⟩) (by kernel_rfl) ?_
    refine xseq_k fun KS73 ks73 => ?_
    refine xregS [0, 1] fun KR74 kr74 => ?_
    refine wpS.only 0 (op_box (t := 44) (v := .slice none 0 0) (d := (some 2)) (by kernel_rfl) hs ([.slice none 0 0]) (by kernel_rfl) (by kernel_rfl) ?_)
    intro b32 w gw hs
    refine ⟨fun _ => trivial, ?_⟩
    refine wpS.q 1 4 (.slice none 0 0) ?_
    refine wpS.fin rfl (kr74 _ _ (then_n (ks73 _ _ (xseq_k fun KS75 ks75 => (xseq_k fun KS76 ks76 => (xregS [0] fun KR77 kr77 => ?_))))))
    refine wpS.q 0 6 (.func (.func 102) #[] #[.pointer (some ⟨b30, 0, none⟩), .pointer (some ⟨b31, 0, none⟩)]) ?_
    refine wpS.fin rfl (kr77 _ _ (then_n (ks76 _ _ (xblock ?_))))
    refine wp_range (gf := 102) (lb := #[.pointer (some ⟨b30, 0, none⟩), .pointer (some ⟨b31, 0, none⟩)]) hs (by kernel_rfl) (fun _ _ => by kernel_rfl) fun l78 D78 rec78 w hok78 hs R78 kR78 => ?_
    refine calls_kn Try.func102 rfl fun Q78 qq78 qn78 => ?_
    refine wp_conv (a' := ⟨#[.func (.yield l78) #[] #[], .pointer (some ⟨b30, 0, none⟩), .pointer (some ⟨b31, 0, none⟩), undef, undef, undef, undef, undef, undef, undef, undef, undef, undef, undef, undef, undef, undef, undef, undef, undef, undef, undef, undef, undef, undef, undef, undef, undef, undef, undef, undef], []⟩) (by kernel_rfl) ?_
    refine xseq_k fun KS79 ks79 => ?_
    refine xregS [0] fun KR80 kr80 => ?_
    refine wpS.q 0 4 (.int .i64 0) ?_
    refine wpS.fin rfl (kr80 _ _ (then_n (ks79 _ _ ?_)))
    have hs := (hs.addNilL CS 26).addInn0 (CI .u8)
    have hs := hs.freeze 6 rfl
    obtain ⟨y36, hy, hk0⟩ := of_bind h
    refine wp_exq (N := fun a w => ∃ (y36_A : Option Addr) (y36_n : Nat) (y36_c : Nat) (y36_H : List HS), St w0 [] [.ownL CS y36_A y36_n y36_c y36_H 26, .obj l78 (.loop (rec78 .ready none)), .obj D78 (.deferred (some [])), .blk b32 ([.slice y36_A y36_n y36_c]) 44, .blk b31 ([.int .i64 8]) 3, .blk b30 ([.slice r29_A r29_n r29_c]) 26, .blk b28 ([.pointer none]) 62, .blk b1 ([.slice a0_A a0_n a0_c]) 26] [.rowL (CI .u8) r29_A r29_n r29_c r29, .inn (CI .u8) y36_H y36, .rowL (CI .u8) s9_A s9_n s9_c (subL a1 8 (a1.length : Int)), .rowL (CI .u8) s8_A s8_n s8_c (subL a1 0 8), .rowL (CI .u8) a0_A a0_n a0_c a0, .rowL (CI .u8) a1_A a1_n a1_c a1] w ∧ ∃ g82 : Nat → Value, a = ⟨#[.func (.yield l78) #[] #[], .pointer (some ⟨b30, 0, none⟩), .pointer (some ⟨b31, 0, none⟩), undef, (g82 4), (g82 5), (g82 6), (g82 7), (g82 8), (g82 9), (g82 10), (g82 11), (g82 12), (g82 13), (g82 14), (g82 15), (g82 16), (g82 17), (g82 18), (g82 19), (g82 20), (g82 21), (g82 22), (g82 23), (g82 24), (g82 25), (g82 26), (g82 27), (g82 28), (g82 29), (g82 30)], []⟩) (fun N0 nn0 => ?_) ?_
    ·clear hk0
     refine xblock ?_
     refine wp_loop_k (fun n a w => ∃ z33 z34, ∃ (z34_A : Option Addr) (z34_n : Nat) (z34_c : Nat) (z34_H : List HS), wrap_Unwrap.l0 K n r29 z33 z34 = some y36 ∧ St w0 [] [.ownL CS z34_A z34_n z34_c z34_H 26, .obj l78 (.loop (rec78 .ready none)), .obj D78 (.deferred (some [])), .blk b32 ([.slice z34_A z34_n z34_c]) 44, .blk b31 ([.int .i64 8]) 3, .blk b30 ([.slice r29_A r29_n r29_c]) 26, .blk b28 ([.pointer none]) 62, .blk b1 ([.slice a0_A a0_n a0_c]) 26] [.rowL (CI .u8) r29_A r29_n r29_c r29, .inn (CI .u8) z34_H z34, .rowL (CI .u8) s9_A s9_n s9_c (subL a1 8 (a1.length : Int)), .rowL (CI .u8) s8_A s8_n s8_c (subL a1 0 8), .rowL (CI .u8) a0_A a0_n a0_c a0, .rowL (CI .u8) a1_A a1_n a1_c a1] w ∧ ∃ g81 : Nat → Value, a = ⟨#[.func (.yield l78) #[] #[], .pointer (some ⟨b30, 0, none⟩), .pointer (some ⟨b31, 0, none⟩), undef, .int .i64 z33, (g81 5), (g81 6), (g81 7), (g81 8), (g81 9), (g81 10), (g81 11), (g81 12), (g81 13), (g81 14), (g81 15), (g81 16), (g81 17), (g81 18), (g81 19), (g81 20), (g81 21), (g81 22), (g81 23), (g81 24), (g81 25), (g81 26), (g81 27), (g81 28), (g81 29), (g81 30)], []⟩) K ⟨0, ([] : List (List Int)), none, 0, 0, [], hy, hs.conv rfl, exg (by kernel_rfl)⟩ ?_
     clear hs h hy
     rintro n a w ⟨z33, z34, z34_A, z34_n, z34_c, z34_H, h, hs, g81, rfl⟩ KL0 kl0
     cases n with
     | zero => exact nomatch (show none = some _ from h)
     | succ n =>
      refine xseq_k fun KS83 ks83 => ?_
      refine xseq_k fun KS84 ks84 => ?_
      refine xregS [0, 1, 2, 3] fun KR85 kr85 => ?_
      refine wpS.q 0 6 (.int .i64 z33) ?_
      refine wpS.tk 1 true (some 7) (.slice r29_A r29_n r29_c) (yld_load1 (e := 26) (o := 0) hs 5 rfl (by kernel_rfl) (by kernel_rfl) (by rfl) .grow) ?_
      refine wpS.tk 2 false (some 8) (.int .i64 (r29.length : Int)) (yld_lenL (hs.rowR 0 rfl) (fun _ => by kernel_rfl)) ?_
      rcases of_if h with ⟨hc, h⟩ | ⟨hc, h⟩
      ·refine wpS.tk 3 false (some 9) (.bool true) (yld_b (dt hc) (fun _ => by kernel_rfl)) ?_
       refine wpS.fin rfl (kr85 _ _ (then_n (ks84 _ _ (wp_cond_t (by kernel_rfl) (xskip (then_n (ks83 _ _ (xseq_k fun KS86 ks86 => (xblock (xseq_k fun KS87 ks87 => ?_))))))))))
       refine wp_regG [] (fun k => True) 7 (by kernel_rfl) (by kernel_rfl) (by kernel_rfl) fun KR88 kr88 => ?_
       have hs := hs.drawn1
       refine wpG.tD 0 true (some 13) (.int .i64 8) (yld_load1 (e := 3) (o := 0) hs 4 rfl (by kernel_rfl) (by kernel_rfl) (by rfl) .grow) ?_
       refine wpG.tD 1 true (some 14) (.slice r29_A r29_n r29_c) (yld_load1 (e := 26) (o := 0) hs 5 rfl (by kernel_rfl) (by kernel_rfl) (by rfl) .grow) ?_
       refine wpG.q 2 15 (.int .i64 z33) ?_
       obtain ⟨h0, h⟩ := of_chk h
       obtain ⟨h1, h⟩ := of_chk h
       obtain ⟨h2, h⟩ := of_chk h
       obtain ⟨s38_A, hA⟩ : ∃ A, A = if r29_c = (z33 : Int).toNat then r29_A else adr r29_A ((z33 : Int).toNat * Cod.size (CI .u8)) := ⟨_, rfl⟩
       obtain ⟨s38_n, hn⟩ : ∃ n, n = ((r29.length : Int) : Int).toNat - (z33 : Int).toNat := ⟨_, rfl⟩
       obtain ⟨s38_c, hc⟩ : ∃ c, c = r29_c - (z33 : Int).toNat := ⟨_, rfl⟩
       refine wpG.tD 3 false (some 16) (.slice s38_A s38_n s38_c) (yld_sub (C := (CI .u8)) (t := 26) (e := 5) (low := some (.int .i64 z33)) (high := none) (lo := z33) (hi := (r29.length : Int)) (hs.rowR 0 rfl) (by kernel_rfl) (by kernel_rfl) (by kernel_rfl) (.inr ⟨_, rfl⟩) (.inl ⟨rfl, rfl⟩) h0 h1 h2 hA hn hc) ?_
       have hs := hs.addSub (C := (CI .u8)) 0 rfl h0 h1 h2 hA hn hc
       refine wpG.tD 4 false (some 17) (.int .i64 ((subL r29 z33 (r29.length : Int)).length : Int)) (yld_lenL (hs.rowR 0 rfl) (fun _ => by kernel_rfl)) ?_
       refine wpG.q 5 18 (.int .i64 (imin 8 ((subL r29 z33 (r29.length : Int)).length : Int))) ?_
       obtain ⟨x39, hx, h⟩ := of_bind h
       refine wpG.tD 6 false (some 5) (.int .i64 x39) (yld_int hx (fun _ => by kernel_rfl)) ?_
       refine wpG.fin (by kernel_rfl) rfl (kr88 _ _ ?_)
       refine then_n (ks87 _ _ (xseq_k fun KS89 ks89 => (xregS [0, 1, 2, 3, 4, 5, 6, 7, 8, 9, 10, 11] fun KR90 kr90 => ?_)))
       refine wpS.q 0 19 (.func (.yield l78) #[] #[]) ?_
       refine wpS.tk 1 true (some 20) (.slice r29_A r29_n r29_c) (yld_load1 (e := 26) (o := 0) hs 5 rfl (by kernel_rfl) (by kernel_rfl) (by rfl) .grow) ?_
       refine wpS.qs [(2, 21, .int .i64 z33), (3, 22, .int .i64 z33), (4, 23, .int .i64 x39), (5, 24, .int .i64 (iadd .i64 z33 x39)), (6, 25, .int .i64 z33), (7, 26, .int .i64 x39), (8, 27, .int .i64 (iadd .i64 z33 x39))] ?_
       obtain ⟨h0, h⟩ := of_chk h
       obtain ⟨h1, h⟩ := of_chk h
       obtain ⟨h2, h⟩ := of_chk h
       obtain ⟨h3, h⟩ := of_chk h
       obtain ⟨s40_A, hA⟩ : ∃ A, A = if ((iadd .i64 z33 x39) : Int).toNat = (z33 : Int).toNat then r29_A else adr r29_A ((z33 : Int).toNat * Cod.size (CI .u8)) := ⟨_, rfl⟩
       obtain ⟨s40_n, hn⟩ : ∃ n, n = ((iadd .i64 z33 x39) : Int).toNat - (z33 : Int).toNat := ⟨_, rfl⟩
       obtain ⟨s40_c, hc⟩ : ∃ c, c = ((iadd .i64 z33 x39) : Int).toNat - (z33 : Int).toNat := ⟨_, rfl⟩
       refine wpS.tk 9 false (some 28) (.slice s40_A s40_n s40_c) (yld_sub3 (mx := (iadd .i64 z33 x39)) (k := .i64) (C := (CI .u8)) (t := 26) (e := 5) (low := some (.int .i64 z33)) (high := some (.int .i64 (iadd .i64 z33 x39))) (lo := z33) (hi := (iadd .i64 z33 x39)) (hs.rowR 1 rfl) (by kernel_rfl) (by kernel_rfl) (by kernel_rfl) (.inr ⟨_, rfl⟩) ⟨_, rfl⟩ h0 h1 h2 h3 hA hn hc) ?_
       have hs := hs.addSub3 (C := (CI .u8)) 1 rfl h0 h1 h2 h3 hA hn hc
       refine wpS.onlyR 10 (op_yield (d := (some 29)) (by kernel_rfl) hs 1 rfl hok78 #[.slice s40_A s40_n s40_c] (by kernel_rfl) rfl (tm := #[.slice none 0 0, .func (.func 102) #[] #[.pointer (some ⟨b30, 0, none⟩), .pointer (some ⟨b31, 0, none⟩)], .pointer (some ⟨b32, 0, none⟩), undef, .slice none 0 0, undef, .func (.func 102) #[] #[.pointer (some ⟨b30, 0, none⟩), .pointer (some ⟨b31, 0, none⟩)], .slice s40_A s40_n s40_c, undef, undef, undef, undef, undef]) (by kernel_rfl) (by kernel_rfl) fun K91 k91 => ?_)
       refine xregS [0] fun KR92 kr92 => ?_
       refine wpS.q 0 5 (.slice s40_A s40_n s40_c) ?_
       refine wpS.fin rfl (kr92 _ _ (then_n (k91 _ _ 1 _ _ hs rfl fun w Qr91 hs qr91 => ?_)))
       dsimp only [List.set] at hs
       refine xblock (xregS [0, 1, 2, 3, 4] fun KR93 kr93 => ?_)
       refine wpS.tk 0 true (some 8) (.slice z34_A z34_n z34_c) (yld_load1 (e := 44) (o := 0) hs 3 rfl (by kernel_rfl) (by kernel_rfl) (by rfl) .grow) ?_
       refine wpS.q 1 9 (.slice s40_A s40_n s40_c) ?_
       refine wpS.only 2 (op_lit (C := CS) (t := 44) (e := 26) (len := 1) (parts := #[(0, .slice s40_A s40_n s40_c)]) (l := ([(s40_A, s40_n, s40_c)] : List HS)) (d := (some 10)) (by kernel_rfl) hs (by kernel_rfl) (by kernel_rfl) (by kernel_rfl) (z := .slice none 0 0) (by kernel_rfl) rfl (by decide) (by decide) (by kernel_rfl) ?_)
       intro s41_A s41_n s41_c w gw hs
       refine ⟨fun _ => trivial, ?_⟩
       obtain ⟨h0, h⟩ := of_chk h
       refine wpS.only 3 (op_appendT (C := CS) (t := 44) (ty := 44) (e := 26) (bytes := 24) (B := 5864062014805) (d := (some 11)) (by kernel_rfl) hs 1 rfl (hs.rowL 0 rfl) (by kernel_rfl) (by kernel_rfl) (by kernel_rfl) (by kernel_rfl) (by kernel_rfl) (by rw [(hs.innR 3 rfl).length]; exact h0) (by decide) (by decide) ?_)
       intro s42_A s42_n s42_c w hs
       have hs := hs.innApp 3 0 rfl rfl
       refine ⟨fun _ => trivial, ?_⟩
       refine wpS.only 4 (op_store1 (t := 44) (o := 0) (v := .slice s42_A s42_n s42_c) (d := none) (by kernel_rfl) hs 4 rfl (by kernel_rfl) rfl (by kernel_rfl) (by simp) ?_)
       intro w kp hs
       refine ⟨fun _ => trivial, ?_⟩
       refine wpS.fin rfl (kr93 _ _ (inBlock_n ?_))
       refine round_n qr91 hs 2 rfl fun w hs => ?_
       dsimp only [List.set] at hs
       refine ⟨fun _ => trivial, ?_⟩
       refine wpS.q 11 30 (.bool false) ?_
       refine wpS.fin rfl (kr90 _ _ (then_n (ks89 _ _ (wp_cond_f (by kernel_rfl) (xskip (inBlock_n (then_n (ks86 _ _ (xregS [0, 1, 2, 3] fun KR94 kr94 => ?_)))))))))
       refine wpS.q 0 10 (.int .i64 z33) ?_
       refine wpS.tk 1 true (some 11) (.int .i64 8) (yld_load1 (e := 3) (o := 0) hs 5 rfl (by kernel_rfl) (by kernel_rfl) (by rfl) .grow) ?_
       refine wpS.q 2 12 (.int .i64 (iadd .i64 z33 8)) ?_
       obtain ⟨x43, hx, h⟩ := of_bind h
       refine wpS.tk 3 false (some 4) (.int .i64 x43) (yld_int hx (fun _ => by kernel_rfl)) ?_
       refine wpS.fin rfl (kr94 _ _ ?_)
       exact then_n (kl0 _ _ ⟨n, Nat.lt_succ_self n, x43, (z34 ++ [(subL r29 z33 (iadd .i64 z33 x39))]), s42_A, s42_n, s42_c, (z34_H ++ [(s40_A, s40_n, s40_c)]), h, ((hs.drop (.cons _ (.cons_cons _ (.cons_cons _ (.cons_cons _ (.cons_cons _ (.cons_cons _ (.cons_cons _ (.cons_cons _ (.cons_cons _ .slnil)))))))))).pickR (pick_cons 2 rfl (pick_cons 3 rfl (pick_cons 4 rfl (pick_cons 5 rfl (pick_cons 6 rfl (pick_cons 7 rfl pick_nil))))))), exg (by kernel_rfl)⟩)
      refine wpS.tk 3 false (some 9) (.bool false) (yld_b (df hc) (fun _ => by kernel_rfl)) ?_
      refine wpS.fin rfl (kr85 _ _ (then_n (ks84 _ _ (wp_cond_f (by kernel_rfl) (xexit (then_x (then_x (inBlock_hit ?_))))))))
      have q0 := of_some h
      subst q0
      exact exq_n (nn0 _ _ ⟨z34_A, z34_n, z34_c, z34_H, (hs.conv rfl), exg (by kernel_rfl)⟩)
    clear hs h hy
    rintro a w ⟨y36_A, y36_n, y36_c, y36_H, hs, g82, rfl⟩
    have h := hk0
    refine qn78 _ _ (post_nrm (by kernel_rfl) (run_results [] [] (by kernel_rfl) .nil) ?_)
    refine range_n (a1 := ⟨#[.slice none 0 0, .func (.func 102) #[] #[.pointer (some ⟨b30, 0, none⟩), .pointer (some ⟨b31, 0, none⟩)], .pointer (some ⟨b32, 0, none⟩), undef, .slice none 0 0, undef, .func (.func 102) #[] #[.pointer (some ⟨b30, 0, none⟩), .pointer (some ⟨b31, 0, none⟩)], undef, undef, undef, undef, undef, undef], [lmark D78]⟩) kR78 (by kernel_rfl) hs 1 rfl fun w hs => ?_
    dsimp only [List.set] at hs
    refine inBlock_n (then_n (ks75 _ _ (xseq_k fun KS95 ks95 => (xregS [0, 1] fun KR96 kr96 => ?_))))
    refine wpS.tk 0 true (some 12) (.slice y36_A y36_n y36_c) (yld_load1 (e := 44) (o := 0) hs 3 rfl (by kernel_rfl) (by kernel_rfl) (by rfl) .grow) ?_
    refine wpS.q 1 4 (.slice y36_A y36_n y36_c) ?_
    refine wpS.fin rfl (kr96 _ _ (then_n (ks95 _ _ (xret ?_))))
    refine qq72 _ _ ?_
    refine leaves_mark hs 2 rfl fun w hs => ?_
    dsimp only [List.set] at hs
    refine leaves_end (run_results [.tmp 4] [.slice y36_A y36_n y36_c] (by kernel_rfl) (.cons (res_tmp (by kernel_rfl)) .nil)) ?_
    refine kI72 _ _ ?_
    refine ⟨fun _ => trivial, ?_⟩
    refine wpS.q 2 2 (.slice y36_A y36_n y36_c) ?_
    refine wpS.fin rfl (kr71 _ _ (then_n (ks70 _ _ (xret ?_))))
    refine qq67 _ _ (post_ret (by kernel_rfl) (run_results [.tmp 2] [.slice y36_A y36_n y36_c] (by kernel_rfl) (.cons (res_tmp (by kernel_rfl)) .nil)) ?_)
    refine kI67 _ _ ?_
    refine ⟨fun _ => trivial, ?_⟩
    refine wpS.q 5 10 (.agg #[.int .u64 r10, .slice y36_A y36_n y36_c]) ?_
    refine wpS.only 6 (op_box (t := 72) (v := .agg #[.int .u64 r10, .slice y36_A y36_n y36_c]) (d := (some 11)) (by kernel_rfl) hs ([.int .u64 r10, .slice y36_A y36_n y36_c]) (by kernel_rfl) (by kernel_rfl) ?_)
    intro b44 w gw hs
    refine ⟨fun _ => trivial, ?_⟩
    refine wpS.q 7 4 (.pointer (some ⟨b44, 0, none⟩)) ?_
    refine wpS.fin rfl (kr58 _ _ (then_n (ks57 _ _ (xret ?_))))
    refine qq54 _ _ (post_ret (by kernel_rfl) (run_results [.tmp 4] [.pointer (some ⟨b44, 0, none⟩)] (by kernel_rfl) (.cons (res_tmp (by kernel_rfl)) .nil)) ?_)
    refine kI54 _ _ ?_
    refine ⟨⟨fun hf => absurd hf (by decide), .all _ _⟩, ?_⟩
    refine wpG.only 7 (by kernel_rfl) (op_store1 (t := 62) (o := 0) (v := .pointer (some ⟨b44, 0, none⟩)) (d := none) (by kernel_rfl) hs 7 rfl (by kernel_rfl) rfl (by kernel_rfl) (by simp) ?_)
    intro w kp hs
    refine ⟨⟨fun hf => absurd hf (by decide), .all _ _⟩, ?_⟩
    refine wpG.fin (by kernel_rfl) rfl (kr10 _ _ ?_)
    obtain ⟨q0, qr0⟩ := Prod.mk.inj (of_some h)
    have q1 := qr0
    subst q0
    subst q1
    have hs := hs.front 1 rfl
    try dsimp only [List.eraseIdx] at hs
    exact nj _ _ ⟨b28, b44, y36_A, y36_n, y36_c, y36_H, ((hs.drop (.cons_cons _ (.cons_cons _ (.cons _ (.cons _ (.cons _ (.cons _ (.cons _ (.cons_cons _ (.cons_cons _ .slnil)))))))))).pickR (pick_cons 1 rfl (pick_cons 4 rfl (pick_cons 5 rfl pick_nil)))), exg (by kernel_rfl)⟩
   refine (op_alloc (t := 62) (d := (some 7)) (by kernel_rfl) hs ([.pointer none]) (.pointer none) (by kernel_rfl) (by kernel_rfl) (by kernel_rfl) ?_)
   intro b45 w gw hs
   refine ⟨.of gw, ?_⟩
   obtain ⟨r46, hg, h⟩ := of_bind h
   refine wpG.only 2 (by kernel_rfl) (op_call (d := (some 17)) (by kernel_rfl) hs (fun _ => by kernel_rfl) (bits_Num.ok hg _ (hs.rowR 1 rfl)) ?_)
   intro w gw hs
   refine ⟨.of gw, ?_⟩
   refine wpG.only 5 (by kernel_rfl) (op_inline (d := (some 20)) (f := 56) (args := #[.int .u64 r46, .slice s9_A s9_n s9_c]) (by kernel_rfl) (fun _ => by kernel_rfl) fun R97 kI97 => ?_)
   refine calls_k Try.func56 rfl fun Q97 qq97 => ?_
   refine wp_conv (a' := ⟨#[.int .u64 r46, .slice s9_A s9_n s9_c, undef, undef, undef, undef, undef, undef, undef, undef, undef, undef], []⟩) (by kernel_rfl) ?_
   refine xseq_k fun KS98 ks98 => ?_
   refine xregS [0] fun KR99 kr99 => ?_
   refine wpS.q 0 4 (.pointer none) ?_
   refine wpS.fin rfl (kr99 _ _ (then_n (ks98 _ _ (xseq_k fun KS100 ks100 => (xregS [0, 1, 2, 3, 4, 5, 6, 7] fun KR101 kr101 => ?_)))))
   refine wpS.qs [(0, 5, .int .u64 r46), (1, 6, .slice s9_A s9_n s9_c)] ?_
   obtain ⟨r47, hg, h⟩ := of_bind h
   refine wpS.only 2 (op_callH (d := (some 7)) (by kernel_rfl) hs (fun _ => by kernel_rfl) (slices_Clone_byte_byte.ok hg _ (hs.rowR 0 rfl)) ?_)
   rintro ⟨r47_A, r47_n, r47_c⟩ w gw hs
   have hs := hs.conv (L' := [.ownL (CI .u8) r47_A r47_n r47_c r47 5, .blk b45 ([.pointer none]) 62, .blk b1 ([.slice a0_A a0_n a0_c]) 26]) rfl
   refine ⟨fun _ => trivial, ?_⟩
   refine wpS.only 3 (op_inline (d := (some 8)) (f := 71) (args := #[.slice r47_A r47_n r47_c, .int .i64 8]) (by kernel_rfl) (fun _ => by kernel_rfl) fun R102 kI102 => ?_)
   refine calls_k Try.func71 rfl fun Q102 qq102 => ?_
   refine wp_conv (a' := ⟨#[.slice r47_A r47_n r47_c, .int .i64 8, undef, undef, undef, undef, undef, undef, undef], []⟩) (by kernel_rfl) ?_
   refine xseq_k fun KS103 ks103 => ?_
   refine xregS [0, 1, 2] fun KR104 kr104 => ?_
   refine wpS.only 0 (op_box (t := 26) (v := .slice r47_A r47_n r47_c) (d := (some 2)) (by kernel_rfl) hs ([.slice r47_A r47_n r47_c]) (by kernel_rfl) (by kernel_rfl) ?_)
   intro b48 w gw hs
   refine ⟨fun _ => trivial, ?_⟩
   refine wpS.only 1 (op_box (t := 3) (v := .int .i64 8) (d := (some 3)) (by kernel_rfl) hs ([.int .i64 8]) (by kernel_rfl) (by kernel_rfl) ?_)
   intro b49 w gw hs
   refine ⟨fun _ => trivial, ?_⟩
   refine wpS.q 2 4 (.nilFunc) ?_
   refine wpS.fin rfl (kr104 _ _ (then_n (ks103 _ _ (xseq_k fun KS105 ks105 => (xseq_k fun KS106 ks106 => (xregS [0, 1] fun KR107 kr107 => ?_))))))
   refine wpS.tk 0 true (some 5) (.int .i64 8) (yld_load1 (e := 3) (o := 0) hs 0 rfl (by kernel_rfl) (by kernel_rfl) (by rfl) .grow) ?_
   refine wpS.q 1 6 (.bool false) ?_
   refine wpS.fin rfl (kr107 _ _ (then_n (ks106 _ _ (wp_cond_f (by kernel_rfl) (xskip (then_n (ks105 _ _ (xseq_k fun KS108 ks108 => (xregS [0, 1] fun KR109 kr109 => ?_)))))))))
   refine wpS.qs [(0, 8, .func (.func 102) #[] #[.pointer (some ⟨b48, 0, none⟩), .pointer (some ⟨b49, 0, none⟩)]), (1, 4, .func (.func 102) #[] #[.pointer (some ⟨b48, 0, none⟩), .pointer (some ⟨b49, 0, none⟩)])] ?_
   refine wpS.fin rfl (kr109 _ _ (then_n (ks108 _ _ (xret ?_))))
   refine qq102 _ _ (post_ret (by kernel_rfl) (run_results [.tmp 4] [.func (.func 102) #[] #[.pointer (some ⟨b48, 0, none⟩), .pointer (some ⟨b49, 0, none⟩)]] (by kernel_rfl) (.cons (res_tmp (by kernel_rfl)) .nil)) ?_)
   refine kI102 _ _ ?_
   refine ⟨fun _ => trivial, ?_⟩
   refine wpS.only 4 (op_inline (d := (some 9)) (f := 92) (args := #[.func (.func 102) #[] #[.pointer (some ⟨b48, 0, none⟩), .pointer (some ⟨b49, 0, none⟩)]]) (by kernel_rfl) (fun _ => by kernel_rfl) fun R110 kI110 => ?_)
   refine calls_k Try.func92 rfl fun Q110 qq110 => ?_
   refine wp_conv (a' := ⟨#[.func (.func 102) #[] #[.pointer (some ⟨b48, 0, none⟩), .pointer (some ⟨b49, 0, none⟩)], undef, undef, undef, undef], []⟩) (by kernel_rfl) ?_
   refine xseq_k fun KS111 ks111 => ?_
   refine xregS [0] fun KR112 kr112 => ?_
   refine wpS.q 0 2 (.slice none 0 0) ?_
   refine wpS.fin rfl (kr112 _ _ (then_n (ks111 _ _ (xseq_k fun KS113 ks113 => (xregS [0, 1, 2] fun KR114 kr114 => ?_)))))
   refine wpS.q 0 3 (.func (.func 102) #[] #[.pointer (some ⟨b48, 0, none⟩), .pointer (some ⟨b49, 0, none⟩)]) ?_
   refine wpS.only 1 (op_inline (d := (some 4)) (f := 110) (args := #[.slice none 0 0, .func (.func 102) #[] #[.pointer (some ⟨b48, 0, none⟩), .pointer (some ⟨b49, 0, none⟩)]]) (by kernel_rfl) (fun _ => by kernel_rfl) fun R115 kI115 => ?_)
   refine calls_m Try.func110 rfl fun Q115 qq115 qn115 => ?_
   refine wp_conv (a' := ⟨#[.slice none 0 0, .func (.func 102) #[] #[.pointer (some ⟨b48, 0, none⟩), .pointer (some ⟨b49, 0, none⟩)], undef, undef, undef, undef, undef, undef, undef, undef, undef, undef, undef], []⟩) (by kernel_rfl) ?_
   refine xseq_k fun KS116 ks116 => ?_
   refine xregS [0, 1] fun KR117 kr117 => ?_
   refine wpS.only 0 (op_box (t := 44) (v := .slice none 0 0) (d := (some 2)) (by kernel_rfl) hs ([.slice none 0 0]) (by kernel_rfl) (by kernel_rfl) ?_)
   intro b50 w gw hs
   refine ⟨fun _ => trivial, ?_⟩
   refine wpS.q 1 4 (.slice none 0 0) ?_
   refine wpS.fin rfl (kr117 _ _ (then_n (ks116 _ _ (xseq_k fun KS118 ks118 => (xseq_k fun KS119 ks119 => (xregS [0] fun KR120 kr120 => ?_))))))
   refine wpS.q 0 6 (.func (.func 102) #[] #[.pointer (some ⟨b48, 0, none⟩), .pointer (some ⟨b49, 0, none⟩)]) ?_
   refine wpS.fin rfl (kr120 _ _ (then_n (ks119 _ _ (xblock ?_))))
   refine wp_range (gf := 102) (lb := #[.pointer (some ⟨b48, 0, none⟩), .pointer (some ⟨b49, 0, none⟩)]) hs (by kernel_rfl) (fun _ _ => by kernel_rfl) fun l121 D121 rec121 w hok121 hs R121 kR121 => ?_
   refine calls_kn Try.func102 rfl fun Q121 qq121 qn121 => ?_
   refine wp_conv (a' := ⟨#[.func (.yield l121) #[] #[], .pointer (some ⟨b48, 0, none⟩), .pointer (some ⟨b49, 0, none⟩), undef, undef, undef, undef, undef, undef, undef, undef, undef, undef, undef, undef, undef, undef, undef, undef, undef, undef, undef, undef, undef, undef, undef, undef, undef, undef, undef, undef], []⟩) (by kernel_rfl) ?_
   refine xseq_k fun KS122 ks122 => ?_
   refine xregS [0] fun KR123 kr123 => ?_
   refine wpS.q 0 4 (.int .i64 0) ?_
   refine wpS.fin rfl (kr123 _ _ (then_n (ks122 _ _ ?_)))
   have hs := (hs.addNilL CS 26).addInn0 (CI .u8)
   have hs := hs.freeze 6 rfl
   obtain ⟨y54, hy, hk0⟩ := of_bind h
   refine wp_exq (N := fun a w => ∃ (y54_A : Option Addr) (y54_n : Nat) (y54_c : Nat) (y54_H : List HS), St w0 [] [.ownL CS y54_A y54_n y54_c y54_H 26, .obj l121 (.loop (rec121 .ready none)), .obj D121 (.deferred (some [])), .blk b50 ([.slice y54_A y54_n y54_c]) 44, .blk b49 ([.int .i64 8]) 3, .blk b48 ([.slice r47_A r47_n r47_c]) 26, .blk b45 ([.pointer none]) 62, .blk b1 ([.slice a0_A a0_n a0_c]) 26] [.rowL (CI .u8) r47_A r47_n r47_c r47, .inn (CI .u8) y54_H y54, .rowL (CI .u8) s9_A s9_n s9_c (subL a1 8 (a1.length : Int)), .rowL (CI .u8) s8_A s8_n s8_c (subL a1 0 8), .rowL (CI .u8) a0_A a0_n a0_c a0, .rowL (CI .u8) a1_A a1_n a1_c a1] w ∧ ∃ g125 : Nat → Value, a = ⟨#[.func (.yield l121) #[] #[], .pointer (some ⟨b48, 0, none⟩), .pointer (some ⟨b49, 0, none⟩), undef, (g125 4), (g125 5), (g125 6), (g125 7), (g125 8), (g125 9), (g125 10), (g125 11), (g125 12), (g125 13), (g125 14), (g125 15), (g125 16), (g125 17), (g125 18), (g125 19), (g125 20), (g125 21), (g125 22), (g125 23), (g125 24), (g125 25), (g125 26), (g125 27), (g125 28), (g125 29), (g125 30)], []⟩) (fun N0 nn0 => ?_) ?_
   ·clear hk0
    refine xblock ?_
    refine wp_loop_k (fun n a w => ∃ z51 z52, ∃ (z52_A : Option Addr) (z52_n : Nat) (z52_c : Nat) (z52_H : List HS), wrap_Unwrap.l0 K n r47 z51 z52 = some y54 ∧ St w0 [] [.ownL CS z52_A z52_n z52_c z52_H 26, .obj l121 (.loop (rec121 .ready none)), .obj D121 (.deferred (some [])), .blk b50 ([.slice z52_A z52_n z52_c]) 44, .blk b49 ([.int .i64 8]) 3, .blk b48 ([.slice r47_A r47_n r47_c]) 26, .blk b45 ([.pointer none]) 62, .blk b1 ([.slice a0_A a0_n a0_c]) 26] [.rowL (CI .u8) r47_A r47_n r47_c r47, .inn (CI .u8) z52_H z52, .rowL (CI .u8) s9_A s9_n s9_c (subL a1 8 (a1.length : Int)), .rowL (CI .u8) s8_A s8_n s8_c (subL a1 0 8), .rowL (CI .u8) a0_A a0_n a0_c a0, .rowL (CI .u8) a1_A a1_n a1_c a1] w ∧ ∃ g124 : Nat → Value, a = ⟨#[.func (.yield l121) #[] #[], .pointer (some ⟨b48, 0, none⟩), .pointer (some ⟨b49, 0, none⟩), undef, .int .i64 z51, (g124 5), (g124 6), (g124 7), (g124 8), (g124 9), (g124 10), (g124 11), (g124 12), (g124 13), (g124 14), (g124 15), (g124 16), (g124 17), (g124 18), (g124 19), (g124 20), (g124 21), (g124 22), (g124 23), (g124 24), (g124 25), (g124 26), (g124 27), (g124 28), (g124 29), (g124 30)], []⟩) K ⟨0, ([] : List (List Int)), none, 0, 0, [], hy, hs.conv rfl, exg (by kernel_rfl)⟩ ?_
    clear hs h hy
    rintro n a w ⟨z51, z52, z52_A, z52_n, z52_c, z52_H, h, hs, g124, rfl⟩ KL0 kl0
    cases n with
    | zero => exact nomatch (show none = some _ from h)
    | succ n =>
     refine xseq_k fun KS126 ks126 => ?_
     refine xseq_k fun KS127 ks127 => ?_
     refine xregS [0, 1, 2, 3] fun KR128 kr128 => ?_
     refine wpS.q 0 6 (.int .i64 z51) ?_
     refine wpS.tk 1 true (some 7) (.slice r47_A r47_n r47_c) (yld_load1 (e := 26) (o := 0) hs 5 rfl (by kernel_rfl) (by kernel_rfl) (by rfl) .grow) ?_
     refine wpS.tk 2 false (some 8) (.int .i64 (r47.length : Int)) (yld_lenL (hs.rowR 0 rfl) (fun _ => by kernel_rfl)) ?_
     rcases of_if h with ⟨hc, h⟩ | ⟨hc, h⟩
     ·refine wpS.tk 3 false (some 9) (.bool true) (yld_b (dt hc) (fun _ => by kernel_rfl)) ?_
      refine wpS.fin rfl (kr128 _ _ (then_n (ks127 _ _ (wp_cond_t (by kernel_rfl) (xskip (then_n (ks126 _ _ (xseq_k fun KS129 ks129 => (xblock (xseq_k fun KS130 ks130 => ?_))))))))))
      refine wp_regG [] (fun k => True) 7 (by kernel_rfl) (by kernel_rfl) (by kernel_rfl) fun KR131 kr131 => ?_
      have hs := hs.drawn1
      refine wpG.tD 0 true (some 13) (.int .i64 8) (yld_load1 (e := 3) (o := 0) hs 4 rfl (by kernel_rfl) (by kernel_rfl) (by rfl) .grow) ?_
      refine wpG.tD 1 true (some 14) (.slice r47_A r47_n r47_c) (yld_load1 (e := 26) (o := 0) hs 5 rfl (by kernel_rfl) (by kernel_rfl) (by rfl) .grow) ?_
      refine wpG.q 2 15 (.int .i64 z51) ?_
      obtain ⟨h0, h⟩ := of_chk h
      obtain ⟨h1, h⟩ := of_chk h
      obtain ⟨h2, h⟩ := of_chk h
      obtain ⟨s56_A, hA⟩ : ∃ A, A = if r47_c = (z51 : Int).toNat then r47_A else adr r47_A ((z51 : Int).toNat * Cod.size (CI .u8)) := ⟨_, rfl⟩
      obtain ⟨s56_n, hn⟩ : ∃ n, n = ((r47.length : Int) : Int).toNat - (z51 : Int).toNat := ⟨_, rfl⟩
      obtain ⟨s56_c, hc⟩ : ∃ c, c = r47_c - (z51 : Int).toNat := ⟨_, rfl⟩
      refine wpG.tD 3 false (some 16) (.slice s56_A s56_n s56_c) (yld_sub (C := (CI .u8)) (t := 26) (e := 5) (low := some (.int .i64 z51)) (high := none) (lo := z51) (hi := (r47.length : Int)) (hs.rowR 0 rfl) (by kernel_rfl) (by kernel_rfl) (by kernel_rfl) (.inr ⟨_, rfl⟩) (.inl ⟨rfl, rfl⟩) h0 h1 h2 hA hn hc) ?_
      have hs := hs.addSub (C := (CI .u8)) 0 rfl h0 h1 h2 hA hn hc
      refine wpG.tD 4 false (some 17) (.int .i64 ((subL r47 z51 (r47.length : Int)).length : Int)) (yld_lenL (hs.rowR 0 rfl) (fun _ => by kernel_rfl)) ?_
      refine wpG.q 5 18 (.int .i64 (imin 8 ((subL r47 z51 (r47.length : Int)).length : Int))) ?_
      obtain ⟨x57, hx, h⟩ := of_bind h
      refine wpG.tD 6 false (some 5) (.int .i64 x57) (yld_int hx (fun _ => by kernel_rfl)) ?_
      refine wpG.fin (by kernel_rfl) rfl (kr131 _ _ ?_)
      refine then_n (ks130 _ _ (xseq_k fun KS132 ks132 => (xregS [0, 1, 2, 3, 4, 5, 6, 7, 8, 9, 10, 11] fun KR133 kr133 => ?_)))
      refine wpS.q 0 19 (.func (.yield l121) #[] #[]) ?_
      refine wpS.tk 1 true (some 20) (.slice r47_A r47_n r47_c) (yld_load1 (e := 26) (o := 0) hs 5 rfl (by kernel_rfl) (by kernel_rfl) (by rfl) .grow) ?_
      refine wpS.qs [(2, 21, .int .i64 z51), (3, 22, .int .i64 z51), (4, 23, .int .i64 x57), (5, 24, .int .i64 (iadd .i64 z51 x57)), (6, 25, .int .i64 z51), (7, 26, .int .i64 x57), (8, 27, .int .i64 (iadd .i64 z51 x57))] ?_
      obtain ⟨h0, h⟩ := of_chk h
      obtain ⟨h1, h⟩ := of_chk h
      obtain ⟨h2, h⟩ := of_chk h
      obtain ⟨h3, h⟩ := of_chk h
      obtain ⟨s58_A, hA⟩ : ∃ A, A = if ((iadd .i64 z51 x57) : Int).toNat = (z51 : Int).toNat then r47_A else adr r47_A ((z51 : Int).toNat * Cod.size (CI .u8)) := ⟨_, rfl⟩
      obtain ⟨s58_n, hn⟩ : ∃ n, n = ((iadd .i64 z51 x57) : Int).toNat - (z51 : Int).toNat := ⟨_, rfl⟩
      obtain ⟨s58_c, hc⟩ : ∃ c, c = ((iadd .i64 z51 x57) : Int).toNat - (z51 : Int).toNat := ⟨_, rfl⟩
      refine wpS.tk 9 false (some 28) (.slice s58_A s58_n s58_c) (yld_sub3 (mx := (iadd .i64 z51 x57)) (k := .i64) (C := (CI .u8)) (t := 26) (e := 5) (low := some (.int .i64 z51)) (high := some (.int .i64 (iadd .i64 z51 x57))) (lo := z51) (hi := (iadd .i64 z51 x57)) (hs.rowR 1 rfl) (by kernel_rfl) (by kernel_rfl) (by kernel_rfl) (.inr ⟨_, rfl⟩) ⟨_, rfl⟩ h0 h1 h2 h3 hA hn hc) ?_
      have hs := hs.addSub3 (C := (CI .u8)) 1 rfl h0 h1 h2 h3 hA hn hc
      refine wpS.onlyR 10 (op_yield (d := (some 29)) (by kernel_rfl) hs 1 rfl hok121 #[.slice s58_A s58_n s58_c] (by kernel_rfl) rfl (tm := #[.slice none 0 0, .func (.func 102) #[] #[.pointer (some ⟨b48, 0, none⟩), .pointer (some ⟨b49, 0, none⟩)], .pointer (some ⟨b50, 0, none⟩), undef, .slice none 0 0, undef, .func (.func 102) #[] #[.pointer (some ⟨b48, 0, none⟩), .pointer (some ⟨b49, 0, none⟩)], .slice s58_A s58_n s58_c, undef, undef, undef, undef, undef]) (by kernel_rfl) (by kernel_rfl) fun K134 k134 => ?_)
      refine xregS [0] fun KR135 kr135 => ?_
      refine wpS.q 0 5 (.slice s58_A s58_n s58_c) ?_
      refine wpS.fin rfl (kr135 _ _ (then_n (k134 _ _ 1 _ _ hs rfl fun w Qr134 hs qr134 => ?_)))
      dsimp only [List.set] at hs
      refine xblock (xregS [0, 1, 2, 3, 4] fun KR136 kr136 => ?_)
      refine wpS.tk 0 true (some 8) (.slice z52_A z52_n z52_c) (yld_load1 (e := 44) (o := 0) hs 3 rfl (by kernel_rfl) (by kernel_rfl) (by rfl) .grow) ?_
      refine wpS.q 1 9 (.slice s58_A s58_n s58_c) ?_
      refine wpS.only 2 (op_lit (C := CS) (t := 44) (e := 26) (len := 1) (parts := #[(0, .slice s58_A s58_n s58_c)]) (l := ([(s58_A, s58_n, s58_c)] : List HS)) (d := (some 10)) (by kernel_rfl) hs (by kernel_rfl) (by kernel_rfl) (by kernel_rfl) (z := .slice none 0 0) (by kernel_rfl) rfl (by decide) (by decide) (by kernel_rfl) ?_)
      intro s59_A s59_n s59_c w gw hs
      refine ⟨fun _ => trivial, ?_⟩
      obtain ⟨h0, h⟩ := of_chk h
      refine wpS.only 3 (op_appendT (C := CS) (t := 44) (ty := 44) (e := 26) (bytes := 24) (B := 5864062014805) (d := (some 11)) (by kernel_rfl) hs 1 rfl (hs.rowL 0 rfl) (by kernel_rfl) (by kernel_rfl) (by kernel_rfl) (by kernel_rfl) (by kernel_rfl) (by rw [(hs.innR 3 rfl).length]; exact h0) (by decide) (by decide) ?_)
      intro s60_A s60_n s60_c w hs
      have hs := hs.innApp 3 0 rfl rfl
      refine ⟨fun _ => trivial, ?_⟩
      refine wpS.only 4 (op_store1 (t := 44) (o := 0) (v := .slice s60_A s60_n s60_c) (d := none) (by kernel_rfl) hs 4 rfl (by kernel_rfl) rfl (by kernel_rfl) (by simp) ?_)
      intro w kp hs
      refine ⟨fun _ => trivial, ?_⟩
      refine wpS.fin rfl (kr136 _ _ (inBlock_n ?_))
      refine round_n qr134 hs 2 rfl fun w hs => ?_
      dsimp only [List.set] at hs
      refine ⟨fun _ => trivial, ?_⟩
      refine wpS.q 11 30 (.bool false) ?_
      refine wpS.fin rfl (kr133 _ _ (then_n (ks132 _ _ (wp_cond_f (by kernel_rfl) (xskip (inBlock_n (then_n (ks129 _ _ (xregS [0, 1, 2, 3] fun KR137 kr137 => ?_)))))))))
      refine wpS.q 0 10 (.int .i64 z51) ?_
      refine wpS.tk 1 true (some 11) (.int .i64 8) (yld_load1 (e := 3) (o := 0) hs 5 rfl (by kernel_rfl) (by kernel_rfl) (by rfl) .grow) ?_
      refine wpS.q 2 12 (.int .i64 (iadd .i64 z51 8)) ?_
      obtain ⟨x61, hx, h⟩ := of_bind h
      refine wpS.tk 3 false (some 4) (.int .i64 x61) (yld_int hx (fun _ => by kernel_rfl)) ?_
      refine wpS.fin rfl (kr137 _ _ ?_)
      exact then_n (kl0 _ _ ⟨n, Nat.lt_succ_self n, x61, (z52 ++ [(subL r47 z51 (iadd .i64 z51 x57))]), s60_A, s60_n, s60_c, (z52_H ++ [(s58_A, s58_n, s58_c)]), h, ((hs.drop (.cons _ (.cons_cons _ (.cons_cons _ (.cons_cons _ (.cons_cons _ (.cons_cons _ (.cons_cons _ (.cons_cons _ (.cons_cons _ .slnil)))))))))).pickR (pick_cons 2 rfl (pick_cons 3 rfl (pick_cons 4 rfl (pick_cons 5 rfl (pick_cons 6 rfl (pick_cons 7 rfl pick_nil))))))), exg (by kernel_rfl)⟩)
     refine wpS.tk 3 false (some 9) (.bool false) (yld_b (df hc) (fun _ => by kernel_rfl)) ?_
     refine wpS.fin rfl (kr128 _ _ (then_n (ks127 _ _ (wp_cond_f (by kernel_rfl) (xexit (then_x (then_x (inBlock_hit ?_))))))))
     have q0 := of_some h
     subst q0
     exact exq_n (nn0 _ _ ⟨z52_A, z52_n, z52_c, z52_H, (hs.conv rfl), exg (by kernel_rfl)⟩)
   clear hs h hy
   rintro a w ⟨y54_A, y54_n, y54_c, y54_H, hs, g125, rfl⟩
   have h := hk0
   refine qn121 _ _ (post_nrm (by kernel_rfl) (run_results [] [] (by kernel_rfl) .nil) ?_)
   refine range_n (a1 := ⟨#[.slice none 0 0, .func (.func 102) #[] #[.pointer (some ⟨b48, 0, none⟩), .pointer (some ⟨b49, 0, none⟩)], .pointer (some ⟨b50, 0, none⟩), undef, .slice none 0 0, undef, .func (.func 102) #[] #[.pointer (some ⟨b48, 0, none⟩), .pointer (some ⟨b49, 0, none⟩)], undef, undef, undef, undef, undef, undef], [lmark D121]⟩) kR121 (by kernel_rfl) hs 1 rfl fun w hs => ?_
   dsimp only [List.set] at hs
   refine inBlock_n (then_n (ks118 _ _ (xseq_k fun KS138 ks138 => (xregS [0, 1] fun KR139 kr139 => ?_))))
   refine wpS.tk 0 true (some 12) (.slice y54_A y54_n y54_c) (yld_load1 (e := 44) (o := 0) hs 3 rfl (by kernel_rfl) (by kernel_rfl) (by rfl) .grow) ?_
   refine wpS.q 1 4 (.slice y54_A y54_n y54_c) ?_
   refine wpS.fin rfl (kr139 _ _ (then_n (ks138 _ _ (xret ?_))))
   refine qq115 _ _ ?_
   refine leaves_mark hs 2 rfl fun w hs => ?_
   dsimp only [List.set] at hs
   refine leaves_end (run_results [.tmp 4] [.slice y54_A y54_n y54_c] (by kernel_rfl) (.cons (res_tmp (by kernel_rfl)) .nil)) ?_
   refine kI115 _ _ ?_
   refine ⟨fun _ => trivial, ?_⟩
   refine wpS.q 2 2 (.slice y54_A y54_n y54_c) ?_
   refine wpS.fin rfl (kr114 _ _ (then_n (ks113 _ _ (xret ?_))))
   refine qq110 _ _ (post_ret (by kernel_rfl) (run_results [.tmp 2] [.slice y54_A y54_n y54_c] (by kernel_rfl) (.cons (res_tmp (by kernel_rfl)) .nil)) ?_)
   refine kI110 _ _ ?_
   refine ⟨fun _ => trivial, ?_⟩
   refine wpS.q 5 10 (.agg #[.int .u64 r46, .slice y54_A y54_n y54_c]) ?_
   refine wpS.only 6 (op_box (t := 72) (v := .agg #[.int .u64 r46, .slice y54_A y54_n y54_c]) (d := (some 11)) (by kernel_rfl) hs ([.int .u64 r46, .slice y54_A y54_n y54_c]) (by kernel_rfl) (by kernel_rfl) ?_)
   intro b62 w gw hs
   refine ⟨fun _ => trivial, ?_⟩
   refine wpS.q 7 4 (.pointer (some ⟨b62, 0, none⟩)) ?_
   refine wpS.fin rfl (kr101 _ _ (then_n (ks100 _ _ (xret ?_))))
   refine qq97 _ _ (post_ret (by kernel_rfl) (run_results [.tmp 4] [.pointer (some ⟨b62, 0, none⟩)] (by kernel_rfl) (.cons (res_tmp (by kernel_rfl)) .nil)) ?_)
   refine kI97 _ _ ?_
   refine ⟨⟨fun hf => absurd hf (by decide), .all _ _⟩, ?_⟩
   refine wpG.only 7 (by kernel_rfl) (op_store1 (t := 62) (o := 0) (v := .pointer (some ⟨b62, 0, none⟩)) (d := none) (by kernel_rfl) hs 7 rfl (by kernel_rfl) rfl (by kernel_rfl) (by simp) ?_)
   intro w kp hs
   refine ⟨⟨fun hf => absurd hf (by decide), .all _ _⟩, ?_⟩
   refine wpG.fin (by kernel_rfl) rfl (kr10 _ _ ?_)
   obtain ⟨q0, qr0⟩ := Prod.mk.inj (of_some h)
   have q1 := qr0
   subst q0
   subst q1
   have hs := hs.front 1 rfl
   try dsimp only [List.eraseIdx] at hs
   exact nj _ _ ⟨b45, b62, y54_A, y54_n, y54_c, y54_H, ((hs.drop (.cons_cons _ (.cons_cons _ (.cons _ (.cons _ (.cons _ (.cons _ (.cons _ (.cons_cons _ (.cons_cons _ .slnil)))))))))).pickR (pick_cons 1 rfl (pick_cons 4 rfl (pick_cons 5 rfl pick_nil)))), exg (by kernel_rfl)⟩
  clear hj hs
  rintro a w ⟨b3, b5, y7_A, y7_n, y7_c, y7_H, hs, g9, rfl⟩
  refine then_n (ks8 _ _ (xseq_k fun KS140 ks140 => (xseq_k fun KS141 ks141 => (xregS [0, 1] fun KR142 kr142 => ?_))))
  refine wpS.tk 0 true (some 21) (.pointer (some ⟨b5, 0, none⟩)) (yld_load1 (e := 62) (o := 0) hs 2 rfl (by kernel_rfl) (by kernel_rfl) (by rfl) .grow) ?_
  refine wpS.only 1 (op_inline (d := (some 22)) (f := 57) (args := #[.pointer (some ⟨b5, 0, none⟩), .bool true]) (by kernel_rfl) (fun _ => by kernel_rfl) fun R143 kI143 => ?_)
  refine calls_k Try.func57 rfl fun Q143 qq143 => ?_
  refine wp_conv (a' := ⟨#[.pointer (some ⟨b5, 0, none⟩), .bool true, undef, undef, undef, undef, undef, undef, undef, undef, undef, undef, undef], []⟩) (by kernel_rfl) ?_
  refine xseq_k fun KS144 ks144 => ?_
  refine xregS [0, 1] fun KR145 kr145 => ?_
  refine wpS.only 0 (op_box (t := 4) (v := .bool true) (d := (some 3)) (by kernel_rfl) hs ([.bool true]) (by kernel_rfl) (by kernel_rfl) ?_)
  intro b63 w gw hs
  refine ⟨fun _ => trivial, ?_⟩
  refine wpS.q 1 4 (.nilFunc) ?_
  refine wpS.fin rfl (kr145 _ _ (then_n (ks144 _ _ (xseq_k fun KS146 ks146 => (xregS [0, 1, 2, 3, 4, 5, 6, 7] fun KR147 kr147 => ?_)))))
  refine wpS.qs [(0, 6, .pointer (some ⟨b5, 0, none⟩)), (1, 7, .pointer (some ⟨b5, 0, none⟩)), (2, 8, .pointer (some ⟨b5, 1, none⟩))] ?_
  refine wpS.tk 3 true (some 9) (.slice y7_A y7_n y7_c) (yld_load1 (e := 44) (o := 1) hs 2 rfl (by kernel_rfl) (by kernel_rfl) (by rfl) .grow) ?_
  refine wpS.tk 4 false (some 10) (.int .i64 (y7.length : Int)) (yld_lenLL (LLP.mk (hs.rowL 1 rfl) (hs.innR 0 rfl)) (fun _ => by kernel_rfl)) ?_
  refine wpS.q 5 11 (.int .i64 (imul .i64 6 (y7.length : Int))) ?_
  refine wpS.only 6 (op_alloc (t := 3) (d := (some 5)) (by kernel_rfl) hs ([.int .i64 0]) (.int .i64 0) (by kernel_rfl) (by kernel_rfl) (by kernel_rfl) ?_)
  intro b64 w gw hs
  refine ⟨fun _ => trivial, ?_⟩
  obtain ⟨x65, hx, h⟩ := of_bind h
  refine wpS.only 7 (op_store1 (t := 3) (o := 0) (v := .int .i64 x65) (d := none) (by kernel_rfl) hs 0 rfl (by cases hx; kernel_rfl) rfl (by kernel_rfl) (by simp) ?_)
  intro w kp hs
  refine ⟨fun _ => trivial, ?_⟩
  refine wpS.fin rfl (kr147 _ _ (then_n (ks146 _ _ (xseq_k fun KS148 ks148 => (xregS [0, 1] fun KR149 kr149 => ?_)))))
  refine wpS.qs [(0, 12, .func (.func 94) #[] #[.pointer (some ⟨b64, 0, none⟩), .pointer (some ⟨b63, 0, none⟩)]), (1, 4, .func (.func 94) #[] #[.pointer (some ⟨b64, 0, none⟩), .pointer (some ⟨b63, 0, none⟩)])] ?_
  refine wpS.fin rfl (kr149 _ _ (then_n (ks148 _ _ (xret ?_))))
  refine qq143 _ _ (post_ret (by kernel_rfl) (run_results [.tmp 4] [.func (.func 94) #[] #[.pointer (some ⟨b64, 0, none⟩), .pointer (some ⟨b63, 0, none⟩)]] (by kernel_rfl) (.cons (res_tmp (by kernel_rfl)) .nil)) ?_)
  refine kI143 _ _ ?_
  refine ⟨fun _ => trivial, ?_⟩
  refine wpS.fin rfl (kr142 _ _ (then_n (ks141 _ _ (xblock ?_))))
  refine wp_range (gf := 94) (lb := #[.pointer (some ⟨b64, 0, none⟩), .pointer (some ⟨b63, 0, none⟩)]) hs (by kernel_rfl) (fun _ _ => by kernel_rfl) fun l150 D150 rec150 w hok150 hs R150 kR150 => ?_
  refine calls_kn Try.func94 rfl fun Q150 qq150 qn150 => ?_
  refine wp_conv (a' := ⟨#[.func (.yield l150) #[] #[], .pointer (some ⟨b64, 0, none⟩), .pointer (some ⟨b63, 0, none⟩), undef, undef, undef, undef, undef, undef, undef, undef, undef, undef, undef, undef, undef, undef, undef, undef, undef, undef], []⟩) (by kernel_rfl) ?_
  refine xseq_k fun KS151 ks151 => ?_
  refine xregS [0] fun KR152 kr152 => ?_
  refine wpS.q 0 4 (.int .i64 1) ?_
  refine wpS.fin rfl (kr152 _ _ (then_n (ks151 _ _ ?_)))
  obtain ⟨⟨y69, y70_0⟩, hy, hk1⟩ := of_bind h
  refine wp_exq (N := fun a w => ∃ (y69_H : List HS), St w0 [] [.obj l150 (.loop (rec150 .ready none)), .obj D150 (.deferred (some [])), .blk b64 ([.int .i64 x65]) 3, .blk b63 ([.bool true]) 4, .ownL CS y7_A y7_n y7_c y69_H 26, .blk b5 ([.int .u64 y70_0, .slice y7_A y7_n y7_c]) 72, .blk b3 ([.pointer (some ⟨b5, 0, none⟩)]) 62, .blk b1 ([.slice a0_A a0_n a0_c]) 26] [.inn (CI .u8) y69_H y69, .rowL (CI .u8) a0_A a0_n a0_c a0, .rowL (CI .u8) a1_A a1_n a1_c a1] w ∧ ∃ g154 : Nat → Value, a = ⟨#[.func (.yield l150) #[] #[], .pointer (some ⟨b64, 0, none⟩), .pointer (some ⟨b63, 0, none⟩), undef, (g154 4), (g154 5), (g154 6), (g154 7), (g154 8), (g154 9), (g154 10), (g154 11), (g154 12), (g154 13), (g154 14), (g154 15), (g154 16), (g154 17), (g154 18), (g154 19), (g154 20)], []⟩) (fun N1 nn1 => ?_) ?_
  ·clear hk1
   refine xblock ?_
   refine wp_loop_k (fun n a w => ∃ z66 z67 z68_0, ∃ (z67_H : List HS), wrap_Unwrap.l1 K n a0 x65 z66 z67 z68_0 = some (y69, y70_0) ∧ St w0 [] [.obj l150 (.loop (rec150 .ready none)), .obj D150 (.deferred (some [])), .blk b64 ([.int .i64 x65]) 3, .blk b63 ([.bool true]) 4, .ownL CS y7_A y7_n y7_c z67_H 26, .blk b5 ([.int .u64 z68_0, .slice y7_A y7_n y7_c]) 72, .blk b3 ([.pointer (some ⟨b5, 0, none⟩)]) 62, .blk b1 ([.slice a0_A a0_n a0_c]) 26] [.inn (CI .u8) z67_H z67, .rowL (CI .u8) a0_A a0_n a0_c a0, .rowL (CI .u8) a1_A a1_n a1_c a1] w ∧ ∃ g153 : Nat → Value, a = ⟨#[.func (.yield l150) #[] #[], .pointer (some ⟨b64, 0, none⟩), .pointer (some ⟨b63, 0, none⟩), undef, .int .i64 z66, (g153 5), (g153 6), (g153 7), (g153 8), (g153 9), (g153 10), (g153 11), (g153 12), (g153 13), (g153 14), (g153 15), (g153 16), (g153 17), (g153 18), (g153 19), (g153 20)], []⟩) K ⟨1, y7, y6_0, y7_H, hy, hs.conv rfl, exg (by kernel_rfl)⟩ ?_
   clear hs h hy
   rintro n a w ⟨z66, z67, z68_0, z67_H, h, hs, g153, rfl⟩ KL1 kl1
   cases n with
   | zero => exact nomatch (show none = some _ from h)
   | succ n =>
    refine xseq_k fun KS155 ks155 => ?_
    refine xseq_k fun KS156 ks156 => ?_
    refine xregS [0, 1, 2] fun KR157 kr157 => ?_
    refine wpS.q 0 6 (.int .i64 z66) ?_
    refine wpS.tk 1 true (some 7) (.int .i64 x65) (yld_load1 (e := 3) (o := 0) hs 2 rfl (by kernel_rfl) (by kernel_rfl) (by rfl) .grow) ?_
    rcases of_if h with ⟨hc, h⟩ | ⟨hc, h⟩
    ·refine wpS.tk 2 false (some 8) (.bool true) (yld_b (dt hc) (fun _ => by kernel_rfl)) ?_
     refine wpS.fin rfl (kr157 _ _ (then_n (ks156 _ _ (wp_cond_t (by kernel_rfl) (xskip (then_n (ks155 _ _ (xseq_k fun KS158 ks158 => (xblock (xseq_k fun KS159 ks159 => (xregS [0, 1] fun KR160 kr160 => ?_)))))))))))
     refine wpS.qs [(0, 11, .int .i64 z66), (1, 5, .int .i64 z66)] ?_
     refine wpS.fin rfl (kr160 _ _ (then_n (ks159 _ _ (xseq_k fun KS161 ks161 => (xseq_k fun KS162 ks162 => (xregS [0] fun KR163 kr163 => ?_))))))
     refine wpS.tk 0 true (some 12) (.bool true) (yld_load1 (e := 4) (o := 0) hs 3 rfl (by kernel_rfl) (by kernel_rfl) (by rfl) .grow) ?_
     refine wpS.fin rfl (kr163 _ _ (then_n (ks162 _ _ (wp_cond_t (by kernel_rfl) (xregS [0, 1, 2, 3, 4] fun KR164 kr164 => ?_)))))
     refine wpS.tk 0 true (some 13) (.int .i64 x65) (yld_load1 (e := 3) (o := 0) hs 2 rfl (by kernel_rfl) (by kernel_rfl) (by rfl) .grow) ?_
     refine wpS.qs [(1, 14, .int .i64 (iadd .i64 x65 1)), (2, 15, .int .i64 z66), (3, 16, .int .i64 (isub .i64 (iadd .i64 x65 1) z66))] ?_
     obtain ⟨x71, hx, h⟩ := of_bind h
     refine wpS.tk 4 false (some 5) (.int .i64 x71) (yld_int hx (fun _ => by kernel_rfl)) ?_
     refine wpS.fin rfl (kr164 _ _ (then_n (ks161 _ _ (xseq_k fun KS165 ks165 => (xregS [0, 1, 2, 3] fun KR166 kr166 => ?_)))))
     refine wpS.qs [(0, 17, .func (.yield l150) #[] #[]), (1, 18, .int .i64 x71)] ?_
     refine wpS.onlyR 2 (op_yield (d := (some 19)) (by kernel_rfl) hs 0 rfl hok150 #[.int .i64 x71] (by kernel_rfl) rfl (tm := #[.slice a0_A a0_n a0_c, .slice a1_A a1_n a1_c, .pointer (some ⟨b1, 0, none⟩), undef, .slice none 0 0, .int .i64 0, .int .i64 r2, .pointer (some ⟨b3, 0, none⟩), undef, .slice a0_A a0_n a0_c, .slice a1_A a1_n a1_c, .int .i64 r2, .int .i64 r2, .bool false, undef, (g9 15), (g9 16), (g9 17), (g9 18), (g9 19), (g9 20), .pointer (some ⟨b5, 0, none⟩), .func (.func 94) #[] #[.pointer (some ⟨b64, 0, none⟩), .pointer (some ⟨b63, 0, none⟩)], .int .i64 x71, undef, undef, undef, undef, undef, undef, undef, undef, undef, undef, undef, undef, undef, undef]) (by kernel_rfl) (by kernel_rfl) fun K167 k167 => ?_)
     refine xregS [0] fun KR168 kr168 => ?_
     refine wpS.q 0 8 (.int .i64 x71) ?_
     refine wpS.fin rfl (kr168 _ _ (then_n (k167 _ _ 0 _ _ hs rfl fun w Qr167 hs qr167 => ?_)))
     dsimp only [List.set] at hs
     refine xblock (xregS [0, 1, 2, 3] fun KR169 kr169 => ?_)
     refine wpS.tk 0 true (some 24) (.pointer (some ⟨b5, 0, none⟩)) (yld_load1 (e := 62) (o := 0) hs 6 rfl (by kernel_rfl) (by kernel_rfl) (by rfl) .grow) ?_
     refine wpS.tk 1 true (some 25) (.slice a0_A a0_n a0_c) (yld_load1 (e := 26) (o := 0) hs 7 rfl (by kernel_rfl) (by kernel_rfl) (by rfl) .grow) ?_
     refine wpS.q 2 26 (.int .i64 x71) ?_
     have hs := hs.front 4 rfl
     have hs := hs.front 5 rfl
     try dsimp only [List.eraseIdx] at hs
     obtain ⟨⟨r72, r73⟩, hg, h⟩ := of_bind h
     refine wpS.only 3 (wpOp_call (d := (some 27)) (by kernel_rfl) (fun _ => by kernel_rfl) (wrap_shelf_undo_s.ok hg hs) ?_)
     rintro e w ⟨y74_H, rfl, hs⟩
     refine ⟨_, rfl, ?_⟩
     refine ⟨fun _ => trivial, ?_⟩
     refine wpS.fin rfl (kr169 _ _ (inBlock_n ?_))
     refine round_n qr167 hs 2 rfl fun w hs => ?_
     dsimp only [List.set] at hs
     refine ⟨fun _ => trivial, ?_⟩
     refine wpS.q 3 20 (.bool false) ?_
     refine wpS.fin rfl (kr166 _ _ (then_n (ks165 _ _ (wp_cond_f (by kernel_rfl) (xskip (inBlock_n (then_n (ks158 _ _ (xregS [0, 1, 2] fun KR170 kr170 => ?_)))))))))
     refine wpS.qs [(0, 9, .int .i64 z66), (1, 10, .int .i64 (iadd .i64 z66 1))] ?_
     obtain ⟨x75, hx, h⟩ := of_bind h
     refine wpS.tk 2 false (some 4) (.int .i64 x75) (yld_int hx (fun _ => by kernel_rfl)) ?_
     refine wpS.fin rfl (kr170 _ _ ?_)
     have hs := hs.front 1 rfl
     have hs := hs.front 5 rfl
     have hs := hs.front 5 rfl
     have hs := hs.front 5 rfl
     have hs := hs.front 5 rfl
     try dsimp only [List.eraseIdx] at hs
     exact then_n (kl1 _ _ ⟨n, Nat.lt_succ_self n, x75, r73, r72, y74_H, h, (hs.conv rfl), exg (by kernel_rfl)⟩)
    refine wpS.tk 2 false (some 8) (.bool false) (yld_b (df hc) (fun _ => by kernel_rfl)) ?_
    refine wpS.fin rfl (kr157 _ _ (then_n (ks156 _ _ (wp_cond_f (by kernel_rfl) (xexit (then_x (then_x (inBlock_hit ?_))))))))
    obtain ⟨q0, qr0⟩ := Prod.mk.inj (of_some h)
    have q1 := qr0
    subst q0
    subst q1
    exact exq_n (nn1 _ _ ⟨z67_H, (hs.conv rfl), exg (by kernel_rfl)⟩)
  clear hs h hy
  rintro a w ⟨y69_H, hs, g154, rfl⟩
  have h := hk1
  refine qn150 _ _ (post_nrm (by kernel_rfl) (run_results [] [] (by kernel_rfl) .nil) ?_)
  refine range_n (a1 := ⟨#[.slice a0_A a0_n a0_c, .slice a1_A a1_n a1_c, .pointer (some ⟨b1, 0, none⟩), undef, .slice none 0 0, .int .i64 0, .int .i64 r2, .pointer (some ⟨b3, 0, none⟩), undef, .slice a0_A a0_n a0_c, .slice a1_A a1_n a1_c, .int .i64 r2, .int .i64 r2, .bool false, undef, (g9 15), (g9 16), (g9 17), (g9 18), (g9 19), (g9 20), .pointer (some ⟨b5, 0, none⟩), .func (.func 94) #[] #[.pointer (some ⟨b64, 0, none⟩), .pointer (some ⟨b63, 0, none⟩)], undef, undef, undef, undef, undef, undef, undef, undef, undef, undef, undef, undef, undef, undef, undef], [lmark D150]⟩) kR150 (by kernel_rfl) hs 0 rfl fun w hs => ?_
  dsimp only [List.set] at hs
  refine inBlock_n (then_n (ks140 _ _ (xseq_k fun KS171 ks171 => (xseq_k fun KS172 ks172 => (xregS [0, 1, 2, 3, 4] fun KR173 kr173 => ?_)))))
  refine wpS.tk 0 true (some 28) (.pointer (some ⟨b5, 0, none⟩)) (yld_load1 (e := 62) (o := 0) hs 6 rfl (by kernel_rfl) (by kernel_rfl) (by rfl) .grow) ?_
  refine wpS.qs [(1, 29, .pointer (some ⟨b5, 0, none⟩)), (2, 30, .pointer (some ⟨b5, 0, none⟩))] ?_
  refine wpS.tk 3 true (some 31) (.int .u64 y70_0) (yld_load1 (e := 64) (o := 0) hs 5 rfl (by kernel_rfl) (by kernel_rfl) (by rfl) .grow) ?_
  rcases of_if h with ⟨hc, h⟩ | ⟨hc, h⟩
  ·refine wpS.tk 4 false (some 32) (.bool false) (yld_b (nf hc) (fun _ => by kernel_rfl)) ?_
   refine wpS.fin rfl (kr173 _ _ (then_n (ks172 _ _ (wp_cond_f (by kernel_rfl) (xskip (then_n (ks171 _ _ (xseq_k fun KS174 ks174 => (xregS [0, 1, 2, 3, 4, 5, 6] fun KR175 kr175 => ?_)))))))))
   refine wpS.tk 0 true (some 33) (.pointer (some ⟨b5, 0, none⟩)) (yld_load1 (e := 62) (o := 0) hs 6 rfl (by kernel_rfl) (by kernel_rfl) (by rfl) .grow) ?_
   refine wpS.qs [(1, 34, .pointer (some ⟨b5, 0, none⟩)), (2, 35, .pointer (some ⟨b5, 1, none⟩))] ?_
   refine wpS.tk 3 true (some 36) (.slice y7_A y7_n y7_c) (yld_load1 (e := 44) (o := 1) hs 5 rfl (by kernel_rfl) (by kernel_rfl) (by rfl) .grow) ?_
   obtain ⟨r76, hg, h⟩ := of_bind h
   refine wpS.only 4 (op_callH (d := (some 37)) (by kernel_rfl) hs (fun _ => by kernel_rfl) (bits_Join.ok hg _ (LLP.mk (hs.rowL 4 rfl) (hs.innR 0 rfl))) ?_)
   rintro ⟨r76_A, r76_n, r76_c⟩ w gw hs
   have hs := hs.conv (L' := [.ownL (CI .u8) r76_A r76_n r76_c r76 5, .obj l150 (.loop (rec150 .exhausted none)), .obj D150 (.deferred (some [])), .blk b64 ([.int .i64 x65]) 3, .blk b63 ([.bool true]) 4, .ownL CS y7_A y7_n y7_c y69_H 26, .blk b5 ([.int .u64 y70_0, .slice y7_A y7_n y7_c]) 72, .blk b3 ([.pointer (some ⟨b5, 0, none⟩)]) 62, .blk b1 ([.slice a0_A a0_n a0_c]) 26]) rfl
   refine ⟨fun _ => trivial, ?_⟩
   refine wpS.qs [(5, 4, .slice r76_A r76_n r76_c), (6, 5, .int .i64 0)] ?_
   refine wpS.fin rfl (kr175 _ _ (then_n (ks174 _ _ (xret ?_))))
   obtain ⟨q0, qr0⟩ := Prod.mk.inj (of_some h)
   have q1 := qr0
   subst q0
   subst q1
   refine qq _ _ ?_
   refine leaves_mark hs 2 rfl fun w hs => ?_
   dsimp only [List.set] at hs
   exact leaves_end (run_results [.tmp 4, .tmp 5] [.slice r76_A r76_n r76_c, .int .i64 0] (by kernel_rfl) (.cons (res_tmp (by kernel_rfl)) (.cons (res_tmp (by kernel_rfl)) .nil))) ⟨⟨r76_A, r76_n, r76_c⟩, congrArg Ending.returned (by kernel_rfl), ((hs.drop (.cons_cons _ (.cons _ (.cons _ (.cons _ (.cons _ (.cons _ (.cons _ (.cons _ (.cons _ .slnil)))))))))).pickR pick_nil)⟩
  refine wpS.tk 4 false (some 32) (.bool true) (yld_b (nt hc) (fun _ => by kernel_rfl)) ?_
  refine wpS.fin rfl (kr173 _ _ (then_n (ks172 _ _ (wp_cond_t (by kernel_rfl) (xseq_k fun KS176 ks176 => (xregS [0, 1] fun KR177 kr177 => ?_))))))
  refine wpS.qs [(0, 4, .slice none 0 0), (1, 5, .int .i64 16)] ?_
  refine wpS.fin rfl (kr177 _ _ (then_n (ks176 _ _ (xret (then_r ?_)))))
  obtain ⟨q0, qr0⟩ := Prod.mk.inj (of_some h)
  have q1 := qr0
  subst q0
  subst q1
  refine qq _ _ ?_
  refine leaves_mark hs 1 rfl fun w hs => ?_
  dsimp only [List.set] at hs
  have hs := hs.addNilL (CI .u8) 5
  exact leaves_end (run_results [.tmp 4, .tmp 5] [.slice none 0 0, .int .i64 16] (by kernel_rfl) (.cons (res_tmp (by kernel_rfl)) (.cons (res_tmp (by kernel_rfl)) .nil))) ⟨⟨none, 0, 0⟩, congrArg Ending.returned (by kernel_rfl), ((hs.drop (.cons_cons _ (.cons _ (.cons _ (.cons _ (.cons _ (.cons _ (.cons _ (.cons _ (.cons _ .slnil)))))))))).pickR pick_nil)⟩
 refine wpS.tk 1 false (some 13) (.bool true) (yld_b (nt hc) (fun _ => by kernel_rfl)) ?_
 refine wpS.fin rfl (kr7 _ _ (then_n (ks6 _ _ (wp_cond_t (by kernel_rfl) (xseq_k fun KS178 ks178 => (xregS [0, 1, 2] fun KR179 kr179 => ?_))))))
 refine wpS.qs [(0, 14, .int .i64 r2), (1, 4, .slice none 0 0), (2, 5, .int .i64 r2)] ?_
 refine wpS.fin rfl (kr179 _ _ (then_n (ks178 _ _ (xret (then_r ?_)))))
 obtain ⟨q0, qr0⟩ := Prod.mk.inj (of_some h)
 have q1 := qr0
 subst q0
 subst q1
 refine qq _ _ ?_
 have hs := hs.addNilL (CI .u8) 5
 exact leaves_end (run_results [.tmp 4, .tmp 5] [.slice none 0 0, .int .i64 r2] (by kernel_rfl) (.cons (res_tmp (by kernel_rfl)) (.cons (res_tmp (by kernel_rfl)) .nil))) ⟨⟨none, 0, 0⟩, congrArg Ending.returned (by kernel_rfl), ((hs.drop (.cons_cons _ (.cons _ .slnil))).pickR pick_nil)⟩

theorem law11_awake.ok {K : Nat} {r0 : Bool} (h : law11_awake.f K = some r0) (w0 : World) : Ret Try.prog 23 #[] w0 (.bool r0) := by
 refine calls_k Try.func23 rfl fun Q qq => ?_
 have hs := St.start w0
 refine wp_conv (a' := ⟨#[undef, undef, undef, undef, undef, undef, undef, undef, undef, undef, undef, undef, undef, undef, undef, undef, undef, undef, undef, undef, undef, undef, undef], []⟩) (by kernel_rfl) ?_
 refine xseq_k fun KS1 ks1 => ?_
 refine xregS [0] fun KR2 kr2 => ?_
 refine wpS.q 0 0 (.bool false) ?_
 refine wpS.fin rfl (kr2 _ _ (then_n (ks1 _ _ (xseq_k fun KS3 ks3 => ?_))))
 obtain ⟨y1, hj, h⟩ := of_bind h
 refine wp_join (N := fun a w => St w0 [] [] [] w ∧ ∃ g4 : Nat → Value, a = ⟨#[.bool false, (g4 1), .int .i64 y1, undef, undef, (g4 5), (g4 6), (g4 7), (g4 8), (g4 9), (g4 10), undef, undef, undef, undef, undef, undef, undef, undef, undef, undef, undef, undef], []⟩) (fun N nj => ?_) ?_
 ·clear h
  have h := hj
  refine wp_regG [] (fun k => True) 8 (by kernel_rfl) (by kernel_rfl) (by kernel_rfl) fun KR5 kr5 => ?_
  have hs := hs.drawn1
  refine wpG.many [0, 1] (by kernel_rfl) (by decide) (forall_cons ?_ (forall_cons ?_ forall_nil))
  ·refine (op_makeT (C := (CI .u8)) (t := 26) (e := 5) (bytes := 1) (B := 140737488355328) (kl := .i64) (kc := .i64) (x := 16) (d := (some 6)) (by kernel_rfl) hs (by kernel_rfl) (by kernel_rfl) (by kernel_rfl) (by kernel_rfl) (by kernel_rfl) (by decide) (by decide) (by decide) (by decide) ?_)
   intro s2_A s2_n s2_c w gw hs
   refine ⟨.of gw, ?_⟩
   refine wpG.only 1 (by kernel_rfl) (op_makeT (C := (CI .u8)) (t := 26) (e := 5) (bytes := 1) (B := 140737488355328) (kl := .i64) (kc := .i64) (x := 8) (d := (some 7)) (by kernel_rfl) hs (by kernel_rfl) (by kernel_rfl) (by kernel_rfl) (by kernel_rfl) (by kernel_rfl) (by decide) (by decide) (by decide) (by decide) ?_)
   intro s3_A s3_n s3_c w gw hs
   refine ⟨.of gw, ?_⟩
   obtain ⟨⟨r4, r5⟩, hg, h⟩ := of_bind h
   refine wpG.only 2 (by kernel_rfl) (op_callH (d := (some 8)) (by kernel_rfl) hs (fun _ => by kernel_rfl) (wrap_Wrap.ok hg _ (hs.rowL 1 rfl) (hs.rowL 0 rfl)) ?_)
   rintro ⟨r4_A, r4_n, r4_c⟩ w gw hs
   have hs := hs.conv (L' := [.ownL (CI .u8) r4_A r4_n r4_c r4 5, .ownL (CI .u8) s3_A s3_n s3_c (List.replicate (8 : Int).toNat (Cod.zero (CI .u8))) 5, .ownL (CI .u8) s2_A s2_n s2_c (List.replicate (16 : Int).toNat (Cod.zero (CI .u8))) 5]) rfl
   refine ⟨.of gw, ?_⟩
   refine wpG.q 3 5 (.tuple #[.slice r4_A r4_n r4_c, .int .i64 r5]) ?_
   refine wpG.q 4 9 (.slice r4_A r4_n r4_c) ?_
   refine wpG.q 5 10 (.int .i64 r5) ?_
   refine wpG.q 6 1 (.slice r4_A r4_n r4_c) ?_
   refine wpG.q 7 2 (.int .i64 r5) ?_
   refine wpG.fin (by kernel_rfl) rfl (kr5 _ _ ?_)
   have q0 := of_some h
   subst q0
   exact nj _ _ ⟨(hs.drop (.cons _ (.cons _ (.cons _ .slnil)))), exg (by kernel_rfl)⟩
  refine (op_makeT (C := (CI .u8)) (t := 26) (e := 5) (bytes := 1) (B := 140737488355328) (kl := .i64) (kc := .i64) (x := 8) (d := (some 7)) (by kernel_rfl) hs (by kernel_rfl) (by kernel_rfl) (by kernel_rfl) (by kernel_rfl) (by kernel_rfl) (by decide) (by decide) (by decide) (by decide) ?_)
  intro s6_A s6_n s6_c w gw hs
  refine ⟨.of gw, ?_⟩
  refine wpG.only 0 (by kernel_rfl) (op_makeT (C := (CI .u8)) (t := 26) (e := 5) (bytes := 1) (B := 140737488355328) (kl := .i64) (kc := .i64) (x := 16) (d := (some 6)) (by kernel_rfl) hs (by kernel_rfl) (by kernel_rfl) (by kernel_rfl) (by kernel_rfl) (by kernel_rfl) (by decide) (by decide) (by decide) (by decide) ?_)
  intro s7_A s7_n s7_c w gw hs
  refine ⟨.of gw, ?_⟩
  obtain ⟨⟨r8, r9⟩, hg, h⟩ := of_bind h
  refine wpG.only 2 (by kernel_rfl) (op_callH (d := (some 8)) (by kernel_rfl) hs (fun _ => by kernel_rfl) (wrap_Wrap.ok hg _ (hs.rowL 0 rfl) (hs.rowL 1 rfl)) ?_)
  rintro ⟨r8_A, r8_n, r8_c⟩ w gw hs
  have hs := hs.conv (L' := [.ownL (CI .u8) r8_A r8_n r8_c r8 5, .ownL (CI .u8) s7_A s7_n s7_c (List.replicate (16 : Int).toNat (Cod.zero (CI .u8))) 5, .ownL (CI .u8) s6_A s6_n s6_c (List.replicate (8 : Int).toNat (Cod.zero (CI .u8))) 5]) rfl
  refine ⟨.of gw, ?_⟩
  refine wpG.q 3 5 (.tuple #[.slice r8_A r8_n r8_c, .int .i64 r9]) ?_
  refine wpG.q 4 9 (.slice r8_A r8_n r8_c) ?_
  refine wpG.q 5 10 (.int .i64 r9) ?_
  refine wpG.q 6 1 (.slice r8_A r8_n r8_c) ?_
  refine wpG.q 7 2 (.int .i64 r9) ?_
  refine wpG.fin (by kernel_rfl) rfl (kr5 _ _ ?_)
  have q0 := of_some h
  subst q0
  exact nj _ _ ⟨(hs.drop (.cons _ (.cons _ (.cons _ .slnil)))), exg (by kernel_rfl)⟩
 clear hj hs
 rintro a w ⟨hs, g4, rfl⟩
 refine then_n (ks3 _ _ (xseq_k fun KS6 ks6 => ?_))
 obtain ⟨y10, hj, h⟩ := of_bind h
 refine wp_join (N := fun a w => St w0 [] [] [] w ∧ ∃ g7 : Nat → Value, a = ⟨#[.bool false, (g4 1), .int .i64 y1, (g7 3), .int .i64 y10, (g4 5), (g4 6), (g4 7), (g4 8), (g4 9), (g4 10), (g7 11), (g7 12), (g7 13), (g7 14), (g7 15), (g7 16), undef, undef, undef, undef, undef, undef], []⟩) (fun N nj => ?_) ?_
 ·clear h
  have h := hj
  refine wp_regG [] (fun k => True) 8 (by kernel_rfl) (by kernel_rfl) (by kernel_rfl) fun KR8 kr8 => ?_
  have hs := hs.drawn1
  refine wpG.many [0, 1] (by kernel_rfl) (by decide) (forall_cons ?_ (forall_cons ?_ forall_nil))
  ·refine (op_makeT (C := (CI .u8)) (t := 26) (e := 5) (bytes := 1) (B := 140737488355328) (kl := .i64) (kc := .i64) (x := 16) (d := (some 12)) (by kernel_rfl) hs (by kernel_rfl) (by kernel_rfl) (by kernel_rfl) (by kernel_rfl) (by kernel_rfl) (by decide) (by decide) (by decide) (by decide) ?_)
   intro s11_A s11_n s11_c w gw hs
   refine ⟨.of gw, ?_⟩
   refine wpG.only 1 (by kernel_rfl) (op_makeT (C := (CI .u8)) (t := 26) (e := 5) (bytes := 1) (B := 140737488355328) (kl := .i64) (kc := .i64) (x := 24) (d := (some 13)) (by kernel_rfl) hs (by kernel_rfl) (by kernel_rfl) (by kernel_rfl) (by kernel_rfl) (by kernel_rfl) (by decide) (by decide) (by decide) (by decide) ?_)
   intro s12_A s12_n s12_c w gw hs
   refine ⟨.of gw, ?_⟩
   obtain ⟨⟨r13, r14⟩, hg, h⟩ := of_bind h
   refine wpG.only 2 (by kernel_rfl) (op_callH (d := (some 14)) (by kernel_rfl) hs (fun _ => by kernel_rfl) (wrap_Unwrap.ok hg _ (hs.rowL 1 rfl) (hs.rowL 0 rfl)) ?_)
   rintro ⟨r13_A, r13_n, r13_c⟩ w gw hs
   have hs := hs.conv (L' := [.ownL (CI .u8) r13_A r13_n r13_c r13 5, .ownL (CI .u8) s12_A s12_n s12_c (List.replicate (24 : Int).toNat (Cod.zero (CI .u8))) 5, .ownL (CI .u8) s11_A s11_n s11_c (List.replicate (16 : Int).toNat (Cod.zero (CI .u8))) 5]) rfl
   refine ⟨.of gw, ?_⟩
   refine wpG.q 3 11 (.tuple #[.slice r13_A r13_n r13_c, .int .i64 r14]) ?_
   refine wpG.q 4 15 (.slice r13_A r13_n r13_c) ?_
   refine wpG.q 5 16 (.int .i64 r14) ?_
   refine wpG.q 6 3 (.slice r13_A r13_n r13_c) ?_
   refine wpG.q 7 4 (.int .i64 r14) ?_
   refine wpG.fin (by kernel_rfl) rfl (kr8 _ _ ?_)
   have q0 := of_some h
   subst q0
   exact nj _ _ ⟨(hs.drop (.cons _ (.cons _ (.cons _ .slnil)))), exg (by kernel_rfl)⟩
  refine (op_makeT (C := (CI .u8)) (t := 26) (e := 5) (bytes := 1) (B := 140737488355328) (kl := .i64) (kc := .i64) (x := 24) (d := (some 13)) (by kernel_rfl) hs (by kernel_rfl) (by kernel_rfl) (by kernel_rfl) (by kernel_rfl) (by kernel_rfl) (by decide) (by decide) (by decide) (by decide) ?_)
  intro s15_A s15_n s15_c w gw hs
  refine ⟨.of gw, ?_⟩
  refine wpG.only 0 (by kernel_rfl) (op_makeT (C := (CI .u8)) (t := 26) (e := 5) (bytes := 1) (B := 140737488355328) (kl := .i64) (kc := .i64) (x := 16) (d := (some 12)) (by kernel_rfl) hs (by kernel_rfl) (by kernel_rfl) (by kernel_rfl) (by kernel_rfl) (by kernel_rfl) (by decide) (by decide) (by decide) (by decide) ?_)
  intro s16_A s16_n s16_c w gw hs
  refine ⟨.of gw, ?_⟩
  obtain ⟨⟨r17, r18⟩, hg, h⟩ := of_bind h
  refine wpG.only 2 (by kernel_rfl) (op_callH (d := (some 14)) (by kernel_rfl) hs (fun _ => by kernel_rfl) (wrap_Unwrap.ok hg _ (hs.rowL 0 rfl) (hs.rowL 1 rfl)) ?_)
  rintro ⟨r17_A, r17_n, r17_c⟩ w gw hs
  have hs := hs.conv (L' := [.ownL (CI .u8) r17_A r17_n r17_c r17 5, .ownL (CI .u8) s16_A s16_n s16_c (List.replicate (16 : Int).toNat (Cod.zero (CI .u8))) 5, .ownL (CI .u8) s15_A s15_n s15_c (List.replicate (24 : Int).toNat (Cod.zero (CI .u8))) 5]) rfl
  refine ⟨.of gw, ?_⟩
  refine wpG.q 3 11 (.tuple #[.slice r17_A r17_n r17_c, .int .i64 r18]) ?_
  refine wpG.q 4 15 (.slice r17_A r17_n r17_c) ?_
  refine wpG.q 5 16 (.int .i64 r18) ?_
  refine wpG.q 6 3 (.slice r17_A r17_n r17_c) ?_
  refine wpG.q 7 4 (.int .i64 r18) ?_
  refine wpG.fin (by kernel_rfl) rfl (kr8 _ _ ?_)
  have q0 := of_some h
  subst q0
  exact nj _ _ ⟨(hs.drop (.cons _ (.cons _ (.cons _ .slnil)))), exg (by kernel_rfl)⟩
 clear hj hs
 rintro a w ⟨hs, g7, rfl⟩
 refine then_n (ks6 _ _ (xseq_k fun KS9 ks9 => (xregS [0, 1, 2, 3, 4, 5, 6] fun KR10 kr10 => ?_)))
 refine wpS.q 0 17 (.int .i64 y1) ?_
 rcases of_if h with ⟨hc, h⟩ | ⟨hc, h⟩
 ·refine wpS.tk 1 false (some 18) (.bool true) (yld_b (et hc) (fun _ => by kernel_rfl)) ?_
  refine wpS.qs [(2, 19, .bool true), (3, 20, .int .i64 y10), (4, 21, .bool (y10 == 16)), (5, 22, .bool (y10 == 16)), (6, 0, .bool (y10 == 16))] ?_
  refine wpS.fin rfl (kr10 _ _ (then_n (ks9 _ _ (xret ?_))))
  have q0 := of_some h
  subst q0
  exact qq _ _ (post_ret (by kernel_rfl) (run_results [.tmp 0] [.bool (y10 == 16)] (by kernel_rfl) (.cons (res_tmp (by kernel_rfl)) .nil)) ⟨congrArg Ending.returned (by kernel_rfl), hs.none⟩)
 refine wpS.tk 1 false (some 18) (.bool false) (yld_b (ef hc) (fun _ => by kernel_rfl)) ?_
 refine wpS.qs [(2, 19, .bool false), (3, 20, undef), (4, 21, undef), (5, 22, .bool false), (6, 0, .bool false)] ?_
 refine wpS.fin rfl (kr10 _ _ (then_n (ks9 _ _ (xret ?_))))
 have q0 := of_some h
 subst q0
 exact qq _ _ (post_ret (by kernel_rfl) (run_results [.tmp 0] [.bool false] (by kernel_rfl) (.cons (res_tmp (by kernel_rfl)) .nil)) ⟨congrArg Ending.returned (by kernel_rfl), hs.none⟩)
end Go.Proofs.Ytmpagpbnpgcecaa
