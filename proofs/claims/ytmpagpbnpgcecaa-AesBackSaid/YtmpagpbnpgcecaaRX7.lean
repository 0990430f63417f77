/- Printed by this work's own program: the code of each function below comes to the answer that its plain form tells. -/
import Derived.Test.YtmpagpbnpgcecaaMd
import Derived.Test.YtmpagpbnpgcecaaProg
import Derived.Test.YtmpagpbnpgcecaaRF0
set_option linter.unusedVariables false
set_option linter.unusedSimpArgs false
set_option maxRecDepth 100000
set_option maxHeartbeats 4000000
namespace Go.Proofs.Ytmpagpbnpgcecaa
open Go.Mx
attribute [local irreducible] wpOp

theorem slices_Concat_byte_byte.ok {K : Nat} {a0 : List (List Int)} {r0 : List Int} {a0_A : Option Addr} {a0_n : Nat} {a0_c : Nat} {a0_H : List HS} (h : slices_Concat_byte_byte.f K a0 = some r0) (w0 : World) (hp0 : LLP (CI .u8) w0 a0_A a0_n a0_c a0_H a0) : Calls Try.prog 96 #[.slice a0_A a0_n a0_c] w0 fun e w' => ∃ h : (Option Addr × Nat × Nat), e = .returned (.slice h.1 h.2.1 h.2.2) ∧ St w0 [] [.ownL (CI .u8) h.1 h.2.1 h.2.2 r0 5] [] w' := by
 refine calls_k Try.func96 rfl fun Q qq => ?_
 have hs := St.startR (all_cons (LLP.ent hp0) all_nil)
 refine wp_conv (a' := ⟨#[.slice a0_A a0_n a0_c, undef, undef, undef, undef, undef, undef, undef, undef, undef, undef, undef, undef, undef, undef, undef, undef, undef, undef, undef, undef, undef, undef, undef, undef, undef, undef, undef, undef, undef, undef, undef, undef, undef, undef, undef], []⟩) (by kernel_rfl) ?_
 refine xseq_k fun KS1 ks1 => ?_
 refine xregS [0] fun KR2 kr2 => ?_
 refine wpS.q 0 2 (.slice none 0 0) ?_
 refine wpS.fin rfl (kr2 _ _ (then_n (ks1 _ _ (xseq_k fun KS3 ks3 => (xregS [0] fun KR4 kr4 => ?_)))))
 refine wpS.q 0 3 (.int .i64 0) ?_
 refine wpS.fin rfl (kr4 _ _ (then_n (ks3 _ _ (xseq_k fun KS5 ks5 => (xseq_k fun KS6 ks6 => (xregS [0, 1, 2] fun KR7 kr7 => ?_))))))
 refine wpS.q 0 9 (.slice a0_A a0_n a0_c) ?_
 refine wpS.tk 1 false (some 10) (.int .i64 (a0.length : Int)) (yld_lenLL (hs.rowLL 0 rfl) (fun _ => by kernel_rfl)) ?_
 refine wpS.q 2 11 (.int .i64 0) ?_
 refine wpS.fin rfl (kr7 _ _ (then_n (ks6 _ _ ?_)))
 obtain ⟨y3, hy, hk0⟩ := of_bind h
 refine wp_exq (N := fun a w => St w0 [] [] [.rowLL (CI .u8) a0_A a0_n a0_c a0_H a0] w ∧ ∃ g9 : Nat → Value, a = ⟨#[.slice a0_A a0_n a0_c, undef, .slice none 0 0, .int .i64 y3, undef, (g9 5), undef, undef, undef, .slice a0_A a0_n a0_c, .int .i64 (a0.length : Int), (g9 11), (g9 12), (g9 13), (g9 14), (g9 15), (g9 16), (g9 17), (g9 18), (g9 19), (g9 20), (g9 21), (g9 22), undef, undef, undef, undef, undef, undef, undef, undef, undef, undef, undef, undef, undef], []⟩) (fun N0 nn0 => ?_) ?_
 ·clear hk0
  refine xblock ?_
  refine wp_loop_k (fun n a w => ∃ z1 z2, slices_Concat_byte_byte.l0 K n a0 z1 z2 = some y3 ∧ St w0 [] [] [.rowLL (CI .u8) a0_A a0_n a0_c a0_H a0] w ∧ ∃ g8 : Nat → Value, a = ⟨#[.slice a0_A a0_n a0_c, undef, .slice none 0 0, .int .i64 z1, undef, (g8 5), undef, undef, undef, .slice a0_A a0_n a0_c, .int .i64 (a0.length : Int), .int .i64 z2, (g8 12), (g8 13), (g8 14), (g8 15), (g8 16), (g8 17), (g8 18), (g8 19), (g8 20), (g8 21), (g8 22), undef, undef, undef, undef, undef, undef, undef, undef, undef, undef, undef, undef, undef], []⟩) K ⟨0, 0, hy, hs.conv rfl, exg (by kernel_rfl)⟩ ?_
  clear hs h hy
  rintro n a w ⟨z1, z2, h, hs, g8, rfl⟩ KL0 kl0
  cases n with
  | zero => exact nomatch (show none = some _ from h)
  | succ n =>
   refine xseq_k fun KS10 ks10 => ?_
   refine xregS [0] fun KR11 kr11 => ?_
   rcases of_if h with ⟨hc, h⟩ | ⟨hc, h⟩
   ·refine wpS.tk 0 false (some 12) (.bool true) (yld_b (dt hc) (fun _ => by kernel_rfl)) ?_
    refine wpS.fin rfl (kr11 _ _ (then_n (ks10 _ _ (xseq_k fun KS12 ks12 => (wp_cond_t (by kernel_rfl) (xskip (then_n (ks12 _ _ (xseq_k fun KS13 ks13 => (xblock (xseq_k fun KS14 ks14 => (xregS [0, 1, 2] fun KR15 kr15 => ?_))))))))))))
    obtain ⟨h0, h⟩ := of_chk h
    obtain ⟨h1, h⟩ := of_chk h
    have i0_16 := h0
    have i1_16 := h1
    refine wpS.tk 0 false (some 13) (.pointer (adr a0_A ((z2 : Int).toNat * Cod.size (CI .u8)))) (yld_idxLL (C := (CI .u8)) (t := 44) (e := 26) (k := .i64) (x := z2) (hs.rowLL 0 rfl) (by kernel_rfl) (by kernel_rfl) (by kernel_rfl) h0 h1) ?_
    obtain ⟨s4_A, hA⟩ : ∃ A, A = (rdL CS a0_H z2).1 := ⟨_, rfl⟩
    obtain ⟨s4_n, hn⟩ : ∃ n, n = (rdL CS a0_H z2).2.1 := ⟨_, rfl⟩
    obtain ⟨s4_c, hc⟩ : ∃ c, c = (rdL CS a0_H z2).2.2 := ⟨_, rfl⟩
    refine wpS.tk 1 true (some 14) (.slice s4_A s4_n s4_c) (by subst hA hn hc; exact yld_loadLL (C := (CI .u8)) (e := 26) (x := z2) (hs.rowLL 0 rfl) (by kernel_rfl) (by kernel_rfl) i0_16 i1_16) ?_
    have hs := hs.addInn (C := (CI .u8)) 0 rfl i0_16 i1_16 hA hn hc
    refine wpS.q 2 5 (.slice s4_A s4_n s4_c) ?_
    refine wpS.fin rfl (kr15 _ _ (then_n (ks14 _ _ (xseq_k fun KS17 ks17 => (xregS [0, 1, 2, 3, 4] fun KR18 kr18 => ?_)))))
    refine wpS.qs [(0, 15, .int .i64 z1), (1, 16, .slice s4_A s4_n s4_c)] ?_
    refine wpS.tk 2 false (some 17) (.int .i64 ((rdLL a0 z2).length : Int)) (yld_lenL (hs.rowR 0 rfl) (fun _ => by kernel_rfl)) ?_
    refine wpS.q 3 18 (.int .i64 (iadd .i64 z1 ((rdLL a0 z2).length : Int))) ?_
    obtain ⟨x5, hx, h⟩ := of_bind h
    refine wpS.tk 4 false (some 3) (.int .i64 x5) (yld_int hx (fun _ => by kernel_rfl)) ?_
    refine wpS.fin rfl (kr18 _ _ (then_n (ks17 _ _ (xseq_k fun KS19 ks19 => (xregS [0, 1] fun KR20 kr20 => ?_)))))
    refine wpS.q 0 19 (.int .i64 x5) ?_
    rcases of_if h with ⟨hc, h⟩ | ⟨hc, h⟩
    ·refine wpS.tk 1 false (some 20) (.bool true) (yld_b (dt hc) (fun _ => by kernel_rfl)) ?_
     refine wpS.fin rfl (kr20 _ _ (then_n (ks19 _ _ (wp_cond_t (by kernel_rfl) (xregS [0, 1] fun KR21 kr21 => ?_)))))
     exact nomatch (show none = some _ from h)
    refine wpS.tk 1 false (some 20) (.bool false) (yld_b (df hc) (fun _ => by kernel_rfl)) ?_
    refine wpS.fin rfl (kr20 _ _ (then_n (ks19 _ _ (wp_cond_f (by kernel_rfl) (xskip (inBlock_n (then_n (ks13 _ _ (xregS [0, 1] fun KR22 kr22 => ?_)))))))))
    refine wpS.qs [(0, 22, .int .i64 (iadd .i64 z2 1)), (1, 11, .int .i64 (iadd .i64 z2 1))] ?_
    refine wpS.fin rfl (kr22 _ _ ?_)
    exact then_n (kl0 _ _ ⟨n, Nat.lt_succ_self n, x5, (iadd .i64 z2 1), h, (hs.pickR (pick_cons 1 rfl pick_nil)), exg (by kernel_rfl)⟩)
   refine wpS.tk 0 false (some 12) (.bool false) (yld_b (df hc) (fun _ => by kernel_rfl)) ?_
   refine wpS.fin rfl (kr11 _ _ (then_n (ks10 _ _ (xseq_k fun KS23 ks23 => (wp_cond_f (by kernel_rfl) (xexit (then_x (then_x (inBlock_hit ?_)))))))))
   have q0 := of_some h
   subst q0
   exact exq_n (nn0 _ _ ⟨(hs.conv rfl), exg (by kernel_rfl)⟩)
 clear hs h hy
 rintro a w ⟨hs, g9, rfl⟩
 have h := hk0
 refine then_n (ks5 _ _ (xseq_k fun KS24 ks24 => (xregS [0, 1, 2] fun KR25 kr25 => ?_)))
 refine wpS.q 0 23 (.int .i64 y3) ?_
 refine wpS.only 1 (op_inline (d := (some 24)) (f := 111) (args := #[.slice none 0 0, .int .i64 y3]) (by kernel_rfl) (fun _ => by kernel_rfl) fun R26 kI26 => ?_)
 refine calls_k Try.func111 rfl fun Q26 qq26 => ?_
 refine wp_conv (a' := ⟨#[.slice none 0 0, .int .i64 y3, undef, undef, undef, undef, undef, undef, undef, undef, undef, undef, undef, undef, undef, undef, undef, undef, undef, undef, undef, undef, undef, undef, undef, undef, undef], []⟩) (by kernel_rfl) ?_
 refine xseq_k fun KS27 ks27 => ?_
 refine xregS [0] fun KR28 kr28 => ?_
 refine wpS.q 0 4 (.slice none 0 0) ?_
 refine wpS.fin rfl (kr28 _ _ (then_n (ks27 _ _ (xseq_k fun KS29 ks29 => (xseq_k fun KS30 ks30 => (xregS [0, 1] fun KR31 kr31 => ?_))))))
 refine wpS.q 0 5 (.int .i64 y3) ?_
 rcases of_if h with ⟨hc, h⟩ | ⟨hc, h⟩
 ·refine wpS.tk 1 false (some 6) (.bool true) (yld_b (dt hc) (fun _ => by kernel_rfl)) ?_
  refine wpS.fin rfl (kr31 _ _ (then_n (ks30 _ _ (wp_cond_t (by kernel_rfl) (xregS [0, 1] fun KR32 kr32 => ?_)))))
  exact nomatch (show none = some _ from h)
 refine wpS.tk 1 false (some 6) (.bool false) (yld_b (df hc) (fun _ => by kernel_rfl)) ?_
 refine wpS.fin rfl (kr31 _ _ (then_n (ks30 _ _ (wp_cond_f (by kernel_rfl) (xskip (then_n (ks29 _ _ ?_)))))))
 obtain ⟨y6, hj, h⟩ := of_bind h
 refine xseq_k fun KS34 ks34 => wp_join (N := fun a w => ∃ (y6_A : Option Addr) (y6_n : Nat) (y6_c : Nat), St w0 [] [.ownL (CI .u8) y6_A y6_n y6_c y6 5] [.rowLL (CI .u8) a0_A a0_n a0_c a0_H a0] w ∧ ∃ g33 : Nat → Value, a = ⟨#[.slice y6_A y6_n y6_c, (g33 1), undef, undef, .slice none 0 0, .int .i64 y3, .bool false, undef, (g33 8), (g33 9), (g33 10), (g33 11), (g33 12), (g33 13), (g33 14), (g33 15), (g33 16), (g33 17), (g33 18), (g33 19), (g33 20), (g33 21), (g33 22), (g33 23), (g33 24), (g33 25), undef], []⟩) (fun N nj => ?_) ?_
 ·clear h
  have h := hj
  refine xseq_k fun KS35 ks35 => ?_
  refine xregS [0, 1, 2, 3, 4, 5, 6, 7] fun KR36 kr36 => ?_
  refine wpS.qs [(0, 8, .int .i64 y3), (1, 9, .slice none 0 0), (2, 10, .int .i64 0), (3, 11, .slice none 0 0), (4, 12, .int .i64 0), (5, 13, .int .i64 0), (6, 14, .int .i64 (isub .i64 y3 0))] ?_
  obtain ⟨x7, hx, h⟩ := of_bind h
  refine wpS.tk 7 false (some 1) (.int .i64 x7) (yld_int hx (fun _ => by kernel_rfl)) ?_
  refine wpS.fin rfl (kr36 _ _ (then_n (ks35 _ _ (xseq_k fun KS37 ks37 => (xregS [0, 1] fun KR38 kr38 => ?_)))))
  refine wpS.q 0 15 (.int .i64 x7) ?_
  rcases of_if h with ⟨hc, h⟩ | ⟨hc, h⟩
  ·refine wpS.tk 1 false (some 16) (.bool true) (yld_b (dt hc) (fun _ => by kernel_rfl)) ?_
   refine wpS.fin rfl (kr38 _ _ (then_n (ks37 _ _ (wp_cond_t (by kernel_rfl) (xregS [0, 1, 2, 3, 4, 5, 6, 7, 8, 9] fun KR39 kr39 => ?_)))))
   refine wpS.qs [(0, 17, .slice none 0 0), (1, 18, .slice none 0 0), (2, 19, .int .i64 0), (3, 20, .slice none 0 0), (4, 21, .int .i64 x7)] ?_
   obtain ⟨h0, h⟩ := of_chk h
   obtain ⟨h1, h⟩ := of_chk h
   refine wpS.only 5 (op_appendZ0 (C := (CI .u8)) (t := 26) (tn := 3) (ty := 26) (e := 5) (bytes := 1) (B := 140737488355328) (kn := .i64) (kq := .i64) (x := x7) (d := (some 22)) (by kernel_rfl) hs (by kernel_rfl) (by kernel_rfl) (by kernel_rfl) (by kernel_rfl) (by kernel_rfl) (by kernel_rfl) h0 h1 (by decide) (by decide) ?_)
   intro s8_A s8_n s8_c w gw hs
   refine ⟨fun _ => trivial, ?_⟩
   refine wpS.qs [(6, 23, .slice none 0 0), (7, 24, .int .i64 0)] ?_
   obtain ⟨h0, h⟩ := of_chk h
   obtain ⟨h1, h⟩ := of_chk h
   refine wpS.tk 8 false (some 25) (.slice s8_A (0 : Int).toNat s8_c) (yld_pre (C := (CI .u8)) (t := 26) (e := 5) (k := .i64) (hi := 0) (hs.rowL 0 rfl) (by kernel_rfl) (by kernel_rfl) (by kernel_rfl) h0 h1) ?_
   have hs := hs.preOwn 0 rfl h0 h1
   refine wpS.q 9 0 (.slice s8_A (0 : Int).toNat s8_c) ?_
   refine wpS.fin rfl (kr39 _ _ ?_)
   have q0 := of_some h
   subst q0
   exact nj _ _ ⟨s8_A, (0 : Int).toNat, s8_c, (hs.conv rfl), exg (by kernel_rfl)⟩
  refine wpS.tk 1 false (some 16) (.bool false) (yld_b (df hc) (fun _ => by kernel_rfl)) ?_
  refine wpS.fin rfl (kr38 _ _ (then_n (ks37 _ _ (wp_cond_f (by kernel_rfl) (xskip ?_)))))
  have q0 := of_some h
  subst q0
  have hs := hs.addNilL (CI .u8) 5
  exact nj _ _ ⟨none, 0, 0, (hs.conv rfl), exg (by kernel_rfl)⟩
 clear hj hs
 rintro a w ⟨y6_A, y6_n, y6_c, hs, g33, rfl⟩
 refine then_n (ks34 _ _ (xseq_k fun KS40 ks40 => (xregS [0, 1] fun KR41 kr41 => ?_)))
 refine wpS.qs [(0, 26, .slice y6_A y6_n y6_c), (1, 4, .slice y6_A y6_n y6_c)] ?_
 refine wpS.fin rfl (kr41 _ _ (then_n (ks40 _ _ (xret ?_))))
 refine qq26 _ _ (post_ret (by kernel_rfl) (run_results [.tmp 4] [.slice y6_A y6_n y6_c] (by kernel_rfl) (.cons (res_tmp (by kernel_rfl)) .nil)) ?_)
 refine kI26 _ _ ?_
 refine ⟨fun _ => trivial, ?_⟩
 refine wpS.q 2 6 (.slice y6_A y6_n y6_c) ?_
 refine wpS.fin rfl (kr25 _ _ (then_n (ks24 _ _ (xseq_k fun KS42 ks42 => (xseq_k fun KS43 ks43 => (xregS [0, 1, 2] fun KR44 kr44 => ?_))))))
 refine wpS.q 0 25 (.slice a0_A a0_n a0_c) ?_
 refine wpS.tk 1 false (some 26) (.int .i64 (a0.length : Int)) (yld_lenLL (hs.rowLL 0 rfl) (fun _ => by kernel_rfl)) ?_
 refine wpS.q 2 27 (.int .i64 0) ?_
 refine wpS.fin rfl (kr44 _ _ (then_n (ks43 _ _ ?_)))
 obtain ⟨y11, hy, hk1⟩ := of_bind h
 refine wp_exq (N := fun a w => ∃ (y11_A : Option Addr) (y11_n : Nat) (y11_c : Nat), St w0 [] [.ownL (CI .u8) y11_A y11_n y11_c y11 5] [.rowLL (CI .u8) a0_A a0_n a0_c a0_H a0] w ∧ ∃ g46 : Nat → Value, a = ⟨#[.slice a0_A a0_n a0_c, undef, .slice none 0 0, .int .i64 y3, undef, (g9 5), .slice y11_A y11_n y11_c, undef, (g46 8), .slice a0_A a0_n a0_c, .int .i64 (a0.length : Int), (g9 11), (g9 12), (g9 13), (g9 14), (g9 15), (g9 16), (g9 17), (g9 18), (g9 19), (g9 20), (g9 21), (g9 22), .int .i64 y3, .slice y6_A y6_n y6_c, .slice a0_A a0_n a0_c, .int .i64 (a0.length : Int), (g46 27), (g46 28), (g46 29), (g46 30), (g46 31), (g46 32), (g46 33), (g46 34), undef], []⟩) (fun N1 nn1 => ?_) ?_
 ·clear hk1
  refine xblock ?_
  refine wp_loop_k (fun n a w => ∃ z9 z10, ∃ (z10_A : Option Addr) (z10_n : Nat) (z10_c : Nat), slices_Concat_byte_byte.l1 K n a0 z9 z10 = some y11 ∧ St w0 [] [.ownL (CI .u8) z10_A z10_n z10_c z10 5] [.rowLL (CI .u8) a0_A a0_n a0_c a0_H a0] w ∧ ∃ g45 : Nat → Value, a = ⟨#[.slice a0_A a0_n a0_c, undef, .slice none 0 0, .int .i64 y3, undef, (g9 5), .slice z10_A z10_n z10_c, undef, (g45 8), .slice a0_A a0_n a0_c, .int .i64 (a0.length : Int), (g9 11), (g9 12), (g9 13), (g9 14), (g9 15), (g9 16), (g9 17), (g9 18), (g9 19), (g9 20), (g9 21), (g9 22), .int .i64 y3, .slice y6_A y6_n y6_c, .slice a0_A a0_n a0_c, .int .i64 (a0.length : Int), .int .i64 z9, (g45 28), (g45 29), (g45 30), (g45 31), (g45 32), (g45 33), (g45 34), undef], []⟩) K ⟨0, y6, y6_A, y6_n, y6_c, hy, hs.conv rfl, exg (by kernel_rfl)⟩ ?_
  clear hs h hy
  rintro n a w ⟨z9, z10, z10_A, z10_n, z10_c, h, hs, g45, rfl⟩ KL1 kl1
  cases n with
  | zero => exact nomatch (show none = some _ from h)
  | succ n =>
   refine xseq_k fun KS47 ks47 => ?_
   refine xregS [0] fun KR48 kr48 => ?_
   rcases of_if h with ⟨hc, h⟩ | ⟨hc, h⟩
   ·refine wpS.tk 0 false (some 28) (.bool true) (yld_b (dt hc) (fun _ => by kernel_rfl)) ?_
    refine wpS.fin rfl (kr48 _ _ (then_n (ks47 _ _ (xseq_k fun KS49 ks49 => (wp_cond_t (by kernel_rfl) (xskip (then_n (ks49 _ _ (xseq_k fun KS50 ks50 => (xblock (xseq_k fun KS51 ks51 => (xregS [0, 1, 2] fun KR52 kr52 => ?_))))))))))))
    obtain ⟨h0, h⟩ := of_chk h
    obtain ⟨h1, h⟩ := of_chk h
    have i0_53 := h0
    have i1_53 := h1
    refine wpS.tk 0 false (some 29) (.pointer (adr a0_A ((z9 : Int).toNat * Cod.size (CI .u8)))) (yld_idxLL (C := (CI .u8)) (t := 44) (e := 26) (k := .i64) (x := z9) (hs.rowLL 0 rfl) (by kernel_rfl) (by kernel_rfl) (by kernel_rfl) h0 h1) ?_
    obtain ⟨s12_A, hA⟩ : ∃ A, A = (rdL CS a0_H z9).1 := ⟨_, rfl⟩
    obtain ⟨s12_n, hn⟩ : ∃ n, n = (rdL CS a0_H z9).2.1 := ⟨_, rfl⟩
    obtain ⟨s12_c, hc⟩ : ∃ c, c = (rdL CS a0_H z9).2.2 := ⟨_, rfl⟩
    refine wpS.tk 1 true (some 30) (.slice s12_A s12_n s12_c) (by subst hA hn hc; exact yld_loadLL (C := (CI .u8)) (e := 26) (x := z9) (hs.rowLL 0 rfl) (by kernel_rfl) (by kernel_rfl) i0_53 i1_53) ?_
    have hs := hs.addInn (C := (CI .u8)) 0 rfl i0_53 i1_53 hA hn hc
    refine wpS.q 2 8 (.slice s12_A s12_n s12_c) ?_
    refine wpS.fin rfl (kr52 _ _ (then_n (ks51 _ _ (xregS [0, 1, 2, 3] fun KR54 kr54 => ?_))))
    refine wpS.qs [(0, 31, .slice z10_A z10_n z10_c), (1, 32, .slice s12_A s12_n s12_c)] ?_
    obtain ⟨h0, h⟩ := of_chk h
    refine wpS.only 2 (op_appendT (C := (CI .u8)) (t := 26) (ty := 26) (e := 5) (bytes := 1) (B := 140737488355328) (d := (some 33)) (by kernel_rfl) hs 0 rfl (hs.rowR 0 rfl) (by kernel_rfl) (by kernel_rfl) (by kernel_rfl) (by kernel_rfl) (by kernel_rfl) h0 (by decide) (by decide) ?_)
    intro s13_A s13_n s13_c w hs
    refine ⟨fun _ => trivial, ?_⟩
    refine wpS.q 3 6 (.slice s13_A s13_n s13_c) ?_
    refine wpS.fin rfl (kr54 _ _ (inBlock_n (then_n (ks50 _ _ (xregS [0, 1] fun KR55 kr55 => ?_)))))
    refine wpS.qs [(0, 34, .int .i64 (iadd .i64 z9 1)), (1, 27, .int .i64 (iadd .i64 z9 1))] ?_
    refine wpS.fin rfl (kr55 _ _ ?_)
    exact then_n (kl1 _ _ ⟨n, Nat.lt_succ_self n, (iadd .i64 z9 1), (z10 ++ (rdLL a0 z9)), s13_A, s13_n, s13_c, h, (hs.pickR (pick_cons 1 rfl pick_nil)), exg (by kernel_rfl)⟩)
   refine wpS.tk 0 false (some 28) (.bool false) (yld_b (df hc) (fun _ => by kernel_rfl)) ?_
   refine wpS.fin rfl (kr48 _ _ (then_n (ks47 _ _ (xseq_k fun KS56 ks56 => (wp_cond_f (by kernel_rfl) (xexit (then_x (then_x (inBlock_hit ?_)))))))))
   have q0 := of_some h
   subst q0
   exact exq_n (nn1 _ _ ⟨z10_A, z10_n, z10_c, (hs.conv rfl), exg (by kernel_rfl)⟩)
 clear hs h hy
 rintro a w ⟨y11_A, y11_n, y11_c, hs, g46, rfl⟩
 have h := hk1
 refine then_n (ks42 _ _ (xseq_k fun KS57 ks57 => (xregS [0, 1] fun KR58 kr58 => ?_)))
 refine wpS.qs [(0, 35, .slice y11_A y11_n y11_c), (1, 2, .slice y11_A y11_n y11_c)] ?_
 refine wpS.fin rfl (kr58 _ _ (then_n (ks57 _ _ (xret ?_))))
 have q0 := of_some h
 subst q0
 exact qq _ _ (post_ret (by kernel_rfl) (run_results [.tmp 2] [.slice y11_A y11_n y11_c] (by kernel_rfl) (.cons (res_tmp (by kernel_rfl)) .nil)) ⟨⟨y11_A, y11_n, y11_c⟩, congrArg Ending.returned (by kernel_rfl), (hs.pickR pick_nil)⟩)

theorem bits_Join.ok {K : Nat} {a0 : List (List Int)} {r0 : List Int} {a0_A : Option Addr} {a0_n : Nat} {a0_c : Nat} {a0_H : List HS} (h : bits_Join.f K a0 = some r0) (w0 : World) (hp0 : LLP (CI .u8) w0 a0_A a0_n a0_c a0_H a0) : Calls Try.prog 59 #[.slice a0_A a0_n a0_c] w0 fun e w' => ∃ h : (Option Addr × Nat × Nat), e = .returned (.slice h.1 h.2.1 h.2.2) ∧ St w0 [] [.ownL (CI .u8) h.1 h.2.1 h.2.2 r0 5] [] w' := by
 refine calls_k Try.func59 rfl fun Q qq => ?_
 have hs := St.startR (all_cons (LLP.ent hp0) all_nil)
 refine wp_conv (a' := ⟨#[.slice a0_A a0_n a0_c, undef, undef, undef, undef], []⟩) (by kernel_rfl) ?_
 refine xseq_k fun KS1 ks1 => ?_
 refine xregS [0] fun KR2 kr2 => ?_
 refine wpS.q 0 2 (.slice none 0 0) ?_
 refine wpS.fin rfl (kr2 _ _ (then_n (ks1 _ _ (xseq_k fun KS3 ks3 => (xregS [0, 1, 2] fun KR4 kr4 => ?_)))))
 refine wpS.q 0 3 (.slice a0_A a0_n a0_c) ?_
 obtain ⟨r1, hg, h⟩ := of_bind h
 refine wpS.only 1 (op_callH (d := (some 4)) (by kernel_rfl) hs (fun _ => by kernel_rfl) (slices_Concat_byte_byte.ok hg _ (hs.rowLL 0 rfl)) ?_)
 rintro ⟨r1_A, r1_n, r1_c⟩ w gw hs
 have hs := hs.conv (L' := [.ownL (CI .u8) r1_A r1_n r1_c r1 5]) rfl
 refine ⟨fun _ => trivial, ?_⟩
 refine wpS.q 2 2 (.slice r1_A r1_n r1_c) ?_
 refine wpS.fin rfl (kr4 _ _ (then_n (ks3 _ _ (xret ?_))))
 have q0 := of_some h
 subst q0
 exact qq _ _ (post_ret (by kernel_rfl) (run_results [.tmp 2] [.slice r1_A r1_n r1_c] (by kernel_rfl) (.cons (res_tmp (by kernel_rfl)) .nil)) ⟨⟨r1_A, r1_n, r1_c⟩, congrArg Ending.returned (by kernel_rfl), (hs.pickR pick_nil)⟩)

theorem math_bits_Mul32.ok {K : Nat} {a0 : Int} {a1 : Int} {r0 : Int} {r1 : Int} (h : math_bits_Mul32.f K a0 a1 = some (r0, r1)) (w0 : World) : Ret Try.prog 113 #[.int .u32 a0, .int .u32 a1] w0 (.tuple #[.int .u32 r0, .int .u32 r1]) := by
 refine calls_k Try.func113 rfl fun Q qq => ?_
 have hs := St.start w0
 refine wp_conv (a' := ⟨#[.int .u32 a0, .int .u32 a1, undef, undef, undef, undef, undef, undef, undef, undef, undef, undef, undef, undef, undef, undef, undef], []⟩) (by kernel_rfl) ?_
 refine xseq_k fun KS1 ks1 => ?_
 refine xregS [0, 1] fun KR2 kr2 => ?_
 refine wpS.qs [(0, 4, .int .u32 0), (1, 5, .int .u32 0)] ?_
 refine wpS.fin rfl (kr2 _ _ (then_n (ks1 _ _ (xseq_k fun KS3 ks3 => (xregS [0, 1, 2, 3, 4, 5] fun KR4 kr4 => ?_)))))
 refine wpS.qs [(0, 7, .int .u32 a0), (1, 8, .int .u64 (iconv .u64 a0)), (2, 9, .int .u32 a1), (3, 10, .int .u64 (iconv .u64 a1)), (4, 11, .int .u64 (imul .u64 (iconv .u64 a0) (iconv .u64 a1)))] ?_
 obtain ⟨x1, hx, h⟩ := of_bind h
 refine wpS.tk 5 false (some 6) (.int .u64 x1) (yld_int hx (fun _ => by kernel_rfl)) ?_
 refine wpS.fin rfl (kr4 _ _ (then_n (ks3 _ _ (xseq_k fun KS5 ks5 => (xregS [0, 1, 2, 3, 4, 5, 6] fun KR6 kr6 => ?_)))))
 refine wpS.qs [(0, 12, .int .u64 x1), (1, 13, .int .u64 (ishr .u64 x1 32)), (2, 14, .int .u32 (iconv .u32 (ishr .u64 x1 32))), (3, 15, .int .u64 x1), (4, 16, .int .u32 (iconv .u32 x1))] ?_
 obtain ⟨x2, hx, h⟩ := of_bind h
 refine wpS.tk 5 false (some 4) (.int .u32 x2) (yld_int hx (fun _ => by kernel_rfl)) ?_
 obtain ⟨x3, hx, h⟩ := of_bind h
 refine wpS.tk 6 false (some 5) (.int .u32 x3) (yld_int hx (fun _ => by kernel_rfl)) ?_
 refine wpS.fin rfl (kr6 _ _ (then_n (ks5 _ _ (xret ?_))))
 obtain ⟨q0, qr0⟩ := Prod.mk.inj (of_some h)
 have q1 := qr0
 subst q0
 subst q1
 exact qq _ _ (post_ret (by kernel_rfl) (run_results [.tmp 4, .tmp 5] [.int .u32 x2, .int .u32 x3] (by kernel_rfl) (.cons (res_tmp (by kernel_rfl)) (.cons (res_tmp (by kernel_rfl)) .nil))) ⟨congrArg Ending.returned (by kernel_rfl), hs.none⟩)

theorem math_bits_Mul64.ok {K : Nat} {a0 : Int} {a1 : Int} {r0 : Int} {r1 : Int} (h : math_bits_Mul64.f K a0 a1 = some (r0, r1)) (w0 : World) : Ret Try.prog 114 #[.int .u64 a0, .int .u64 a1] w0 (.tuple #[.int .u64 r0, .int .u64 r1]) := by
 refine calls_k Try.func114 rfl fun Q qq => ?_
 have hs := St.start w0
 refine wp_conv (a' := ⟨#[.int .u64 a0, .int .u64 a1, undef, undef, undef, undef, undef, undef, undef, undef, undef, undef, undef, undef, undef, undef, undef, undef, undef, undef, undef, undef, undef, undef, undef, undef, undef, undef, undef, undef, undef, undef, undef, undef, undef, undef, undef, undef, undef, undef, undef, undef, undef, undef, undef, undef, undef, undef, undef, undef, undef], []⟩) (by kernel_rfl) ?_
 refine xseq_k fun KS1 ks1 => ?_
 refine xregS [0, 1] fun KR2 kr2 => ?_
 refine wpS.qs [(0, 4, .int .u64 0), (1, 5, .int .u64 0)] ?_
 refine wpS.fin rfl (kr2 _ _ (then_n (ks1 _ _ (xseq_k fun KS3 ks3 => (xregS [0, 1, 2] fun KR4 kr4 => ?_)))))
 refine wpS.qs [(0, 14, .int .u64 a0), (1, 15, .int .u64 (iand .u64 a0 4294967295))] ?_
 obtain ⟨x1, hx, h⟩ := of_bind h
 refine wpS.tk 2 false (some 6) (.int .u64 x1) (yld_int hx (fun _ => by kernel_rfl)) ?_
 refine wpS.fin rfl (kr4 _ _ (then_n (ks3 _ _ (xseq_k fun KS5 ks5 => (xregS [0, 1, 2] fun KR6 kr6 => ?_)))))
 refine wpS.qs [(0, 16, .int .u64 a0), (1, 17, .int .u64 (ishr .u64 a0 32))] ?_
 obtain ⟨x2, hx, h⟩ := of_bind h
 refine wpS.tk 2 false (some 7) (.int .u64 x2) (yld_int hx (fun _ => by kernel_rfl)) ?_
 refine wpS.fin rfl (kr6 _ _ (then_n (ks5 _ _ (xseq_k fun KS7 ks7 => (xregS [0, 1, 2] fun KR8 kr8 => ?_)))))
 refine wpS.qs [(0, 18, .int .u64 a1), (1, 19, .int .u64 (iand .u64 a1 4294967295))] ?_
 obtain ⟨x3, hx, h⟩ := of_bind h
 refine wpS.tk 2 false (some 8) (.int .u64 x3) (yld_int hx (fun _ => by kernel_rfl)) ?_
 refine wpS.fin rfl (kr8 _ _ (then_n (ks7 _ _ (xseq_k fun KS9 ks9 => (xregS [0, 1, 2] fun KR10 kr10 => ?_)))))
 refine wpS.qs [(0, 20, .int .u64 a1), (1, 21, .int .u64 (ishr .u64 a1 32))] ?_
 obtain ⟨x4, hx, h⟩ := of_bind h
 refine wpS.tk 2 false (some 9) (.int .u64 x4) (yld_int hx (fun _ => by kernel_rfl)) ?_
 refine wpS.fin rfl (kr10 _ _ (then_n (ks9 _ _ (xseq_k fun KS11 ks11 => (xregS [0, 1, 2, 3] fun KR12 kr12 => ?_)))))
 refine wpS.qs [(0, 22, .int .u64 x1), (1, 23, .int .u64 x3), (2, 24, .int .u64 (imul .u64 x1 x3))] ?_
 obtain ⟨x5, hx, h⟩ := of_bind h
 refine wpS.tk 3 false (some 10) (.int .u64 x5) (yld_int hx (fun _ => by kernel_rfl)) ?_
 refine wpS.fin rfl (kr12 _ _ (then_n (ks11 _ _ (xseq_k fun KS13 ks13 => (xregS [0, 1, 2, 3, 4, 5, 6] fun KR14 kr14 => ?_)))))
 refine wpS.qs [(0, 25, .int .u64 x2), (1, 26, .int .u64 x3), (2, 27, .int .u64 (imul .u64 x2 x3)), (3, 28, .int .u64 x5), (4, 29, .int .u64 (ishr .u64 x5 32)), (5, 30, .int .u64 (iadd .u64 (imul .u64 x2 x3) (ishr .u64 x5 32)))] ?_
 obtain ⟨x6, hx, h⟩ := of_bind h
 refine wpS.tk 6 false (some 11) (.int .u64 x6) (yld_int hx (fun _ => by kernel_rfl)) ?_
 refine wpS.fin rfl (kr14 _ _ (then_n (ks13 _ _ (xseq_k fun KS15 ks15 => (xregS [0, 1, 2] fun KR16 kr16 => ?_)))))
 refine wpS.qs [(0, 31, .int .u64 x6), (1, 32, .int .u64 (iand .u64 x6 4294967295))] ?_
 obtain ⟨x7, hx, h⟩ := of_bind h
 refine wpS.tk 2 false (some 12) (.int .u64 x7) (yld_int hx (fun _ => by kernel_rfl)) ?_
 refine wpS.fin rfl (kr16 _ _ (then_n (ks15 _ _ (xseq_k fun KS17 ks17 => (xregS [0, 1, 2] fun KR18 kr18 => ?_)))))
 refine wpS.qs [(0, 33, .int .u64 x6), (1, 34, .int .u64 (ishr .u64 x6 32))] ?_
 obtain ⟨x8, hx, h⟩ := of_bind h
 refine wpS.tk 2 false (some 13) (.int .u64 x8) (yld_int hx (fun _ => by kernel_rfl)) ?_
 refine wpS.fin rfl (kr18 _ _ (then_n (ks17 _ _ (xseq_k fun KS19 ks19 => (xregS [0, 1, 2, 3, 4, 5] fun KR20 kr20 => ?_)))))
 refine wpS.qs [(0, 35, .int .u64 x7), (1, 36, .int .u64 x1), (2, 37, .int .u64 x4), (3, 38, .int .u64 (imul .u64 x1 x4)), (4, 39, .int .u64 (iadd .u64 x7 (imul .u64 x1 x4)))] ?_
 obtain ⟨x9, hx, h⟩ := of_bind h
 refine wpS.tk 5 false (some 12) (.int .u64 x9) (yld_int hx (fun _ => by kernel_rfl)) ?_
 refine wpS.fin rfl (kr20 _ _ (then_n (ks19 _ _ (xseq_k fun KS21 ks21 => (xregS [0, 1, 2, 3, 4, 5, 6, 7, 8] fun KR22 kr22 => ?_)))))
 refine wpS.qs [(0, 40, .int .u64 x2), (1, 41, .int .u64 x4), (2, 42, .int .u64 (imul .u64 x2 x4)), (3, 43, .int .u64 x8), (4, 44, .int .u64 (iadd .u64 (imul .u64 x2 x4) x8)), (5, 45, .int .u64 x9), (6, 46, .int .u64 (ishr .u64 x9 32)), (7, 47, .int .u64 (iadd .u64 (iadd .u64 (imul .u64 x2 x4) x8) (ishr .u64 x9 32)))] ?_
 obtain ⟨x10, hx, h⟩ := of_bind h
 refine wpS.tk 8 false (some 4) (.int .u64 x10) (yld_int hx (fun _ => by kernel_rfl)) ?_
 refine wpS.fin rfl (kr22 _ _ (then_n (ks21 _ _ (xseq_k fun KS23 ks23 => (xregS [0, 1, 2, 3] fun KR24 kr24 => ?_)))))
 refine wpS.qs [(0, 48, .int .u64 a0), (1, 49, .int .u64 a1), (2, 50, .int .u64 (imul .u64 a0 a1))] ?_
 obtain ⟨x11, hx, h⟩ := of_bind h
 refine wpS.tk 3 false (some 5) (.int .u64 x11) (yld_int hx (fun _ => by kernel_rfl)) ?_
 refine wpS.fin rfl (kr24 _ _ (then_n (ks23 _ _ (xret ?_))))
 obtain ⟨q0, qr0⟩ := Prod.mk.inj (of_some h)
 have q1 := qr0
 subst q0
 subst q1
 exact qq _ _ (post_ret (by kernel_rfl) (run_results [.tmp 4, .tmp 5] [.int .u64 x10, .int .u64 x11] (by kernel_rfl) (.cons (res_tmp (by kernel_rfl)) (.cons (res_tmp (by kernel_rfl)) .nil))) ⟨congrArg Ending.returned (by kernel_rfl), hs.none⟩)

theorem math_bits_Mul.ok {K : Nat} {a0 : Int} {a1 : Int} {r0 : Int} {r1 : Int} (h : math_bits_Mul.f K a0 a1 = some (r0, r1)) (w0 : World) : Ret Try.prog 103 #[.int .u64 a0, .int .u64 a1] w0 (.tuple #[.int .u64 r0, .int .u64 r1]) := by
 refine calls_k Try.func103 rfl fun Q qq => ?_
 have hs := St.start w0
 refine wp_conv (a' := ⟨#[.int .u64 a0, .int .u64 a1, undef, undef, undef, undef, undef, undef, undef, undef, undef, undef, undef, undef, undef, undef, undef, undef, undef, undef, undef, undef, undef, undef, undef, undef, undef, undef, undef, undef], []⟩) (by kernel_rfl) ?_
 refine xseq_k fun KS1 ks1 => ?_
 refine xregS [0, 1] fun KR2 kr2 => ?_
 refine wpS.qs [(0, 4, .int .u64 0), (1, 5, .int .u64 0)] ?_
 refine wpS.fin rfl (kr2 _ _ (then_n (ks1 _ _ (xseq_k fun KS3 ks3 => (wp_cond_f (by kernel_rfl) (xskip (then_n (ks3 _ _ (xseq_k fun KS4 ks4 => (xregS [0, 1, 2, 3, 4, 5, 6, 7] fun KR5 kr5 => ?_))))))))))
 refine wpS.qs [(0, 23, .int .u64 a0), (1, 24, .int .u64 a1)] ?_
 obtain ⟨⟨r1, r2⟩, hg, h⟩ := of_bind h
 refine wpS.only 2 (op_call (d := (some 25)) (by kernel_rfl) hs (fun _ => by kernel_rfl) (math_bits_Mul64.ok hg _) ?_)
 intro w gw hs
 refine ⟨fun _ => trivial, ?_⟩
 refine wpS.qs [(3, 22, .tuple #[.int .u64 r1, .int .u64 r2]), (4, 26, .int .u64 r1), (5, 27, .int .u64 r2), (6, 8, .int .u64 r1), (7, 9, .int .u64 r2)] ?_
 refine wpS.fin rfl (kr5 _ _ (then_n (ks4 _ _ (xseq_k fun KS6 ks6 => (xregS [0, 1, 2, 3] fun KR7 kr7 => ?_)))))
 refine wpS.qs [(0, 28, .int .u64 r1), (1, 29, .int .u64 r2), (2, 4, .int .u64 r1), (3, 5, .int .u64 r2)] ?_
 refine wpS.fin rfl (kr7 _ _ (then_n (ks6 _ _ (xret ?_))))
 obtain ⟨q0, qr0⟩ := Prod.mk.inj (of_some h)
 have q1 := qr0
 subst q0
 subst q1
 exact qq _ _ (post_ret (by kernel_rfl) (run_results [.tmp 4, .tmp 5] [.int .u64 r1, .int .u64 r2] (by kernel_rfl) (.cons (res_tmp (by kernel_rfl)) (.cons (res_tmp (by kernel_rfl)) .nil))) ⟨congrArg Ending.returned (by kernel_rfl), hs.none⟩)

theorem bytes_Repeat.ok {K : Nat} {a0 : List Int} {a1 : Int} {r0 : List Int} {a0_A : Option Addr} {a0_n : Nat} {a0_c : Nat} (h : bytes_Repeat.f K a0 a1 = some r0) (w0 : World) (hp0 : RowL (CI .u8) w0 a0_A a0_n a0_c a0) : Calls Try.prog 72 #[.slice a0_A a0_n a0_c, .int .i64 a1] w0 fun e w' => ∃ h : (Option Addr × Nat × Nat), e = .returned (.slice h.1 h.2.1 h.2.2) ∧ St w0 [] [.rowL (CI .u8) h.1 h.2.1 h.2.2 r0] [] w' := by
 refine calls_k Try.func72 rfl fun Q qq => ?_
 have hs := St.startR (all_cons (RowP.ent hp0) all_nil)
 refine wp_conv (a' := ⟨#[.slice a0_A a0_n a0_c, .int .i64 a1, undef, undef, undef, undef, undef, undef, undef, undef, undef, undef, undef, undef, undef, undef, undef, undef, undef, undef, undef, undef, undef, undef, undef, undef, undef, undef, undef, undef, undef, undef, undef, undef, undef, undef, undef, undef, undef, undef, undef, undef, undef, undef, undef, undef, undef, undef, undef, undef, undef, undef, undef, undef, undef, undef, undef, undef, undef, undef, undef, undef, undef, undef, undef, undef, undef, undef, undef, undef, undef, undef, undef, undef, undef, undef, undef], []⟩) (by kernel_rfl) ?_
 refine xseq_k fun KS1 ks1 => ?_
 refine xregS [0] fun KR2 kr2 => ?_
 refine wpS.q 0 4 (.slice none 0 0) ?_
 refine wpS.fin rfl (kr2 _ _ (then_n (ks1 _ _ (xseq_k fun KS3 ks3 => (xseq_k fun KS4 ks4 => (xregS [0, 1] fun KR5 kr5 => ?_))))))
 refine wpS.q 0 12 (.int .i64 a1) ?_
 rcases of_if h with ⟨hc, h⟩ | ⟨hc, h⟩
 ·refine wpS.tk 1 false (some 13) (.bool true) (yld_b (et hc) (fun _ => by kernel_rfl)) ?_
  refine wpS.fin rfl (kr5 _ _ (then_n (ks4 _ _ (wp_cond_t (by kernel_rfl) (xseq_k fun KS6 ks6 => (xregS [0, 1] fun KR7 kr7 => ?_))))))
  refine wpS.only 0 (op_lit0 (C := (CI .u8)) (t := 26) (e := 5) (parts := #[]) (d := (some 14)) (by kernel_rfl) hs rfl (by kernel_rfl) (by kernel_rfl) (by kernel_rfl) ?_)
  intro s1_A s1_n s1_c w gw hs
  refine ⟨fun _ => trivial, ?_⟩
  refine wpS.q 1 4 (.slice s1_A s1_n s1_c) ?_
  refine wpS.fin rfl (kr7 _ _ (then_n (ks6 _ _ (xret (then_r ?_)))))
  have q0 := of_some h
  subst q0
  have hs := hs.ownRow 0 rfl
  exact qq _ _ (post_ret (by kernel_rfl) (run_results [.tmp 4] [.slice s1_A s1_n s1_c] (by kernel_rfl) (.cons (res_tmp (by kernel_rfl)) .nil)) ⟨⟨s1_A, s1_n, s1_c⟩, congrArg Ending.returned (by kernel_rfl), (hs.pickR pick_nil)⟩)
 refine wpS.tk 1 false (some 13) (.bool false) (yld_b (ef hc) (fun _ => by kernel_rfl)) ?_
 refine wpS.fin rfl (kr5 _ _ (then_n (ks4 _ _ (wp_cond_f (by kernel_rfl) (xskip (then_n (ks3 _ _ (xseq_k fun KS8 ks8 => (xseq_k fun KS9 ks9 => (xregS [0, 1] fun KR10 kr10 => ?_))))))))))
 refine wpS.q 0 15 (.int .i64 a1) ?_
 rcases of_if h with ⟨hc, h⟩ | ⟨hc, h⟩
 ·refine wpS.tk 1 false (some 16) (.bool true) (yld_b (dt hc) (fun _ => by kernel_rfl)) ?_
  refine wpS.fin rfl (kr10 _ _ (then_n (ks9 _ _ (wp_cond_t (by kernel_rfl) (xregS [0, 1] fun KR11 kr11 => ?_)))))
  exact nomatch (show none = some _ from h)
 refine wpS.tk 1 false (some 16) (.bool false) (yld_b (df hc) (fun _ => by kernel_rfl)) ?_
 refine wpS.fin rfl (kr10 _ _ (then_n (ks9 _ _ (wp_cond_f (by kernel_rfl) (xskip (then_n (ks8 _ _ (xseq_k fun KS12 ks12 => (xregS [0, 1, 2, 3, 4, 5, 6, 7, 8, 9, 10] fun KR13 kr13 => ?_)))))))))
 refine wpS.q 0 19 (.slice a0_A a0_n a0_c) ?_
 refine wpS.tk 1 false (some 20) (.int .i64 (a0.length : Int)) (yld_lenL (hs.rowR 0 rfl) (fun _ => by kernel_rfl)) ?_
 refine wpS.qs [(2, 21, .int .u64 (iconv .u64 (a0.length : Int))), (3, 22, .int .i64 a1), (4, 23, .int .u64 (iconv .u64 a1))] ?_
 obtain ⟨⟨r2, r3⟩, hg, h⟩ := of_bind h
 refine wpS.only 5 (op_call (d := (some 24)) (by kernel_rfl) hs (fun _ => by kernel_rfl) (math_bits_Mul.ok hg _) ?_)
 intro w gw hs
 refine ⟨fun _ => trivial, ?_⟩
 refine wpS.qs [(6, 18, .tuple #[.int .u64 r2, .int .u64 r3]), (7, 25, .int .u64 r2), (8, 26, .int .u64 r3), (9, 5, .int .u64 r2), (10, 6, .int .u64 r3)] ?_
 refine wpS.fin rfl (kr13 _ _ (then_n (ks12 _ _ (xseq_k fun KS14 ks14 => (xseq_k fun KS15 ks15 => (xregS [0, 1, 2, 3, 4, 5] fun KR16 kr16 => ?_))))))
 refine wpS.q 0 27 (.int .u64 r2) ?_
 rcases of_if h with ⟨hc, h⟩ | ⟨hc, h⟩
 ·refine wpS.tk 1 false (some 28) (.bool true) (yld_b (dt hc) (fun _ => by kernel_rfl)) ?_
  refine wpS.qs [(2, 29, .bool true), (3, 30, undef), (4, 31, undef), (5, 32, .bool true)] ?_
  refine wpS.fin rfl (kr16 _ _ (then_n (ks15 _ _ (wp_cond_t (by kernel_rfl) (xregS [0, 1] fun KR17 kr17 => ?_)))))
  exact nomatch (show none = some _ from h)
 refine wpS.tk 1 false (some 28) (.bool false) (yld_b (df hc) (fun _ => by kernel_rfl)) ?_
 refine wpS.qs [(2, 29, .bool false), (3, 30, .int .u64 r3)] ?_
 rcases of_if h with ⟨hc, h⟩ | ⟨hc, h⟩
 ·refine wpS.tk 4 false (some 31) (.bool true) (yld_b (dt hc) (fun _ => by kernel_rfl)) ?_
  refine wpS.q 5 32 (.bool true) ?_
  refine wpS.fin rfl (kr16 _ _ (then_n (ks15 _ _ (wp_cond_t (by kernel_rfl) (xregS [0, 1] fun KR18 kr18 => ?_)))))
  exact nomatch (show none = some _ from h)
 refine wpS.tk 4 false (some 31) (.bool false) (yld_b (df hc) (fun _ => by kernel_rfl)) ?_
 refine wpS.q 5 32 (.bool false) ?_
 refine wpS.fin rfl (kr16 _ _ (then_n (ks15 _ _ (wp_cond_f (by kernel_rfl) (xskip (then_n (ks14 _ _ (xseq_k fun KS19 ks19 => (xregS [0, 1, 2] fun KR20 kr20 => ?_)))))))))
 refine wpS.qs [(0, 34, .int .u64 r3), (1, 35, .int .i64 (iconv .i64 r3))] ?_
 obtain ⟨x4, hx, h⟩ := of_bind h
 refine wpS.tk 2 false (some 7) (.int .i64 x4) (yld_int hx (fun _ => by kernel_rfl)) ?_
 refine wpS.fin rfl (kr20 _ _ (then_n (ks19 _ _ (xseq_k fun KS21 ks21 => (xseq_k fun KS22 ks22 => (xregS [0, 1, 2] fun KR23 kr23 => ?_))))))
 refine wpS.q 0 36 (.slice a0_A a0_n a0_c) ?_
 refine wpS.tk 1 false (some 37) (.int .i64 (a0.length : Int)) (yld_lenL (hs.rowR 0 rfl) (fun _ => by kernel_rfl)) ?_
 rcases of_if h with ⟨hc, h⟩ | ⟨hc, h⟩
 ·refine wpS.tk 2 false (some 38) (.bool true) (yld_b (et hc) (fun _ => by kernel_rfl)) ?_
  refine wpS.fin rfl (kr23 _ _ (then_n (ks22 _ _ (wp_cond_t (by kernel_rfl) (xseq_k fun KS24 ks24 => (xregS [0, 1] fun KR25 kr25 => ?_))))))
  refine wpS.only 0 (op_lit0 (C := (CI .u8)) (t := 26) (e := 5) (parts := #[]) (d := (some 39)) (by kernel_rfl) hs rfl (by kernel_rfl) (by kernel_rfl) (by kernel_rfl) ?_)
  intro s5_A s5_n s5_c w gw hs
  refine ⟨fun _ => trivial, ?_⟩
  refine wpS.q 1 4 (.slice s5_A s5_n s5_c) ?_
  refine wpS.fin rfl (kr25 _ _ (then_n (ks24 _ _ (xret (then_r ?_)))))
  have q0 := of_some h
  subst q0
  have hs := hs.ownRow 0 rfl
  exact qq _ _ (post_ret (by kernel_rfl) (run_results [.tmp 4] [.slice s5_A s5_n s5_c] (by kernel_rfl) (.cons (res_tmp (by kernel_rfl)) .nil)) ⟨⟨s5_A, s5_n, s5_c⟩, congrArg Ending.returned (by kernel_rfl), (hs.pickR pick_nil)⟩)
 refine wpS.tk 2 false (some 38) (.bool false) (yld_b (ef hc) (fun _ => by kernel_rfl)) ?_
 refine wpS.fin rfl (kr23 _ _ (then_n (ks22 _ _ (wp_cond_f (by kernel_rfl) (xskip (then_n (ks21 _ _ (xseq_k fun KS26 ks26 => (xregS [0, 1] fun KR27 kr27 => ?_)))))))))
 refine wpS.qs [(0, 40, .int .i64 x4), (1, 8, .int .i64 x4)] ?_
 refine wpS.fin rfl (kr27 _ _ (then_n (ks26 _ _ ?_)))
 obtain ⟨y6, hj, h⟩ := of_bind h
 refine xseq_k fun KS29 ks29 => wp_join (N := fun a w => St w0 [] [] [.rowL (CI .u8) a0_A a0_n a0_c a0] w ∧ ∃ g28 : Nat → Value, a = ⟨#[.slice a0_A a0_n a0_c, .int .i64 a1, undef, undef, .slice none 0 0, .int .u64 r2, .int .u64 r3, .int .i64 x4, .int .i64 y6, undef, undef, undef, .int .i64 a1, .bool false, undef, .int .i64 a1, .bool false, undef, .tuple #[.int .u64 r2, .int .u64 r3], .slice a0_A a0_n a0_c, .int .i64 (a0.length : Int), .int .u64 (iconv .u64 (a0.length : Int)), .int .i64 a1, .int .u64 (iconv .u64 a1), .tuple #[.int .u64 r2, .int .u64 r3], .int .u64 r2, .int .u64 r3, .int .u64 r2, .bool false, .bool false, .int .u64 r3, .bool false, .bool false, undef, .int .u64 r3, .int .i64 (iconv .i64 r3), .slice a0_A a0_n a0_c, .int .i64 (a0.length : Int), .bool false, undef, .int .i64 x4, (g28 41), (g28 42), (g28 43), (g28 44), (g28 45), (g28 46), (g28 47), (g28 48), (g28 49), (g28 50), (g28 51), (g28 52), undef, undef, undef, undef, undef, undef, undef, undef, undef, undef, undef, undef, undef, undef, undef, undef, undef, undef, undef, undef, undef, undef, undef, undef], []⟩) (fun N nj => ?_) ?_
 ·clear h
  have h := hj
  refine xseq_k fun KS30 ks30 => ?_
  refine xregS [0, 1] fun KR31 kr31 => ?_
  refine wpS.q 0 41 (.int .i64 x4) ?_
  rcases of_if h with ⟨hc, h⟩ | ⟨hc, h⟩
  ·refine wpS.tk 1 false (some 42) (.bool true) (yld_b (dt hc) (fun _ => by kernel_rfl)) ?_
   refine wpS.fin rfl (kr31 _ _ (then_n (ks30 _ _ (wp_cond_t (by kernel_rfl) (xseq_k fun KS32 ks32 => (xregS [0, 1, 2, 3, 4, 5, 6] fun KR33 kr33 => ?_))))))
   refine wpS.q 0 43 (.slice a0_A a0_n a0_c) ?_
   refine wpS.tk 1 false (some 44) (.int .i64 (a0.length : Int)) (yld_lenL (hs.rowR 0 rfl) (fun _ => by kernel_rfl)) ?_
   obtain ⟨h0, h⟩ := of_chk h
   refine wpS.tk 2 false (some 45) (.int .i64 (iquo .i64 8192 (a0.length : Int))) (yld_quo (t := 3) (by kernel_rfl) h0) ?_
   refine wpS.q 3 46 (.slice a0_A a0_n a0_c) ?_
   refine wpS.tk 4 false (some 47) (.int .i64 (a0.length : Int)) (yld_lenL (hs.rowR 0 rfl) (fun _ => by kernel_rfl)) ?_
   refine wpS.q 5 48 (.int .i64 (imul .i64 (iquo .i64 8192 (a0.length : Int)) (a0.length : Int))) ?_
   obtain ⟨x7, hx, h⟩ := of_bind h
   refine wpS.tk 6 false (some 8) (.int .i64 x7) (yld_int hx (fun _ => by kernel_rfl)) ?_
   refine wpS.fin rfl (kr33 _ _ (then_n (ks32 _ _ (xseq_k fun KS34 ks34 => (xregS [0, 1] fun KR35 kr35 => ?_)))))
   refine wpS.q 0 49 (.int .i64 x7) ?_
   rcases of_if h with ⟨hc, h⟩ | ⟨hc, h⟩
   ·refine wpS.tk 1 false (some 50) (.bool true) (yld_b (et hc) (fun _ => by kernel_rfl)) ?_
    refine wpS.fin rfl (kr35 _ _ (then_n (ks34 _ _ (wp_cond_t (by kernel_rfl) (xregS [0, 1, 2] fun KR36 kr36 => ?_)))))
    refine wpS.q 0 51 (.slice a0_A a0_n a0_c) ?_
    refine wpS.tk 1 false (some 52) (.int .i64 (a0.length : Int)) (yld_lenL (hs.rowR 0 rfl) (fun _ => by kernel_rfl)) ?_
    obtain ⟨x8, hx, h⟩ := of_bind h
    refine wpS.tk 2 false (some 8) (.int .i64 x8) (yld_int hx (fun _ => by kernel_rfl)) ?_
    refine wpS.fin rfl (kr36 _ _ ?_)
    have q0 := of_some h
    subst q0
    exact nj _ _ ⟨(hs.conv rfl), exg (by kernel_rfl)⟩
   refine wpS.tk 1 false (some 50) (.bool false) (yld_b (ef hc) (fun _ => by kernel_rfl)) ?_
   refine wpS.fin rfl (kr35 _ _ (then_n (ks34 _ _ (wp_cond_f (by kernel_rfl) (xskip ?_)))))
   have q0 := of_some h
   subst q0
   exact nj _ _ ⟨(hs.conv rfl), exg (by kernel_rfl)⟩
  refine wpS.tk 1 false (some 42) (.bool false) (yld_b (df hc) (fun _ => by kernel_rfl)) ?_
  refine wpS.fin rfl (kr31 _ _ (then_n (ks30 _ _ (wp_cond_f (by kernel_rfl) (xskip ?_)))))
  have q0 := of_some h
  subst q0
  exact nj _ _ ⟨(hs.conv rfl), exg (by kernel_rfl)⟩
 clear hj hs
 rintro a w ⟨hs, g28, rfl⟩
 refine then_n (ks29 _ _ (xseq_k fun KS37 ks37 => (xregS [0, 1, 2, 3, 4, 5] fun KR38 kr38 => ?_)))
 refine wpS.q 0 53 (.int .i64 x4) ?_
 obtain ⟨hz0_39, h⟩ := of_chk h
 obtain ⟨hz1_39, h⟩ := of_chk h
 refine wpS.only 1 (op_noZero (f := 104) (t := 26) (e := 5) (ps := #[3]) (x := x4) (d := (some 54)) (by kernel_rfl) hs (fun _ => by kernel_rfl) Try.func104 (by kernel_rfl) (by kernel_rfl) (by kernel_rfl) (by kernel_rfl) (by kernel_rfl) hz0_39 hz1_39 ?_)
 intro b9 c39 w gw hzc_39 hs
 refine ⟨fun _ => trivial, ?_⟩
 refine wpS.qs [(2, 55, .int .i64 x4), (3, 56, .int .i64 x4)] ?_
 refine wpS.tk 4 false (some 57) (.slice (some ⟨b9, 0, none⟩) (x4 : Int).toNat (x4 : Int).toNat) (yld_cap (sz := 1) (n := (x4 : Int).toNat) (c := c39) (t := 26) (e := 5) (kh := .i64) (km := .i64) (x := x4) (by kernel_rfl) (by kernel_rfl) (by kernel_rfl) hz0_39 hzc_39) ?_
 refine wpS.q 5 9 (.slice (some ⟨b9, 0, none⟩) (x4 : Int).toNat (x4 : Int).toNat) ?_
 refine wpS.fin rfl (kr38 _ _ (then_n (ks37 _ _ (xseq_k fun KS41 ks41 => (xregS [0, 1, 2, 3] fun KR42 kr42 => ?_)))))
 refine wpS.qs [(0, 58, .slice (some ⟨b9, 0, none⟩) (x4 : Int).toNat (x4 : Int).toNat), (1, 59, .slice a0_A a0_n a0_c)] ?_
 obtain ⟨hk_43, h⟩ := of_chk h
 refine wpS.only 2 (op_copyW (n1 := (x4 : Int).toNat) (c1 := (x4 : Int).toNat) (A1 := some ⟨b9, 0, none⟩) (td := 26) (ts := 26) (ty := 3) (e := 5) (k := .u8) (l := ([] : List Int)) (m := a0) (d := (some 60)) (by kernel_rfl) hs 0 rfl (hs.rowR 0 rfl) (by rw [hk_43]) (by have := hk_43; omega) (by kernel_rfl) (by kernel_rfl) (by kernel_rfl) ?_)
 intro w kp hs
 refine ⟨fun _ => trivial, ?_⟩
 obtain ⟨x10, hx, h⟩ := of_bind h
 refine wpS.tk 3 false (some 10) (.int .i64 x10) (yld_int hx (fun _ => by kernel_rfl)) ?_
 refine wpS.fin rfl (kr42 _ _ (then_n (ks41 _ _ (xseq_k fun KS44 ks44 => ?_))))
 obtain ⟨y13, hy, hk0⟩ := of_bind h
 refine wp_exq (N := fun a w => St w0 [] [.known (CI .u8) b9 ((x4 : Int).toNat) y13 5] [.rowL (CI .u8) a0_A a0_n a0_c a0] w ∧ ∃ g46 : Nat → Value, a = ⟨#[.slice a0_A a0_n a0_c, .int .i64 a1, undef, undef, .slice none 0 0, .int .u64 r2, .int .u64 r3, .int .i64 x4, .int .i64 y6, .slice (some ⟨b9, 0, none⟩) (x4 : Int).toNat (x4 : Int).toNat, (g46 10), (g46 11), .int .i64 a1, .bool false, undef, .int .i64 a1, .bool false, undef, .tuple #[.int .u64 r2, .int .u64 r3], .slice a0_A a0_n a0_c, .int .i64 (a0.length : Int), .int .u64 (iconv .u64 (a0.length : Int)), .int .i64 a1, .int .u64 (iconv .u64 a1), .tuple #[.int .u64 r2, .int .u64 r3], .int .u64 r2, .int .u64 r3, .int .u64 r2, .bool false, .bool false, .int .u64 r3, .bool false, .bool false, undef, .int .u64 r3, .int .i64 (iconv .i64 r3), .slice a0_A a0_n a0_c, .int .i64 (a0.length : Int), .bool false, undef, .int .i64 x4, (g28 41), (g28 42), (g28 43), (g28 44), (g28 45), (g28 46), (g28 47), (g28 48), (g28 49), (g28 50), (g28 51), (g28 52), .int .i64 x4, .slice (some ⟨b9, 0, none⟩) (x4 : Int).toNat c39, .int .i64 x4, .int .i64 x4, .slice (some ⟨b9, 0, none⟩) (x4 : Int).toNat (x4 : Int).toNat, .slice (some ⟨b9, 0, none⟩) (x4 : Int).toNat (x4 : Int).toNat, .slice a0_A a0_n a0_c, .int .i64 ((min a0.length ((x4 : Int).toNat) : Nat) : Int), (g46 61), (g46 62), (g46 63), (g46 64), (g46 65), (g46 66), (g46 67), (g46 68), (g46 69), (g46 70), (g46 71), (g46 72), (g46 73), (g46 74), (g46 75), undef], []⟩) (fun N0 nn0 => ?_) ?_
 ·clear hk0
  refine xblock ?_
  refine wp_loop_k (fun n a w => ∃ z11 z12, bytes_Repeat.l0 K n x4 y6 z11 z12 = some y13 ∧ St w0 [] [.known (CI .u8) b9 ((x4 : Int).toNat) z12 5] [.rowL (CI .u8) a0_A a0_n a0_c a0] w ∧ ∃ g45 : Nat → Value, a = ⟨#[.slice a0_A a0_n a0_c, .int .i64 a1, undef, undef, .slice none 0 0, .int .u64 r2, .int .u64 r3, .int .i64 x4, .int .i64 y6, .slice (some ⟨b9, 0, none⟩) (x4 : Int).toNat (x4 : Int).toNat, .int .i64 z11, (g45 11), .int .i64 a1, .bool false, undef, .int .i64 a1, .bool false, undef, .tuple #[.int .u64 r2, .int .u64 r3], .slice a0_A a0_n a0_c, .int .i64 (a0.length : Int), .int .u64 (iconv .u64 (a0.length : Int)), .int .i64 a1, .int .u64 (iconv .u64 a1), .tuple #[.int .u64 r2, .int .u64 r3], .int .u64 r2, .int .u64 r3, .int .u64 r2, .bool false, .bool false, .int .u64 r3, .bool false, .bool false, undef, .int .u64 r3, .int .i64 (iconv .i64 r3), .slice a0_A a0_n a0_c, .int .i64 (a0.length : Int), .bool false, undef, .int .i64 x4, (g28 41), (g28 42), (g28 43), (g28 44), (g28 45), (g28 46), (g28 47), (g28 48), (g28 49), (g28 50), (g28 51), (g28 52), .int .i64 x4, .slice (some ⟨b9, 0, none⟩) (x4 : Int).toNat c39, .int .i64 x4, .int .i64 x4, .slice (some ⟨b9, 0, none⟩) (x4 : Int).toNat (x4 : Int).toNat, .slice (some ⟨b9, 0, none⟩) (x4 : Int).toNat (x4 : Int).toNat, .slice a0_A a0_n a0_c, .int .i64 ((min a0.length ((x4 : Int).toNat) : Nat) : Int), (g45 61), (g45 62), (g45 63), (g45 64), (g45 65), (g45 66), (g45 67), (g45 68), (g45 69), (g45 70), (g45 71), (g45 72), (g45 73), (g45 74), (g45 75), undef], []⟩) K ⟨x10, (([] : List Int) ++ a0.take ((x4 : Int).toNat)), hy, hs.conv rfl, exg (by kernel_rfl)⟩ ?_
  clear hs h hy
  rintro n a w ⟨z11, z12, h, hs, g45, rfl⟩ KL0 kl0
  cases n with
  | zero => exact nomatch (show none = some _ from h)
  | succ n =>
   refine xseq_k fun KS47 ks47 => ?_
   refine xseq_k fun KS48 ks48 => ?_
   refine xregS [0, 1, 2] fun KR49 kr49 => ?_
   refine wpS.qs [(0, 61, .int .i64 z11), (1, 62, .int .i64 x4)] ?_
   rcases of_if h with ⟨hc, h⟩ | ⟨hc, h⟩
   ·refine wpS.tk 2 false (some 63) (.bool true) (yld_b (dt hc) (fun _ => by kernel_rfl)) ?_
    refine wpS.fin rfl (kr49 _ _ (then_n (ks48 _ _ (wp_cond_t (by kernel_rfl) (xskip (then_n (ks47 _ _ (xblock (xseq_k fun KS50 ks50 => (xregS [0, 1, 2, 3] fun KR51 kr51 => ?_))))))))))
    refine wpS.qs [(0, 64, .int .i64 z11), (1, 65, .int .i64 y6), (2, 66, .int .i64 (imin z11 y6))] ?_
    obtain ⟨x14, hx, h⟩ := of_bind h
    refine wpS.tk 3 false (some 11) (.int .i64 x14) (yld_int hx (fun _ => by kernel_rfl)) ?_
    refine wpS.fin rfl (kr51 _ _ (then_n (ks50 _ _ ?_)))
    refine wp_regG [7] (fun k => True) 10 (by kernel_rfl) (by kernel_rfl) (by kernel_rfl) fun KR52 kr52 => ?_
    have hs := hs.drawn1
    refine wpG.q 0 67 (.int .i64 z11) ?_
    refine wpG.q 1 68 (.slice (some ⟨b9, 0, none⟩) (x4 : Int).toNat (x4 : Int).toNat) ?_
    refine wpG.q 2 69 (.int .i64 z11) ?_
    obtain ⟨hd0_53, h⟩ := of_chk h
    obtain ⟨hd1_53, h⟩ := of_chk h
    refine wpG.tD 3 false (some 70) (.slice (some ⟨b9, (z11 : Int).toNat, none⟩) ((x4 : Int).toNat - (z11 : Int).toNat) ((x4 : Int).toNat - (z11 : Int).toNat)) (yld_dst (n := (x4 : Int).toNat) (t := 26) (e := 5) (k := .i64) (lo := z11) (by kernel_rfl) (by kernel_rfl) (by kernel_rfl) hd0_53 hd1_53) ?_
    refine wpG.q 4 71 (.slice (some ⟨b9, 0, none⟩) (x4 : Int).toNat (x4 : Int).toNat) ?_
    refine wpG.q 5 72 (.int .i64 x14) ?_
    obtain ⟨hd0_54, h⟩ := of_chk h
    obtain ⟨hd1_54, h⟩ := of_chk h
    obtain ⟨hd2_54, h⟩ := of_chk h
    refine wpG.tD 6 false (some 73) (.slice (some ⟨b9, 0, none⟩) (x14 : Int).toNat (x4 : Int).toNat) (yld_src (sz := 1) (n := (x4 : Int).toNat) (c := (x4 : Int).toNat) (t := 26) (e := 5) (k := .i64) (hi := x14) (by kernel_rfl) (by kernel_rfl) (by kernel_rfl) hd0_54 hd2_54 (Nat.le_refl _)) ?_
    obtain ⟨hk_55, h⟩ := of_chk h
    refine wpG.only 7 (by kernel_rfl) (op_copyW (n1 := ((x4 : Int).toNat - (z11 : Int).toNat)) (c1 := ((x4 : Int).toNat - (z11 : Int).toNat)) (A1 := some ⟨b9, (z11 : Int).toNat, none⟩) (td := 26) (ts := 26) (ty := 3) (e := 5) (k := .u8) (l := z12) (m := (z12.take (x14 : Int).toNat)) (d := (some 74)) (by kernel_rfl) hs 0 rfl (hs.rowW (c := (x4 : Int).toNat) 0 rfl hd0_54 hd1_54 (by have := hd2_54; omega)) (by rw [hk_55]) (by have := hk_55; have := hd1_53; omega) (by kernel_rfl) (by kernel_rfl) (by kernel_rfl) ?_)
    intro w kp hs
    refine ⟨⟨fun hf => absurd hf (by decide), .all _ _⟩, ?_⟩
    refine wpG.q 8 75 (.int .i64 (iadd .i64 z11 ((min (z12.take (x14 : Int).toNat).length ((x4 : Int).toNat - (z11 : Int).toNat) : Nat) : Int))) ?_
    obtain ⟨x15, hx, h⟩ := of_bind h
    refine wpG.tD 9 false (some 10) (.int .i64 x15) (yld_int hx (fun _ => by kernel_rfl)) ?_
    refine wpG.fin (by kernel_rfl) rfl (kr52 _ _ ?_)
    refine inBlock_n ?_
    exact then_n (kl0 _ _ ⟨n, Nat.lt_succ_self n, x15, (z12 ++ (z12.take (x14 : Int).toNat).take ((x4 : Int).toNat - (z11 : Int).toNat)), h, (hs.conv rfl), exg (by kernel_rfl)⟩)
   refine wpS.tk 2 false (some 63) (.bool false) (yld_b (df hc) (fun _ => by kernel_rfl)) ?_
   refine wpS.fin rfl (kr49 _ _ (then_n (ks48 _ _ (wp_cond_f (by kernel_rfl) (xexit (then_x (then_x (inBlock_hit ?_))))))))
   have q0 := of_some h
   subst q0
   exact exq_n (nn0 _ _ ⟨(hs.conv rfl), exg (by kernel_rfl)⟩)
 clear hs h hy
 rintro a w ⟨hs, g46, rfl⟩
 have h := hk0
 refine then_n (ks44 _ _ (xseq_k fun KS56 ks56 => (xregS [0, 1] fun KR57 kr57 => ?_)))
 refine wpS.qs [(0, 76, .slice (some ⟨b9, 0, none⟩) (x4 : Int).toNat (x4 : Int).toNat), (1, 4, .slice (some ⟨b9, 0, none⟩) (x4 : Int).toNat (x4 : Int).toNat)] ?_
 refine wpS.fin rfl (kr57 _ _ (then_n (ks56 _ _ (xret ?_))))
 obtain ⟨hkl, h⟩ := of_chk h
 have q0 := of_some h
 subst q0
 have hs := hs.knownRow 0 rfl hkl (Nat.le_refl _)
 exact qq _ _ (post_ret (by kernel_rfl) (run_results [.tmp 4] [.slice (some ⟨b9, 0, none⟩) (x4 : Int).toNat (x4 : Int).toNat] (by kernel_rfl) (.cons (res_tmp (by kernel_rfl)) .nil)) ⟨⟨(some ⟨b9, 0, none⟩), (x4 : Int).toNat, (x4 : Int).toNat⟩, congrArg Ending.returned (by kernel_rfl), (hs.pickR pick_nil)⟩)

theorem slices_Clone_byte_byte.ok {K : Nat} {a0 : List Int} {r0 : List Int} {a0_A : Option Addr} {a0_n : Nat} {a0_c : Nat} (h : slices_Clone_byte_byte.f K a0 = some r0) (w0 : World) (hp0 : RowL (CI .u8) w0 a0_A a0_n a0_c a0) : Calls Try.prog 93 #[.slice a0_A a0_n a0_c] w0 fun e w' => ∃ h : (Option Addr × Nat × Nat), e = .returned (.slice h.1 h.2.1 h.2.2) ∧ St w0 [] [.ownL (CI .u8) h.1 h.2.1 h.2.2 r0 5] [] w' := by
 refine calls_k Try.func93 rfl fun Q qq => ?_
 have hs := St.startR (all_cons (RowP.ent hp0) all_nil)
 refine wp_conv (a' := ⟨#[.slice a0_A a0_n a0_c, undef, undef, undef, undef, undef, undef, undef], []⟩) (by kernel_rfl) ?_
 refine xseq_k fun KS1 ks1 => ?_
 refine xregS [0] fun KR2 kr2 => ?_
 refine wpS.q 0 2 (.slice none 0 0) ?_
 refine wpS.fin rfl (kr2 _ _ (then_n (ks1 _ _ (xseq_k fun KS3 ks3 => (xseq_k fun KS4 ks4 => (xregS [0, 1] fun KR5 kr5 => ?_))))))
 refine wpS.q 0 3 (.slice a0_A a0_n a0_c) ?_
 cases hn : (a0_A : Option Addr).isNone with
 | true =>
  have hl := nil_list (hs.rowR 0 rfl) hn
  have h := of_isE_t hl h
  refine wpS.tk 1 false (some 4) (.bool true) (yld_nilB (t := 26) (e := 5) (C := (CI .u8)) (.tmp 3) (.const (.slice none 0 0)) (hs.rowR 0 rfl) hn (by kernel_rfl) (by kernel_rfl) (by kernel_rfl)) ?_
  refine wpS.fin rfl (kr5 _ _ (then_n (ks4 _ _ (wp_cond_t (by kernel_rfl) (xseq_k fun KS6 ks6 => (xregS [0] fun KR7 kr7 => ?_))))))
  refine wpS.q 0 2 (.slice none 0 0) ?_
  refine wpS.fin rfl (kr7 _ _ (then_n (ks6 _ _ (xret (then_r ?_)))))
  have q0 := of_some h
  subst q0
  have hs := hs.addNilL (CI .u8) 5
  exact qq _ _ (post_ret (by kernel_rfl) (run_results [.tmp 2] [.slice none 0 0] (by kernel_rfl) (.cons (res_tmp (by kernel_rfl)) .nil)) ⟨⟨none, 0, 0⟩, congrArg Ending.returned (by kernel_rfl), (hs.pickR pick_nil)⟩)
 | false =>
  have h := of_isE_f (fun hl => by simp [hl]) h
  refine wpS.tk 1 false (some 4) (.bool false) (yld_nilB (t := 26) (e := 5) (C := (CI .u8)) (.tmp 3) (.const (.slice none 0 0)) (hs.rowR 0 rfl) hn (by kernel_rfl) (by kernel_rfl) (by kernel_rfl)) ?_
  refine wpS.fin rfl (kr5 _ _ (then_n (ks4 _ _ (wp_cond_f (by kernel_rfl) (xskip (then_n (ks3 _ _ (xseq_k fun KS8 ks8 => (xregS [0, 1, 2, 3] fun KR9 kr9 => ?_)))))))))
  refine wpS.only 0 (op_lit0 (C := (CI .u8)) (t := 26) (e := 5) (parts := #[]) (d := (some 5)) (by kernel_rfl) hs rfl (by kernel_rfl) (by kernel_rfl) (by kernel_rfl) ?_)
  intro s1_A s1_n s1_c w gw hs
  refine ⟨fun _ => trivial, ?_⟩
  refine wpS.q 1 6 (.slice a0_A a0_n a0_c) ?_
  obtain ⟨h0, h⟩ := of_chk h
  refine wpS.only 2 (op_appendT (C := (CI .u8)) (t := 26) (ty := 26) (e := 5) (bytes := 1) (B := 140737488355328) (d := (some 7)) (by kernel_rfl) hs 0 rfl (hs.rowR 0 rfl) (by kernel_rfl) (by kernel_rfl) (by kernel_rfl) (by kernel_rfl) (by kernel_rfl) h0 (by decide) (by decide) ?_)
  intro s2_A s2_n s2_c w hs
  refine ⟨fun _ => trivial, ?_⟩
  refine wpS.q 3 2 (.slice s2_A s2_n s2_c) ?_
  refine wpS.fin rfl (kr9 _ _ (then_n (ks8 _ _ (xret ?_))))
  have q0 := of_some h
  subst q0
  exact qq _ _ (post_ret (by kernel_rfl) (run_results [.tmp 2] [.slice s2_A s2_n s2_c] (by kernel_rfl) (.cons (res_tmp (by kernel_rfl)) .nil)) ⟨⟨s2_A, s2_n, s2_c⟩, congrArg Ending.returned (by kernel_rfl), (hs.pickR pick_nil)⟩)

theorem bits_Xor.ok {K : Nat} {a0 : List Int} {a1 : List Int} {r0 : List Int} {a0_A : Option Addr} {a0_n : Nat} {a0_c : Nat} {a1_A : Option Addr} {a1_n : Nat} {a1_c : Nat} (h : bits_Xor.f K a0 a1 = some r0) (w0 : World) (hp0 : RowL (CI .u8) w0 a0_A a0_n a0_c a0) (hp1 : RowL (CI .u8) w0 a1_A a1_n a1_c a1) : Calls Try.prog 73 #[.slice a0_A a0_n a0_c, .slice a1_A a1_n a1_c] w0 fun e w' => ∃ h : (Option Addr × Nat × Nat), e = .returned (.slice h.1 h.2.1 h.2.2) ∧ St w0 [] [.ownL (CI .u8) h.1 h.2.1 h.2.2 r0 5] [] w' := by
 refine calls_k Try.func73 rfl fun Q qq => ?_
 have hs := St.startR (all_cons (RowP.ent hp0) (all_cons (RowP.ent hp1) all_nil))
 refine wp_conv (a' := ⟨#[.slice a0_A a0_n a0_c, .slice a1_A a1_n a1_c, undef, undef, undef, undef, undef, undef, undef, undef, undef, undef, undef, undef, undef, undef, undef, undef, undef, undef, undef, undef, undef, undef, undef, undef, undef, undef, undef, undef, undef, undef], []⟩) (by kernel_rfl) ?_
 refine xseq_k fun KS1 ks1 => ?_
 refine xregS [0] fun KR2 kr2 => ?_
 refine wpS.q 0 4 (.slice none 0 0) ?_
 refine wpS.fin rfl (kr2 _ _ (then_n (ks1 _ _ (xseq_k fun KS3 ks3 => (xregS [0, 1, 2, 3, 4, 5, 6, 7, 8] fun KR4 kr4 => ?_)))))
 refine wpS.qs [(0, 7, .slice a0_A a0_n a0_c), (1, 8, .slice a0_A a0_n a0_c)] ?_
 refine wpS.tk 2 false (some 9) (.int .i64 (a0.length : Int)) (yld_lenL (hs.rowR 0 rfl) (fun _ => by kernel_rfl)) ?_
 refine wpS.q 3 10 (.slice a1_A a1_n a1_c) ?_
 refine wpS.tk 4 false (some 11) (.int .i64 (a1.length : Int)) (yld_lenL (hs.rowR 1 rfl) (fun _ => by kernel_rfl)) ?_
 refine wpS.q 5 12 (.int .i64 (imin (a0.length : Int) (a1.length : Int))) ?_
 obtain ⟨h0, h⟩ := of_chk h
 obtain ⟨h1, h⟩ := of_chk h
 obtain ⟨h2, h⟩ := of_chk h
 obtain ⟨s1_A, hA⟩ : ∃ A, A = if a0_c = (0 : Int).toNat then a0_A else adr a0_A ((0 : Int).toNat * Cod.size (CI .u8)) := ⟨_, rfl⟩
 obtain ⟨s1_n, hn⟩ : ∃ n, n = ((imin (a0.length : Int) (a1.length : Int)) : Int).toNat - (0 : Int).toNat := ⟨_, rfl⟩
 obtain ⟨s1_c, hc⟩ : ∃ c, c = a0_c - (0 : Int).toNat := ⟨_, rfl⟩
 refine wpS.tk 6 false (some 13) (.slice s1_A s1_n s1_c) (yld_sub (C := (CI .u8)) (t := 26) (e := 5) (low := none) (high := some (.int .i64 (imin (a0.length : Int) (a1.length : Int)))) (lo := 0) (hi := (imin (a0.length : Int) (a1.length : Int))) (hs.rowR 0 rfl) (by kernel_rfl) (by kernel_rfl) (by kernel_rfl) (.inl ⟨rfl, rfl⟩) (.inr ⟨_, rfl⟩) h0 h1 h2 hA hn hc) ?_
 have hs := hs.addSub (C := (CI .u8)) 0 rfl h0 h1 h2 hA hn hc
 obtain ⟨r2, hg, h⟩ := of_bind h
 refine wpS.only 7 (op_callH (d := (some 14)) (by kernel_rfl) hs (fun _ => by kernel_rfl) (slices_Clone_byte_byte.ok hg _ (hs.rowR 0 rfl)) ?_)
 rintro ⟨r2_A, r2_n, r2_c⟩ w gw hs
 have hs := hs.conv (L' := [.ownL (CI .u8) r2_A r2_n r2_c r2 5]) rfl
 refine ⟨fun _ => trivial, ?_⟩
 refine wpS.q 8 5 (.slice r2_A r2_n r2_c) ?_
 refine wpS.fin rfl (kr4 _ _ (then_n (ks3 _ _ (xseq_k fun KS5 ks5 => (xseq_k fun KS6 ks6 => (xregS [0, 1, 2] fun KR7 kr7 => ?_))))))
 refine wpS.q 0 15 (.slice r2_A r2_n r2_c) ?_
 refine wpS.tk 1 false (some 16) (.int .i64 (r2.length : Int)) (yld_lenL (hs.rowL 0 rfl) (fun _ => by kernel_rfl)) ?_
 refine wpS.q 2 17 (.int .i64 0) ?_
 refine wpS.fin rfl (kr7 _ _ (then_n (ks6 _ _ ?_)))
 obtain ⟨y5, hy, hk0⟩ := of_bind h
 refine wp_exq (N := fun a w => St w0 [] [.ownL (CI .u8) r2_A r2_n r2_c y5 5] [.rowL (CI .u8) s1_A s1_n s1_c (subL a0 0 (imin (a0.length : Int) (a1.length : Int))), .rowL (CI .u8) a0_A a0_n a0_c a0, .rowL (CI .u8) a1_A a1_n a1_c a1] w ∧ ∃ g9 : Nat → Value, a = ⟨#[.slice a0_A a0_n a0_c, .slice a1_A a1_n a1_c, undef, undef, .slice none 0 0, .slice r2_A r2_n r2_c, (g9 6), .slice a0_A a0_n a0_c, .slice a0_A a0_n a0_c, .int .i64 (a0.length : Int), .slice a1_A a1_n a1_c, .int .i64 (a1.length : Int), .int .i64 (imin (a0.length : Int) (a1.length : Int)), .slice s1_A s1_n s1_c, .slice r2_A r2_n r2_c, .slice r2_A r2_n r2_c, .int .i64 (r2.length : Int), (g9 17), (g9 18), (g9 19), (g9 20), (g9 21), (g9 22), (g9 23), (g9 24), (g9 25), (g9 26), (g9 27), (g9 28), (g9 29), (g9 30), undef], []⟩) (fun N0 nn0 => ?_) ?_
 ·clear hk0
  refine xblock ?_
  refine wp_loop_k (fun n a w => ∃ z3 z4, bits_Xor.l0 K n a1 r2 z3 z4 = some y5 ∧ St w0 [] [.ownL (CI .u8) r2_A r2_n r2_c z4 5] [.rowL (CI .u8) s1_A s1_n s1_c (subL a0 0 (imin (a0.length : Int) (a1.length : Int))), .rowL (CI .u8) a0_A a0_n a0_c a0, .rowL (CI .u8) a1_A a1_n a1_c a1] w ∧ ∃ g8 : Nat → Value, a = ⟨#[.slice a0_A a0_n a0_c, .slice a1_A a1_n a1_c, undef, undef, .slice none 0 0, .slice r2_A r2_n r2_c, (g8 6), .slice a0_A a0_n a0_c, .slice a0_A a0_n a0_c, .int .i64 (a0.length : Int), .slice a1_A a1_n a1_c, .int .i64 (a1.length : Int), .int .i64 (imin (a0.length : Int) (a1.length : Int)), .slice s1_A s1_n s1_c, .slice r2_A r2_n r2_c, .slice r2_A r2_n r2_c, .int .i64 (r2.length : Int), .int .i64 z3, (g8 18), (g8 19), (g8 20), (g8 21), (g8 22), (g8 23), (g8 24), (g8 25), (g8 26), (g8 27), (g8 28), (g8 29), (g8 30), undef], []⟩) K ⟨0, r2, hy, hs.conv rfl, exg (by kernel_rfl)⟩ ?_
  clear hs h hy
  rintro n a w ⟨z3, z4, h, hs, g8, rfl⟩ KL0 kl0
  cases n with
  | zero => exact nomatch (show none = some _ from h)
  | succ n =>
   refine xseq_k fun KS10 ks10 => ?_
   refine xregS [0] fun KR11 kr11 => ?_
   rcases of_if h with ⟨hc, h⟩ | ⟨hc, h⟩
   ·refine wpS.tk 0 false (some 18) (.bool true) (yld_b (dt hc) (fun _ => by kernel_rfl)) ?_
    refine wpS.fin rfl (kr11 _ _ (then_n (ks10 _ _ (xseq_k fun KS12 ks12 => (wp_cond_t (by kernel_rfl) (xskip (then_n (ks12 _ _ (xseq_k fun KS13 ks13 => (xblock (xseq_k fun KS14 ks14 => (xregS [0, 1] fun KR15 kr15 => ?_))))))))))))
    refine wpS.qs [(0, 19, .int .i64 z3), (1, 6, .int .i64 z3)] ?_
    refine wpS.fin rfl (kr15 _ _ (then_n (ks14 _ _ ?_)))
    refine wp_regG [10] (fun k => True) 11 (by kernel_rfl) (by kernel_rfl) (by kernel_rfl) fun KR16 kr16 => ?_
    have hs := hs.drawn1
    refine wpG.q 0 20 (.slice r2_A r2_n r2_c) ?_
    refine wpG.q 1 21 (.int .i64 z3) ?_
    obtain ⟨h0, h⟩ := of_chk h
    obtain ⟨h1, h⟩ := of_chk h
    have i0_17 := h0
    have i1_17 := h1
    refine wpG.tD 2 false (some 22) (.pointer (adr r2_A ((z3 : Int).toNat * Cod.size (CI .u8)))) (yld_idxL (C := (CI .u8)) (t := 26) (e := 5) (k := .i64) (x := z3) (hs.rowL 0 rfl) (by kernel_rfl) (by kernel_rfl) (by kernel_rfl) h0 h1) ?_
    refine wpG.tD 3 true (some 23) (.int .u8 (rdL (CI .u8) z4 z3)) (yld_loadL (C := (CI .u8)) (e := 5) (x := z3) (hs.rowL 0 rfl) (by kernel_rfl) rfl (by kernel_rfl) i0_17 i1_17) ?_
    refine wpG.q 4 24 (.slice a1_A a1_n a1_c) ?_
    refine wpG.q 5 25 (.int .i64 z3) ?_
    obtain ⟨h0, h⟩ := of_chk h
    obtain ⟨h1, h⟩ := of_chk h
    have i0_18 := h0
    have i1_18 := h1
    refine wpG.tD 6 false (some 26) (.pointer (adr a1_A ((z3 : Int).toNat * Cod.size (CI .u8)))) (yld_idxL (C := (CI .u8)) (t := 26) (e := 5) (k := .i64) (x := z3) (hs.rowR 2 rfl) (by kernel_rfl) (by kernel_rfl) (by kernel_rfl) h0 h1) ?_
    refine wpG.tD 7 true (some 27) (.int .u8 (rdL (CI .u8) a1 z3)) (yld_loadL (C := (CI .u8)) (e := 5) (x := z3) (hs.rowR 2 rfl) (by kernel_rfl) rfl (by kernel_rfl) i0_18 i1_18) ?_
    refine wpG.q 8 28 (.int .u8 (ixor .u8 (rdL (CI .u8) z4 z3) (rdL (CI .u8) a1 z3))) ?_
    obtain ⟨h0, h⟩ := of_chk h
    obtain ⟨h1, h⟩ := of_chk h
    have i0_19 := h0
    have i1_19 := h1
    refine wpG.tD 9 false (some 29) (.pointer (adr r2_A ((z3 : Int).toNat * Cod.size (CI .u8)))) (yld_idxL (C := (CI .u8)) (t := 26) (e := 5) (k := .i64) (x := z3) (hs.rowL 0 rfl) (by kernel_rfl) (by kernel_rfl) (by kernel_rfl) h0 h1) ?_
    obtain ⟨x6, hx, h⟩ := of_bind h
    refine wpG.only 10 (by kernel_rfl) (op_storeL (C := (CI .u8)) (t := 5) (x := z3) (v := x6) (d := none) (by kernel_rfl) hs 0 rfl (by cases hx; kernel_rfl) (by kernel_rfl) i0_19 i1_19 ?_)
    intro w hs
    refine ⟨⟨fun hf => absurd hf (by decide), .all _ _⟩, ?_⟩
    refine wpG.fin (by kernel_rfl) rfl (kr16 _ _ ?_)
    refine inBlock_n (then_n (ks13 _ _ (xregS [0, 1] fun KR20 kr20 => ?_)))
    refine wpS.qs [(0, 30, .int .i64 (iadd .i64 z3 1)), (1, 17, .int .i64 (iadd .i64 z3 1))] ?_
    refine wpS.fin rfl (kr20 _ _ ?_)
    exact then_n (kl0 _ _ ⟨n, Nat.lt_succ_self n, (iadd .i64 z3 1), (wrL z4 z3 x6), h, (hs.conv rfl), exg (by kernel_rfl)⟩)
   refine wpS.tk 0 false (some 18) (.bool false) (yld_b (df hc) (fun _ => by kernel_rfl)) ?_
   refine wpS.fin rfl (kr11 _ _ (then_n (ks10 _ _ (xseq_k fun KS21 ks21 => (wp_cond_f (by kernel_rfl) (xexit (then_x (then_x (inBlock_hit ?_)))))))))
   have q0 := of_some h
   subst q0
   exact exq_n (nn0 _ _ ⟨(hs.conv rfl), exg (by kernel_rfl)⟩)
 clear hs h hy
 rintro a w ⟨hs, g9, rfl⟩
 have h := hk0
 refine then_n (ks5 _ _ (xseq_k fun KS22 ks22 => (xregS [0, 1] fun KR23 kr23 => ?_)))
 refine wpS.qs [(0, 31, .slice r2_A r2_n r2_c), (1, 4, .slice r2_A r2_n r2_c)] ?_
 refine wpS.fin rfl (kr23 _ _ (then_n (ks22 _ _ (xret ?_))))
 have q0 := of_some h
 subst q0
 exact qq _ _ (post_ret (by kernel_rfl) (run_results [.tmp 4] [.slice r2_A r2_n r2_c] (by kernel_rfl) (.cons (res_tmp (by kernel_rfl)) .nil)) ⟨⟨r2_A, r2_n, r2_c⟩, congrArg Ending.returned (by kernel_rfl), (hs.pickR pick_nil)⟩)
end Go.Proofs.Ytmpagpbnpgcecaa
