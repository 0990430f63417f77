/- Printed by this work's own program: the code of each function below comes to the answer that its plain form tells. -/
import Derived.Test.YtmpagpbnpgcecaaMd
import Derived.Test.YtmpagpbnpgcecaaProg
import Derived.Test.YtmpagpbnpgcecaaGF0
set_option linter.unusedVariables false
set_option linter.unusedSimpArgs false
set_option maxRecDepth 100000
set_option maxHeartbeats 4000000
namespace Go.Proofs.Ytmpagpbnpgcecaa
open Go.Mx
attribute [local irreducible] wpOp

theorem aes_Mul.ok {K : Nat} {a0 : Int} {a1 : Int} {r0 : Int} (h : aes_Mul.f K a0 a1 = some r0) (w0 : World) : Ret Try.prog 15 #[.int .u8 a0, .int .u8 a1] w0 (.int .u8 r0) := by
 refine calls_k Try.func15 rfl fun Q qq => ?_
 have hs := St.start w0
 refine wp_conv (a' := ⟨#[.int .u8 a0, .int .u8 a1, undef, undef, undef, undef, undef, undef, undef, undef, undef, undef, undef, undef, undef, undef, undef, undef, undef, undef, undef, undef, undef, undef, undef, undef, undef, undef, undef, undef, undef, undef, undef, undef, undef, undef, undef, undef, undef, undef, undef], []⟩) (by kernel_rfl) ?_
 refine xseq_k fun KS1 ks1 => ?_
 refine xregS [0] fun KR2 kr2 => ?_
 refine wpS.q 0 4 (.int .u8 0) ?_
 refine wpS.fin rfl (kr2 _ _ (then_n (ks1 _ _ (xseq_k fun KS3 ks3 => (xregS [0] fun KR4 kr4 => ?_)))))
 refine wpS.q 0 5 (.int .i64 0) ?_
 refine wpS.fin rfl (kr4 _ _ (then_n (ks3 _ _ (xseq_k fun KS5 ks5 => (xseq_k fun KS6 ks6 => (xregS [0, 1, 2, 3, 4, 5] fun KR7 kr7 => ?_))))))
 refine wpS.qs [(0, 9, .int .u8 a0), (1, 10, .int .i64 (iconv .i64 a0)), (2, 11, .int .u8 a1), (3, 12, .int .i64 (iconv .i64 a1))] ?_
 obtain ⟨x1, hx, h⟩ := of_bind h
 refine wpS.tk 4 false (some 6) (.int .i64 x1) (yld_int hx (fun _ => by kernel_rfl)) ?_
 obtain ⟨x2, hx, h⟩ := of_bind h
 refine wpS.tk 5 false (some 7) (.int .i64 x2) (yld_int hx (fun _ => by kernel_rfl)) ?_
 refine wpS.fin rfl (kr7 _ _ (then_n (ks6 _ _ ?_)))
 obtain ⟨y6, hy, hk0⟩ := of_bind h
 refine wp_exq (N := fun a w => St w0 [] [] [] w ∧ ∃ g9 : Nat → Value, a = ⟨#[.int .u8 a0, .int .u8 a1, undef, undef, .int .u8 0, .int .i64 y6, (g9 6), (g9 7), undef, .int .u8 a0, .int .i64 (iconv .i64 a0), .int .u8 a1, .int .i64 (iconv .i64 a1), (g9 13), (g9 14), (g9 15), (g9 16), (g9 17), (g9 18), (g9 19), (g9 20), (g9 21), (g9 22), (g9 23), (g9 24), undef, undef, undef, undef, undef, undef, undef, undef, undef, undef, undef, undef, undef, undef, undef, undef], []⟩) (fun N0 nn0 => ?_) ?_
 ·clear hk0
  refine xblock ?_
  refine wp_loop_k (fun n a w => ∃ z3 z4 z5, aes_Mul.l0 K n z3 z4 z5 = some y6 ∧ St w0 [] [] [] w ∧ ∃ g8 : Nat → Value, a = ⟨#[.int .u8 a0, .int .u8 a1, undef, undef, .int .u8 0, .int .i64 z3, .int .i64 z4, .int .i64 z5, undef, .int .u8 a0, .int .i64 (iconv .i64 a0), .int .u8 a1, .int .i64 (iconv .i64 a1), (g8 13), (g8 14), (g8 15), (g8 16), (g8 17), (g8 18), (g8 19), (g8 20), (g8 21), (g8 22), (g8 23), (g8 24), undef, undef, undef, undef, undef, undef, undef, undef, undef, undef, undef, undef, undef, undef, undef, undef], []⟩) K ⟨0, x1, x2, hy, hs.conv rfl, exg (by kernel_rfl)⟩ ?_
  clear hs h hy
  rintro n a w ⟨z3, z4, z5, h, hs, g8, rfl⟩ KL0 kl0
  cases n with
  | zero => exact nomatch (show none = some _ from h)
  | succ n =>
   refine xseq_k fun KS10 ks10 => ?_
   refine xseq_k fun KS11 ks11 => ?_
   refine xregS [0, 1] fun KR12 kr12 => ?_
   refine wpS.q 0 13 (.int .i64 z5) ?_
   rcases of_if h with ⟨hc, h⟩ | ⟨hc, h⟩
   ·refine wpS.tk 1 false (some 14) (.bool false) (yld_b (nf hc) (fun _ => by kernel_rfl)) ?_
    refine wpS.fin rfl (kr12 _ _ (then_n (ks11 _ _ (wp_cond_f (by kernel_rfl) (xexit (then_x (then_x (inBlock_hit ?_))))))))
    have q0 := of_some h
    subst q0
    exact exq_n (nn0 _ _ ⟨(hs.conv rfl), exg (by kernel_rfl)⟩)
   refine wpS.tk 1 false (some 14) (.bool true) (yld_b (nt hc) (fun _ => by kernel_rfl)) ?_
   refine wpS.fin rfl (kr12 _ _ (then_n (ks11 _ _ (wp_cond_t (by kernel_rfl) (xskip (then_n (ks10 _ _ ?_)))))))
   obtain ⟨y7, hj, h⟩ := of_bind h
   refine xseq_k fun KS14 ks14 => wp_join (N := fun a w => St w0 [] [] [] w ∧ ∃ g13 : Nat → Value, a = ⟨#[.int .u8 a0, .int .u8 a1, undef, undef, .int .u8 0, .int .i64 y7, .int .i64 z4, .int .i64 z5, undef, .int .u8 a0, .int .i64 (iconv .i64 a0), .int .u8 a1, .int .i64 (iconv .i64 a1), .int .i64 z5, .bool true, (g8 15), (g8 16), (g8 17), (g8 18), (g13 19), (g13 20), (g13 21), (g13 22), (g13 23), (g13 24), undef, undef, undef, undef, undef, undef, undef, undef, undef, undef, undef, undef, undef, undef, undef, undef], []⟩) (fun N nj => ?_) ?_
   ·clear h
    have h := hj
    refine xblock (xseq_k fun KS15 ks15 => (xregS [0, 1, 2] fun KR16 kr16 => ?_))
    refine wpS.qs [(0, 19, .int .i64 z5), (1, 20, .int .i64 (iand .i64 z5 1))] ?_
    rcases of_if h with ⟨hc, h⟩ | ⟨hc, h⟩
    ·refine wpS.tk 2 false (some 21) (.bool true) (yld_b (et hc) (fun _ => by kernel_rfl)) ?_
     refine wpS.fin rfl (kr16 _ _ (then_n (ks15 _ _ (wp_cond_t (by kernel_rfl) (xregS [0, 1, 2, 3] fun KR17 kr17 => ?_)))))
     refine wpS.qs [(0, 22, .int .i64 z3), (1, 23, .int .i64 z4), (2, 24, .int .i64 (ixor .i64 z3 z4))] ?_
     obtain ⟨x8, hx, h⟩ := of_bind h
     refine wpS.tk 3 false (some 5) (.int .i64 x8) (yld_int hx (fun _ => by kernel_rfl)) ?_
     refine wpS.fin rfl (kr17 _ _ (inBlock_n ?_))
     have q0 := of_some h
     subst q0
     exact nj _ _ ⟨(hs.conv rfl), exg (by kernel_rfl)⟩
    refine wpS.tk 2 false (some 21) (.bool false) (yld_b (ef hc) (fun _ => by kernel_rfl)) ?_
    refine wpS.fin rfl (kr16 _ _ (then_n (ks15 _ _ (wp_cond_f (by kernel_rfl) (xskip (inBlock_n ?_))))))
    have q0 := of_some h
    subst q0
    exact nj _ _ ⟨(hs.conv rfl), exg (by kernel_rfl)⟩
   clear hj hs
   rintro a w ⟨hs, g13, rfl⟩
   refine then_n (ks14 _ _ (xregS [0, 1, 2, 3, 4, 5] fun KR18 kr18 => ?_))
   refine wpS.qs [(0, 15, .int .i64 z4), (1, 16, .int .i64 (ishl .i64 z4 1)), (2, 17, .int .i64 z5), (3, 18, .int .i64 (ishr .i64 z5 1))] ?_
   obtain ⟨x9, hx, h⟩ := of_bind h
   refine wpS.tk 4 false (some 6) (.int .i64 x9) (yld_int hx (fun _ => by kernel_rfl)) ?_
   obtain ⟨x10, hx, h⟩ := of_bind h
   refine wpS.tk 5 false (some 7) (.int .i64 x10) (yld_int hx (fun _ => by kernel_rfl)) ?_
   refine wpS.fin rfl (kr18 _ _ ?_)
   exact then_n (kl0 _ _ ⟨n, Nat.lt_succ_self n, y7, x9, x10, h, (hs.conv rfl), exg (by kernel_rfl)⟩)
 clear hs h hy
 rintro a w ⟨hs, g9, rfl⟩
 have h := hk0
 refine then_n (ks5 _ _ (xseq_k fun KS19 ks19 => (xseq_k fun KS20 ks20 => (xregS [0] fun KR21 kr21 => ?_))))
 refine wpS.q 0 8 (.int .i64 14) ?_
 refine wpS.fin rfl (kr21 _ _ (then_n (ks20 _ _ ?_)))
 obtain ⟨y13, hy, hk1⟩ := of_bind h
 refine wp_exq (N := fun a w => St w0 [] [] [] w ∧ ∃ g23 : Nat → Value, a = ⟨#[.int .u8 a0, .int .u8 a1, undef, undef, .int .u8 0, .int .i64 y13, (g9 6), (g9 7), (g23 8), .int .u8 a0, .int .i64 (iconv .i64 a0), .int .u8 a1, .int .i64 (iconv .i64 a1), (g9 13), (g9 14), (g9 15), (g9 16), (g9 17), (g9 18), (g9 19), (g9 20), (g9 21), (g9 22), (g9 23), (g9 24), (g23 25), (g23 26), (g23 27), (g23 28), (g23 29), (g23 30), (g23 31), (g23 32), (g23 33), (g23 34), (g23 35), (g23 36), (g23 37), (g23 38), undef, undef], []⟩) (fun N1 nn1 => ?_) ?_
 ·clear hk1
  refine xblock ?_
  refine wp_loop_k (fun n a w => ∃ z11 z12, aes_Mul.l1 K n z11 z12 = some y13 ∧ St w0 [] [] [] w ∧ ∃ g22 : Nat → Value, a = ⟨#[.int .u8 a0, .int .u8 a1, undef, undef, .int .u8 0, .int .i64 z11, (g9 6), (g9 7), .int .i64 z12, .int .u8 a0, .int .i64 (iconv .i64 a0), .int .u8 a1, .int .i64 (iconv .i64 a1), (g9 13), (g9 14), (g9 15), (g9 16), (g9 17), (g9 18), (g9 19), (g9 20), (g9 21), (g9 22), (g9 23), (g9 24), (g22 25), (g22 26), (g22 27), (g22 28), (g22 29), (g22 30), (g22 31), (g22 32), (g22 33), (g22 34), (g22 35), (g22 36), (g22 37), (g22 38), undef, undef], []⟩) K ⟨y6, 14, hy, hs.conv rfl, exg (by kernel_rfl)⟩ ?_
  clear hs h hy
  rintro n a w ⟨z11, z12, h, hs, g22, rfl⟩ KL1 kl1
  cases n with
  | zero => exact nomatch (show none = some _ from h)
  | succ n =>
   refine xseq_k fun KS24 ks24 => ?_
   refine xseq_k fun KS25 ks25 => ?_
   refine xregS [0, 1] fun KR26 kr26 => ?_
   refine wpS.q 0 25 (.int .i64 z12) ?_
   rcases of_if h with ⟨hc, h⟩ | ⟨hc, h⟩
   ·refine wpS.tk 1 false (some 26) (.bool true) (yld_b (dt hc) (fun _ => by kernel_rfl)) ?_
    refine wpS.fin rfl (kr26 _ _ (then_n (ks25 _ _ (wp_cond_t (by kernel_rfl) (xskip (then_n (ks24 _ _ ?_)))))))
    obtain ⟨y14, hj, h⟩ := of_bind h
    refine xseq_k fun KS28 ks28 => wp_join (N := fun a w => St w0 [] [] [] w ∧ ∃ g27 : Nat → Value, a = ⟨#[.int .u8 a0, .int .u8 a1, undef, undef, .int .u8 0, .int .i64 y14, (g9 6), (g9 7), .int .i64 z12, .int .u8 a0, .int .i64 (iconv .i64 a0), .int .u8 a1, .int .i64 (iconv .i64 a1), (g9 13), (g9 14), (g9 15), (g9 16), (g9 17), (g9 18), (g9 19), (g9 20), (g9 21), (g9 22), (g9 23), (g9 24), .int .i64 z12, .bool true, (g22 27), (g22 28), (g27 29), (g27 30), (g27 31), (g27 32), (g27 33), (g27 34), (g27 35), (g27 36), (g27 37), (g27 38), undef, undef], []⟩) (fun N nj => ?_) ?_
    ·clear h
     have h := hj
     refine xblock (xseq_k fun KS29 ks29 => (xregS [0, 1, 2, 3, 4] fun KR30 kr30 => ?_))
     refine wpS.qs [(0, 29, .int .i64 z11), (1, 30, .int .i64 z12)] ?_
     obtain ⟨h0, h⟩ := of_chk h
     refine wpS.tk 2 false (some 31) (.int .i64 (ishr .i64 z11 z12)) (yld_shr (t := 3) (k' := .i64) (by kernel_rfl) h0) ?_
     refine wpS.q 3 32 (.int .i64 (iand .i64 (ishr .i64 z11 z12) 1)) ?_
     rcases of_if h with ⟨hc, h⟩ | ⟨hc, h⟩
     ·refine wpS.tk 4 false (some 33) (.bool true) (yld_b (et hc) (fun _ => by kernel_rfl)) ?_
      refine wpS.fin rfl (kr30 _ _ (then_n (ks29 _ _ (wp_cond_t (by kernel_rfl) (xregS [0, 1, 2, 3, 4, 5] fun KR31 kr31 => ?_)))))
      refine wpS.qs [(0, 34, .int .i64 z11), (1, 35, .int .i64 z12), (2, 36, .int .i64 (isub .i64 z12 8))] ?_
      obtain ⟨h0, h⟩ := of_chk h
      refine wpS.tk 3 false (some 37) (.int .i64 (ishl .i64 283 (isub .i64 z12 8))) (yld_shl (t := 3) (k' := .i64) (by kernel_rfl) h0) ?_
      refine wpS.q 4 38 (.int .i64 (ixor .i64 z11 (ishl .i64 283 (isub .i64 z12 8)))) ?_
      obtain ⟨x15, hx, h⟩ := of_bind h
      refine wpS.tk 5 false (some 5) (.int .i64 x15) (yld_int hx (fun _ => by kernel_rfl)) ?_
      refine wpS.fin rfl (kr31 _ _ (inBlock_n ?_))
      have q0 := of_some h
      subst q0
      exact nj _ _ ⟨(hs.conv rfl), exg (by kernel_rfl)⟩
     refine wpS.tk 4 false (some 33) (.bool false) (yld_b (ef hc) (fun _ => by kernel_rfl)) ?_
     refine wpS.fin rfl (kr30 _ _ (then_n (ks29 _ _ (wp_cond_f (by kernel_rfl) (xskip (inBlock_n ?_))))))
     have q0 := of_some h
     subst q0
     exact nj _ _ ⟨(hs.conv rfl), exg (by kernel_rfl)⟩
    clear hj hs
    rintro a w ⟨hs, g27, rfl⟩
    refine then_n (ks28 _ _ (xregS [0, 1, 2] fun KR32 kr32 => ?_))
    refine wpS.qs [(0, 27, .int .i64 z12), (1, 28, .int .i64 (isub .i64 z12 1))] ?_
    obtain ⟨x16, hx, h⟩ := of_bind h
    refine wpS.tk 2 false (some 8) (.int .i64 x16) (yld_int hx (fun _ => by kernel_rfl)) ?_
    refine wpS.fin rfl (kr32 _ _ ?_)
    exact then_n (kl1 _ _ ⟨n, Nat.lt_succ_self n, y14, x16, h, (hs.conv rfl), exg (by kernel_rfl)⟩)
   refine wpS.tk 1 false (some 26) (.bool false) (yld_b (df hc) (fun _ => by kernel_rfl)) ?_
   refine wpS.fin rfl (kr26 _ _ (then_n (ks25 _ _ (wp_cond_f (by kernel_rfl) (xexit (then_x (then_x (inBlock_hit ?_))))))))
   have q0 := of_some h
   subst q0
   exact exq_n (nn1 _ _ ⟨(hs.conv rfl), exg (by kernel_rfl)⟩)
 clear hs h hy
 rintro a w ⟨hs, g23, rfl⟩
 have h := hk1
 refine then_n (ks19 _ _ (xseq_k fun KS33 ks33 => (xregS [0, 1, 2] fun KR34 kr34 => ?_)))
 refine wpS.qs [(0, 39, .int .i64 y13), (1, 40, .int .u8 (iconv .u8 y13))] ?_
 obtain ⟨x17, hx, h⟩ := of_bind h
 refine wpS.tk 2 false (some 4) (.int .u8 x17) (yld_int hx (fun _ => by kernel_rfl)) ?_
 refine wpS.fin rfl (kr34 _ _ (then_n (ks33 _ _ (xret ?_))))
 have q0 := of_some h
 subst q0
 exact qq _ _ (post_ret (by kernel_rfl) (run_results [.tmp 4] [.int .u8 x17] (by kernel_rfl) (.cons (res_tmp (by kernel_rfl)) .nil)) ⟨congrArg Ending.returned (by kernel_rfl), hs.none⟩)

theorem aes_powers.ok {K : Nat}  (h : aes_powers.f K = some ()) (w0 : World) : Ret Try.prog 80 #[] w0 (.func (.func 107) #[] #[]) := by
 refine calls_k Try.func80 rfl fun Q qq => ?_
 have hs := St.start w0
 refine wp_conv (a' := ⟨#[undef], []⟩) (by kernel_rfl) ?_
 refine xseq_k fun KS1 ks1 => ?_
 refine xregS [0] fun KR2 kr2 => ?_
 refine wpS.q 0 0 (.nilFunc) ?_
 refine wpS.fin rfl (kr2 _ _ (then_n (ks1 _ _ (xseq_k fun KS3 ks3 => (xregS [0] fun KR4 kr4 => ?_)))))
 refine wpS.q 0 0 (.func (.func 107) #[] #[]) ?_
 refine wpS.fin rfl (kr4 _ _ (then_n (ks3 _ _ (xret ?_))))
 exact qq _ _ (post_ret (by kernel_rfl) (run_results [.tmp 0] [.func (.func 107) #[] #[]] (by kernel_rfl) (.cons (res_tmp (by kernel_rfl)) .nil)) ⟨congrArg Ending.returned (by kernel_rfl), hs.none⟩)

theorem aes_stirred.ok {K : Nat} {a0 : Int} {r0 : Int} (h : aes_stirred.f K a0 = some r0) (w0 : World) : Ret Try.prog 81 #[.int .u8 a0] w0 (.int .u8 r0) := by
 refine calls_k Try.func81 rfl fun Q qq => ?_
 have hs := St.start w0
 refine wp_conv (a' := ⟨#[.int .u8 a0, undef, undef, undef, undef, undef, undef, undef, undef, undef, undef, undef, undef, undef, undef, undef, undef, undef], []⟩) (by kernel_rfl) ?_
 refine xseq_k fun KS1 ks1 => ?_
 refine xregS [0] fun KR2 kr2 => ?_
 refine wpS.q 0 2 (.int .u8 0) ?_
 refine wpS.fin rfl (kr2 _ _ (then_n (ks1 _ _ (xseq_k fun KS3 ks3 => (xregS [0, 1] fun KR4 kr4 => ?_)))))
 refine wpS.qs [(0, 4, .int .u8 a0), (1, 3, .int .u8 a0)] ?_
 refine wpS.fin rfl (kr4 _ _ (then_n (ks3 _ _ (xseq_k fun KS5 ks5 => (xseq_k fun KS6 ks6 => (xregS [0] fun KR7 kr7 => ?_))))))
 refine wpS.q 0 5 (.int .i64 0) ?_
 refine wpS.fin rfl (kr7 _ _ (then_n (ks6 _ _ ?_)))
 obtain ⟨y4, hy, hk0⟩ := of_bind h
 refine wp_exq (N := fun a w => St w0 [] [] [] w ∧ ∃ g9 : Nat → Value, a = ⟨#[(g9 0), undef, .int .u8 0, .int .u8 y4, .int .u8 a0, (g9 5), (g9 6), (g9 7), (g9 8), (g9 9), (g9 10), (g9 11), (g9 12), (g9 13), (g9 14), (g9 15), undef, undef], []⟩) (fun N0 nn0 => ?_) ?_
 ·clear hk0
  refine xblock ?_
  refine wp_loop_k (fun n a w => ∃ z1 z2 z3, aes_stirred.l0 K n z1 z2 z3 = some y4 ∧ St w0 [] [] [] w ∧ ∃ g8 : Nat → Value, a = ⟨#[.int .u8 z1, undef, .int .u8 0, .int .u8 z2, .int .u8 a0, .int .i64 z3, (g8 6), (g8 7), (g8 8), (g8 9), (g8 10), (g8 11), (g8 12), (g8 13), (g8 14), (g8 15), undef, undef], []⟩) K ⟨a0, a0, 0, hy, hs.conv rfl, exg (by kernel_rfl)⟩ ?_
  clear hs h hy
  rintro n a w ⟨z1, z2, z3, h, hs, g8, rfl⟩ KL0 kl0
  cases n with
  | zero => exact nomatch (show none = some _ from h)
  | succ n =>
   refine xseq_k fun KS10 ks10 => ?_
   refine xregS [0] fun KR11 kr11 => ?_
   rcases of_if h with ⟨hc, h⟩ | ⟨hc, h⟩
   ·refine wpS.tk 0 false (some 6) (.bool true) (yld_b (dt hc) (fun _ => by kernel_rfl)) ?_
    refine wpS.fin rfl (kr11 _ _ (then_n (ks10 _ _ (xseq_k fun KS12 ks12 => (wp_cond_t (by kernel_rfl) (xskip (then_n (ks12 _ _ (xseq_k fun KS13 ks13 => (xblock (xseq_k fun KS14 ks14 => (xregS [0, 1, 2, 3, 4, 5] fun KR15 kr15 => ?_))))))))))))
    refine wpS.qs [(0, 7, .int .u8 z1), (1, 8, .int .u8 (ishl .u8 z1 1)), (2, 9, .int .u8 z1), (3, 10, .int .u8 (ishr .u8 z1 7)), (4, 11, .int .u8 (ior .u8 (ishl .u8 z1 1) (ishr .u8 z1 7)))] ?_
    obtain ⟨x5, hx, h⟩ := of_bind h
    refine wpS.tk 5 false (some 0) (.int .u8 x5) (yld_int hx (fun _ => by kernel_rfl)) ?_
    refine wpS.fin rfl (kr15 _ _ (then_n (ks14 _ _ (xregS [0, 1, 2, 3] fun KR16 kr16 => ?_))))
    refine wpS.qs [(0, 12, .int .u8 z2), (1, 13, .int .u8 x5), (2, 14, .int .u8 (ixor .u8 z2 x5))] ?_
    obtain ⟨x6, hx, h⟩ := of_bind h
    refine wpS.tk 3 false (some 3) (.int .u8 x6) (yld_int hx (fun _ => by kernel_rfl)) ?_
    refine wpS.fin rfl (kr16 _ _ (inBlock_n (then_n (ks13 _ _ (xregS [0, 1] fun KR17 kr17 => ?_)))))
    refine wpS.qs [(0, 15, .int .i64 (iadd .i64 z3 1)), (1, 5, .int .i64 (iadd .i64 z3 1))] ?_
    refine wpS.fin rfl (kr17 _ _ ?_)
    exact then_n (kl0 _ _ ⟨n, Nat.lt_succ_self n, x5, x6, (iadd .i64 z3 1), h, (hs.conv rfl), exg (by kernel_rfl)⟩)
   refine wpS.tk 0 false (some 6) (.bool false) (yld_b (df hc) (fun _ => by kernel_rfl)) ?_
   refine wpS.fin rfl (kr11 _ _ (then_n (ks10 _ _ (xseq_k fun KS18 ks18 => (wp_cond_f (by kernel_rfl) (xexit (then_x (then_x (inBlock_hit ?_)))))))))
   have q0 := of_some h
   subst q0
   exact exq_n (nn0 _ _ ⟨(hs.conv rfl), exg (by kernel_rfl)⟩)
 clear hs h hy
 rintro a w ⟨hs, g9, rfl⟩
 have h := hk0
 refine then_n (ks5 _ _ (xseq_k fun KS19 ks19 => (xregS [0, 1, 2] fun KR20 kr20 => ?_)))
 refine wpS.qs [(0, 16, .int .u8 y4), (1, 17, .int .u8 (ixor .u8 y4 99))] ?_
 obtain ⟨x7, hx, h⟩ := of_bind h
 refine wpS.tk 2 false (some 2) (.int .u8 x7) (yld_int hx (fun _ => by kernel_rfl)) ?_
 refine wpS.fin rfl (kr20 _ _ (then_n (ks19 _ _ (xret ?_))))
 have q0 := of_some h
 subst q0
 exact qq _ _ (post_ret (by kernel_rfl) (run_results [.tmp 2] [.int .u8 x7] (by kernel_rfl) (.cons (res_tmp (by kernel_rfl)) .nil)) ⟨congrArg Ending.returned (by kernel_rfl), hs.none⟩)

theorem aes_made.ok {K : Nat} {r0_0 : Arr 256} {r0_1 : Arr 256} (h : aes_made.f K = some (r0_0, r0_1)) (w0 : World) : Calls Try.prog 44 #[] w0 fun e w' => ∃ b, e = .returned (.pointer (some ⟨b, 0, none⟩)) ∧ St w0 [] [.blk b (([] : List Value) ++ enc .u8 r0_0 ++ enc .u8 r0_1 ++ ([] : List Value)) 48] [] w' := by
 refine calls_m Try.func44 rfl fun Q qq qn => ?_
 have hs := St.start w0
 refine wp_conv (a' := ⟨#[undef, undef, undef, undef, undef, undef, undef, undef, undef, undef, undef, undef, undef, undef, undef, undef, undef, undef, undef, undef, undef, undef, undef, undef, undef, undef, undef, undef, undef, undef, undef, undef, undef], []⟩) (by kernel_rfl) ?_
 refine xseq_k fun KS1 ks1 => ?_
 refine xregS [0] fun KR2 kr2 => ?_
 refine wpS.q 0 0 (.pointer none) ?_
 refine wpS.fin rfl (kr2 _ _ (then_n (ks1 _ _ (xseq_k fun KS3 ks3 => (xregS [0, 1, 2, 3] fun KR4 kr4 => ?_)))))
 refine wpS.q 0 5 (.agg (([] : List Value) ++ enc .u8 (zeroA 256) ++ enc .u8 (zeroA 256) ++ ([] : List Value)).toArray) ?_
 refine wpS.only 1 (op_box (t := 48) (v := .agg (([] : List Value) ++ enc .u8 (zeroA 256) ++ enc .u8 (zeroA 256) ++ ([] : List Value)).toArray) (d := (some 6)) (by kernel_rfl) hs (([] : List Value) ++ enc .u8 (zeroA 256) ++ enc .u8 (zeroA 256) ++ ([] : List Value)) (by kernel_rfl) (by kernel_rfl) ?_)
 intro b1 w gw hs
 refine ⟨fun _ => trivial, ?_⟩
 refine wpS.only 2 (op_alloc (t := 49) (d := (some 1)) (by kernel_rfl) hs ([.pointer none]) (.pointer none) (by kernel_rfl) (by kernel_rfl) (by kernel_rfl) ?_)
 intro b2 w gw hs
 refine ⟨fun _ => trivial, ?_⟩
 refine wpS.only 3 (op_store1 (t := 49) (o := 0) (v := .pointer (some ⟨b1, 0, none⟩)) (d := none) (by kernel_rfl) hs 0 rfl (by kernel_rfl) rfl (by kernel_rfl) (by simp) ?_)
 intro w kp hs
 refine ⟨fun _ => trivial, ?_⟩
 refine wpS.fin rfl (kr4 _ _ (then_n (ks3 _ _ (xseq_k fun KS5 ks5 => ?_))))
 refine wp_regG [5, 9] (fun k => ¬ k = b2) 10 (by kernel_rfl) (by kernel_rfl) (by kernel_rfl) fun KR6 kr6 => ?_
 have hs := hs.drawn1
 refine wpG.tD 0 true (some 7) (.pointer (some ⟨b1, 0, none⟩)) (yld_load1 (e := 49) (o := 0) hs 0 rfl (by kernel_rfl) (by kernel_rfl) (by rfl) .grow) ?_
 refine wpG.takeK [1, 6, 7, 8, 9] 1 (some 8) (.pointer (some ⟨b1, 0, none⟩)) (by kernel_rfl) (by kernel_rfl) (yld_load1 (e := 49) (o := 0) hs 0 rfl (by kernel_rfl) (by kernel_rfl) (by rfl) (.keep (fun hn => hn rfl))) ?_
 refine wpG.q 2 9 (.pointer (some ⟨b1, 0, none⟩)) ?_
 refine wpG.q 3 10 (.pointer (some ⟨b1, 0, none⟩)) ?_
 refine wpG.tD 4 false (some 11) (.pointer (some ⟨b1, 0 + (0 : Int).toNat * 1, none⟩)) (yld_idx (t := 46) (e := 5) (n := 256) (sz := 1) (k := .i64) (x := 0) (by kernel_rfl) (by kernel_rfl) (by kernel_rfl) (by decide) (by decide)) ?_
 refine wpG.q 6 12 (.pointer (some ⟨b1, 0, none⟩)) ?_
 refine wpG.q 7 13 (.pointer (some ⟨b1, 256, none⟩)) ?_
 have hsB43 := hs
 refine wpG.only 5 (by kernel_rfl) (op_storeR (m := 0) (k := .u8) (pre := ([] : List Value)) (post := enc .u8 (zeroA 256)) (c := (zeroA 256)) (t := 5) (x := 0) (v := 99) (d := none) (by kernel_rfl) hs 1 rfl (by simp only [List.append_assoc, List.nil_append, List.cons_append, List.append_nil]) (cs' := ([] : List Value) ++ enc .u8 (wr (zeroA 256) 0 99) ++ enc .u8 (zeroA 256) ++ ([] : List Value)) (by simp only [List.append_assoc, List.nil_append, List.cons_append, List.append_nil]) (by kernel_rfl) (by kernel_rfl) (by decide) (by decide) (by simp [enc_len]) ?_)
 intro w kp hs
 refine ⟨⟨fun hf => absurd hf (by decide), (keepB1 (hsB43.blkAt 0 rfl) (hs.blkAt 0 rfl))⟩, ?_⟩
 refine wpG.tD 8 false (some 14) (.pointer (some ⟨b1, 256 + (99 : Int).toNat * 1, none⟩)) (yld_idx (t := 46) (e := 5) (n := 256) (sz := 1) (k := .i64) (x := 99) (by kernel_rfl) (by kernel_rfl) (by kernel_rfl) (by decide) (by decide)) ?_
 have hsB42 := hs
 refine wpG.only 9 (by kernel_rfl) (op_storeR (m := 256) (k := .u8) (pre := enc .u8 (wr (zeroA 256) 0 99)) (post := ([] : List Value)) (c := (zeroA 256)) (t := 5) (x := 99) (v := 0) (d := none) (by kernel_rfl) hs 1 rfl (by simp only [List.append_assoc, List.nil_append, List.cons_append, List.append_nil]) (cs' := ([] : List Value) ++ enc .u8 (wr (zeroA 256) 0 99) ++ enc .u8 (wr (zeroA 256) 99 0) ++ ([] : List Value)) (by simp only [List.append_assoc, List.nil_append, List.cons_append, List.append_nil]) (by kernel_rfl) (by kernel_rfl) (by decide) (by decide) (by simp [enc_len]) ?_)
 intro w kp hs
 refine ⟨⟨fun hf => absurd hf (by decide), (keepB1 (hsB42.blkAt 0 rfl) (hs.blkAt 0 rfl))⟩, ?_⟩
 refine wpG.fin (by kernel_rfl) rfl (kr6 _ _ ?_)
 refine then_n (ks5 _ _ (xseq_k fun KS9 ks9 => (xseq_k fun KS10 ks10 => (xregS [0] fun KR11 kr11 => ?_))))
 obtain ⟨_, hg, h⟩ := of_bind h
 refine wpS.only 0 (op_call (d := (some 15)) (by kernel_rfl) hs (fun _ => by kernel_rfl) (aes_powers.ok hg _) ?_)
 intro w gw hs
 refine ⟨fun _ => trivial, ?_⟩
 refine wpS.fin rfl (kr11 _ _ (then_n (ks10 _ _ (xblock ?_))))
 refine wp_range (gf := 107) (lb := #[]) hs (by kernel_rfl) (fun _ _ => by kernel_rfl) fun l12 D12 rec12 w hok12 hs R12 kR12 => ?_
 refine calls_kn Try.func107 rfl fun Q12 qq12 qn12 => ?_
 refine wp_conv (a' := ⟨#[.func (.yield l12) #[] #[], undef, undef, undef, undef, undef, undef, undef, undef, undef, undef, undef, undef, undef, undef, undef], []⟩) (by kernel_rfl) ?_
 refine xseq_k fun KS13 ks13 => ?_
 refine xregS [0, 1] fun KR14 kr14 => ?_
 refine wpS.qs [(0, 2, .int .u8 1), (1, 3, .int .u8 1)] ?_
 refine wpS.fin rfl (kr14 _ _ (then_n (ks13 _ _ (xseq_k fun KS15 ks15 => (xregS [0] fun KR16 kr16 => ?_)))))
 refine wpS.q 0 4 (.int .i64 0) ?_
 refine wpS.fin rfl (kr16 _ _ (then_n (ks15 _ _ ?_)))
 obtain ⟨⟨y8_0, y8_1⟩, hy, hk0⟩ := of_bind h
 refine wp_exq (N := fun a w => St w0 [] [.obj l12 (.loop (rec12 .ready none)), .obj D12 (.deferred (some [])), .blk b2 ([.pointer (some ⟨b1, 0, none⟩)]) 49, .blk b1 (([] : List Value) ++ enc .u8 y8_0 ++ enc .u8 y8_1 ++ ([] : List Value)) 48] [] w ∧ ∃ g18 : Nat → Value, a = ⟨#[.func (.yield l12) #[] #[], undef, (g18 2), (g18 3), (g18 4), (g18 5), (g18 6), (g18 7), (g18 8), (g18 9), (g18 10), (g18 11), (g18 12), (g18 13), (g18 14), (g18 15)], []⟩) (fun N0 nn0 => ?_) ?_
 ·clear hk0
  refine xblock ?_
  refine wp_loop_k (fun n a w => ∃ z4 z5 z6 z7_0 z7_1, aes_made.l0 K n z4 z5 z6 z7_0 z7_1 = some (y8_0, y8_1) ∧ St w0 [] [.obj l12 (.loop (rec12 .ready none)), .obj D12 (.deferred (some [])), .blk b2 ([.pointer (some ⟨b1, 0, none⟩)]) 49, .blk b1 (([] : List Value) ++ enc .u8 z7_0 ++ enc .u8 z7_1 ++ ([] : List Value)) 48] [] w ∧ ∃ g17 : Nat → Value, a = ⟨#[.func (.yield l12) #[] #[], undef, .int .u8 z4, .int .u8 z5, .int .i64 z6, (g17 5), (g17 6), (g17 7), (g17 8), (g17 9), (g17 10), (g17 11), (g17 12), (g17 13), (g17 14), (g17 15)], []⟩) K ⟨1, 1, 0, (wr (zeroA 256) 0 99), (wr (zeroA 256) 99 0), hy, hs.conv rfl, exg (by kernel_rfl)⟩ ?_
  clear hs h hy
  rintro n a w ⟨z4, z5, z6, z7_0, z7_1, h, hs, g17, rfl⟩ KL0 kl0
  cases n with
  | zero => exact nomatch (show none = some _ from h)
  | succ n =>
   refine xseq_k fun KS19 ks19 => ?_
   refine xregS [0] fun KR20 kr20 => ?_
   rcases of_if h with ⟨hc, h⟩ | ⟨hc, h⟩
   ·refine wpS.tk 0 false (some 5) (.bool true) (yld_b (dt hc) (fun _ => by kernel_rfl)) ?_
    refine wpS.fin rfl (kr20 _ _ (then_n (ks19 _ _ (xseq_k fun KS21 ks21 => (wp_cond_t (by kernel_rfl) (xskip (then_n (ks21 _ _ (xseq_k fun KS22 ks22 => (xblock (xseq_k fun KS23 ks23 => (xseq_k fun KS24 ks24 => (xregS [0, 1, 2, 3, 4] fun KR25 kr25 => ?_)))))))))))))
    refine wpS.qs [(0, 6, .func (.yield l12) #[] #[]), (1, 7, .int .u8 z4), (2, 8, .int .u8 z5)] ?_
    refine wpS.onlyR 3 (op_yield (d := (some 9)) (by kernel_rfl) hs 0 rfl hok12 #[.int .u8 z4, .int .u8 z5] (by kernel_rfl) rfl (tm := #[.pointer none, .pointer (some ⟨b2, 0, none⟩), undef, undef, undef, .agg (([] : List Value) ++ enc .u8 (zeroA 256) ++ enc .u8 (zeroA 256) ++ ([] : List Value)).toArray, .pointer (some ⟨b1, 0, none⟩), .pointer (some ⟨b1, 0, none⟩), .pointer (some ⟨b1, 0, none⟩), .pointer (some ⟨b1, 0, none⟩), .pointer (some ⟨b1, 0, none⟩), .pointer (some ⟨b1, 0 + (0 : Int).toNat * 1, none⟩), .pointer (some ⟨b1, 0, none⟩), .pointer (some ⟨b1, 256, none⟩), .pointer (some ⟨b1, 256 + (99 : Int).toNat * 1, none⟩), .func (.func 107) #[] #[], .int .u8 z4, .int .u8 z5, undef, undef, undef, undef, undef, undef, undef, undef, undef, undef, undef, undef, undef, undef, undef]) (by kernel_rfl) (by kernel_rfl) fun K26 k26 => ?_)
    refine xseq_k fun KS27 ks27 => ?_
    refine xregS [0] fun KR28 kr28 => ?_
    refine wpS.q 0 2 (.int .u8 z4) ?_
    refine wpS.fin rfl (kr28 _ _ (then_n (ks27 _ _ (xregS [0] fun KR29 kr29 => ?_))))
    refine wpS.q 0 3 (.int .u8 z5) ?_
    refine wpS.fin rfl (kr29 _ _ (then_n (k26 _ _ 0 _ _ hs rfl fun w Qr26 hs qr26 => ?_)))
    try dsimp only [List.set] at hs
    refine xblock (xseq_k fun KS30 ks30 => (xregS [0, 1, 2] fun KR31 kr31 => ?_))
    refine wpS.q 0 18 (.int .u8 z5) ?_
    obtain ⟨r9, hg, h⟩ := of_bind h
    refine wpS.only 1 (op_call (d := (some 19)) (by kernel_rfl) hs (fun _ => by kernel_rfl) (aes_stirred.ok hg _) ?_)
    intro w gw hs
    refine ⟨fun _ => trivial, ?_⟩
    refine wpS.q 2 4 (.int .u8 r9) ?_
    refine wpS.fin rfl (kr31 _ _ (then_n (ks30 _ _ ?_)))
    refine wp_regG [9, 13] (fun k => ¬ k = b2) 14 (by kernel_rfl) (by kernel_rfl) (by kernel_rfl) fun KR32 kr32 => ?_
    have hs := hs.drawn1
    refine wpG.tD 0 true (some 20) (.pointer (some ⟨b1, 0, none⟩)) (yld_load1 (e := 49) (o := 0) hs 2 rfl (by kernel_rfl) (by kernel_rfl) (by rfl) .grow) ?_
    refine wpG.q 1 21 (.int .u8 z4) ?_
    refine wpG.takeK [2, 10, 11, 12, 13] 2 (some 22) (.pointer (some ⟨b1, 0, none⟩)) (by kernel_rfl) (by kernel_rfl) (yld_load1 (e := 49) (o := 0) hs 2 rfl (by kernel_rfl) (by kernel_rfl) (by rfl) (.keep (fun hn => hn rfl))) ?_
    refine wpG.q 3 23 (.int .u8 r9) ?_
    refine wpG.q 4 24 (.int .u8 r9) ?_
    refine wpG.q 5 25 (.int .u8 z4) ?_
    refine wpG.q 6 26 (.pointer (some ⟨b1, 0, none⟩)) ?_
    refine wpG.q 7 27 (.pointer (some ⟨b1, 0, none⟩)) ?_
    obtain ⟨i0_33, h⟩ := of_chk h
    obtain ⟨i1_33, h⟩ := of_chk h
    refine wpG.tD 8 false (some 28) (.pointer (some ⟨b1, 0 + (z4 : Int).toNat * 1, none⟩)) (yld_idx (t := 46) (e := 5) (n := 256) (sz := 1) (k := .u8) (x := z4) (by kernel_rfl) (by kernel_rfl) (by kernel_rfl) i0_33 i1_33) ?_
    refine wpG.q 10 29 (.pointer (some ⟨b1, 0, none⟩)) ?_
    refine wpG.q 11 30 (.pointer (some ⟨b1, 256, none⟩)) ?_
    have hsB38 := hs
    refine wpG.only 9 (by kernel_rfl) (op_storeR (m := 0) (k := .u8) (pre := ([] : List Value)) (post := enc .u8 z7_1) (c := z7_0) (t := 5) (x := z4) (v := r9) (d := none) (by kernel_rfl) hs 3 rfl (by simp only [List.append_assoc, List.nil_append, List.cons_append, List.append_nil]) (cs' := ([] : List Value) ++ enc .u8 (wr z7_0 z4 r9) ++ enc .u8 z7_1 ++ ([] : List Value)) (by simp only [List.append_assoc, List.nil_append, List.cons_append, List.append_nil]) (by kernel_rfl) (by kernel_rfl) i0_33 i1_33 (by simp [enc_len]) ?_)
    intro w kp hs
    refine ⟨⟨fun hf => absurd hf (by decide), (keepB1 (hsB38.blkAt 2 rfl) (hs.blkAt 2 rfl))⟩, ?_⟩
    obtain ⟨i0_34, h⟩ := of_chk h
    obtain ⟨i1_34, h⟩ := of_chk h
    refine wpG.tD 12 false (some 31) (.pointer (some ⟨b1, 256 + (r9 : Int).toNat * 1, none⟩)) (yld_idx (t := 46) (e := 5) (n := 256) (sz := 1) (k := .u8) (x := r9) (by kernel_rfl) (by kernel_rfl) (by kernel_rfl) i0_34 i1_34) ?_
    have hsB37 := hs
    refine wpG.only 13 (by kernel_rfl) (op_storeR (m := 256) (k := .u8) (pre := enc .u8 (wr z7_0 z4 r9)) (post := ([] : List Value)) (c := z7_1) (t := 5) (x := r9) (v := z4) (d := none) (by kernel_rfl) hs 3 rfl (by simp only [List.append_assoc, List.nil_append, List.cons_append, List.append_nil]) (cs' := ([] : List Value) ++ enc .u8 (wr z7_0 z4 r9) ++ enc .u8 (wr z7_1 r9 z4) ++ ([] : List Value)) (by simp only [List.append_assoc, List.nil_append, List.cons_append, List.append_nil]) (by kernel_rfl) (by kernel_rfl) i0_34 i1_34 (by simp [enc_len]) ?_)
    intro w kp hs
    refine ⟨⟨fun hf => absurd hf (by decide), (keepB1 (hsB37.blkAt 2 rfl) (hs.blkAt 2 rfl))⟩, ?_⟩
    refine wpG.fin (by kernel_rfl) rfl (kr32 _ _ ?_)
    refine inBlock_n ?_
    refine round_n qr26 hs 0 rfl fun w hs => ?_
    try dsimp only [List.set] at hs
    refine ⟨fun _ => trivial, ?_⟩
    refine wpS.q 4 10 (.bool false) ?_
    refine wpS.fin rfl (kr25 _ _ (then_n (ks24 _ _ (wp_cond_f (by kernel_rfl) (xskip (then_n (ks23 _ _ (xregS [0, 1, 2, 3, 4, 5] fun KR35 kr35 => ?_))))))))
    refine wpS.q 0 11 (.int .u8 z4) ?_
    obtain ⟨r10, hg, h⟩ := of_bind h
    refine wpS.only 1 (op_call (d := (some 12)) (by kernel_rfl) hs (fun _ => by kernel_rfl) (aes_Mul.ok hg _) ?_)
    intro w gw hs
    refine ⟨fun _ => trivial, ?_⟩
    refine wpS.q 2 13 (.int .u8 z5) ?_
    obtain ⟨r11, hg, h⟩ := of_bind h
    refine wpS.only 3 (op_call (d := (some 14)) (by kernel_rfl) hs (fun _ => by kernel_rfl) (aes_Mul.ok hg _) ?_)
    intro w gw hs
    refine ⟨fun _ => trivial, ?_⟩
    refine wpS.qs [(4, 2, .int .u8 r10), (5, 3, .int .u8 r11)] ?_
    refine wpS.fin rfl (kr35 _ _ (inBlock_n (then_n (ks22 _ _ (xregS [0, 1] fun KR36 kr36 => ?_)))))
    refine wpS.qs [(0, 15, .int .i64 (iadd .i64 z6 1)), (1, 4, .int .i64 (iadd .i64 z6 1))] ?_
    refine wpS.fin rfl (kr36 _ _ ?_)
    exact then_n (kl0 _ _ ⟨n, Nat.lt_succ_self n, r10, r11, (iadd .i64 z6 1), (wr z7_0 z4 r9), (wr z7_1 r9 z4), h, (hs.conv rfl), exg (by kernel_rfl)⟩)
   refine wpS.tk 0 false (some 5) (.bool false) (yld_b (df hc) (fun _ => by kernel_rfl)) ?_
   refine wpS.fin rfl (kr20 _ _ (then_n (ks19 _ _ (xseq_k fun KS39 ks39 => (wp_cond_f (by kernel_rfl) (xexit (then_x (then_x (inBlock_hit ?_)))))))))
   obtain ⟨q0, qr0⟩ := Prod.mk.inj (of_some h)
   have q1 := qr0
   subst q0
   subst q1
   exact exq_n (nn0 _ _ ⟨(hs.conv rfl), exg (by kernel_rfl)⟩)
 clear hs h hy
 rintro a w ⟨hs, g18, rfl⟩
 have h := hk0
 refine qn12 _ _ (post_nrm (by kernel_rfl) (run_results [] [] (by kernel_rfl) .nil) ?_)
 refine range_n (a1 := ⟨#[.pointer none, .pointer (some ⟨b2, 0, none⟩), undef, undef, undef, .agg (([] : List Value) ++ enc .u8 (zeroA 256) ++ enc .u8 (zeroA 256) ++ ([] : List Value)).toArray, .pointer (some ⟨b1, 0, none⟩), .pointer (some ⟨b1, 0, none⟩), .pointer (some ⟨b1, 0, none⟩), .pointer (some ⟨b1, 0, none⟩), .pointer (some ⟨b1, 0, none⟩), .pointer (some ⟨b1, 0 + (0 : Int).toNat * 1, none⟩), .pointer (some ⟨b1, 0, none⟩), .pointer (some ⟨b1, 256, none⟩), .pointer (some ⟨b1, 256 + (99 : Int).toNat * 1, none⟩), .func (.func 107) #[] #[], undef, undef, undef, undef, undef, undef, undef, undef, undef, undef, undef, undef, undef, undef, undef, undef, undef], [lmark D12]⟩) kR12 (by kernel_rfl) hs 0 rfl fun w hs => ?_
 try dsimp only [List.set] at hs
 refine inBlock_n (then_n (ks9 _ _ (xseq_k fun KS40 ks40 => (xregS [0, 1] fun KR41 kr41 => ?_))))
 refine wpS.tk 0 true (some 32) (.pointer (some ⟨b1, 0, none⟩)) (yld_load1 (e := 49) (o := 0) hs 2 rfl (by kernel_rfl) (by kernel_rfl) (by rfl) .grow) ?_
 refine wpS.q 1 0 (.pointer (some ⟨b1, 0, none⟩)) ?_
 refine wpS.fin rfl (kr41 _ _ (then_n (ks40 _ _ (xret ?_))))
 obtain ⟨q0, qr0⟩ := Prod.mk.inj (of_some h)
 have q1 := qr0
 subst q0
 subst q1
 refine qq _ _ ?_
 refine leaves_mark hs 1 rfl fun w hs => ?_
 try dsimp only [List.set] at hs
 exact leaves_end (run_results [.tmp 0] [.pointer (some ⟨b1, 0, none⟩)] (by kernel_rfl) (.cons (res_tmp (by kernel_rfl)) .nil)) ⟨_, congrArg Ending.returned (by kernel_rfl), (hs.drop (.cons _ (.cons _ (.cons _ (.cons_cons _ .slnil)))))⟩

theorem aes_sized.ok {K : Nat} {a0 : List Int} {r0 : Bool} {a0_A : Option Addr} {a0_n : Nat} {a0_c : Nat} (h : aes_sized.f K a0 = some r0) (w0 : World) (hp0 : RowL (CI .u8) w0 a0_A a0_n a0_c a0) : Ret Try.prog 82 #[.slice a0_A a0_n a0_c] w0 (.bool r0) := by
 refine calls_k Try.func82 rfl fun Q qq => ?_
 have hs := St.startR (all_cons (RowP.ent hp0) all_nil)
 refine wp_conv (a' := ⟨#[.slice a0_A a0_n a0_c, undef, undef, undef, undef, undef, undef, undef, undef, undef, undef, undef, undef, undef, undef, undef], []⟩) (by kernel_rfl) ?_
 refine xseq_k fun KS1 ks1 => ?_
 refine xregS [0] fun KR2 kr2 => ?_
 refine wpS.q 0 2 (.bool false) ?_
 refine wpS.fin rfl (kr2 _ _ (then_n (ks1 _ _ (xseq_k fun KS3 ks3 => (xregS [0, 1, 2, 3, 4, 5, 6, 7, 8, 9, 10, 11, 12, 13] fun KR4 kr4 => ?_)))))
 refine wpS.q 0 3 (.slice a0_A a0_n a0_c) ?_
 refine wpS.tk 1 false (some 4) (.int .i64 (a0.length : Int)) (yld_lenL (hs.rowR 0 rfl) (fun _ => by kernel_rfl)) ?_
 rcases of_if h with ⟨hc, h⟩ | ⟨hc, h⟩
 ·refine wpS.tk 2 false (some 5) (.bool true) (yld_b (et hc) (fun _ => by kernel_rfl)) ?_
  refine wpS.qs [(3, 6, .bool true), (4, 7, undef), (5, 8, undef), (6, 9, undef), (7, 10, .bool true), (8, 11, .bool true), (9, 12, undef), (10, 13, undef), (11, 14, undef), (12, 15, .bool true), (13, 2, .bool true)] ?_
  refine wpS.fin rfl (kr4 _ _ (then_n (ks3 _ _ (xret ?_))))
  have q0 := of_some h
  subst q0
  exact qq _ _ (post_ret (by kernel_rfl) (run_results [.tmp 2] [.bool true] (by kernel_rfl) (.cons (res_tmp (by kernel_rfl)) .nil)) ⟨congrArg Ending.returned (by kernel_rfl), hs.none⟩)
 refine wpS.tk 2 false (some 5) (.bool false) (yld_b (ef hc) (fun _ => by kernel_rfl)) ?_
 refine wpS.qs [(3, 6, .bool false), (4, 7, .slice a0_A a0_n a0_c)] ?_
 refine wpS.tk 5 false (some 8) (.int .i64 (a0.length : Int)) (yld_lenL (hs.rowR 0 rfl) (fun _ => by kernel_rfl)) ?_
 rcases of_if h with ⟨hc, h⟩ | ⟨hc, h⟩
 ·refine wpS.tk 6 false (some 9) (.bool true) (yld_b (et hc) (fun _ => by kernel_rfl)) ?_
  refine wpS.qs [(7, 10, .bool true), (8, 11, .bool true), (9, 12, undef), (10, 13, undef), (11, 14, undef), (12, 15, .bool true), (13, 2, .bool true)] ?_
  refine wpS.fin rfl (kr4 _ _ (then_n (ks3 _ _ (xret ?_))))
  have q0 := of_some h
  subst q0
  exact qq _ _ (post_ret (by kernel_rfl) (run_results [.tmp 2] [.bool true] (by kernel_rfl) (.cons (res_tmp (by kernel_rfl)) .nil)) ⟨congrArg Ending.returned (by kernel_rfl), hs.none⟩)
 refine wpS.tk 6 false (some 9) (.bool false) (yld_b (ef hc) (fun _ => by kernel_rfl)) ?_
 refine wpS.qs [(7, 10, .bool false), (8, 11, .bool false), (9, 12, .slice a0_A a0_n a0_c)] ?_
 refine wpS.tk 10 false (some 13) (.int .i64 (a0.length : Int)) (yld_lenL (hs.rowR 0 rfl) (fun _ => by kernel_rfl)) ?_
 refine wpS.qs [(11, 14, .bool ((a0.length : Int) == 32)), (12, 15, .bool ((a0.length : Int) == 32)), (13, 2, .bool ((a0.length : Int) == 32))] ?_
 refine wpS.fin rfl (kr4 _ _ (then_n (ks3 _ _ (xret ?_))))
 have q0 := of_some h
 subst q0
 exact qq _ _ (post_ret (by kernel_rfl) (run_results [.tmp 2] [.bool ((a0.length : Int) == 32)] (by kernel_rfl) (.cons (res_tmp (by kernel_rfl)) .nil)) ⟨congrArg Ending.returned (by kernel_rfl), hs.none⟩)

theorem aes_wrong.ok {K : Nat} {a0 : List Int} {a1 : List Int} {r0 : Int} {a0_A : Option Addr} {a0_n : Nat} {a0_c : Nat} {a1_A : Option Addr} {a1_n : Nat} {a1_c : Nat} (h : aes_wrong.f K a0 a1 = some r0) (w0 : World) (hp0 : RowL (CI .u8) w0 a0_A a0_n a0_c a0) (hp1 : RowL (CI .u8) w0 a1_A a1_n a1_c a1) : Ret Try.prog 46 #[.slice a0_A a0_n a0_c, .slice a1_A a1_n a1_c] w0 (.int .i64 r0) := by
 refine calls_k Try.func46 rfl fun Q qq => ?_
 have hs := St.startR (all_cons (RowP.ent hp0) (all_cons (RowP.ent hp1) all_nil))
 refine wp_conv (a' := ⟨#[.slice a0_A a0_n a0_c, .slice a1_A a1_n a1_c, undef, undef, undef, undef, undef, undef, undef, undef, undef, undef, undef], []⟩) (by kernel_rfl) ?_
 refine xseq_k fun KS1 ks1 => ?_
 refine xregS [0] fun KR2 kr2 => ?_
 refine wpS.q 0 4 (.int .i64 0) ?_
 refine wpS.fin rfl (kr2 _ _ (then_n (ks1 _ _ (xseq_k fun KS3 ks3 => (xblock (xseq_k fun KS4 ks4 => (xregS [0, 1, 2, 3] fun KR5 kr5 => ?_)))))))
 refine wpS.q 0 6 (.slice a0_A a0_n a0_c) ?_
 obtain ⟨r1, hg, h⟩ := of_bind h
 cases r1 with
 | true =>
  have h := of_if_t h
  refine wpS.only 1 (op_call (d := (some 7)) (by kernel_rfl) hs (fun _ => by kernel_rfl) (aes_sized.ok hg _ (hs.rowR 0 rfl)) ?_)
  intro w gw hs
  refine ⟨fun _ => trivial, ?_⟩
  refine wpS.qs [(2, 8, .bool false), (3, 5, .bool false)] ?_
  refine wpS.fin rfl (kr5 _ _ (then_n (ks4 _ _ (wp_cond_f (by kernel_rfl) (xseq_k fun KS6 ks6 => (xregS [0, 1, 2, 3] fun KR7 kr7 => ?_))))))
  refine wpS.q 0 10 (.slice a1_A a1_n a1_c) ?_
  refine wpS.tk 1 false (some 11) (.int .i64 (a1.length : Int)) (yld_lenL (hs.rowR 1 rfl) (fun _ => by kernel_rfl)) ?_
  rcases of_if h with ⟨hc, h⟩ | ⟨hc, h⟩
  ·refine wpS.tk 2 false (some 12) (.bool false) (yld_b (nf hc) (fun _ => by kernel_rfl)) ?_
   refine wpS.q 3 9 (.bool false) ?_
   refine wpS.fin rfl (kr7 _ _ (then_n (ks6 _ _ (wp_cond_f (by kernel_rfl) (xskip (inBlock_n (then_n (ks3 _ _ (xseq_k fun KS8 ks8 => (xregS [0] fun KR9 kr9 => ?_))))))))))
   refine wpS.q 0 4 (.int .i64 0) ?_
   refine wpS.fin rfl (kr9 _ _ (then_n (ks8 _ _ (xret ?_))))
   have q0 := of_some h
   subst q0
   exact qq _ _ (post_ret (by kernel_rfl) (run_results [.tmp 4] [.int .i64 0] (by kernel_rfl) (.cons (res_tmp (by kernel_rfl)) .nil)) ⟨congrArg Ending.returned (by kernel_rfl), hs.none⟩)
  refine wpS.tk 2 false (some 12) (.bool true) (yld_b (nt hc) (fun _ => by kernel_rfl)) ?_
  refine wpS.q 3 9 (.bool true) ?_
  refine wpS.fin rfl (kr7 _ _ (then_n (ks6 _ _ (wp_cond_t (by kernel_rfl) (xseq_k fun KS10 ks10 => (xregS [0] fun KR11 kr11 => ?_))))))
  refine wpS.q 0 4 (.int .i64 14) ?_
  refine wpS.fin rfl (kr11 _ _ (then_n (ks10 _ _ (xret (inBlock_r (then_r ?_))))))
  have q0 := of_some h
  subst q0
  exact qq _ _ (post_ret (by kernel_rfl) (run_results [.tmp 4] [.int .i64 14] (by kernel_rfl) (.cons (res_tmp (by kernel_rfl)) .nil)) ⟨congrArg Ending.returned (by kernel_rfl), hs.none⟩)
 | false =>
  have h := of_if_f h
  refine wpS.only 1 (op_call (d := (some 7)) (by kernel_rfl) hs (fun _ => by kernel_rfl) (aes_sized.ok hg _ (hs.rowR 0 rfl)) ?_)
  intro w gw hs
  refine ⟨fun _ => trivial, ?_⟩
  refine wpS.qs [(2, 8, .bool true), (3, 5, .bool true)] ?_
  refine wpS.fin rfl (kr5 _ _ (then_n (ks4 _ _ (wp_cond_t (by kernel_rfl) (xseq_k fun KS12 ks12 => (xregS [0] fun KR13 kr13 => ?_))))))
  refine wpS.q 0 4 (.int .i64 10) ?_
  refine wpS.fin rfl (kr13 _ _ (then_n (ks12 _ _ (xret (inBlock_r (then_r ?_))))))
  have q0 := of_some h
  subst q0
  exact qq _ _ (post_ret (by kernel_rfl) (run_results [.tmp 4] [.int .i64 10] (by kernel_rfl) (.cons (res_tmp (by kernel_rfl)) .nil)) ⟨congrArg Ending.returned (by kernel_rfl), hs.none⟩)

theorem aes_tables_boxed.ok {K : Nat} {a0_0 : Arr 256} {a0_1 : Arr 256} {a1 : Arr 4} {r0 : Arr 4} {p0 : Nat} (h : aes_tables_boxed.f K a0_0 a0_1 a1 = some r0) (w0 : World) (hb : w0.heap[p0]? = some (.cells (([] : List Value) ++ enc .u8 a0_0 ++ enc .u8 a0_1 ++ ([] : List Value)).toArray 48 (0, 0))) : Calls Try.prog 83 #[.pointer (some ⟨p0, 0, none⟩), .agg (enc .u8 a1).toArray] w0 fun e w' => e = .returned (.agg (enc .u8 r0).toArray) ∧ St w0 [p0] [.blk p0 (([] : List Value) ++ enc .u8 a0_0 ++ enc .u8 a0_1 ++ ([] : List Value)) 48] [] w' := by
 refine calls_k Try.func83 rfl fun Q qq => ?_
 have hs := St.startX hb allX_nil
 refine wp_conv (a' := ⟨#[.pointer (some ⟨p0, 0, none⟩), .agg (enc .u8 a1).toArray, undef, undef, undef, undef, undef, undef, undef, undef, undef, undef, undef, undef, undef, undef, undef, undef, undef, undef, undef, undef, undef, undef, undef, undef, undef, undef, undef, undef, undef, undef, undef, undef], []⟩) (by kernel_rfl) ?_
 refine xseq_k fun KS1 ks1 => ?_
 refine xregS [0, 1] fun KR2 kr2 => ?_
 refine wpS.only 0 (op_box (t := 101) (v := .agg (enc .u8 a1).toArray) (d := (some 3)) (by kernel_rfl) hs (enc .u8 a1) (by kernel_rfl) (by kernel_rfl) ?_)
 intro b1 w gw hs
 refine ⟨fun _ => trivial, ?_⟩
 refine wpS.only 1 (op_alloc (t := 101) (d := (some 4)) (by kernel_rfl) hs (enc .u8 (zeroA 4)) (.agg (enc .u8 (zeroA 4)).toArray) (by kernel_rfl) (by kernel_rfl) (by kernel_rfl) ?_)
 intro b2 w gw hs
 refine ⟨fun _ => trivial, ?_⟩
 refine wpS.fin rfl (kr2 _ _ (then_n (ks1 _ _ (xseq_k fun KS3 ks3 => ?_))))
 refine wp_regG [29] (fun k => True) 30 (by kernel_rfl) (by kernel_rfl) (by kernel_rfl) fun KR4 kr4 => ?_
 have hs := hs.drawn1
 refine wpG.q 0 5 (.pointer (some ⟨p0, 0, none⟩)) ?_
 refine wpG.tD 1 false (some 6) (.pointer (some ⟨b1, 0 + (0 : Int).toNat * 1, none⟩)) (yld_idx (t := 101) (e := 5) (n := 4) (sz := 1) (k := .i64) (x := 0) (by kernel_rfl) (by kernel_rfl) (by kernel_rfl) (by decide) (by decide)) ?_
 refine wpG.tD 2 true (some 7) (.int .u8 (rd a1 0)) (yld_loadA (e := 5) (x := 0) hs 1 rfl (by kernel_rfl) (by kernel_rfl) (by decide) (by decide) .grow) ?_
 refine wpG.q 3 8 (.pointer (some ⟨p0, 0, none⟩)) ?_
 refine wpG.q 4 9 (.pointer (some ⟨p0, 0, none⟩)) ?_
 obtain ⟨x3, hx, h⟩ := of_bind h
 have hx := of_some hx
 subst hx
 obtain ⟨i0_6, h⟩ := of_chk h
 obtain ⟨i1_6, h⟩ := of_chk h
 refine wpG.tD 5 false (some 10) (.pointer (some ⟨p0, 0 + ((rd a1 0) : Int).toNat * 1, none⟩)) (yld_idx (t := 46) (e := 5) (n := 256) (sz := 1) (k := .u8) (x := (rd a1 0)) (by kernel_rfl) (by kernel_rfl) (by kernel_rfl) i0_6 i1_6) ?_
 refine wpG.tD 6 true (some 11) (.int .u8 (rd a0_0 (rd a1 0))) (yld_loadR (m := 0) (k := .u8) (pre := ([] : List Value)) (post := enc .u8 a0_1) (c := a0_0) (e := 5) (x := (rd a1 0)) hs 2 rfl (by simp only [List.append_assoc, List.nil_append, List.cons_append, List.append_nil]) (by kernel_rfl) (by kernel_rfl) i0_6 i1_6 (by simp [enc_len]) .grow) ?_
 refine wpG.q 7 12 (.pointer (some ⟨p0, 0, none⟩)) ?_
 refine wpG.tD 8 false (some 13) (.pointer (some ⟨b1, 0 + (1 : Int).toNat * 1, none⟩)) (yld_idx (t := 101) (e := 5) (n := 4) (sz := 1) (k := .i64) (x := 1) (by kernel_rfl) (by kernel_rfl) (by kernel_rfl) (by decide) (by decide)) ?_
 refine wpG.tD 9 true (some 14) (.int .u8 (rd a1 1)) (yld_loadA (e := 5) (x := 1) hs 1 rfl (by kernel_rfl) (by kernel_rfl) (by decide) (by decide) .grow) ?_
 refine wpG.q 10 15 (.pointer (some ⟨p0, 0, none⟩)) ?_
 refine wpG.q 11 16 (.pointer (some ⟨p0, 0, none⟩)) ?_
 obtain ⟨x4, hx, h⟩ := of_bind h
 have hx := of_some hx
 subst hx
 obtain ⟨i0_8, h⟩ := of_chk h
 obtain ⟨i1_8, h⟩ := of_chk h
 refine wpG.tD 12 false (some 17) (.pointer (some ⟨p0, 0 + ((rd a1 1) : Int).toNat * 1, none⟩)) (yld_idx (t := 46) (e := 5) (n := 256) (sz := 1) (k := .u8) (x := (rd a1 1)) (by kernel_rfl) (by kernel_rfl) (by kernel_rfl) i0_8 i1_8) ?_
 refine wpG.tD 13 true (some 18) (.int .u8 (rd a0_0 (rd a1 1))) (yld_loadR (m := 0) (k := .u8) (pre := ([] : List Value)) (post := enc .u8 a0_1) (c := a0_0) (e := 5) (x := (rd a1 1)) hs 2 rfl (by simp only [List.append_assoc, List.nil_append, List.cons_append, List.append_nil]) (by kernel_rfl) (by kernel_rfl) i0_8 i1_8 (by simp [enc_len]) .grow) ?_
 refine wpG.q 14 19 (.pointer (some ⟨p0, 0, none⟩)) ?_
 refine wpG.tD 15 false (some 20) (.pointer (some ⟨b1, 0 + (2 : Int).toNat * 1, none⟩)) (yld_idx (t := 101) (e := 5) (n := 4) (sz := 1) (k := .i64) (x := 2) (by kernel_rfl) (by kernel_rfl) (by kernel_rfl) (by decide) (by decide)) ?_
 refine wpG.tD 16 true (some 21) (.int .u8 (rd a1 2)) (yld_loadA (e := 5) (x := 2) hs 1 rfl (by kernel_rfl) (by kernel_rfl) (by decide) (by decide) .grow) ?_
 refine wpG.q 17 22 (.pointer (some ⟨p0, 0, none⟩)) ?_
 refine wpG.q 18 23 (.pointer (some ⟨p0, 0, none⟩)) ?_
 obtain ⟨x5, hx, h⟩ := of_bind h
 have hx := of_some hx
 subst hx
 obtain ⟨i0_10, h⟩ := of_chk h
 obtain ⟨i1_10, h⟩ := of_chk h
 refine wpG.tD 19 false (some 24) (.pointer (some ⟨p0, 0 + ((rd a1 2) : Int).toNat * 1, none⟩)) (yld_idx (t := 46) (e := 5) (n := 256) (sz := 1) (k := .u8) (x := (rd a1 2)) (by kernel_rfl) (by kernel_rfl) (by kernel_rfl) i0_10 i1_10) ?_
 refine wpG.tD 20 true (some 25) (.int .u8 (rd a0_0 (rd a1 2))) (yld_loadR (m := 0) (k := .u8) (pre := ([] : List Value)) (post := enc .u8 a0_1) (c := a0_0) (e := 5) (x := (rd a1 2)) hs 2 rfl (by simp only [List.append_assoc, List.nil_append, List.cons_append, List.append_nil]) (by kernel_rfl) (by kernel_rfl) i0_10 i1_10 (by simp [enc_len]) .grow) ?_
 refine wpG.q 21 26 (.pointer (some ⟨p0, 0, none⟩)) ?_
 refine wpG.tD 22 false (some 27) (.pointer (some ⟨b1, 0 + (3 : Int).toNat * 1, none⟩)) (yld_idx (t := 101) (e := 5) (n := 4) (sz := 1) (k := .i64) (x := 3) (by kernel_rfl) (by kernel_rfl) (by kernel_rfl) (by decide) (by decide)) ?_
 refine wpG.tD 23 true (some 28) (.int .u8 (rd a1 3)) (yld_loadA (e := 5) (x := 3) hs 1 rfl (by kernel_rfl) (by kernel_rfl) (by decide) (by decide) .grow) ?_
 refine wpG.q 24 29 (.pointer (some ⟨p0, 0, none⟩)) ?_
 refine wpG.q 25 30 (.pointer (some ⟨p0, 0, none⟩)) ?_
 obtain ⟨x6, hx, h⟩ := of_bind h
 have hx := of_some hx
 subst hx
 obtain ⟨i0_12, h⟩ := of_chk h
 obtain ⟨i1_12, h⟩ := of_chk h
 refine wpG.tD 26 false (some 31) (.pointer (some ⟨p0, 0 + ((rd a1 3) : Int).toNat * 1, none⟩)) (yld_idx (t := 46) (e := 5) (n := 256) (sz := 1) (k := .u8) (x := (rd a1 3)) (by kernel_rfl) (by kernel_rfl) (by kernel_rfl) i0_12 i1_12) ?_
 refine wpG.tD 27 true (some 32) (.int .u8 (rd a0_0 (rd a1 3))) (yld_loadR (m := 0) (k := .u8) (pre := ([] : List Value)) (post := enc .u8 a0_1) (c := a0_0) (e := 5) (x := (rd a1 3)) hs 2 rfl (by simp only [List.append_assoc, List.nil_append, List.cons_append, List.append_nil]) (by kernel_rfl) (by kernel_rfl) i0_12 i1_12 (by simp [enc_len]) .grow) ?_
 refine wpG.q 28 33 (.agg (enc .u8 (wr (wr (wr (wr (zeroA 4) 0 (rd a0_0 (rd a1 0))) 1 (rd a0_0 (rd a1 1))) 2 (rd a0_0 (rd a1 2))) 3 (rd a0_0 (rd a1 3)))).toArray) ?_
 refine wpG.only 29 (by kernel_rfl) (op_storeW (t := 101) (v := .agg (enc .u8 (wr (wr (wr (wr (zeroA 4) 0 (rd a0_0 (rd a1 0))) 1 (rd a0_0 (rd a1 1))) 2 (rd a0_0 (rd a1 2))) 3 (rd a0_0 (rd a1 3)))).toArray) (d := none) (by kernel_rfl) hs 0 rfl (vs := enc .u8 (wr (wr (wr (wr (zeroA 4) 0 (rd a0_0 (rd a1 0))) 1 (rd a0_0 (rd a1 1))) 2 (rd a0_0 (rd a1 2))) 3 (rd a0_0 (rd a1 3)))) (n := 4) (by kernel_rfl) (by kernel_rfl) (by kernel_rfl) (by simp [enc_len]) (by simp [enc_len]) (by intro u hu; exact enc_one _ _ u hu) ?_)
 intro w kp hs
 refine ⟨⟨fun hf => absurd hf (by decide), .all _ _⟩, ?_⟩
 refine wpG.fin (by kernel_rfl) rfl (kr4 _ _ ?_)
 refine then_n (ks3 _ _ (xret ?_))
 have q0 := of_some h
 subst q0
 exact qq _ _ (post_ret (by kernel_rfl) (run_results [.cell 4 101] [.agg (enc .u8 (wr (wr (wr (wr (zeroA 4) 0 (rd a0_0 (rd a1 0))) 1 (rd a0_0 (rd a1 1))) 2 (rd a0_0 (rd a1 2))) 3 (rd a0_0 (rd a1 3)))).toArray] (by kernel_rfl) (.cons (res_cellN (n := 4) hs 0 rfl (by kernel_rfl) (by kernel_rfl) (by kernel_rfl) (by exact enc_len _ _)) .nil)) ⟨congrArg Ending.returned (by kernel_rfl), (hs.drop (.cons _ (.cons _ (.cons_cons _ .slnil))))⟩)

theorem aes_word_xor.ok {K : Nat} {a0 : Arr 4} {a1 : Arr 4} {r0 : Arr 4} (h : aes_word_xor.f K a0 a1 = some r0) (w0 : World) : Ret Try.prog 84 #[.agg (enc .u8 a0).toArray, .agg (enc .u8 a1).toArray] w0 (.agg (enc .u8 r0).toArray) := by
 refine calls_k Try.func84 rfl fun Q qq => ?_
 have hs := St.start w0
 refine wp_conv (a' := ⟨#[.agg (enc .u8 a0).toArray, .agg (enc .u8 a1).toArray, undef, undef, undef, undef, undef, undef, undef, undef, undef, undef, undef, undef, undef, undef, undef, undef, undef, undef, undef, undef, undef, undef, undef, undef], []⟩) (by kernel_rfl) ?_
 refine xseq_k fun KS1 ks1 => ?_
 refine xregS [0, 1, 2] fun KR2 kr2 => ?_
 refine wpS.only 0 (op_box (t := 101) (v := .agg (enc .u8 a0).toArray) (d := (some 2)) (by kernel_rfl) hs (enc .u8 a0) (by kernel_rfl) (by kernel_rfl) ?_)
 intro b1 w gw hs
 refine ⟨fun _ => trivial, ?_⟩
 refine wpS.only 1 (op_box (t := 101) (v := .agg (enc .u8 a1).toArray) (d := (some 3)) (by kernel_rfl) hs (enc .u8 a1) (by kernel_rfl) (by kernel_rfl) ?_)
 intro b2 w gw hs
 refine ⟨fun _ => trivial, ?_⟩
 refine wpS.only 2 (op_alloc (t := 101) (d := (some 4)) (by kernel_rfl) hs (enc .u8 (zeroA 4)) (.agg (enc .u8 (zeroA 4)).toArray) (by kernel_rfl) (by kernel_rfl) (by kernel_rfl) ?_)
 intro b3 w gw hs
 refine ⟨fun _ => trivial, ?_⟩
 refine wpS.fin rfl (kr2 _ _ (then_n (ks1 _ _ (xseq_k fun KS3 ks3 => (xregS [0, 1, 2, 3, 4, 5, 6, 7, 8, 9, 10, 11, 12, 13, 14, 15, 16, 17, 18, 19, 20, 21] fun KR4 kr4 => ?_)))))
 refine wpS.tk 0 false (some 5) (.pointer (some ⟨b1, 0 + (0 : Int).toNat * 1, none⟩)) (yld_idx (t := 101) (e := 5) (n := 4) (sz := 1) (k := .i64) (x := 0) (by kernel_rfl) (by kernel_rfl) (by kernel_rfl) (by decide) (by decide)) ?_
 refine wpS.tk 1 true (some 6) (.int .u8 (rd a0 0)) (yld_loadA (e := 5) (x := 0) hs 2 rfl (by kernel_rfl) (by kernel_rfl) (by decide) (by decide) .grow) ?_
 refine wpS.tk 2 false (some 7) (.pointer (some ⟨b2, 0 + (0 : Int).toNat * 1, none⟩)) (yld_idx (t := 101) (e := 5) (n := 4) (sz := 1) (k := .i64) (x := 0) (by kernel_rfl) (by kernel_rfl) (by kernel_rfl) (by decide) (by decide)) ?_
 refine wpS.tk 3 true (some 8) (.int .u8 (rd a1 0)) (yld_loadA (e := 5) (x := 0) hs 1 rfl (by kernel_rfl) (by kernel_rfl) (by decide) (by decide) .grow) ?_
 refine wpS.q 4 9 (.int .u8 (ixor .u8 (rd a0 0) (rd a1 0))) ?_
 refine wpS.tk 5 false (some 10) (.pointer (some ⟨b1, 0 + (1 : Int).toNat * 1, none⟩)) (yld_idx (t := 101) (e := 5) (n := 4) (sz := 1) (k := .i64) (x := 1) (by kernel_rfl) (by kernel_rfl) (by kernel_rfl) (by decide) (by decide)) ?_
 refine wpS.tk 6 true (some 11) (.int .u8 (rd a0 1)) (yld_loadA (e := 5) (x := 1) hs 2 rfl (by kernel_rfl) (by kernel_rfl) (by decide) (by decide) .grow) ?_
 refine wpS.tk 7 false (some 12) (.pointer (some ⟨b2, 0 + (1 : Int).toNat * 1, none⟩)) (yld_idx (t := 101) (e := 5) (n := 4) (sz := 1) (k := .i64) (x := 1) (by kernel_rfl) (by kernel_rfl) (by kernel_rfl) (by decide) (by decide)) ?_
 refine wpS.tk 8 true (some 13) (.int .u8 (rd a1 1)) (yld_loadA (e := 5) (x := 1) hs 1 rfl (by kernel_rfl) (by kernel_rfl) (by decide) (by decide) .grow) ?_
 refine wpS.q 9 14 (.int .u8 (ixor .u8 (rd a0 1) (rd a1 1))) ?_
 refine wpS.tk 10 false (some 15) (.pointer (some ⟨b1, 0 + (2 : Int).toNat * 1, none⟩)) (yld_idx (t := 101) (e := 5) (n := 4) (sz := 1) (k := .i64) (x := 2) (by kernel_rfl) (by kernel_rfl) (by kernel_rfl) (by decide) (by decide)) ?_
 refine wpS.tk 11 true (some 16) (.int .u8 (rd a0 2)) (yld_loadA (e := 5) (x := 2) hs 2 rfl (by kernel_rfl) (by kernel_rfl) (by decide) (by decide) .grow) ?_
 refine wpS.tk 12 false (some 17) (.pointer (some ⟨b2, 0 + (2 : Int).toNat * 1, none⟩)) (yld_idx (t := 101) (e := 5) (n := 4) (sz := 1) (k := .i64) (x := 2) (by kernel_rfl) (by kernel_rfl) (by kernel_rfl) (by decide) (by decide)) ?_
 refine wpS.tk 13 true (some 18) (.int .u8 (rd a1 2)) (yld_loadA (e := 5) (x := 2) hs 1 rfl (by kernel_rfl) (by kernel_rfl) (by decide) (by decide) .grow) ?_
 refine wpS.q 14 19 (.int .u8 (ixor .u8 (rd a0 2) (rd a1 2))) ?_
 refine wpS.tk 15 false (some 20) (.pointer (some ⟨b1, 0 + (3 : Int).toNat * 1, none⟩)) (yld_idx (t := 101) (e := 5) (n := 4) (sz := 1) (k := .i64) (x := 3) (by kernel_rfl) (by kernel_rfl) (by kernel_rfl) (by decide) (by decide)) ?_
 refine wpS.tk 16 true (some 21) (.int .u8 (rd a0 3)) (yld_loadA (e := 5) (x := 3) hs 2 rfl (by kernel_rfl) (by kernel_rfl) (by decide) (by decide) .grow) ?_
 refine wpS.tk 17 false (some 22) (.pointer (some ⟨b2, 0 + (3 : Int).toNat * 1, none⟩)) (yld_idx (t := 101) (e := 5) (n := 4) (sz := 1) (k := .i64) (x := 3) (by kernel_rfl) (by kernel_rfl) (by kernel_rfl) (by decide) (by decide)) ?_
 refine wpS.tk 18 true (some 23) (.int .u8 (rd a1 3)) (yld_loadA (e := 5) (x := 3) hs 1 rfl (by kernel_rfl) (by kernel_rfl) (by decide) (by decide) .grow) ?_
 refine wpS.qs [(19, 24, .int .u8 (ixor .u8 (rd a0 3) (rd a1 3))), (20, 25, .agg (enc .u8 (wr (wr (wr (wr (zeroA 4) 0 (ixor .u8 (rd a0 0) (rd a1 0))) 1 (ixor .u8 (rd a0 1) (rd a1 1))) 2 (ixor .u8 (rd a0 2) (rd a1 2))) 3 (ixor .u8 (rd a0 3) (rd a1 3)))).toArray)] ?_
 refine wpS.only 21 (op_storeW (t := 101) (v := .agg (enc .u8 (wr (wr (wr (wr (zeroA 4) 0 (ixor .u8 (rd a0 0) (rd a1 0))) 1 (ixor .u8 (rd a0 1) (rd a1 1))) 2 (ixor .u8 (rd a0 2) (rd a1 2))) 3 (ixor .u8 (rd a0 3) (rd a1 3)))).toArray) (d := none) (by kernel_rfl) hs 0 rfl (vs := enc .u8 (wr (wr (wr (wr (zeroA 4) 0 (ixor .u8 (rd a0 0) (rd a1 0))) 1 (ixor .u8 (rd a0 1) (rd a1 1))) 2 (ixor .u8 (rd a0 2) (rd a1 2))) 3 (ixor .u8 (rd a0 3) (rd a1 3)))) (n := 4) (by kernel_rfl) (by kernel_rfl) (by kernel_rfl) (by simp [enc_len]) (by simp [enc_len]) (by intro u hu; exact enc_one _ _ u hu) ?_)
 intro w kp hs
 refine ⟨fun _ => trivial, ?_⟩
 refine wpS.fin rfl (kr4 _ _ (then_n (ks3 _ _ (xret ?_))))
 have q0 := of_some h
 subst q0
 exact qq _ _ (post_ret (by kernel_rfl) (run_results [.cell 4 101] [.agg (enc .u8 (wr (wr (wr (wr (zeroA 4) 0 (ixor .u8 (rd a0 0) (rd a1 0))) 1 (ixor .u8 (rd a0 1) (rd a1 1))) 2 (ixor .u8 (rd a0 2) (rd a1 2))) 3 (ixor .u8 (rd a0 3) (rd a1 3)))).toArray] (by kernel_rfl) (.cons (res_cellN (n := 4) hs 0 rfl (by kernel_rfl) (by kernel_rfl) (by kernel_rfl) (by exact enc_len _ _)) .nil)) ⟨congrArg Ending.returned (by kernel_rfl), hs.none⟩)

theorem aes_double.ok {K : Nat} {a0 : Int} {r0 : Int} (h : aes_double.f K a0 = some r0) (w0 : World) : Ret Try.prog 109 #[.int .u8 a0] w0 (.int .u8 r0) := by
 refine calls_k Try.func109 rfl fun Q qq => ?_
 have hs := St.start w0
 refine wp_conv (a' := ⟨#[.int .u8 a0, undef, undef, undef, undef, undef, undef, undef, undef, undef], []⟩) (by kernel_rfl) ?_
 refine xseq_k fun KS1 ks1 => ?_
 refine xregS [0] fun KR2 kr2 => ?_
 refine wpS.q 0 2 (.int .u8 0) ?_
 refine wpS.fin rfl (kr2 _ _ (then_n (ks1 _ _ (xseq_k fun KS3 ks3 => (xregS [0, 1, 2, 3, 4, 5, 6, 7] fun KR4 kr4 => ?_)))))
 refine wpS.qs [(0, 3, .int .u8 a0), (1, 4, .int .u8 (ishl .u8 a0 1)), (2, 5, .int .u8 a0), (3, 6, .int .u8 (ishr .u8 a0 7)), (4, 7, .int .u8 (isub .u8 0 (ishr .u8 a0 7))), (5, 8, .int .u8 (iand .u8 27 (isub .u8 0 (ishr .u8 a0 7)))), (6, 9, .int .u8 (ixor .u8 (ishl .u8 a0 1) (iand .u8 27 (isub .u8 0 (ishr .u8 a0 7)))))] ?_
 obtain ⟨x1, hx, h⟩ := of_bind h
 refine wpS.tk 7 false (some 2) (.int .u8 x1) (yld_int hx (fun _ => by kernel_rfl)) ?_
 refine wpS.fin rfl (kr4 _ _ (then_n (ks3 _ _ (xret ?_))))
 have q0 := of_some h
 subst q0
 exact qq _ _ (post_ret (by kernel_rfl) (run_results [.tmp 2] [.int .u8 x1] (by kernel_rfl) (.cons (res_tmp (by kernel_rfl)) .nil)) ⟨congrArg Ending.returned (by kernel_rfl), hs.none⟩)

theorem aes_mix.ok {K : Nat} {a0 : Arr 16} {rp : Arr 16} {p0 : Nat} (h : aes_mix.f K a0 = some rp) (w0 : World) (hb : w0.heap[p0]? = some (.cells (enc .u8 a0).toArray 42 (0, 0))) : Calls Try.prog 87 #[.pointer (some ⟨p0, 0, none⟩)] w0 fun e w' => e = .returned (.tuple #[]) ∧ St w0 [p0] [.blk p0 (enc .u8 rp) 42] [] w' := by
 refine calls_kn Try.func87 rfl fun Q qq qn => ?_
 have hs := St.startX hb allX_nil
 refine wp_conv (a' := ⟨#[.pointer (some ⟨p0, 0, none⟩), undef, undef, undef, undef, undef, undef, undef, undef, undef, undef, undef, undef, undef, undef, undef, undef, undef, undef, undef, undef, undef, undef, undef, undef, undef, undef, undef, undef, undef, undef, undef, undef, undef, undef, undef, undef, undef, undef, undef, undef, undef, undef, undef, undef, undef, undef, undef, undef, undef, undef, undef, undef, undef, undef], []⟩) (by kernel_rfl) ?_
 refine xseq_k fun KS1 ks1 => ?_
 refine xregS [0] fun KR2 kr2 => ?_
 refine wpS.q 0 2 (.int .i64 0) ?_
 refine wpS.fin rfl (kr2 _ _ (then_n (ks1 _ _ ?_)))
 obtain ⟨y3, hy, hk0⟩ := of_bind h
 refine wp_exq (N := fun a w => St w0 [p0] [.blk p0 (enc .u8 y3) 42] [] w ∧ ∃ g4 : Nat → Value, a = ⟨#[.pointer (some ⟨p0, 0, none⟩), undef, (g4 2), (g4 3), (g4 4), (g4 5), (g4 6), (g4 7), (g4 8), (g4 9), (g4 10), (g4 11), (g4 12), (g4 13), (g4 14), (g4 15), (g4 16), (g4 17), (g4 18), (g4 19), (g4 20), (g4 21), (g4 22), (g4 23), (g4 24), (g4 25), (g4 26), (g4 27), (g4 28), (g4 29), (g4 30), (g4 31), (g4 32), (g4 33), (g4 34), (g4 35), (g4 36), (g4 37), (g4 38), (g4 39), (g4 40), (g4 41), (g4 42), (g4 43), (g4 44), (g4 45), (g4 46), (g4 47), (g4 48), (g4 49), (g4 50), (g4 51), (g4 52), (g4 53), (g4 54)], []⟩) (fun N0 nn0 => ?_) ?_
 ·clear hk0
  refine xblock ?_
  refine wp_loop_k (fun n a w => ∃ z1 z2, aes_mix.l0 K n z1 z2 = some y3 ∧ St w0 [p0] [.blk p0 (enc .u8 z2) 42] [] w ∧ ∃ g3 : Nat → Value, a = ⟨#[.pointer (some ⟨p0, 0, none⟩), undef, .int .i64 z1, (g3 3), (g3 4), (g3 5), (g3 6), (g3 7), (g3 8), (g3 9), (g3 10), (g3 11), (g3 12), (g3 13), (g3 14), (g3 15), (g3 16), (g3 17), (g3 18), (g3 19), (g3 20), (g3 21), (g3 22), (g3 23), (g3 24), (g3 25), (g3 26), (g3 27), (g3 28), (g3 29), (g3 30), (g3 31), (g3 32), (g3 33), (g3 34), (g3 35), (g3 36), (g3 37), (g3 38), (g3 39), (g3 40), (g3 41), (g3 42), (g3 43), (g3 44), (g3 45), (g3 46), (g3 47), (g3 48), (g3 49), (g3 50), (g3 51), (g3 52), (g3 53), (g3 54)], []⟩) K ⟨0, a0, hy, hs.conv rfl, exg (by kernel_rfl)⟩ ?_
  clear hs h hy
  rintro n a w ⟨z1, z2, h, hs, g3, rfl⟩ KL0 kl0
  cases n with
  | zero => exact nomatch (show none = some _ from h)
  | succ n =>
   refine xseq_k fun KS5 ks5 => ?_
   refine xseq_k fun KS6 ks6 => ?_
   refine xregS [0, 1] fun KR7 kr7 => ?_
   refine wpS.q 0 6 (.int .i64 z1) ?_
   rcases of_if h with ⟨hc, h⟩ | ⟨hc, h⟩
   ·refine wpS.tk 1 false (some 7) (.bool true) (yld_b (dt hc) (fun _ => by kernel_rfl)) ?_
    refine wpS.fin rfl (kr7 _ _ (then_n (ks6 _ _ (wp_cond_t (by kernel_rfl) (xskip (then_n (ks5 _ _ (xseq_k fun KS8 ks8 => (xblock (xseq_k fun KS9 ks9 => (xregS [0, 1, 2, 3, 4, 5, 6, 7, 8, 9] fun KR10 kr10 => ?_)))))))))))
    refine wpS.qs [(0, 10, .pointer (some ⟨p0, 0, none⟩)), (1, 11, .pointer (some ⟨p0, 0, none⟩)), (2, 12, .int .i64 z1), (3, 13, .int .i64 z1), (4, 14, .int .i64 (iadd .i64 z1 4))] ?_
    obtain ⟨b0_11, h⟩ := of_chk h
    obtain ⟨b1_11, h⟩ := of_chk h
    obtain ⟨b2_11, h⟩ := of_chk h
    obtain ⟨b3_11, h⟩ := of_chk h
    refine wpS.tk 5 false (some 15) (.slice (some ⟨p0, 0 + (z1 : Int).toNat * 1, none⟩) (((iadd .i64 z1 4) : Int).toNat - (z1 : Int).toNat) (16 - (z1 : Int).toNat)) (yld_slA (t := 42) (e := 5) (n := 16) (k1 := .i64) (k2 := .i64) (lo := z1) (hi := (iadd .i64 z1 4)) (by kernel_rfl) (by kernel_rfl) (by kernel_rfl) b0_11 b1_11 b2_11 b3_11) ?_
    obtain ⟨h0, h⟩ := of_chk h
    have i0_12 := b0_11
    have i1_12 : (z1 : Int) + ((4 : Nat) : Int) ≤ ((16 : Nat) : Int) := by have := b2_11; omega
    refine wpS.tk 6 false (some 16) (.pointer (some ⟨p0, 0 + (z1 : Int).toNat * 1, none⟩)) (yld_toArr (t := 101) (e := 5) (n := 4) (len := ((iadd .i64 z1 4) : Int).toNat - (z1 : Int).toNat) (c := 16 - (z1 : Int).toNat) (by kernel_rfl) (by kernel_rfl) h0) ?_
    refine wpS.tk 7 true (some 17) (.agg (enc .u8 (subA 4 z2 z1)).toArray) (yld_loadSub (e := 101) (m := 4) (x := z1) hs 0 rfl (by kernel_rfl) (by kernel_rfl) (by kernel_rfl) i0_12 i1_12 .grow) ?_
    refine wpS.only 8 (op_alloc (t := 101) (d := (some 3)) (by kernel_rfl) hs (enc .u8 (zeroA 4)) (.agg (enc .u8 (zeroA 4)).toArray) (by kernel_rfl) (by kernel_rfl) (by kernel_rfl) ?_)
    intro b4 w gw hs
    refine ⟨fun _ => trivial, ?_⟩
    refine wpS.only 9 (op_storeW (t := 101) (v := .agg (enc .u8 (subA 4 z2 z1)).toArray) (d := none) (by kernel_rfl) hs 0 rfl (vs := enc .u8 (subA 4 z2 z1)) (n := 4) (by kernel_rfl) (by kernel_rfl) (by kernel_rfl) (by simp [enc_len]) (by simp [enc_len]) (by intro u hu; exact enc_one _ _ u hu) ?_)
    intro w kp hs
    refine ⟨fun _ => trivial, ?_⟩
    refine wpS.fin rfl (kr10 _ _ (then_n (ks9 _ _ (xseq_k fun KS13 ks13 => (xregS [0, 1, 2, 3, 4, 5, 6, 7, 8, 9, 10, 11] fun KR14 kr14 => ?_)))))
    refine wpS.tk 0 false (some 18) (.pointer (some ⟨b4, 0 + (0 : Int).toNat * 1, none⟩)) (yld_idx (t := 101) (e := 5) (n := 4) (sz := 1) (k := .i64) (x := 0) (by kernel_rfl) (by kernel_rfl) (by kernel_rfl) (by decide) (by decide)) ?_
    refine wpS.tk 1 true (some 19) (.int .u8 (rd (subA 4 z2 z1) 0)) (yld_loadA (e := 5) (x := 0) hs 0 rfl (by kernel_rfl) (by kernel_rfl) (by decide) (by decide) .grow) ?_
    refine wpS.tk 2 false (some 20) (.pointer (some ⟨b4, 0 + (1 : Int).toNat * 1, none⟩)) (yld_idx (t := 101) (e := 5) (n := 4) (sz := 1) (k := .i64) (x := 1) (by kernel_rfl) (by kernel_rfl) (by kernel_rfl) (by decide) (by decide)) ?_
    refine wpS.tk 3 true (some 21) (.int .u8 (rd (subA 4 z2 z1) 1)) (yld_loadA (e := 5) (x := 1) hs 0 rfl (by kernel_rfl) (by kernel_rfl) (by decide) (by decide) .grow) ?_
    refine wpS.q 4 22 (.int .u8 (ixor .u8 (rd (subA 4 z2 z1) 0) (rd (subA 4 z2 z1) 1))) ?_
    refine wpS.tk 5 false (some 23) (.pointer (some ⟨b4, 0 + (2 : Int).toNat * 1, none⟩)) (yld_idx (t := 101) (e := 5) (n := 4) (sz := 1) (k := .i64) (x := 2) (by kernel_rfl) (by kernel_rfl) (by kernel_rfl) (by decide) (by decide)) ?_
    refine wpS.tk 6 true (some 24) (.int .u8 (rd (subA 4 z2 z1) 2)) (yld_loadA (e := 5) (x := 2) hs 0 rfl (by kernel_rfl) (by kernel_rfl) (by decide) (by decide) .grow) ?_
    refine wpS.q 7 25 (.int .u8 (ixor .u8 (ixor .u8 (rd (subA 4 z2 z1) 0) (rd (subA 4 z2 z1) 1)) (rd (subA 4 z2 z1) 2))) ?_
    refine wpS.tk 8 false (some 26) (.pointer (some ⟨b4, 0 + (3 : Int).toNat * 1, none⟩)) (yld_idx (t := 101) (e := 5) (n := 4) (sz := 1) (k := .i64) (x := 3) (by kernel_rfl) (by kernel_rfl) (by kernel_rfl) (by decide) (by decide)) ?_
    refine wpS.tk 9 true (some 27) (.int .u8 (rd (subA 4 z2 z1) 3)) (yld_loadA (e := 5) (x := 3) hs 0 rfl (by kernel_rfl) (by kernel_rfl) (by decide) (by decide) .grow) ?_
    refine wpS.q 10 28 (.int .u8 (ixor .u8 (ixor .u8 (ixor .u8 (rd (subA 4 z2 z1) 0) (rd (subA 4 z2 z1) 1)) (rd (subA 4 z2 z1) 2)) (rd (subA 4 z2 z1) 3))) ?_
    obtain ⟨x5, hx, h⟩ := of_bind h
    refine wpS.tk 11 false (some 4) (.int .u8 x5) (yld_int hx (fun _ => by kernel_rfl)) ?_
    refine wpS.fin rfl (kr14 _ _ (then_n (ks13 _ _ (xseq_k fun KS19 ks19 => (xregS [0] fun KR20 kr20 => ?_)))))
    refine wpS.q 0 29 (.int .i64 0) ?_
    refine wpS.fin rfl (kr20 _ _ (then_n (ks19 _ _ ?_)))
    obtain ⟨y8, hy, hk1⟩ := of_bind h
    refine wp_exq (N := fun a w => St w0 [p0] [.blk b4 (enc .u8 (subA 4 z2 z1)) 101, .blk p0 (enc .u8 y8) 42] [] w ∧ ∃ g22 : Nat → Value, a = ⟨#[.pointer (some ⟨p0, 0, none⟩), undef, .int .i64 z1, .pointer (some ⟨b4, 0, none⟩), .int .u8 x5, (g22 5), .int .i64 z1, .bool true, (g3 8), (g3 9), .pointer (some ⟨p0, 0, none⟩), .pointer (some ⟨p0, 0, none⟩), .int .i64 z1, .int .i64 z1, .int .i64 (iadd .i64 z1 4), .slice (some ⟨p0, 0 + (z1 : Int).toNat * 1, none⟩) (((iadd .i64 z1 4) : Int).toNat - (z1 : Int).toNat) (16 - (z1 : Int).toNat), .pointer (some ⟨p0, 0 + (z1 : Int).toNat * 1, none⟩), .agg (enc .u8 (subA 4 z2 z1)).toArray, .pointer (some ⟨b4, 0 + (0 : Int).toNat * 1, none⟩), .int .u8 (rd (subA 4 z2 z1) 0), .pointer (some ⟨b4, 0 + (1 : Int).toNat * 1, none⟩), .int .u8 (rd (subA 4 z2 z1) 1), .int .u8 (ixor .u8 (rd (subA 4 z2 z1) 0) (rd (subA 4 z2 z1) 1)), .pointer (some ⟨b4, 0 + (2 : Int).toNat * 1, none⟩), .int .u8 (rd (subA 4 z2 z1) 2), .int .u8 (ixor .u8 (ixor .u8 (rd (subA 4 z2 z1) 0) (rd (subA 4 z2 z1) 1)) (rd (subA 4 z2 z1) 2)), .pointer (some ⟨b4, 0 + (3 : Int).toNat * 1, none⟩), .int .u8 (rd (subA 4 z2 z1) 3), .int .u8 (ixor .u8 (ixor .u8 (ixor .u8 (rd (subA 4 z2 z1) 0) (rd (subA 4 z2 z1) 1)) (rd (subA 4 z2 z1) 2)) (rd (subA 4 z2 z1) 3)), (g22 29), (g22 30), (g22 31), (g22 32), (g22 33), (g22 34), (g22 35), (g22 36), (g22 37), (g22 38), (g22 39), (g22 40), (g22 41), (g22 42), (g22 43), (g22 44), (g22 45), (g22 46), (g22 47), (g22 48), (g22 49), (g22 50), (g22 51), (g22 52), (g22 53), (g22 54)], []⟩) (fun N1 nn1 => ?_) ?_
    ·clear hk1
     refine xblock ?_
     refine wp_loop_k (fun n a w => ∃ z6 z7, aes_mix.l1 K n z1 z2 x5 z6 z7 = some y8 ∧ St w0 [p0] [.blk b4 (enc .u8 (subA 4 z2 z1)) 101, .blk p0 (enc .u8 z7) 42] [] w ∧ ∃ g21 : Nat → Value, a = ⟨#[.pointer (some ⟨p0, 0, none⟩), undef, .int .i64 z1, .pointer (some ⟨b4, 0, none⟩), .int .u8 x5, (g21 5), .int .i64 z1, .bool true, (g3 8), (g3 9), .pointer (some ⟨p0, 0, none⟩), .pointer (some ⟨p0, 0, none⟩), .int .i64 z1, .int .i64 z1, .int .i64 (iadd .i64 z1 4), .slice (some ⟨p0, 0 + (z1 : Int).toNat * 1, none⟩) (((iadd .i64 z1 4) : Int).toNat - (z1 : Int).toNat) (16 - (z1 : Int).toNat), .pointer (some ⟨p0, 0 + (z1 : Int).toNat * 1, none⟩), .agg (enc .u8 (subA 4 z2 z1)).toArray, .pointer (some ⟨b4, 0 + (0 : Int).toNat * 1, none⟩), .int .u8 (rd (subA 4 z2 z1) 0), .pointer (some ⟨b4, 0 + (1 : Int).toNat * 1, none⟩), .int .u8 (rd (subA 4 z2 z1) 1), .int .u8 (ixor .u8 (rd (subA 4 z2 z1) 0) (rd (subA 4 z2 z1) 1)), .pointer (some ⟨b4, 0 + (2 : Int).toNat * 1, none⟩), .int .u8 (rd (subA 4 z2 z1) 2), .int .u8 (ixor .u8 (ixor .u8 (rd (subA 4 z2 z1) 0) (rd (subA 4 z2 z1) 1)) (rd (subA 4 z2 z1) 2)), .pointer (some ⟨b4, 0 + (3 : Int).toNat * 1, none⟩), .int .u8 (rd (subA 4 z2 z1) 3), .int .u8 (ixor .u8 (ixor .u8 (ixor .u8 (rd (subA 4 z2 z1) 0) (rd (subA 4 z2 z1) 1)) (rd (subA 4 z2 z1) 2)) (rd (subA 4 z2 z1) 3)), .int .i64 z6, (g21 30), (g21 31), (g21 32), (g21 33), (g21 34), (g21 35), (g21 36), (g21 37), (g21 38), (g21 39), (g21 40), (g21 41), (g21 42), (g21 43), (g21 44), (g21 45), (g21 46), (g21 47), (g21 48), (g21 49), (g21 50), (g21 51), (g21 52), (g21 53), (g21 54)], []⟩) K ⟨0, z2, hy, hs.conv rfl, exg (by kernel_rfl)⟩ ?_
     clear hs h hy
     rintro n a w ⟨z6, z7, h, hs, g21, rfl⟩ KL1 kl1
     cases n with
     | zero => exact nomatch (show none = some _ from h)
     | succ n =>
      refine xseq_k fun KS23 ks23 => ?_
      refine xregS [0] fun KR24 kr24 => ?_
      rcases of_if h with ⟨hc, h⟩ | ⟨hc, h⟩
      ·refine wpS.tk 0 false (some 30) (.bool true) (yld_b (dt hc) (fun _ => by kernel_rfl)) ?_
       refine wpS.fin rfl (kr24 _ _ (then_n (ks23 _ _ (xseq_k fun KS25 ks25 => (wp_cond_t (by kernel_rfl) (xskip (then_n (ks25 _ _ (xseq_k fun KS26 ks26 => (xblock (xseq_k fun KS27 ks27 => (xregS [0, 1] fun KR28 kr28 => ?_))))))))))))
       refine wpS.qs [(0, 31, .int .i64 z6), (1, 5, .int .i64 z6)] ?_
       refine wpS.fin rfl (kr28 _ _ (then_n (ks27 _ _ ?_)))
       refine wp_regG [22] (fun k => True) 23 (by kernel_rfl) (by kernel_rfl) (by kernel_rfl) fun KR29 kr29 => ?_
       have hs := hs.drawn1
       refine wpG.q 0 32 (.pointer (some ⟨p0, 0, none⟩)) ?_
       refine wpG.q 1 33 (.int .i64 z1) ?_
       refine wpG.q 2 34 (.int .i64 z6) ?_
       refine wpG.q 3 35 (.int .i64 (iadd .i64 z1 z6)) ?_
       refine wpG.q 4 36 (.int .i64 z6) ?_
       obtain ⟨i0_30, h⟩ := of_chk h
       obtain ⟨i1_30, h⟩ := of_chk h
       refine wpG.tD 5 false (some 37) (.pointer (some ⟨b4, 0 + (z6 : Int).toNat * 1, none⟩)) (yld_idx (t := 101) (e := 5) (n := 4) (sz := 1) (k := .i64) (x := z6) (by kernel_rfl) (by kernel_rfl) (by kernel_rfl) i0_30 i1_30) ?_
       refine wpG.tD 6 true (some 38) (.int .u8 (rd (subA 4 z2 z1) z6)) (yld_loadA (e := 5) (x := z6) hs 0 rfl (by kernel_rfl) (by kernel_rfl) i0_30 i1_30 .grow) ?_
       refine wpG.q 7 39 (.int .u8 x5) ?_
       refine wpG.q 8 40 (.int .u8 (ixor .u8 (rd (subA 4 z2 z1) z6) x5)) ?_
       refine wpG.q 9 41 (.int .i64 z6) ?_
       obtain ⟨i0_31, h⟩ := of_chk h
       obtain ⟨i1_31, h⟩ := of_chk h
       refine wpG.tD 10 false (some 42) (.pointer (some ⟨b4, 0 + (z6 : Int).toNat * 1, none⟩)) (yld_idx (t := 101) (e := 5) (n := 4) (sz := 1) (k := .i64) (x := z6) (by kernel_rfl) (by kernel_rfl) (by kernel_rfl) i0_31 i1_31) ?_
       refine wpG.tD 11 true (some 43) (.int .u8 (rd (subA 4 z2 z1) z6)) (yld_loadA (e := 5) (x := z6) hs 0 rfl (by kernel_rfl) (by kernel_rfl) i0_31 i1_31 .grow) ?_
       refine wpG.q 12 44 (.int .i64 z6) ?_
       refine wpG.q 13 45 (.int .i64 (iadd .i64 z6 1)) ?_
       refine wpG.q 14 46 (.int .i64 (irem .i64 (iadd .i64 z6 1) 4)) ?_
       obtain ⟨x9, hx, h⟩ := of_bind h
       have hx := of_some hx
       subst hx
       obtain ⟨i0_32, h⟩ := of_chk h
       obtain ⟨i1_32, h⟩ := of_chk h
       refine wpG.tD 15 false (some 47) (.pointer (some ⟨b4, 0 + ((irem .i64 (iadd .i64 z6 1) 4) : Int).toNat * 1, none⟩)) (yld_idx (t := 101) (e := 5) (n := 4) (sz := 1) (k := .i64) (x := (irem .i64 (iadd .i64 z6 1) 4)) (by kernel_rfl) (by kernel_rfl) (by kernel_rfl) i0_32 i1_32) ?_
       refine wpG.tD 16 true (some 48) (.int .u8 (rd (subA 4 z2 z1) (irem .i64 (iadd .i64 z6 1) 4))) (yld_loadA (e := 5) (x := (irem .i64 (iadd .i64 z6 1) 4)) hs 0 rfl (by kernel_rfl) (by kernel_rfl) i0_32 i1_32 .grow) ?_
       refine wpG.q 17 49 (.int .u8 (ixor .u8 (rd (subA 4 z2 z1) z6) (rd (subA 4 z2 z1) (irem .i64 (iadd .i64 z6 1) 4)))) ?_
       refine wpG.q 20 52 (.pointer (some ⟨p0, 0, none⟩)) ?_
       obtain ⟨r10, hg, h⟩ := of_bind h
       refine wpG.only 18 (by kernel_rfl) (op_call (d := (some 50)) (by kernel_rfl) hs (fun _ => by kernel_rfl) (aes_double.ok hg _) ?_)
       intro w gw hs
       refine ⟨.of gw, ?_⟩
       refine wpG.q 19 51 (.int .u8 (ixor .u8 (ixor .u8 (rd (subA 4 z2 z1) z6) x5) r10)) ?_
       obtain ⟨x11, hx, h⟩ := of_bind h
       have hx := of_some hx
       subst hx
       obtain ⟨i0_33, h⟩ := of_chk h
       obtain ⟨i1_33, h⟩ := of_chk h
       refine wpG.tD 21 false (some 53) (.pointer (some ⟨p0, 0 + ((iadd .i64 z1 z6) : Int).toNat * 1, none⟩)) (yld_idx (t := 42) (e := 5) (n := 16) (sz := 1) (k := .i64) (x := (iadd .i64 z1 z6)) (by kernel_rfl) (by kernel_rfl) (by kernel_rfl) i0_33 i1_33) ?_
       obtain ⟨x12, hx, h⟩ := of_bind h
       refine wpG.only 22 (by kernel_rfl) (op_storeA (t := 5) (x := (iadd .i64 z1 z6)) (v := x12) (d := none) (by kernel_rfl) hs 1 rfl (by cases hx; kernel_rfl) (by kernel_rfl) i0_33 i1_33 ?_)
       intro w kp hs
       refine ⟨⟨fun hf => absurd hf (by decide), .all _ _⟩, ?_⟩
       refine wpG.fin (by kernel_rfl) rfl (kr29 _ _ ?_)
       refine inBlock_n (then_n (ks26 _ _ (xregS [0, 1] fun KR34 kr34 => ?_)))
       refine wpS.qs [(0, 54, .int .i64 (iadd .i64 z6 1)), (1, 29, .int .i64 (iadd .i64 z6 1))] ?_
       refine wpS.fin rfl (kr34 _ _ ?_)
       exact then_n (kl1 _ _ ⟨n, Nat.lt_succ_self n, (iadd .i64 z6 1), (wr z7 (iadd .i64 z1 z6) x12), h, (hs.conv rfl), exg (by kernel_rfl)⟩)
      refine wpS.tk 0 false (some 30) (.bool false) (yld_b (df hc) (fun _ => by kernel_rfl)) ?_
      refine wpS.fin rfl (kr24 _ _ (then_n (ks23 _ _ (xseq_k fun KS35 ks35 => (wp_cond_f (by kernel_rfl) (xexit (then_x (then_x (inBlock_hit ?_)))))))))
      have q0 := of_some h
      subst q0
      exact exq_n (nn1 _ _ ⟨(hs.conv rfl), exg (by kernel_rfl)⟩)
    clear hs h hy
    rintro a w ⟨hs, g22, rfl⟩
    have h := hk1
    refine inBlock_n (then_n (ks8 _ _ (xregS [0, 1, 2] fun KR36 kr36 => ?_)))
    refine wpS.qs [(0, 8, .int .i64 z1), (1, 9, .int .i64 (iadd .i64 z1 4))] ?_
    obtain ⟨x13, hx, h⟩ := of_bind h
    refine wpS.tk 2 false (some 2) (.int .i64 x13) (yld_int hx (fun _ => by kernel_rfl)) ?_
    refine wpS.fin rfl (kr36 _ _ ?_)
    exact then_n (kl0 _ _ ⟨n, Nat.lt_succ_self n, x13, y8, h, (hs.drop (.cons _ (.cons_cons _ .slnil))), exg (by kernel_rfl)⟩)
   refine wpS.tk 1 false (some 7) (.bool false) (yld_b (df hc) (fun _ => by kernel_rfl)) ?_
   refine wpS.fin rfl (kr7 _ _ (then_n (ks6 _ _ (wp_cond_f (by kernel_rfl) (xexit (then_x (then_x (inBlock_hit ?_))))))))
   have q0 := of_some h
   subst q0
   exact exq_n (nn0 _ _ ⟨(hs.conv rfl), exg (by kernel_rfl)⟩)
 clear hs h hy
 rintro a w ⟨hs, g4, rfl⟩
 have h := hk0
 have q0 := of_some h
 subst q0
 exact qn _ _ (post_nrm (by kernel_rfl) (run_results [] [] (by kernel_rfl) .nil) ⟨congrArg Ending.returned (by kernel_rfl), (hs.conv rfl)⟩)
end Go.Proofs.Ytmpagpbnpgcecaa
