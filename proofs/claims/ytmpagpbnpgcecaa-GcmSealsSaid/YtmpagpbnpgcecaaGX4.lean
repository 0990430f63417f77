/- Printed by this work's own program: the code of each function below comes to the answer that its plain form tells. -/
import Derived.Test.YtmpagpbnpgcecaaMd
import Derived.Test.YtmpagpbnpgcecaaProg
import Derived.Test.YtmpagpbnpgcecaaGF0
import Derived.Test.YtmpagpbnpgcecaaGX5
set_option linter.unusedVariables false
set_option linter.unusedSimpArgs false
set_option maxRecDepth 100000
set_option maxHeartbeats 4000000
namespace Go.Proofs.Ytmpagpbnpgcecaa
open Go.Mx
attribute [local irreducible] wpOp

theorem ref10_Sized.ok {K : Nat} {a0 : List Int} {r0 : Bool} {a0_A : Option Addr} {a0_n : Nat} {a0_c : Nat} (h : ref10_Sized.f K a0 = some r0) (w0 : World) (hp0 : RowL (CI .u8) w0 a0_A a0_n a0_c a0) : Ret Try.prog 49 #[.slice a0_A a0_n a0_c] w0 (.bool r0) := by
 refine calls_k Try.func49 rfl fun Q qq => ?_
 have hs := St.startR (all_cons (RowP.ent hp0) all_nil)
 refine wp_conv (a' := ⟨#[.slice a0_A a0_n a0_c, undef, undef, undef, undef, undef, undef, undef, undef, undef, undef, undef, undef, undef, undef, undef], []⟩) (by kernel_rfl) ?_
 refine xseq_k fun KS1 ks1 => ?_
 refine xregS [0] fun KR2 kr2 => ?_
 refine wpS.q 0 2 (.bool false) ?_
 refine wpS.fin rfl (kr2 _ _ (then_n (ks1 _ _ (xseq_k fun KS3 ks3 => (xregS [0, 1, 2, 3, 4, 5, 6, 7, 8, 9, 10, 11, 12, 13] fun KR4 kr4 => ?_)))))
 refine wpS.q 0 3 (.slice a0_A a0_n a0_c) ?_
 refine wpS.tk 1 false (some 4) (.int .i64 (a0.length : Int)) (yld_lenL (hs.rowR 0 rfl) (fun _ => by kernel_rfl)) ?_
 rcases of_if h with ⟨hc, h⟩ | ⟨hc, h⟩
 ·refine wpS.tk 2 false (some 5) (.bool true) (yld_b (et hc) (fun _ => by kernel_rfl)) ?_
  refine wpS.qs [(3, 6, .bool true), (4, 7, undef), (5, 8, undef), (6, 9, undef), (7, 10, .bool true), (8, 11, .bool true), (9, 12, undef), (10, 13, undef), (11, 14, undef), (12, 15, .bool true), (13, 2, .bool true)] ?_
  refine wpS.fin rfl (kr4 _ _ (then_n (ks3 _ _ (xret ?_))))
  have q0 := of_some h
  subst q0
  exact qq _ _ (post_ret (by kernel_rfl) (run_results [.tmp 2] [.bool true] (by kernel_rfl) (.cons (res_tmp (by kernel_rfl)) .nil)) ⟨congrArg Ending.returned (by kernel_rfl), hs.none⟩)
 refine wpS.tk 2 false (some 5) (.bool false) (yld_b (ef hc) (fun _ => by kernel_rfl)) ?_
 refine wpS.qs [(3, 6, .bool false), (4, 7, .slice a0_A a0_n a0_c)] ?_
 refine wpS.tk 5 false (some 8) (.int .i64 (a0.length : Int)) (yld_lenL (hs.rowR 0 rfl) (fun _ => by kernel_rfl)) ?_
 rcases of_if h with ⟨hc, h⟩ | ⟨hc, h⟩
 ·refine wpS.tk 6 false (some 9) (.bool true) (yld_b (et hc) (fun _ => by kernel_rfl)) ?_
  refine wpS.qs [(7, 10, .bool true), (8, 11, .bool true), (9, 12, undef), (10, 13, undef), (11, 14, undef), (12, 15, .bool true), (13, 2, .bool true)] ?_
  refine wpS.fin rfl (kr4 _ _ (then_n (ks3 _ _ (xret ?_))))
  have q0 := of_some h
  subst q0
  exact qq _ _ (post_ret (by kernel_rfl) (run_results [.tmp 2] [.bool true] (by kernel_rfl) (.cons (res_tmp (by kernel_rfl)) .nil)) ⟨congrArg Ending.returned (by kernel_rfl), hs.none⟩)
 refine wpS.tk 6 false (some 9) (.bool false) (yld_b (ef hc) (fun _ => by kernel_rfl)) ?_
 refine wpS.qs [(7, 10, .bool false), (8, 11, .bool false), (9, 12, .slice a0_A a0_n a0_c)] ?_
 refine wpS.tk 10 false (some 13) (.int .i64 (a0.length : Int)) (yld_lenL (hs.rowR 0 rfl) (fun _ => by kernel_rfl)) ?_
 refine wpS.qs [(11, 14, .bool ((a0.length : Int) == 32)), (12, 15, .bool ((a0.length : Int) == 32)), (13, 2, .bool ((a0.length : Int) == 32))] ?_
 refine wpS.fin rfl (kr4 _ _ (then_n (ks3 _ _ (xret ?_))))
 have q0 := of_some h
 subst q0
 exact qq _ _ (post_ret (by kernel_rfl) (run_results [.tmp 2] [.bool ((a0.length : Int) == 32)] (by kernel_rfl) (.cons (res_tmp (by kernel_rfl)) .nil)) ⟨congrArg Ending.returned (by kernel_rfl), hs.none⟩)

theorem ref10_Mul.ok {K : Nat} {a0 : Int} {a1 : Int} {r0 : Int} (h : ref10_Mul.f K a0 a1 = some r0) (w0 : World) : Ret Try.prog 16 #[.int .u8 a0, .int .u8 a1] w0 (.int .u8 r0) := by
 refine calls_k Try.func16 rfl fun Q qq => ?_
 have hs := St.start w0
 refine wp_conv (a' := ⟨#[.int .u8 a0, .int .u8 a1, undef, undef, undef, undef, undef, undef, undef, undef, undef, undef, undef, undef, undef, undef, undef, undef, undef, undef, undef, undef, undef, undef, undef, undef, undef, undef], []⟩) (by kernel_rfl) ?_
 refine xseq_k fun KS1 ks1 => ?_
 refine xregS [0] fun KR2 kr2 => ?_
 refine wpS.q 0 4 (.int .u8 0) ?_
 refine wpS.fin rfl (kr2 _ _ (then_n (ks1 _ _ (xseq_k fun KS3 ks3 => (xregS [0] fun KR4 kr4 => ?_)))))
 refine wpS.q 0 5 (.int .u8 0) ?_
 refine wpS.fin rfl (kr4 _ _ (then_n (ks3 _ _ (xseq_k fun KS5 ks5 => (xseq_k fun KS6 ks6 => (xregS [0] fun KR7 kr7 => ?_))))))
 refine wpS.q 0 6 (.int .i64 0) ?_
 refine wpS.fin rfl (kr7 _ _ (then_n (ks6 _ _ ?_)))
 obtain ⟨y5, hy, hk0⟩ := of_bind h
 refine wp_exq (N := fun a w => St w0 [] [] [] w ∧ ∃ g9 : Nat → Value, a = ⟨#[(g9 0), (g9 1), undef, undef, .int .u8 0, .int .u8 y5, (g9 6), (g9 7), (g9 8), (g9 9), (g9 10), (g9 11), (g9 12), (g9 13), (g9 14), (g9 15), (g9 16), (g9 17), (g9 18), (g9 19), (g9 20), (g9 21), (g9 22), (g9 23), (g9 24), (g9 25), (g9 26), undef], []⟩) (fun N0 nn0 => ?_) ?_
 ·clear hk0
  refine xblock ?_
  refine wp_loop_k (fun n a w => ∃ z1 z2 z3 z4, ref10_Mul.l0 K n z1 z2 z3 z4 = some y5 ∧ St w0 [] [] [] w ∧ ∃ g8 : Nat → Value, a = ⟨#[.int .u8 z1, .int .u8 z2, undef, undef, .int .u8 0, .int .u8 z3, .int .i64 z4, (g8 7), (g8 8), (g8 9), (g8 10), (g8 11), (g8 12), (g8 13), (g8 14), (g8 15), (g8 16), (g8 17), (g8 18), (g8 19), (g8 20), (g8 21), (g8 22), (g8 23), (g8 24), (g8 25), (g8 26), undef], []⟩) K ⟨a0, a1, 0, 0, hy, hs.conv rfl, exg (by kernel_rfl)⟩ ?_
  clear hs h hy
  rintro n a w ⟨z1, z2, z3, z4, h, hs, g8, rfl⟩ KL0 kl0
  cases n with
  | zero => exact nomatch (show none = some _ from h)
  | succ n =>
   refine xseq_k fun KS10 ks10 => ?_
   refine xseq_k fun KS11 ks11 => ?_
   refine xregS [0, 1] fun KR12 kr12 => ?_
   refine wpS.q 0 8 (.int .i64 z4) ?_
   rcases of_if h with ⟨hc, h⟩ | ⟨hc, h⟩
   ·refine wpS.tk 1 false (some 9) (.bool true) (yld_b (dt hc) (fun _ => by kernel_rfl)) ?_
    refine wpS.fin rfl (kr12 _ _ (then_n (ks11 _ _ (wp_cond_t (by kernel_rfl) (xskip (then_n (ks10 _ _ ?_)))))))
    obtain ⟨⟨y6, y7, y8⟩, hj, h⟩ := of_bind h
    refine xseq_k fun KS14 ks14 => wp_join (N := fun a w => St w0 [] [] [] w ∧ ∃ g13 : Nat → Value, a = ⟨#[.int .u8 y6, .int .u8 y7, undef, undef, .int .u8 0, .int .u8 y8, .int .i64 z4, (g13 7), .int .i64 z4, .bool true, (g8 10), (g8 11), (g13 12), (g13 13), (g13 14), (g13 15), (g13 16), (g13 17), (g13 18), (g13 19), (g13 20), (g13 21), (g13 22), (g13 23), (g13 24), (g13 25), (g13 26), undef], []⟩) (fun N nj => ?_) ?_
    ·clear h
     have h := hj
     refine xblock ?_
     obtain ⟨y9, hj, h⟩ := of_bind h
     refine xseq_k fun KS16 ks16 => wp_join (N := fun a w => St w0 [] [] [] w ∧ ∃ g15 : Nat → Value, a = ⟨#[.int .u8 z1, .int .u8 z2, undef, undef, .int .u8 0, .int .u8 y9, .int .i64 z4, (g8 7), .int .i64 z4, .bool true, (g8 10), (g8 11), (g15 12), (g15 13), (g15 14), (g15 15), (g15 16), (g15 17), (g8 18), (g8 19), (g8 20), (g8 21), (g8 22), (g8 23), (g8 24), (g8 25), (g8 26), undef], []⟩) (fun N nj => ?_) ?_
     ·clear h
      have h := hj
      refine xseq_k fun KS17 ks17 => ?_
      refine xregS [0, 1, 2] fun KR18 kr18 => ?_
      refine wpS.qs [(0, 12, .int .u8 z2), (1, 13, .int .u8 (iand .u8 z2 1))] ?_
      rcases of_if h with ⟨hc, h⟩ | ⟨hc, h⟩
      ·refine wpS.tk 2 false (some 14) (.bool true) (yld_b (et hc) (fun _ => by kernel_rfl)) ?_
       refine wpS.fin rfl (kr18 _ _ (then_n (ks17 _ _ (wp_cond_t (by kernel_rfl) (xregS [0, 1, 2, 3] fun KR19 kr19 => ?_)))))
       refine wpS.qs [(0, 15, .int .u8 z3), (1, 16, .int .u8 z1), (2, 17, .int .u8 (ixor .u8 z3 z1))] ?_
       obtain ⟨x10, hx, h⟩ := of_bind h
       refine wpS.tk 3 false (some 5) (.int .u8 x10) (yld_int hx (fun _ => by kernel_rfl)) ?_
       refine wpS.fin rfl (kr19 _ _ ?_)
       have q0 := of_some h
       subst q0
       exact nj _ _ ⟨(hs.conv rfl), exg (by kernel_rfl)⟩
      refine wpS.tk 2 false (some 14) (.bool false) (yld_b (ef hc) (fun _ => by kernel_rfl)) ?_
      refine wpS.fin rfl (kr18 _ _ (then_n (ks17 _ _ (wp_cond_f (by kernel_rfl) (xskip ?_)))))
      have q0 := of_some h
      subst q0
      exact nj _ _ ⟨(hs.conv rfl), exg (by kernel_rfl)⟩
     clear hj hs
     rintro a w ⟨hs, g15, rfl⟩
     refine then_n (ks16 _ _ (xseq_k fun KS20 ks20 => (xregS [0, 1, 2] fun KR21 kr21 => ?_)))
     refine wpS.q 0 18 (.int .u8 z1) ?_
     rcases of_if h with ⟨hc, h⟩ | ⟨hc, h⟩
     ·refine wpS.tk 1 false (some 19) (.bool true) (yld_b (dt hc) (fun _ => by kernel_rfl)) ?_
      refine wpS.q 2 7 (.bool true) ?_
      refine wpS.fin rfl (kr21 _ _ (then_n (ks20 _ _ (xseq_k fun KS22 ks22 => (xregS [0, 1, 2] fun KR23 kr23 => ?_)))))
      refine wpS.qs [(0, 20, .int .u8 z1), (1, 21, .int .u8 (ishl .u8 z1 1))] ?_
      obtain ⟨x11, hx, h⟩ := of_bind h
      refine wpS.tk 2 false (some 0) (.int .u8 x11) (yld_int hx (fun _ => by kernel_rfl)) ?_
      refine wpS.fin rfl (kr23 _ _ (then_n (ks22 _ _ (xseq_k fun KS24 ks24 => (xseq_k fun KS25 ks25 => (xregS [0] fun KR26 kr26 => ?_))))))
      refine wpS.q 0 22 (.bool true) ?_
      refine wpS.fin rfl (kr26 _ _ (then_n (ks25 _ _ (wp_cond_t (by kernel_rfl) (xregS [0, 1, 2] fun KR27 kr27 => ?_)))))
      refine wpS.qs [(0, 23, .int .u8 x11), (1, 24, .int .u8 (ixor .u8 x11 27))] ?_
      obtain ⟨x12, hx, h⟩ := of_bind h
      refine wpS.tk 2 false (some 0) (.int .u8 x12) (yld_int hx (fun _ => by kernel_rfl)) ?_
      refine wpS.fin rfl (kr27 _ _ (then_n (ks24 _ _ (xregS [0, 1, 2] fun KR28 kr28 => ?_))))
      refine wpS.qs [(0, 25, .int .u8 z2), (1, 26, .int .u8 (ishr .u8 z2 1))] ?_
      obtain ⟨x13, hx, h⟩ := of_bind h
      refine wpS.tk 2 false (some 1) (.int .u8 x13) (yld_int hx (fun _ => by kernel_rfl)) ?_
      refine wpS.fin rfl (kr28 _ _ (inBlock_n ?_))
      obtain ⟨q0, qr0⟩ := Prod.mk.inj (of_some h)
      obtain ⟨q1, qr1⟩ := Prod.mk.inj (qr0)
      have q2 := qr1
      subst q0
      subst q1
      subst q2
      exact nj _ _ ⟨(hs.conv rfl), exg (by kernel_rfl)⟩
     refine wpS.tk 1 false (some 19) (.bool false) (yld_b (df hc) (fun _ => by kernel_rfl)) ?_
     refine wpS.q 2 7 (.bool false) ?_
     refine wpS.fin rfl (kr21 _ _ (then_n (ks20 _ _ (xseq_k fun KS29 ks29 => (xregS [0, 1, 2] fun KR30 kr30 => ?_)))))
     refine wpS.qs [(0, 20, .int .u8 z1), (1, 21, .int .u8 (ishl .u8 z1 1))] ?_
     obtain ⟨x14, hx, h⟩ := of_bind h
     refine wpS.tk 2 false (some 0) (.int .u8 x14) (yld_int hx (fun _ => by kernel_rfl)) ?_
     refine wpS.fin rfl (kr30 _ _ (then_n (ks29 _ _ (xseq_k fun KS31 ks31 => (xseq_k fun KS32 ks32 => (xregS [0] fun KR33 kr33 => ?_))))))
     refine wpS.q 0 22 (.bool false) ?_
     refine wpS.fin rfl (kr33 _ _ (then_n (ks32 _ _ (wp_cond_f (by kernel_rfl) (xskip (then_n (ks31 _ _ (xregS [0, 1, 2] fun KR34 kr34 => ?_))))))))
     refine wpS.qs [(0, 25, .int .u8 z2), (1, 26, .int .u8 (ishr .u8 z2 1))] ?_
     obtain ⟨x15, hx, h⟩ := of_bind h
     refine wpS.tk 2 false (some 1) (.int .u8 x15) (yld_int hx (fun _ => by kernel_rfl)) ?_
     refine wpS.fin rfl (kr34 _ _ (inBlock_n ?_))
     obtain ⟨q0, qr0⟩ := Prod.mk.inj (of_some h)
     obtain ⟨q1, qr1⟩ := Prod.mk.inj (qr0)
     have q2 := qr1
     subst q0
     subst q1
     subst q2
     exact nj _ _ ⟨(hs.conv rfl), exg (by kernel_rfl)⟩
    clear hj hs
    rintro a w ⟨hs, g13, rfl⟩
    refine then_n (ks14 _ _ (xregS [0, 1, 2] fun KR35 kr35 => ?_))
    refine wpS.qs [(0, 10, .int .i64 z4), (1, 11, .int .i64 (iadd .i64 z4 1))] ?_
    obtain ⟨x16, hx, h⟩ := of_bind h
    refine wpS.tk 2 false (some 6) (.int .i64 x16) (yld_int hx (fun _ => by kernel_rfl)) ?_
    refine wpS.fin rfl (kr35 _ _ ?_)
    exact then_n (kl0 _ _ ⟨n, Nat.lt_succ_self n, y6, y7, y8, x16, h, (hs.conv rfl), exg (by kernel_rfl)⟩)
   refine wpS.tk 1 false (some 9) (.bool false) (yld_b (df hc) (fun _ => by kernel_rfl)) ?_
   refine wpS.fin rfl (kr12 _ _ (then_n (ks11 _ _ (wp_cond_f (by kernel_rfl) (xexit (then_x (then_x (inBlock_hit ?_))))))))
   have q0 := of_some h
   subst q0
   exact exq_n (nn0 _ _ ⟨(hs.conv rfl), exg (by kernel_rfl)⟩)
 clear hs h hy
 rintro a w ⟨hs, g9, rfl⟩
 have h := hk0
 refine then_n (ks5 _ _ (xseq_k fun KS36 ks36 => (xregS [0, 1] fun KR37 kr37 => ?_)))
 refine wpS.qs [(0, 27, .int .u8 y5), (1, 4, .int .u8 y5)] ?_
 refine wpS.fin rfl (kr37 _ _ (then_n (ks36 _ _ (xret ?_))))
 have q0 := of_some h
 subst q0
 exact qq _ _ (post_ret (by kernel_rfl) (run_results [.tmp 4] [.int .u8 y5] (by kernel_rfl) (.cons (res_tmp (by kernel_rfl)) .nil)) ⟨congrArg Ending.returned (by kernel_rfl), hs.none⟩)

theorem ref10_inverse.ok {K : Nat} {a0 : Int} {r0 : Int} (h : ref10_inverse.f K a0 = some r0) (w0 : World) : Ret Try.prog 45 #[.int .u8 a0] w0 (.int .u8 r0) := by
 refine calls_k Try.func45 rfl fun Q qq => ?_
 have hs := St.start w0
 refine wp_conv (a' := ⟨#[.int .u8 a0, undef, undef, undef, undef, undef, undef, undef, undef, undef, undef, undef, undef, undef, undef, undef], []⟩) (by kernel_rfl) ?_
 refine xseq_k fun KS1 ks1 => ?_
 refine xregS [0] fun KR2 kr2 => ?_
 refine wpS.q 0 2 (.int .u8 0) ?_
 refine wpS.fin rfl (kr2 _ _ (then_n (ks1 _ _ (xseq_k fun KS3 ks3 => (xregS [0] fun KR4 kr4 => ?_)))))
 refine wpS.q 0 3 (.int .u8 1) ?_
 refine wpS.fin rfl (kr4 _ _ (then_n (ks3 _ _ (xseq_k fun KS5 ks5 => (xseq_k fun KS6 ks6 => (xregS [0] fun KR7 kr7 => ?_))))))
 refine wpS.q 0 4 (.int .i64 0) ?_
 refine wpS.fin rfl (kr7 _ _ (then_n (ks6 _ _ ?_)))
 obtain ⟨y4, hy, hk0⟩ := of_bind h
 refine wp_exq (N := fun a w => St w0 [] [] [] w ∧ ∃ g9 : Nat → Value, a = ⟨#[(g9 0), undef, .int .u8 0, .int .u8 y4, (g9 4), (g9 5), (g9 6), (g9 7), (g9 8), (g9 9), (g9 10), (g9 11), (g9 12), (g9 13), (g9 14), undef], []⟩) (fun N0 nn0 => ?_) ?_
 ·clear hk0
  refine xblock ?_
  refine wp_loop_k (fun n a w => ∃ z1 z2 z3, ref10_inverse.l0 K n z1 z2 z3 = some y4 ∧ St w0 [] [] [] w ∧ ∃ g8 : Nat → Value, a = ⟨#[.int .u8 z1, undef, .int .u8 0, .int .u8 z2, .int .i64 z3, (g8 5), (g8 6), (g8 7), (g8 8), (g8 9), (g8 10), (g8 11), (g8 12), (g8 13), (g8 14), undef], []⟩) K ⟨a0, 1, 0, hy, hs.conv rfl, exg (by kernel_rfl)⟩ ?_
  clear hs h hy
  rintro n a w ⟨z1, z2, z3, h, hs, g8, rfl⟩ KL0 kl0
  cases n with
  | zero => exact nomatch (show none = some _ from h)
  | succ n =>
   refine xseq_k fun KS10 ks10 => ?_
   refine xseq_k fun KS11 ks11 => ?_
   refine xregS [0, 1] fun KR12 kr12 => ?_
   refine wpS.q 0 5 (.int .i64 z3) ?_
   rcases of_if h with ⟨hc, h⟩ | ⟨hc, h⟩
   ·refine wpS.tk 1 false (some 6) (.bool true) (yld_b (dt hc) (fun _ => by kernel_rfl)) ?_
    refine wpS.fin rfl (kr12 _ _ (then_n (ks11 _ _ (wp_cond_t (by kernel_rfl) (xskip (then_n (ks10 _ _ (xseq_k fun KS13 ks13 => (xblock (xseq_k fun KS14 ks14 => (xregS [0, 1, 2, 3] fun KR15 kr15 => ?_)))))))))))
    refine wpS.qs [(0, 9, .int .u8 z1), (1, 10, .int .u8 z1)] ?_
    obtain ⟨r5, hg, h⟩ := of_bind h
    refine wpS.only 2 (op_call (d := (some 11)) (by kernel_rfl) hs (fun _ => by kernel_rfl) (ref10_Mul.ok hg _) ?_)
    intro w gw hs
    refine ⟨fun _ => trivial, ?_⟩
    refine wpS.q 3 0 (.int .u8 r5) ?_
    refine wpS.fin rfl (kr15 _ _ (then_n (ks14 _ _ (xregS [0, 1, 2, 3] fun KR16 kr16 => ?_))))
    refine wpS.qs [(0, 12, .int .u8 z2), (1, 13, .int .u8 r5)] ?_
    obtain ⟨r6, hg, h⟩ := of_bind h
    refine wpS.only 2 (op_call (d := (some 14)) (by kernel_rfl) hs (fun _ => by kernel_rfl) (ref10_Mul.ok hg _) ?_)
    intro w gw hs
    refine ⟨fun _ => trivial, ?_⟩
    refine wpS.q 3 3 (.int .u8 r6) ?_
    refine wpS.fin rfl (kr16 _ _ (inBlock_n (then_n (ks13 _ _ (xregS [0, 1, 2] fun KR17 kr17 => ?_)))))
    refine wpS.qs [(0, 7, .int .i64 z3), (1, 8, .int .i64 (iadd .i64 z3 1))] ?_
    obtain ⟨x7, hx, h⟩ := of_bind h
    refine wpS.tk 2 false (some 4) (.int .i64 x7) (yld_int hx (fun _ => by kernel_rfl)) ?_
    refine wpS.fin rfl (kr17 _ _ ?_)
    exact then_n (kl0 _ _ ⟨n, Nat.lt_succ_self n, r5, r6, x7, h, (hs.conv rfl), exg (by kernel_rfl)⟩)
   refine wpS.tk 1 false (some 6) (.bool false) (yld_b (df hc) (fun _ => by kernel_rfl)) ?_
   refine wpS.fin rfl (kr12 _ _ (then_n (ks11 _ _ (wp_cond_f (by kernel_rfl) (xexit (then_x (then_x (inBlock_hit ?_))))))))
   have q0 := of_some h
   subst q0
   exact exq_n (nn0 _ _ ⟨(hs.conv rfl), exg (by kernel_rfl)⟩)
 clear hs h hy
 rintro a w ⟨hs, g9, rfl⟩
 have h := hk0
 refine then_n (ks5 _ _ (xseq_k fun KS18 ks18 => (xregS [0, 1] fun KR19 kr19 => ?_)))
 refine wpS.qs [(0, 15, .int .u8 y4), (1, 2, .int .u8 y4)] ?_
 refine wpS.fin rfl (kr19 _ _ (then_n (ks18 _ _ (xret ?_))))
 have q0 := of_some h
 subst q0
 exact qq _ _ (post_ret (by kernel_rfl) (run_results [.tmp 2] [.int .u8 y4] (by kernel_rfl) (.cons (res_tmp (by kernel_rfl)) .nil)) ⟨congrArg Ending.returned (by kernel_rfl), hs.none⟩)

theorem ref10_Box.ok {K : Nat} {a0 : Int} {r0 : Int} (h : ref10_Box.f K a0 = some r0) (w0 : World) : Ret Try.prog 14 #[.int .u8 a0] w0 (.int .u8 r0) := by
 refine calls_k Try.func14 rfl fun Q qq => ?_
 have hs := St.start w0
 refine wp_conv (a' := ⟨#[.int .u8 a0, undef, undef, undef, undef, undef, undef, undef, undef, undef, undef, undef, undef, undef, undef, undef, undef, undef, undef, undef, undef, undef, undef], []⟩) (by kernel_rfl) ?_
 refine xseq_k fun KS1 ks1 => ?_
 refine xregS [0] fun KR2 kr2 => ?_
 refine wpS.q 0 2 (.int .u8 0) ?_
 refine wpS.fin rfl (kr2 _ _ (then_n (ks1 _ _ (xseq_k fun KS3 ks3 => (xregS [0, 1, 2] fun KR4 kr4 => ?_)))))
 refine wpS.q 0 6 (.int .u8 a0) ?_
 obtain ⟨r1, hg, h⟩ := of_bind h
 refine wpS.only 1 (op_call (d := (some 7)) (by kernel_rfl) hs (fun _ => by kernel_rfl) (ref10_inverse.ok hg _) ?_)
 intro w gw hs
 refine ⟨fun _ => trivial, ?_⟩
 refine wpS.q 2 3 (.int .u8 r1) ?_
 refine wpS.fin rfl (kr4 _ _ (then_n (ks3 _ _ (xseq_k fun KS5 ks5 => (xregS [0] fun KR6 kr6 => ?_)))))
 refine wpS.q 0 4 (.int .u8 99) ?_
 refine wpS.fin rfl (kr6 _ _ (then_n (ks5 _ _ (xseq_k fun KS7 ks7 => (xseq_k fun KS8 ks8 => (xregS [0] fun KR9 kr9 => ?_))))))
 refine wpS.q 0 5 (.int .i64 0) ?_
 refine wpS.fin rfl (kr9 _ _ (then_n (ks8 _ _ ?_)))
 obtain ⟨y4, hy, hk0⟩ := of_bind h
 refine wp_exq (N := fun a w => St w0 [] [] [] w ∧ ∃ g11 : Nat → Value, a = ⟨#[.int .u8 a0, undef, .int .u8 0, .int .u8 r1, .int .u8 y4, (g11 5), .int .u8 a0, .int .u8 r1, (g11 8), (g11 9), (g11 10), (g11 11), (g11 12), (g11 13), (g11 14), (g11 15), (g11 16), (g11 17), (g11 18), (g11 19), (g11 20), (g11 21), undef], []⟩) (fun N0 nn0 => ?_) ?_
 ·clear hk0
  refine xblock ?_
  refine wp_loop_k (fun n a w => ∃ z2 z3, ref10_Box.l0 K n r1 z2 z3 = some y4 ∧ St w0 [] [] [] w ∧ ∃ g10 : Nat → Value, a = ⟨#[.int .u8 a0, undef, .int .u8 0, .int .u8 r1, .int .u8 z2, .int .i64 z3, .int .u8 a0, .int .u8 r1, (g10 8), (g10 9), (g10 10), (g10 11), (g10 12), (g10 13), (g10 14), (g10 15), (g10 16), (g10 17), (g10 18), (g10 19), (g10 20), (g10 21), undef], []⟩) K ⟨99, 0, hy, hs.conv rfl, exg (by kernel_rfl)⟩ ?_
  clear hs h hy
  rintro n a w ⟨z2, z3, h, hs, g10, rfl⟩ KL0 kl0
  cases n with
  | zero => exact nomatch (show none = some _ from h)
  | succ n =>
   refine xseq_k fun KS12 ks12 => ?_
   refine xseq_k fun KS13 ks13 => ?_
   refine xregS [0, 1] fun KR14 kr14 => ?_
   refine wpS.q 0 8 (.int .i64 z3) ?_
   rcases of_if h with ⟨hc, h⟩ | ⟨hc, h⟩
   ·refine wpS.tk 1 false (some 9) (.bool true) (yld_b (dt hc) (fun _ => by kernel_rfl)) ?_
    refine wpS.fin rfl (kr14 _ _ (then_n (ks13 _ _ (wp_cond_t (by kernel_rfl) (xskip (then_n (ks12 _ _ (xseq_k fun KS15 ks15 => (xblock ?_)))))))))
    refine wp_regG [] (fun k => True) 11 (by kernel_rfl) (by kernel_rfl) (by kernel_rfl) fun KR16 kr16 => ?_
    have hs := hs.drawn1
    refine wpG.q 0 12 (.int .u8 z2) ?_
    refine wpG.q 1 13 (.int .u8 r1) ?_
    refine wpG.q 2 14 (.int .i64 z3) ?_
    obtain ⟨h0, h⟩ := of_chk h
    refine wpG.tD 3 false (some 15) (.int .u8 (ishl .u8 r1 z3)) (yld_shl (t := 5) (k' := .i64) (by kernel_rfl) h0) ?_
    refine wpG.q 4 16 (.int .u8 r1) ?_
    refine wpG.q 5 17 (.int .i64 z3) ?_
    refine wpG.q 6 18 (.int .i64 (isub .i64 8 z3)) ?_
    obtain ⟨h0, h⟩ := of_chk h
    refine wpG.tD 7 false (some 19) (.int .u8 (ishr .u8 r1 (isub .i64 8 z3))) (yld_shr (t := 5) (k' := .i64) (by kernel_rfl) h0) ?_
    refine wpG.q 8 20 (.int .u8 (ior .u8 (ishl .u8 r1 z3) (ishr .u8 r1 (isub .i64 8 z3)))) ?_
    refine wpG.q 9 21 (.int .u8 (ixor .u8 z2 (ior .u8 (ishl .u8 r1 z3) (ishr .u8 r1 (isub .i64 8 z3))))) ?_
    obtain ⟨x5, hx, h⟩ := of_bind h
    refine wpG.tD 10 false (some 4) (.int .u8 x5) (yld_int hx (fun _ => by kernel_rfl)) ?_
    refine wpG.fin (by kernel_rfl) rfl (kr16 _ _ ?_)
    refine inBlock_n (then_n (ks15 _ _ (xregS [0, 1, 2] fun KR17 kr17 => ?_)))
    refine wpS.qs [(0, 10, .int .i64 z3), (1, 11, .int .i64 (iadd .i64 z3 1))] ?_
    obtain ⟨x6, hx, h⟩ := of_bind h
    refine wpS.tk 2 false (some 5) (.int .i64 x6) (yld_int hx (fun _ => by kernel_rfl)) ?_
    refine wpS.fin rfl (kr17 _ _ ?_)
    exact then_n (kl0 _ _ ⟨n, Nat.lt_succ_self n, x5, x6, h, (hs.conv rfl), exg (by kernel_rfl)⟩)
   refine wpS.tk 1 false (some 9) (.bool false) (yld_b (df hc) (fun _ => by kernel_rfl)) ?_
   refine wpS.fin rfl (kr14 _ _ (then_n (ks13 _ _ (wp_cond_f (by kernel_rfl) (xexit (then_x (then_x (inBlock_hit ?_))))))))
   have q0 := of_some h
   subst q0
   exact exq_n (nn0 _ _ ⟨(hs.conv rfl), exg (by kernel_rfl)⟩)
 clear hs h hy
 rintro a w ⟨hs, g11, rfl⟩
 have h := hk0
 refine then_n (ks7 _ _ (xseq_k fun KS18 ks18 => (xregS [0, 1] fun KR19 kr19 => ?_)))
 refine wpS.qs [(0, 22, .int .u8 y4), (1, 2, .int .u8 y4)] ?_
 refine wpS.fin rfl (kr19 _ _ (then_n (ks18 _ _ (xret ?_))))
 have q0 := of_some h
 subst q0
 exact qq _ _ (post_ret (by kernel_rfl) (run_results [.tmp 2] [.int .u8 y4] (by kernel_rfl) (.cons (res_tmp (by kernel_rfl)) .nil)) ⟨congrArg Ending.returned (by kernel_rfl), hs.none⟩)

theorem ref10_boxes.ok {K : Nat} {r0 : Arr 256} {r1 : Arr 256} (h : ref10_boxes.f K = some (r0, r1)) (w0 : World) : Ret Try.prog 50 #[] w0 (.tuple #[.agg (enc .u8 r0).toArray, .agg (enc .u8 r1).toArray]) := by
 refine calls_k Try.func50 rfl fun Q qq => ?_
 have hs := St.start w0
 refine wp_conv (a' := ⟨#[undef, undef, undef, undef, undef, undef, undef, undef, undef, undef, undef, undef, undef, undef, undef, undef, undef, undef, undef, undef, undef, undef], []⟩) (by kernel_rfl) ?_
 refine xseq_k fun KS1 ks1 => ?_
 refine xregS [0, 1] fun KR2 kr2 => ?_
 refine wpS.only 0 (op_alloc (t := 46) (d := (some 0)) (by kernel_rfl) hs (enc .u8 (zeroA 256)) (.agg (enc .u8 (zeroA 256)).toArray) (by kernel_rfl) (by kernel_rfl) (by kernel_rfl) ?_)
 intro b1 w gw hs
 refine ⟨fun _ => trivial, ?_⟩
 refine wpS.only 1 (op_alloc (t := 46) (d := (some 1)) (by kernel_rfl) hs (enc .u8 (zeroA 256)) (.agg (enc .u8 (zeroA 256)).toArray) (by kernel_rfl) (by kernel_rfl) (by kernel_rfl) ?_)
 intro b2 w gw hs
 refine ⟨fun _ => trivial, ?_⟩
 refine wpS.fin rfl (kr2 _ _ (then_n (ks1 _ _ (xseq_k fun KS3 ks3 => (xregS [0] fun KR4 kr4 => ?_)))))
 refine wpS.only 0 (op_alloc (t := 46) (d := (some 2)) (by kernel_rfl) hs (enc .u8 (zeroA 256)) (.agg (enc .u8 (zeroA 256)).toArray) (by kernel_rfl) (by kernel_rfl) (by kernel_rfl) ?_)
 intro b3 w gw hs
 refine ⟨fun _ => trivial, ?_⟩
 refine wpS.fin rfl (kr4 _ _ (then_n (ks3 _ _ (xseq_k fun KS5 ks5 => (xregS [0] fun KR6 kr6 => ?_)))))
 refine wpS.only 0 (op_alloc (t := 46) (d := (some 3)) (by kernel_rfl) hs (enc .u8 (zeroA 256)) (.agg (enc .u8 (zeroA 256)).toArray) (by kernel_rfl) (by kernel_rfl) (by kernel_rfl) ?_)
 intro b4 w gw hs
 refine ⟨fun _ => trivial, ?_⟩
 refine wpS.fin rfl (kr6 _ _ (then_n (ks5 _ _ (xseq_k fun KS7 ks7 => (xseq_k fun KS8 ks8 => (xregS [0] fun KR9 kr9 => ?_))))))
 refine wpS.q 0 4 (.int .i64 0) ?_
 refine wpS.fin rfl (kr9 _ _ (then_n (ks8 _ _ ?_)))
 obtain ⟨⟨y8, y9⟩, hy, hk0⟩ := of_bind h
 refine wp_exq (N := fun a w => St w0 [] [.blk b4 (enc .u8 y8) 46, .blk b3 (enc .u8 y9) 46, .blk b2 (enc .u8 (zeroA 256)) 46, .blk b1 (enc .u8 (zeroA 256)) 46] [] w ∧ ∃ g11 : Nat → Value, a = ⟨#[.pointer (some ⟨b1, 0, none⟩), .pointer (some ⟨b2, 0, none⟩), .pointer (some ⟨b3, 0, none⟩), .pointer (some ⟨b4, 0, none⟩), (g11 4), (g11 5), (g11 6), (g11 7), (g11 8), (g11 9), (g11 10), (g11 11), (g11 12), (g11 13), (g11 14), (g11 15), (g11 16), (g11 17), (g11 18), (g11 19), undef, undef], []⟩) (fun N0 nn0 => ?_) ?_
 ·clear hk0
  refine xblock ?_
  refine wp_loop_k (fun n a w => ∃ z5 z6 z7, ref10_boxes.l0 K n z5 z6 z7 = some (y8, y9) ∧ St w0 [] [.blk b4 (enc .u8 z6) 46, .blk b3 (enc .u8 z7) 46, .blk b2 (enc .u8 (zeroA 256)) 46, .blk b1 (enc .u8 (zeroA 256)) 46] [] w ∧ ∃ g10 : Nat → Value, a = ⟨#[.pointer (some ⟨b1, 0, none⟩), .pointer (some ⟨b2, 0, none⟩), .pointer (some ⟨b3, 0, none⟩), .pointer (some ⟨b4, 0, none⟩), .int .i64 z5, (g10 5), (g10 6), (g10 7), (g10 8), (g10 9), (g10 10), (g10 11), (g10 12), (g10 13), (g10 14), (g10 15), (g10 16), (g10 17), (g10 18), (g10 19), undef, undef], []⟩) K ⟨0, (zeroA 256), (zeroA 256), hy, hs.conv rfl, exg (by kernel_rfl)⟩ ?_
  clear hs h hy
  rintro n a w ⟨z5, z6, z7, h, hs, g10, rfl⟩ KL0 kl0
  cases n with
  | zero => exact nomatch (show none = some _ from h)
  | succ n =>
   refine xseq_k fun KS12 ks12 => ?_
   refine xseq_k fun KS13 ks13 => ?_
   refine xregS [0, 1] fun KR14 kr14 => ?_
   refine wpS.q 0 6 (.int .i64 z5) ?_
   rcases of_if h with ⟨hc, h⟩ | ⟨hc, h⟩
   ·refine wpS.tk 1 false (some 7) (.bool true) (yld_b (dt hc) (fun _ => by kernel_rfl)) ?_
    refine wpS.fin rfl (kr14 _ _ (then_n (ks13 _ _ (wp_cond_t (by kernel_rfl) (xskip (then_n (ks12 _ _ (xseq_k fun KS15 ks15 => (xblock (xseq_k fun KS16 ks16 => (xregS [0, 1, 2, 3] fun KR17 kr17 => ?_)))))))))))
    refine wpS.qs [(0, 10, .int .i64 z5), (1, 11, .int .u8 (iconv .u8 z5))] ?_
    obtain ⟨r10, hg, h⟩ := of_bind h
    refine wpS.only 2 (op_call (d := (some 12)) (by kernel_rfl) hs (fun _ => by kernel_rfl) (ref10_Box.ok hg _) ?_)
    intro w gw hs
    refine ⟨fun _ => trivial, ?_⟩
    refine wpS.q 3 5 (.int .u8 r10) ?_
    refine wpS.fin rfl (kr17 _ _ (then_n (ks16 _ _ (xseq_k fun KS18 ks18 => (xregS [0, 1, 2, 3] fun KR19 kr19 => ?_)))))
    refine wpS.qs [(0, 13, .int .i64 z5), (1, 14, .int .u8 r10)] ?_
    obtain ⟨i0_20, h⟩ := of_chk h
    obtain ⟨i1_20, h⟩ := of_chk h
    refine wpS.tk 2 false (some 15) (.pointer (some ⟨b3, 0 + (z5 : Int).toNat * 1, none⟩)) (yld_idx (t := 46) (e := 5) (n := 256) (sz := 1) (k := .i64) (x := z5) (by kernel_rfl) (by kernel_rfl) (by kernel_rfl) i0_20 i1_20) ?_
    refine wpS.only 3 (op_storeA (t := 5) (x := z5) (v := r10) (d := none) (by kernel_rfl) hs 1 rfl (by kernel_rfl) (by kernel_rfl) i0_20 i1_20 ?_)
    intro w kp hs
    refine ⟨fun _ => trivial, ?_⟩
    refine wpS.fin rfl (kr19 _ _ (then_n (ks18 _ _ (xregS [0, 1, 2, 3, 4] fun KR21 kr21 => ?_))))
    refine wpS.qs [(0, 16, .int .u8 r10), (1, 17, .int .i64 z5), (2, 18, .int .u8 (iconv .u8 z5))] ?_
    obtain ⟨i0_22, h⟩ := of_chk h
    obtain ⟨i1_22, h⟩ := of_chk h
    refine wpS.tk 3 false (some 19) (.pointer (some ⟨b4, 0 + (r10 : Int).toNat * 1, none⟩)) (yld_idx (t := 46) (e := 5) (n := 256) (sz := 1) (k := .u8) (x := r10) (by kernel_rfl) (by kernel_rfl) (by kernel_rfl) i0_22 i1_22) ?_
    obtain ⟨x11, hx, h⟩ := of_bind h
    refine wpS.only 4 (op_storeA (t := 5) (x := r10) (v := x11) (d := none) (by kernel_rfl) hs 0 rfl (by cases hx; kernel_rfl) (by kernel_rfl) i0_22 i1_22 ?_)
    intro w kp hs
    refine ⟨fun _ => trivial, ?_⟩
    refine wpS.fin rfl (kr21 _ _ (inBlock_n (then_n (ks15 _ _ (xregS [0, 1, 2] fun KR23 kr23 => ?_)))))
    refine wpS.qs [(0, 8, .int .i64 z5), (1, 9, .int .i64 (iadd .i64 z5 1))] ?_
    obtain ⟨x12, hx, h⟩ := of_bind h
    refine wpS.tk 2 false (some 4) (.int .i64 x12) (yld_int hx (fun _ => by kernel_rfl)) ?_
    refine wpS.fin rfl (kr23 _ _ ?_)
    exact then_n (kl0 _ _ ⟨n, Nat.lt_succ_self n, x12, (wr z6 r10 x11), (wr z7 z5 r10), h, (hs.conv rfl), exg (by kernel_rfl)⟩)
   refine wpS.tk 1 false (some 7) (.bool false) (yld_b (df hc) (fun _ => by kernel_rfl)) ?_
   refine wpS.fin rfl (kr14 _ _ (then_n (ks13 _ _ (wp_cond_f (by kernel_rfl) (xexit (then_x (then_x (inBlock_hit ?_))))))))
   obtain ⟨q0, qr0⟩ := Prod.mk.inj (of_some h)
   have q1 := qr0
   subst q0
   subst q1
   exact exq_n (nn0 _ _ ⟨(hs.conv rfl), exg (by kernel_rfl)⟩)
 clear hs h hy
 rintro a w ⟨hs, g11, rfl⟩
 have h := hk0
 refine then_n (ks7 _ _ (xseq_k fun KS24 ks24 => ?_))
 refine wp_regG [2, 3] (fun k => ¬ k = b4) 4 (by kernel_rfl) (by kernel_rfl) (by kernel_rfl) fun KR25 kr25 => ?_
 have hs := hs.drawn1
 refine wpG.tD 0 true (some 20) (.agg (enc .u8 y9).toArray) (yld_loadW (e := 46) (n := 256) hs 1 rfl (by kernel_rfl) (by kernel_rfl) (by kernel_rfl) (by exact enc_len _ _) .grow) ?_
 refine wpG.takeK [1, 3] 1 (some 21) (.agg (enc .u8 y8).toArray) (by kernel_rfl) (by kernel_rfl) (yld_loadW (e := 46) (n := 256) hs 0 rfl (by kernel_rfl) (by kernel_rfl) (by kernel_rfl) (by exact enc_len _ _) (.keep (fun hn => hn rfl))) ?_
 have hsB27 := hs
 refine wpG.only 2 (by kernel_rfl) (op_storeW (t := 46) (v := .agg (enc .u8 y9).toArray) (d := none) (by kernel_rfl) hs 3 rfl (vs := enc .u8 y9) (n := 256) (by kernel_rfl) (by kernel_rfl) (by kernel_rfl) (by simp [enc_len]) (by simp [enc_len]) (by intro u hu; exact enc_one _ _ u hu) ?_)
 intro w kp hs
 refine ⟨⟨fun hf => absurd hf (by decide), (keepB1 (hsB27.blkAt 0 rfl) (hs.blkAt 0 rfl))⟩, ?_⟩
 have hsB26 := hs
 refine wpG.only 3 (by kernel_rfl) (op_storeW (t := 46) (v := .agg (enc .u8 y8).toArray) (d := none) (by kernel_rfl) hs 2 rfl (vs := enc .u8 y8) (n := 256) (by kernel_rfl) (by kernel_rfl) (by kernel_rfl) (by simp [enc_len]) (by simp [enc_len]) (by intro u hu; exact enc_one _ _ u hu) ?_)
 intro w kp hs
 refine ⟨⟨fun hf => absurd hf (by decide), (keepB1 (hsB26.blkAt 0 rfl) (hs.blkAt 0 rfl))⟩, ?_⟩
 refine wpG.fin (by kernel_rfl) rfl (kr25 _ _ ?_)
 refine then_n (ks24 _ _ (xret ?_))
 obtain ⟨q0, qr0⟩ := Prod.mk.inj (of_some h)
 have q1 := qr0
 subst q0
 subst q1
 exact qq _ _ (post_ret (by kernel_rfl) (run_results [.cell 0 46, .cell 1 46] [.agg (enc .u8 y9).toArray, .agg (enc .u8 y8).toArray] (by kernel_rfl) (.cons (res_cellN (n := 256) hs 3 rfl (by kernel_rfl) (by kernel_rfl) (by kernel_rfl) (by exact enc_len _ _)) (.cons (res_cellN (n := 256) hs 2 rfl (by kernel_rfl) (by kernel_rfl) (by kernel_rfl) (by exact enc_len _ _)) .nil))) ⟨congrArg Ending.returned (by kernel_rfl), hs.none⟩)

theorem ref10_rows.ok {K : Nat} {a0 : List Int} {a1 : Int} {r0 : List Int} {a0_A : Option Addr} {a0_n : Nat} {a0_c : Nat} (h : ref10_rows.f K a0 a1 = some r0) (w0 : World) (hp0 : RowL (CI .u8) w0 a0_A a0_n a0_c a0) : Calls Try.prog 88 #[.slice a0_A a0_n a0_c, .int .i64 a1] w0 fun e w' => ∃ h : (Option Addr × Nat × Nat), e = .returned (.slice h.1 h.2.1 h.2.2) ∧ St w0 [] [.ownL (CI .u8) h.1 h.2.1 h.2.2 r0 5] [] w' := by
 refine calls_k Try.func88 rfl fun Q qq => ?_
 have hs := St.startR (all_cons (RowP.ent hp0) all_nil)
 refine wp_conv (a' := ⟨#[.slice a0_A a0_n a0_c, .int .i64 a1, undef, undef, undef, undef, undef, undef, undef, undef, undef, undef, undef, undef, undef, undef, undef, undef, undef, undef, undef, undef, undef, undef, undef, undef, undef, undef, undef, undef, undef, undef, undef, undef, undef, undef, undef], []⟩) (by kernel_rfl) ?_
 refine xseq_k fun KS1 ks1 => ?_
 refine xregS [0] fun KR2 kr2 => ?_
 refine wpS.q 0 4 (.slice none 0 0) ?_
 refine wpS.fin rfl (kr2 _ _ (then_n (ks1 _ _ (xseq_k fun KS3 ks3 => (xregS [0, 1] fun KR4 kr4 => ?_)))))
 refine wpS.only 0 (op_makeT (C := (CI .u8)) (t := 26) (e := 5) (bytes := 1) (B := 140737488355328) (kl := .i64) (kc := .i64) (x := 16) (d := (some 8)) (by kernel_rfl) hs (by kernel_rfl) (by kernel_rfl) (by kernel_rfl) (by kernel_rfl) (by kernel_rfl) (by decide) (by decide) (by decide) (by decide) ?_)
 intro s1_A s1_n s1_c w gw hs
 refine ⟨fun _ => trivial, ?_⟩
 refine wpS.q 1 5 (.slice s1_A s1_n s1_c) ?_
 refine wpS.fin rfl (kr4 _ _ (then_n (ks3 _ _ (xseq_k fun KS5 ks5 => (xseq_k fun KS6 ks6 => (xregS [0] fun KR7 kr7 => ?_))))))
 refine wpS.q 0 6 (.int .i64 0) ?_
 refine wpS.fin rfl (kr7 _ _ (then_n (ks6 _ _ ?_)))
 obtain ⟨y4, hy, hk0⟩ := of_bind h
 refine wp_exq (N := fun a w => St w0 [] [.ownL (CI .u8) s1_A s1_n s1_c y4 5] [.rowL (CI .u8) a0_A a0_n a0_c a0] w ∧ ∃ g9 : Nat → Value, a = ⟨#[.slice a0_A a0_n a0_c, .int .i64 a1, undef, undef, .slice none 0 0, .slice s1_A s1_n s1_c, (g9 6), (g9 7), .slice s1_A s1_n s1_c, (g9 9), (g9 10), (g9 11), (g9 12), (g9 13), (g9 14), (g9 15), (g9 16), (g9 17), (g9 18), (g9 19), (g9 20), (g9 21), (g9 22), (g9 23), (g9 24), (g9 25), (g9 26), (g9 27), (g9 28), (g9 29), (g9 30), (g9 31), (g9 32), (g9 33), (g9 34), (g9 35), undef], []⟩) (fun N0 nn0 => ?_) ?_
 ·clear hk0
  refine xblock ?_
  refine wp_loop_k (fun n a w => ∃ z2 z3, ref10_rows.l0 K n a0 a1 z2 z3 = some y4 ∧ St w0 [] [.ownL (CI .u8) s1_A s1_n s1_c z3 5] [.rowL (CI .u8) a0_A a0_n a0_c a0] w ∧ ∃ g8 : Nat → Value, a = ⟨#[.slice a0_A a0_n a0_c, .int .i64 a1, undef, undef, .slice none 0 0, .slice s1_A s1_n s1_c, .int .i64 z2, (g8 7), .slice s1_A s1_n s1_c, (g8 9), (g8 10), (g8 11), (g8 12), (g8 13), (g8 14), (g8 15), (g8 16), (g8 17), (g8 18), (g8 19), (g8 20), (g8 21), (g8 22), (g8 23), (g8 24), (g8 25), (g8 26), (g8 27), (g8 28), (g8 29), (g8 30), (g8 31), (g8 32), (g8 33), (g8 34), (g8 35), undef], []⟩) K ⟨0, (List.replicate (16 : Int).toNat (Cod.zero (CI .u8))), hy, hs.conv rfl, exg (by kernel_rfl)⟩ ?_
  clear hs h hy
  rintro n a w ⟨z2, z3, h, hs, g8, rfl⟩ KL0 kl0
  cases n with
  | zero => exact nomatch (show none = some _ from h)
  | succ n =>
   refine xseq_k fun KS10 ks10 => ?_
   refine xseq_k fun KS11 ks11 => ?_
   refine xregS [0, 1] fun KR12 kr12 => ?_
   refine wpS.q 0 9 (.int .i64 z2) ?_
   rcases of_if h with ⟨hc, h⟩ | ⟨hc, h⟩
   ·refine wpS.tk 1 false (some 10) (.bool true) (yld_b (dt hc) (fun _ => by kernel_rfl)) ?_
    refine wpS.fin rfl (kr12 _ _ (then_n (ks11 _ _ (wp_cond_t (by kernel_rfl) (xskip (then_n (ks10 _ _ (xseq_k fun KS13 ks13 => (xblock (xseq_k fun KS14 ks14 => (xregS [0] fun KR15 kr15 => ?_)))))))))))
    refine wpS.q 0 7 (.int .i64 0) ?_
    refine wpS.fin rfl (kr15 _ _ (then_n (ks14 _ _ ?_)))
    obtain ⟨y7, hy, hk1⟩ := of_bind h
    refine wp_exq (N := fun a w => St w0 [] [.ownL (CI .u8) s1_A s1_n s1_c y7 5] [.rowL (CI .u8) a0_A a0_n a0_c a0] w ∧ ∃ g17 : Nat → Value, a = ⟨#[.slice a0_A a0_n a0_c, .int .i64 a1, undef, undef, .slice none 0 0, .slice s1_A s1_n s1_c, .int .i64 z2, (g17 7), .slice s1_A s1_n s1_c, .int .i64 z2, .bool true, (g8 11), (g8 12), (g17 13), (g17 14), (g17 15), (g17 16), (g17 17), (g17 18), (g17 19), (g17 20), (g17 21), (g17 22), (g17 23), (g17 24), (g17 25), (g17 26), (g17 27), (g17 28), (g17 29), (g17 30), (g17 31), (g17 32), (g17 33), (g17 34), (g17 35), undef], []⟩) (fun N1 nn1 => ?_) ?_
    ·clear hk1
     refine xblock ?_
     refine wp_loop_k (fun n a w => ∃ z5 z6, ref10_rows.l1 K n a0 a1 z2 z5 z6 = some y7 ∧ St w0 [] [.ownL (CI .u8) s1_A s1_n s1_c z6 5] [.rowL (CI .u8) a0_A a0_n a0_c a0] w ∧ ∃ g16 : Nat → Value, a = ⟨#[.slice a0_A a0_n a0_c, .int .i64 a1, undef, undef, .slice none 0 0, .slice s1_A s1_n s1_c, .int .i64 z2, .int .i64 z5, .slice s1_A s1_n s1_c, .int .i64 z2, .bool true, (g8 11), (g8 12), (g16 13), (g16 14), (g16 15), (g16 16), (g16 17), (g16 18), (g16 19), (g16 20), (g16 21), (g16 22), (g16 23), (g16 24), (g16 25), (g16 26), (g16 27), (g16 28), (g16 29), (g16 30), (g16 31), (g16 32), (g16 33), (g16 34), (g16 35), undef], []⟩) K ⟨0, z3, hy, hs.conv rfl, exg (by kernel_rfl)⟩ ?_
     clear hs h hy
     rintro n a w ⟨z5, z6, h, hs, g16, rfl⟩ KL1 kl1
     cases n with
     | zero => exact nomatch (show none = some _ from h)
     | succ n =>
      refine xseq_k fun KS18 ks18 => ?_
      refine xseq_k fun KS19 ks19 => ?_
      refine xregS [0, 1] fun KR20 kr20 => ?_
      refine wpS.q 0 13 (.int .i64 z5) ?_
      rcases of_if h with ⟨hc, h⟩ | ⟨hc, h⟩
      ·refine wpS.tk 1 false (some 14) (.bool true) (yld_b (dt hc) (fun _ => by kernel_rfl)) ?_
       refine wpS.fin rfl (kr20 _ _ (then_n (ks19 _ _ (wp_cond_t (by kernel_rfl) (xskip (then_n (ks18 _ _ (xseq_k fun KS21 ks21 => (xblock (xregS [0, 1, 2, 3, 4, 5, 6, 7, 8, 9, 10, 11, 12, 13, 14, 15, 16, 17, 18, 19] fun KR22 kr22 => ?_))))))))))
       refine wpS.qs [(0, 17, .slice s1_A s1_n s1_c), (1, 18, .int .i64 z2), (2, 19, .int .i64 (imul .i64 4 z2)), (3, 20, .int .i64 z5), (4, 21, .int .i64 (iadd .i64 (imul .i64 4 z2) z5)), (5, 22, .slice a0_A a0_n a0_c), (6, 23, .int .i64 z2), (7, 24, .int .i64 a1), (8, 25, .int .i64 z5), (9, 26, .int .i64 (imul .i64 a1 z5)), (10, 27, .int .i64 (iadd .i64 z2 (imul .i64 a1 z5))), (11, 28, .int .i64 (iadd .i64 (iadd .i64 z2 (imul .i64 a1 z5)) 4)), (12, 29, .int .i64 (irem .i64 (iadd .i64 (iadd .i64 z2 (imul .i64 a1 z5)) 4) 4)), (13, 30, .int .i64 (imul .i64 4 (irem .i64 (iadd .i64 (iadd .i64 z2 (imul .i64 a1 z5)) 4) 4))), (14, 31, .int .i64 z5), (15, 32, .int .i64 (iadd .i64 (imul .i64 4 (irem .i64 (iadd .i64 (iadd .i64 z2 (imul .i64 a1 z5)) 4) 4)) z5))] ?_
       obtain ⟨x8, hx, h⟩ := of_bind h
       have hx := of_some hx
       subst hx
       obtain ⟨h0, h⟩ := of_chk h
       obtain ⟨h1, h⟩ := of_chk h
       have i0_23 := h0
       have i1_23 := h1
       refine wpS.tk 16 false (some 33) (.pointer (adr a0_A (((iadd .i64 (imul .i64 4 (irem .i64 (iadd .i64 (iadd .i64 z2 (imul .i64 a1 z5)) 4) 4)) z5) : Int).toNat * Cod.size (CI .u8)))) (yld_idxL (C := (CI .u8)) (t := 26) (e := 5) (k := .i64) (x := (iadd .i64 (imul .i64 4 (irem .i64 (iadd .i64 (iadd .i64 z2 (imul .i64 a1 z5)) 4) 4)) z5)) (hs.rowR 0 rfl) (by kernel_rfl) (by kernel_rfl) (by kernel_rfl) h0 h1) ?_
       refine wpS.tk 17 true (some 34) (.int .u8 (rdL (CI .u8) a0 (iadd .i64 (imul .i64 4 (irem .i64 (iadd .i64 (iadd .i64 z2 (imul .i64 a1 z5)) 4) 4)) z5))) (yld_loadL (C := (CI .u8)) (e := 5) (x := (iadd .i64 (imul .i64 4 (irem .i64 (iadd .i64 (iadd .i64 z2 (imul .i64 a1 z5)) 4) 4)) z5)) (hs.rowR 0 rfl) (by kernel_rfl) rfl (by kernel_rfl) i0_23 i1_23) ?_
       obtain ⟨x9, hx, h⟩ := of_bind h
       have hx := of_some hx
       subst hx
       obtain ⟨h0, h⟩ := of_chk h
       obtain ⟨h1, h⟩ := of_chk h
       have i0_24 := h0
       have i1_24 := h1
       refine wpS.tk 18 false (some 35) (.pointer (adr s1_A (((iadd .i64 (imul .i64 4 z2) z5) : Int).toNat * Cod.size (CI .u8)))) (yld_idxL (C := (CI .u8)) (t := 26) (e := 5) (k := .i64) (x := (iadd .i64 (imul .i64 4 z2) z5)) (hs.rowL 0 rfl) (by kernel_rfl) (by kernel_rfl) (by kernel_rfl) h0 h1) ?_
       obtain ⟨x10, hx, h⟩ := of_bind h
       refine wpS.only 19 (op_storeL (C := (CI .u8)) (t := 5) (x := (iadd .i64 (imul .i64 4 z2) z5)) (v := x10) (d := none) (by kernel_rfl) hs 0 rfl (by cases hx; kernel_rfl) (by kernel_rfl) i0_24 i1_24 ?_)
       intro w hs
       refine ⟨fun _ => trivial, ?_⟩
       refine wpS.fin rfl (kr22 _ _ (inBlock_n (then_n (ks21 _ _ (xregS [0, 1, 2] fun KR25 kr25 => ?_)))))
       refine wpS.qs [(0, 15, .int .i64 z5), (1, 16, .int .i64 (iadd .i64 z5 1))] ?_
       obtain ⟨x11, hx, h⟩ := of_bind h
       refine wpS.tk 2 false (some 7) (.int .i64 x11) (yld_int hx (fun _ => by kernel_rfl)) ?_
       refine wpS.fin rfl (kr25 _ _ ?_)
       exact then_n (kl1 _ _ ⟨n, Nat.lt_succ_self n, x11, (wrL z6 (iadd .i64 (imul .i64 4 z2) z5) x10), h, (hs.conv rfl), exg (by kernel_rfl)⟩)
      refine wpS.tk 1 false (some 14) (.bool false) (yld_b (df hc) (fun _ => by kernel_rfl)) ?_
      refine wpS.fin rfl (kr20 _ _ (then_n (ks19 _ _ (wp_cond_f (by kernel_rfl) (xexit (then_x (then_x (inBlock_hit ?_))))))))
      have q0 := of_some h
      subst q0
      exact exq_n (nn1 _ _ ⟨(hs.conv rfl), exg (by kernel_rfl)⟩)
    clear hs h hy
    rintro a w ⟨hs, g17, rfl⟩
    have h := hk1
    refine inBlock_n (then_n (ks13 _ _ (xregS [0, 1, 2] fun KR26 kr26 => ?_)))
    refine wpS.qs [(0, 11, .int .i64 z2), (1, 12, .int .i64 (iadd .i64 z2 1))] ?_
    obtain ⟨x12, hx, h⟩ := of_bind h
    refine wpS.tk 2 false (some 6) (.int .i64 x12) (yld_int hx (fun _ => by kernel_rfl)) ?_
    refine wpS.fin rfl (kr26 _ _ ?_)
    exact then_n (kl0 _ _ ⟨n, Nat.lt_succ_self n, x12, y7, h, (hs.conv rfl), exg (by kernel_rfl)⟩)
   refine wpS.tk 1 false (some 10) (.bool false) (yld_b (df hc) (fun _ => by kernel_rfl)) ?_
   refine wpS.fin rfl (kr12 _ _ (then_n (ks11 _ _ (wp_cond_f (by kernel_rfl) (xexit (then_x (then_x (inBlock_hit ?_))))))))
   have q0 := of_some h
   subst q0
   exact exq_n (nn0 _ _ ⟨(hs.conv rfl), exg (by kernel_rfl)⟩)
 clear hs h hy
 rintro a w ⟨hs, g9, rfl⟩
 have h := hk0
 refine then_n (ks5 _ _ (xseq_k fun KS27 ks27 => (xregS [0, 1] fun KR28 kr28 => ?_)))
 refine wpS.qs [(0, 36, .slice s1_A s1_n s1_c), (1, 4, .slice s1_A s1_n s1_c)] ?_
 refine wpS.fin rfl (kr28 _ _ (then_n (ks27 _ _ (xret ?_))))
 have q0 := of_some h
 subst q0
 exact qq _ _ (post_ret (by kernel_rfl) (run_results [.tmp 4] [.slice s1_A s1_n s1_c] (by kernel_rfl) (.cons (res_tmp (by kernel_rfl)) .nil)) ⟨⟨s1_A, s1_n, s1_c⟩, congrArg Ending.returned (by kernel_rfl), (hs.pickR pick_nil)⟩)

theorem ref10_each.ok {K : Nat} {a0 : List Int} {a1 : Arr 256} {r0 : List Int} {a0_A : Option Addr} {a0_n : Nat} {a0_c : Nat} (h : ref10_each.f K a0 a1 = some r0) (w0 : World) (hp0 : RowL (CI .u8) w0 a0_A a0_n a0_c a0) : Calls Try.prog 89 #[.slice a0_A a0_n a0_c, .agg (enc .u8 a1).toArray] w0 fun e w' => ∃ h : (Option Addr × Nat × Nat), e = .returned (.slice h.1 h.2.1 h.2.2) ∧ St w0 [] [.ownL (CI .u8) h.1 h.2.1 h.2.2 r0 5] [] w' := by
 refine calls_k Try.func89 rfl fun Q qq => ?_
 have hs := St.startR (all_cons (RowP.ent hp0) all_nil)
 refine wp_conv (a' := ⟨#[.slice a0_A a0_n a0_c, .agg (enc .u8 a1).toArray, undef, undef, undef, undef, undef, undef, undef, undef, undef, undef, undef, undef, undef, undef, undef, undef, undef, undef, undef, undef], []⟩) (by kernel_rfl) ?_
 refine xseq_k fun KS1 ks1 => ?_
 refine xregS [0, 1] fun KR2 kr2 => ?_
 refine wpS.only 0 (op_box (t := 46) (v := .agg (enc .u8 a1).toArray) (d := (some 3)) (by kernel_rfl) hs (enc .u8 a1) (by kernel_rfl) (by kernel_rfl) ?_)
 intro b1 w gw hs
 refine ⟨fun _ => trivial, ?_⟩
 refine wpS.q 1 4 (.slice none 0 0) ?_
 refine wpS.fin rfl (kr2 _ _ (then_n (ks1 _ _ (xseq_k fun KS3 ks3 => (xregS [0, 1] fun KR4 kr4 => ?_)))))
 refine wpS.only 0 (op_makeT (C := (CI .u8)) (t := 26) (e := 5) (bytes := 1) (B := 140737488355328) (kl := .i64) (kc := .i64) (x := 16) (d := (some 7)) (by kernel_rfl) hs (by kernel_rfl) (by kernel_rfl) (by kernel_rfl) (by kernel_rfl) (by kernel_rfl) (by decide) (by decide) (by decide) (by decide) ?_)
 intro s2_A s2_n s2_c w gw hs
 refine ⟨fun _ => trivial, ?_⟩
 refine wpS.q 1 5 (.slice s2_A s2_n s2_c) ?_
 refine wpS.fin rfl (kr4 _ _ (then_n (ks3 _ _ (xseq_k fun KS5 ks5 => (xseq_k fun KS6 ks6 => (xregS [0] fun KR7 kr7 => ?_))))))
 refine wpS.q 0 6 (.int .i64 0) ?_
 refine wpS.fin rfl (kr7 _ _ (then_n (ks6 _ _ ?_)))
 obtain ⟨y5, hy, hk0⟩ := of_bind h
 refine wp_exq (N := fun a w => St w0 [] [.ownL (CI .u8) s2_A s2_n s2_c y5 5, .blk b1 (enc .u8 a1) 46] [.rowL (CI .u8) a0_A a0_n a0_c a0] w ∧ ∃ g9 : Nat → Value, a = ⟨#[.slice a0_A a0_n a0_c, .agg (enc .u8 a1).toArray, undef, .pointer (some ⟨b1, 0, none⟩), .slice none 0 0, .slice s2_A s2_n s2_c, (g9 6), .slice s2_A s2_n s2_c, (g9 8), (g9 9), (g9 10), (g9 11), (g9 12), (g9 13), (g9 14), (g9 15), (g9 16), (g9 17), (g9 18), (g9 19), (g9 20), undef], []⟩) (fun N0 nn0 => ?_) ?_
 ·clear hk0
  refine xblock ?_
  refine wp_loop_k (fun n a w => ∃ z3 z4, ref10_each.l0 K n a0 a1 z3 z4 = some y5 ∧ St w0 [] [.ownL (CI .u8) s2_A s2_n s2_c z4 5, .blk b1 (enc .u8 a1) 46] [.rowL (CI .u8) a0_A a0_n a0_c a0] w ∧ ∃ g8 : Nat → Value, a = ⟨#[.slice a0_A a0_n a0_c, .agg (enc .u8 a1).toArray, undef, .pointer (some ⟨b1, 0, none⟩), .slice none 0 0, .slice s2_A s2_n s2_c, .int .i64 z3, .slice s2_A s2_n s2_c, (g8 8), (g8 9), (g8 10), (g8 11), (g8 12), (g8 13), (g8 14), (g8 15), (g8 16), (g8 17), (g8 18), (g8 19), (g8 20), undef], []⟩) K ⟨0, (List.replicate (16 : Int).toNat (Cod.zero (CI .u8))), hy, hs.conv rfl, exg (by kernel_rfl)⟩ ?_
  clear hs h hy
  rintro n a w ⟨z3, z4, h, hs, g8, rfl⟩ KL0 kl0
  cases n with
  | zero => exact nomatch (show none = some _ from h)
  | succ n =>
   refine xseq_k fun KS10 ks10 => ?_
   refine xseq_k fun KS11 ks11 => ?_
   refine xregS [0, 1] fun KR12 kr12 => ?_
   refine wpS.q 0 8 (.int .i64 z3) ?_
   rcases of_if h with ⟨hc, h⟩ | ⟨hc, h⟩
   ·refine wpS.tk 1 false (some 9) (.bool true) (yld_b (dt hc) (fun _ => by kernel_rfl)) ?_
    refine wpS.fin rfl (kr12 _ _ (then_n (ks11 _ _ (wp_cond_t (by kernel_rfl) (xskip (then_n (ks10 _ _ (xseq_k fun KS13 ks13 => (xblock (xregS [0, 1, 2, 3, 4, 5, 6, 7, 8, 9] fun KR14 kr14 => ?_))))))))))
    refine wpS.qs [(0, 12, .slice s2_A s2_n s2_c), (1, 13, .int .i64 z3), (2, 14, .slice a0_A a0_n a0_c), (3, 15, .int .i64 z3)] ?_
    obtain ⟨h0, h⟩ := of_chk h
    obtain ⟨h1, h⟩ := of_chk h
    have i0_15 := h0
    have i1_15 := h1
    refine wpS.tk 4 false (some 16) (.pointer (adr a0_A ((z3 : Int).toNat * Cod.size (CI .u8)))) (yld_idxL (C := (CI .u8)) (t := 26) (e := 5) (k := .i64) (x := z3) (hs.rowR 0 rfl) (by kernel_rfl) (by kernel_rfl) (by kernel_rfl) h0 h1) ?_
    refine wpS.tk 5 true (some 17) (.int .u8 (rdL (CI .u8) a0 z3)) (yld_loadL (C := (CI .u8)) (e := 5) (x := z3) (hs.rowR 0 rfl) (by kernel_rfl) rfl (by kernel_rfl) i0_15 i1_15) ?_
    obtain ⟨x6, hx, h⟩ := of_bind h
    have hx := of_some hx
    subst hx
    obtain ⟨i0_16, h⟩ := of_chk h
    obtain ⟨i1_16, h⟩ := of_chk h
    refine wpS.tk 6 false (some 18) (.pointer (some ⟨b1, 0 + ((rdL (CI .u8) a0 z3) : Int).toNat * 1, none⟩)) (yld_idx (t := 46) (e := 5) (n := 256) (sz := 1) (k := .u8) (x := (rdL (CI .u8) a0 z3)) (by kernel_rfl) (by kernel_rfl) (by kernel_rfl) i0_16 i1_16) ?_
    refine wpS.tk 7 true (some 19) (.int .u8 (rd a1 (rdL (CI .u8) a0 z3))) (yld_loadA (e := 5) (x := (rdL (CI .u8) a0 z3)) hs 1 rfl (by kernel_rfl) (by kernel_rfl) i0_16 i1_16 .grow) ?_
    obtain ⟨h0, h⟩ := of_chk h
    obtain ⟨h1, h⟩ := of_chk h
    have i0_17 := h0
    have i1_17 := h1
    refine wpS.tk 8 false (some 20) (.pointer (adr s2_A ((z3 : Int).toNat * Cod.size (CI .u8)))) (yld_idxL (C := (CI .u8)) (t := 26) (e := 5) (k := .i64) (x := z3) (hs.rowL 0 rfl) (by kernel_rfl) (by kernel_rfl) (by kernel_rfl) h0 h1) ?_
    obtain ⟨x7, hx, h⟩ := of_bind h
    refine wpS.only 9 (op_storeL (C := (CI .u8)) (t := 5) (x := z3) (v := x7) (d := none) (by kernel_rfl) hs 0 rfl (by cases hx; kernel_rfl) (by kernel_rfl) i0_17 i1_17 ?_)
    intro w hs
    refine ⟨fun _ => trivial, ?_⟩
    refine wpS.fin rfl (kr14 _ _ (inBlock_n (then_n (ks13 _ _ (xregS [0, 1, 2] fun KR18 kr18 => ?_)))))
    refine wpS.qs [(0, 10, .int .i64 z3), (1, 11, .int .i64 (iadd .i64 z3 1))] ?_
    obtain ⟨x8, hx, h⟩ := of_bind h
    refine wpS.tk 2 false (some 6) (.int .i64 x8) (yld_int hx (fun _ => by kernel_rfl)) ?_
    refine wpS.fin rfl (kr18 _ _ ?_)
    exact then_n (kl0 _ _ ⟨n, Nat.lt_succ_self n, x8, (wrL z4 z3 x7), h, (hs.conv rfl), exg (by kernel_rfl)⟩)
   refine wpS.tk 1 false (some 9) (.bool false) (yld_b (df hc) (fun _ => by kernel_rfl)) ?_
   refine wpS.fin rfl (kr12 _ _ (then_n (ks11 _ _ (wp_cond_f (by kernel_rfl) (xexit (then_x (then_x (inBlock_hit ?_))))))))
   have q0 := of_some h
   subst q0
   exact exq_n (nn0 _ _ ⟨(hs.conv rfl), exg (by kernel_rfl)⟩)
 clear hs h hy
 rintro a w ⟨hs, g9, rfl⟩
 have h := hk0
 refine then_n (ks5 _ _ (xseq_k fun KS19 ks19 => (xregS [0, 1] fun KR20 kr20 => ?_)))
 refine wpS.qs [(0, 21, .slice s2_A s2_n s2_c), (1, 4, .slice s2_A s2_n s2_c)] ?_
 refine wpS.fin rfl (kr20 _ _ (then_n (ks19 _ _ (xret ?_))))
 have q0 := of_some h
 subst q0
 exact qq _ _ (post_ret (by kernel_rfl) (run_results [.tmp 4] [.slice s2_A s2_n s2_c] (by kernel_rfl) (.cons (res_tmp (by kernel_rfl)) .nil)) ⟨⟨s2_A, s2_n, s2_c⟩, congrArg Ending.returned (by kernel_rfl), ((hs.drop (.cons_cons _ (.cons _ .slnil))).pickR pick_nil)⟩)

theorem ref10_columns.ok {K : Nat} {a0 : List Int} {a1 : Arr 4} {r0 : List Int} {a0_A : Option Addr} {a0_n : Nat} {a0_c : Nat} (h : ref10_columns.f K a0 a1 = some r0) (w0 : World) (hp0 : RowL (CI .u8) w0 a0_A a0_n a0_c a0) : Calls Try.prog 90 #[.slice a0_A a0_n a0_c, .agg (enc .u8 a1).toArray] w0 fun e w' => ∃ h : (Option Addr × Nat × Nat), e = .returned (.slice h.1 h.2.1 h.2.2) ∧ St w0 [] [.ownL (CI .u8) h.1 h.2.1 h.2.2 r0 5] [] w' := by
 refine calls_k Try.func90 rfl fun Q qq => ?_
 have hs := St.startR (all_cons (RowP.ent hp0) all_nil)
 refine wp_conv (a' := ⟨#[.slice a0_A a0_n a0_c, .agg (enc .u8 a1).toArray, undef, undef, undef, undef, undef, undef, undef, undef, undef, undef, undef, undef, undef, undef, undef, undef, undef, undef, undef, undef, undef, undef, undef, undef, undef, undef, undef, undef, undef, undef, undef, undef, undef, undef, undef, undef, undef, undef, undef, undef, undef, undef, undef, undef, undef], []⟩) (by kernel_rfl) ?_
 refine xseq_k fun KS1 ks1 => ?_
 refine xregS [0, 1] fun KR2 kr2 => ?_
 refine wpS.only 0 (op_box (t := 100) (v := .agg (enc .u8 a1).toArray) (d := (some 3)) (by kernel_rfl) hs (enc .u8 a1) (by kernel_rfl) (by kernel_rfl) ?_)
 intro b1 w gw hs
 refine ⟨fun _ => trivial, ?_⟩
 refine wpS.q 1 4 (.slice none 0 0) ?_
 refine wpS.fin rfl (kr2 _ _ (then_n (ks1 _ _ (xseq_k fun KS3 ks3 => (xregS [0, 1] fun KR4 kr4 => ?_)))))
 refine wpS.only 0 (op_makeT (C := (CI .u8)) (t := 26) (e := 5) (bytes := 1) (B := 140737488355328) (kl := .i64) (kc := .i64) (x := 16) (d := (some 10)) (by kernel_rfl) hs (by kernel_rfl) (by kernel_rfl) (by kernel_rfl) (by kernel_rfl) (by kernel_rfl) (by decide) (by decide) (by decide) (by decide) ?_)
 intro s2_A s2_n s2_c w gw hs
 refine ⟨fun _ => trivial, ?_⟩
 refine wpS.q 1 5 (.slice s2_A s2_n s2_c) ?_
 refine wpS.fin rfl (kr4 _ _ (then_n (ks3 _ _ (xseq_k fun KS5 ks5 => (xseq_k fun KS6 ks6 => (xregS [0] fun KR7 kr7 => ?_))))))
 refine wpS.q 0 6 (.int .i64 0) ?_
 refine wpS.fin rfl (kr7 _ _ (then_n (ks6 _ _ ?_)))
 obtain ⟨y5, hy, hk0⟩ := of_bind h
 refine wp_exq (N := fun a w => St w0 [] [.ownL (CI .u8) s2_A s2_n s2_c y5 5, .blk b1 (enc .u8 a1) 100] [.rowL (CI .u8) a0_A a0_n a0_c a0] w ∧ ∃ g9 : Nat → Value, a = ⟨#[.slice a0_A a0_n a0_c, .agg (enc .u8 a1).toArray, undef, .pointer (some ⟨b1, 0, none⟩), .slice none 0 0, .slice s2_A s2_n s2_c, (g9 6), (g9 7), (g9 8), (g9 9), .slice s2_A s2_n s2_c, (g9 11), (g9 12), (g9 13), (g9 14), (g9 15), (g9 16), (g9 17), (g9 18), (g9 19), (g9 20), (g9 21), (g9 22), (g9 23), (g9 24), (g9 25), (g9 26), (g9 27), (g9 28), (g9 29), (g9 30), (g9 31), (g9 32), (g9 33), (g9 34), (g9 35), (g9 36), (g9 37), (g9 38), (g9 39), (g9 40), (g9 41), (g9 42), (g9 43), (g9 44), (g9 45), undef], []⟩) (fun N0 nn0 => ?_) ?_
 ·clear hk0
  refine xblock ?_
  refine wp_loop_k (fun n a w => ∃ z3 z4, ref10_columns.l0 K n a0 a1 z3 z4 = some y5 ∧ St w0 [] [.ownL (CI .u8) s2_A s2_n s2_c z4 5, .blk b1 (enc .u8 a1) 100] [.rowL (CI .u8) a0_A a0_n a0_c a0] w ∧ ∃ g8 : Nat → Value, a = ⟨#[.slice a0_A a0_n a0_c, .agg (enc .u8 a1).toArray, undef, .pointer (some ⟨b1, 0, none⟩), .slice none 0 0, .slice s2_A s2_n s2_c, .int .i64 z3, (g8 7), (g8 8), (g8 9), .slice s2_A s2_n s2_c, (g8 11), (g8 12), (g8 13), (g8 14), (g8 15), (g8 16), (g8 17), (g8 18), (g8 19), (g8 20), (g8 21), (g8 22), (g8 23), (g8 24), (g8 25), (g8 26), (g8 27), (g8 28), (g8 29), (g8 30), (g8 31), (g8 32), (g8 33), (g8 34), (g8 35), (g8 36), (g8 37), (g8 38), (g8 39), (g8 40), (g8 41), (g8 42), (g8 43), (g8 44), (g8 45), undef], []⟩) K ⟨0, (List.replicate (16 : Int).toNat (Cod.zero (CI .u8))), hy, hs.conv rfl, exg (by kernel_rfl)⟩ ?_
  clear hs h hy
  rintro n a w ⟨z3, z4, h, hs, g8, rfl⟩ KL0 kl0
  cases n with
  | zero => exact nomatch (show none = some _ from h)
  | succ n =>
   refine xseq_k fun KS10 ks10 => ?_
   refine xseq_k fun KS11 ks11 => ?_
   refine xregS [0, 1] fun KR12 kr12 => ?_
   refine wpS.q 0 11 (.int .i64 z3) ?_
   rcases of_if h with ⟨hc, h⟩ | ⟨hc, h⟩
   ·refine wpS.tk 1 false (some 12) (.bool true) (yld_b (dt hc) (fun _ => by kernel_rfl)) ?_
    refine wpS.fin rfl (kr12 _ _ (then_n (ks11 _ _ (wp_cond_t (by kernel_rfl) (xskip (then_n (ks10 _ _ (xseq_k fun KS13 ks13 => (xblock (xseq_k fun KS14 ks14 => (xregS [0] fun KR15 kr15 => ?_)))))))))))
    refine wpS.q 0 7 (.int .i64 0) ?_
    refine wpS.fin rfl (kr15 _ _ (then_n (ks14 _ _ ?_)))
    obtain ⟨y8, hy, hk1⟩ := of_bind h
    refine wp_exq (N := fun a w => St w0 [] [.ownL (CI .u8) s2_A s2_n s2_c y8 5, .blk b1 (enc .u8 a1) 100] [.rowL (CI .u8) a0_A a0_n a0_c a0] w ∧ ∃ g17 : Nat → Value, a = ⟨#[.slice a0_A a0_n a0_c, .agg (enc .u8 a1).toArray, undef, .pointer (some ⟨b1, 0, none⟩), .slice none 0 0, .slice s2_A s2_n s2_c, .int .i64 z3, (g17 7), (g17 8), (g17 9), .slice s2_A s2_n s2_c, .int .i64 z3, .bool true, (g8 13), (g8 14), (g17 15), (g17 16), (g17 17), (g17 18), (g17 19), (g17 20), (g17 21), (g17 22), (g17 23), (g17 24), (g17 25), (g17 26), (g17 27), (g17 28), (g17 29), (g17 30), (g17 31), (g17 32), (g17 33), (g17 34), (g17 35), (g17 36), (g17 37), (g17 38), (g17 39), (g17 40), (g17 41), (g17 42), (g17 43), (g17 44), (g17 45), undef], []⟩) (fun N1 nn1 => ?_) ?_
    ·clear hk1
     refine xblock ?_
     refine wp_loop_k (fun n a w => ∃ z6 z7, ref10_columns.l1 K n a0 a1 z3 z6 z7 = some y8 ∧ St w0 [] [.ownL (CI .u8) s2_A s2_n s2_c z7 5, .blk b1 (enc .u8 a1) 100] [.rowL (CI .u8) a0_A a0_n a0_c a0] w ∧ ∃ g16 : Nat → Value, a = ⟨#[.slice a0_A a0_n a0_c, .agg (enc .u8 a1).toArray, undef, .pointer (some ⟨b1, 0, none⟩), .slice none 0 0, .slice s2_A s2_n s2_c, .int .i64 z3, .int .i64 z6, (g16 8), (g16 9), .slice s2_A s2_n s2_c, .int .i64 z3, .bool true, (g8 13), (g8 14), (g16 15), (g16 16), (g16 17), (g16 18), (g16 19), (g16 20), (g16 21), (g16 22), (g16 23), (g16 24), (g16 25), (g16 26), (g16 27), (g16 28), (g16 29), (g16 30), (g16 31), (g16 32), (g16 33), (g16 34), (g16 35), (g16 36), (g16 37), (g16 38), (g16 39), (g16 40), (g16 41), (g16 42), (g16 43), (g16 44), (g16 45), undef], []⟩) K ⟨0, z4, hy, hs.conv rfl, exg (by kernel_rfl)⟩ ?_
     clear hs h hy
     rintro n a w ⟨z6, z7, h, hs, g16, rfl⟩ KL1 kl1
     cases n with
     | zero => exact nomatch (show none = some _ from h)
     | succ n =>
      refine xseq_k fun KS18 ks18 => ?_
      refine xseq_k fun KS19 ks19 => ?_
      refine xregS [0, 1] fun KR20 kr20 => ?_
      refine wpS.q 0 15 (.int .i64 z6) ?_
      rcases of_if h with ⟨hc, h⟩ | ⟨hc, h⟩
      ·refine wpS.tk 1 false (some 16) (.bool true) (yld_b (dt hc) (fun _ => by kernel_rfl)) ?_
       refine wpS.fin rfl (kr20 _ _ (then_n (ks19 _ _ (wp_cond_t (by kernel_rfl) (xskip (then_n (ks18 _ _ (xseq_k fun KS21 ks21 => (xblock (xseq_k fun KS22 ks22 => (xregS [0] fun KR23 kr23 => ?_)))))))))))
       refine wpS.q 0 8 (.int .u8 0) ?_
       refine wpS.fin rfl (kr23 _ _ (then_n (ks22 _ _ (xseq_k fun KS24 ks24 => (xseq_k fun KS25 ks25 => (xregS [0] fun KR26 kr26 => ?_))))))
       refine wpS.q 0 9 (.int .i64 0) ?_
       refine wpS.fin rfl (kr26 _ _ (then_n (ks25 _ _ ?_)))
       obtain ⟨y11, hy, hk2⟩ := of_bind h
       refine wp_exq (N := fun a w => St w0 [] [.ownL (CI .u8) s2_A s2_n s2_c z7 5, .blk b1 (enc .u8 a1) 100] [.rowL (CI .u8) a0_A a0_n a0_c a0] w ∧ ∃ g28 : Nat → Value, a = ⟨#[.slice a0_A a0_n a0_c, .agg (enc .u8 a1).toArray, undef, .pointer (some ⟨b1, 0, none⟩), .slice none 0 0, .slice s2_A s2_n s2_c, .int .i64 z3, .int .i64 z6, .int .u8 y11, (g28 9), .slice s2_A s2_n s2_c, .int .i64 z3, .bool true, (g8 13), (g8 14), .int .i64 z6, .bool true, (g16 17), (g16 18), (g28 19), (g28 20), (g28 21), (g28 22), (g28 23), (g28 24), (g28 25), (g28 26), (g28 27), (g28 28), (g28 29), (g28 30), (g28 31), (g28 32), (g28 33), (g28 34), (g28 35), (g28 36), (g28 37), (g28 38), (g16 39), (g16 40), (g16 41), (g16 42), (g16 43), (g16 44), (g16 45), undef], []⟩) (fun N2 nn2 => ?_) ?_
       ·clear hk2
        refine xblock ?_
        refine wp_loop_k (fun n a w => ∃ z9 z10, ref10_columns.l2 K n a0 a1 z3 z6 z9 z10 = some y11 ∧ St w0 [] [.ownL (CI .u8) s2_A s2_n s2_c z7 5, .blk b1 (enc .u8 a1) 100] [.rowL (CI .u8) a0_A a0_n a0_c a0] w ∧ ∃ g27 : Nat → Value, a = ⟨#[.slice a0_A a0_n a0_c, .agg (enc .u8 a1).toArray, undef, .pointer (some ⟨b1, 0, none⟩), .slice none 0 0, .slice s2_A s2_n s2_c, .int .i64 z3, .int .i64 z6, .int .u8 z9, .int .i64 z10, .slice s2_A s2_n s2_c, .int .i64 z3, .bool true, (g8 13), (g8 14), .int .i64 z6, .bool true, (g16 17), (g16 18), (g27 19), (g27 20), (g27 21), (g27 22), (g27 23), (g27 24), (g27 25), (g27 26), (g27 27), (g27 28), (g27 29), (g27 30), (g27 31), (g27 32), (g27 33), (g27 34), (g27 35), (g27 36), (g27 37), (g27 38), (g16 39), (g16 40), (g16 41), (g16 42), (g16 43), (g16 44), (g16 45), undef], []⟩) K ⟨0, 0, hy, hs.conv rfl, exg (by kernel_rfl)⟩ ?_
        clear hs h hy
        rintro n a w ⟨z9, z10, h, hs, g27, rfl⟩ KL2 kl2
        cases n with
        | zero => exact nomatch (show none = some _ from h)
        | succ n =>
         refine xseq_k fun KS29 ks29 => ?_
         refine xseq_k fun KS30 ks30 => ?_
         refine xregS [0, 1] fun KR31 kr31 => ?_
         refine wpS.q 0 19 (.int .i64 z10) ?_
         rcases of_if h with ⟨hc, h⟩ | ⟨hc, h⟩
         ·refine wpS.tk 1 false (some 20) (.bool true) (yld_b (dt hc) (fun _ => by kernel_rfl)) ?_
          refine wpS.fin rfl (kr31 _ _ (then_n (ks30 _ _ (wp_cond_t (by kernel_rfl) (xskip (then_n (ks29 _ _ (xseq_k fun KS32 ks32 => (xblock ?_)))))))))
          refine wp_regG [] (fun k => True) 17 (by kernel_rfl) (by kernel_rfl) (by kernel_rfl) fun KR33 kr33 => ?_
          have hs := hs.drawn1
          refine wpG.q 0 23 (.int .u8 z9) ?_
          refine wpG.q 1 24 (.int .i64 z10) ?_
          obtain ⟨i0_34, h⟩ := of_chk h
          obtain ⟨i1_34, h⟩ := of_chk h
          refine wpG.tD 2 false (some 25) (.pointer (some ⟨b1, 0 + (z10 : Int).toNat * 1, none⟩)) (yld_idx (t := 100) (e := 5) (n := 4) (sz := 1) (k := .i64) (x := z10) (by kernel_rfl) (by kernel_rfl) (by kernel_rfl) i0_34 i1_34) ?_
          refine wpG.tD 3 true (some 26) (.int .u8 (rd a1 z10)) (yld_loadA (e := 5) (x := z10) hs 1 rfl (by kernel_rfl) (by kernel_rfl) i0_34 i1_34 .grow) ?_
          refine wpG.q 4 27 (.slice a0_A a0_n a0_c) ?_
          refine wpG.q 5 28 (.int .i64 z3) ?_
          refine wpG.q 6 29 (.int .i64 (imul .i64 4 z3)) ?_
          refine wpG.q 7 30 (.int .i64 z6) ?_
          refine wpG.q 8 31 (.int .i64 z10) ?_
          refine wpG.q 9 32 (.int .i64 (iadd .i64 z6 z10)) ?_
          refine wpG.q 10 33 (.int .i64 (irem .i64 (iadd .i64 z6 z10) 4)) ?_
          refine wpG.q 11 34 (.int .i64 (iadd .i64 (imul .i64 4 z3) (irem .i64 (iadd .i64 z6 z10) 4))) ?_
          obtain ⟨x12, hx, h⟩ := of_bind h
          have hx := of_some hx
          subst hx
          obtain ⟨h0, h⟩ := of_chk h
          obtain ⟨h1, h⟩ := of_chk h
          have i0_35 := h0
          have i1_35 := h1
          refine wpG.tD 12 false (some 35) (.pointer (adr a0_A (((iadd .i64 (imul .i64 4 z3) (irem .i64 (iadd .i64 z6 z10) 4)) : Int).toNat * Cod.size (CI .u8)))) (yld_idxL (C := (CI .u8)) (t := 26) (e := 5) (k := .i64) (x := (iadd .i64 (imul .i64 4 z3) (irem .i64 (iadd .i64 z6 z10) 4))) (hs.rowR 0 rfl) (by kernel_rfl) (by kernel_rfl) (by kernel_rfl) h0 h1) ?_
          refine wpG.tD 13 true (some 36) (.int .u8 (rdL (CI .u8) a0 (iadd .i64 (imul .i64 4 z3) (irem .i64 (iadd .i64 z6 z10) 4)))) (yld_loadL (C := (CI .u8)) (e := 5) (x := (iadd .i64 (imul .i64 4 z3) (irem .i64 (iadd .i64 z6 z10) 4))) (hs.rowR 0 rfl) (by kernel_rfl) rfl (by kernel_rfl) i0_35 i1_35) ?_
          obtain ⟨r13, hg, h⟩ := of_bind h
          refine wpG.only 14 (by kernel_rfl) (op_call (d := (some 37)) (by kernel_rfl) hs (fun _ => by kernel_rfl) (ref10_Mul.ok hg _) ?_)
          intro w gw hs
          refine ⟨.of gw, ?_⟩
          refine wpG.q 15 38 (.int .u8 (ixor .u8 z9 r13)) ?_
          obtain ⟨x14, hx, h⟩ := of_bind h
          refine wpG.tD 16 false (some 8) (.int .u8 x14) (yld_int hx (fun _ => by kernel_rfl)) ?_
          refine wpG.fin (by kernel_rfl) rfl (kr33 _ _ ?_)
          refine inBlock_n (then_n (ks32 _ _ (xregS [0, 1, 2] fun KR36 kr36 => ?_)))
          refine wpS.qs [(0, 21, .int .i64 z10), (1, 22, .int .i64 (iadd .i64 z10 1))] ?_
          obtain ⟨x15, hx, h⟩ := of_bind h
          refine wpS.tk 2 false (some 9) (.int .i64 x15) (yld_int hx (fun _ => by kernel_rfl)) ?_
          refine wpS.fin rfl (kr36 _ _ ?_)
          exact then_n (kl2 _ _ ⟨n, Nat.lt_succ_self n, x14, x15, h, (hs.conv rfl), exg (by kernel_rfl)⟩)
         refine wpS.tk 1 false (some 20) (.bool false) (yld_b (df hc) (fun _ => by kernel_rfl)) ?_
         refine wpS.fin rfl (kr31 _ _ (then_n (ks30 _ _ (wp_cond_f (by kernel_rfl) (xexit (then_x (then_x (inBlock_hit ?_))))))))
         have q0 := of_some h
         subst q0
         exact exq_n (nn2 _ _ ⟨(hs.conv rfl), exg (by kernel_rfl)⟩)
       clear hs h hy
       rintro a w ⟨hs, g28, rfl⟩
       have h := hk2
       refine then_n (ks24 _ _ (xregS [0, 1, 2, 3, 4, 5, 6, 7] fun KR37 kr37 => ?_))
       refine wpS.qs [(0, 39, .slice s2_A s2_n s2_c), (1, 40, .int .i64 z3), (2, 41, .int .i64 (imul .i64 4 z3)), (3, 42, .int .i64 z6), (4, 43, .int .i64 (iadd .i64 (imul .i64 4 z3) z6)), (5, 44, .int .u8 y11)] ?_
       obtain ⟨x16, hx, h⟩ := of_bind h
       have hx := of_some hx
       subst hx
       obtain ⟨h0, h⟩ := of_chk h
       obtain ⟨h1, h⟩ := of_chk h
       have i0_38 := h0
       have i1_38 := h1
       refine wpS.tk 6 false (some 45) (.pointer (adr s2_A (((iadd .i64 (imul .i64 4 z3) z6) : Int).toNat * Cod.size (CI .u8)))) (yld_idxL (C := (CI .u8)) (t := 26) (e := 5) (k := .i64) (x := (iadd .i64 (imul .i64 4 z3) z6)) (hs.rowL 0 rfl) (by kernel_rfl) (by kernel_rfl) (by kernel_rfl) h0 h1) ?_
       refine wpS.only 7 (op_storeL (C := (CI .u8)) (t := 5) (x := (iadd .i64 (imul .i64 4 z3) z6)) (v := y11) (d := none) (by kernel_rfl) hs 0 rfl (by kernel_rfl) (by kernel_rfl) i0_38 i1_38 ?_)
       intro w hs
       refine ⟨fun _ => trivial, ?_⟩
       refine wpS.fin rfl (kr37 _ _ (inBlock_n (then_n (ks21 _ _ (xregS [0, 1, 2] fun KR39 kr39 => ?_)))))
       refine wpS.qs [(0, 17, .int .i64 z6), (1, 18, .int .i64 (iadd .i64 z6 1))] ?_
       obtain ⟨x17, hx, h⟩ := of_bind h
       refine wpS.tk 2 false (some 7) (.int .i64 x17) (yld_int hx (fun _ => by kernel_rfl)) ?_
       refine wpS.fin rfl (kr39 _ _ ?_)
       exact then_n (kl1 _ _ ⟨n, Nat.lt_succ_self n, x17, (wrL z7 (iadd .i64 (imul .i64 4 z3) z6) y11), h, (hs.conv rfl), exg (by kernel_rfl)⟩)
      refine wpS.tk 1 false (some 16) (.bool false) (yld_b (df hc) (fun _ => by kernel_rfl)) ?_
      refine wpS.fin rfl (kr20 _ _ (then_n (ks19 _ _ (wp_cond_f (by kernel_rfl) (xexit (then_x (then_x (inBlock_hit ?_))))))))
      have q0 := of_some h
      subst q0
      exact exq_n (nn1 _ _ ⟨(hs.conv rfl), exg (by kernel_rfl)⟩)
    clear hs h hy
    rintro a w ⟨hs, g17, rfl⟩
    have h := hk1
    refine inBlock_n (then_n (ks13 _ _ (xregS [0, 1, 2] fun KR40 kr40 => ?_)))
    refine wpS.qs [(0, 13, .int .i64 z3), (1, 14, .int .i64 (iadd .i64 z3 1))] ?_
    obtain ⟨x18, hx, h⟩ := of_bind h
    refine wpS.tk 2 false (some 6) (.int .i64 x18) (yld_int hx (fun _ => by kernel_rfl)) ?_
    refine wpS.fin rfl (kr40 _ _ ?_)
    exact then_n (kl0 _ _ ⟨n, Nat.lt_succ_self n, x18, y8, h, (hs.conv rfl), exg (by kernel_rfl)⟩)
   refine wpS.tk 1 false (some 12) (.bool false) (yld_b (df hc) (fun _ => by kernel_rfl)) ?_
   refine wpS.fin rfl (kr12 _ _ (then_n (ks11 _ _ (wp_cond_f (by kernel_rfl) (xexit (then_x (then_x (inBlock_hit ?_))))))))
   have q0 := of_some h
   subst q0
   exact exq_n (nn0 _ _ ⟨(hs.conv rfl), exg (by kernel_rfl)⟩)
 clear hs h hy
 rintro a w ⟨hs, g9, rfl⟩
 have h := hk0
 refine then_n (ks5 _ _ (xseq_k fun KS41 ks41 => (xregS [0, 1] fun KR42 kr42 => ?_)))
 refine wpS.qs [(0, 46, .slice s2_A s2_n s2_c), (1, 4, .slice s2_A s2_n s2_c)] ?_
 refine wpS.fin rfl (kr42 _ _ (then_n (ks41 _ _ (xret ?_))))
 have q0 := of_some h
 subst q0
 exact qq _ _ (post_ret (by kernel_rfl) (run_results [.tmp 4] [.slice s2_A s2_n s2_c] (by kernel_rfl) (.cons (res_tmp (by kernel_rfl)) .nil)) ⟨⟨s2_A, s2_n, s2_c⟩, congrArg Ending.returned (by kernel_rfl), ((hs.drop (.cons_cons _ (.cons _ .slnil))).pickR pick_nil)⟩)

theorem ref10_there.ok {K : Nat} {a0 : List Int} {a1 : List Int} {a2 : Arr 256} {r0 : List Int} {a0_A : Option Addr} {a0_n : Nat} {a0_c : Nat} {a1_A : Option Addr} {a1_n : Nat} {a1_c : Nat} (h : ref10_there.f K a0 a1 a2 = some r0) (w0 : World) (hp0 : RowL (CI .u8) w0 a0_A a0_n a0_c a0) (hp1 : RowL (CI .u8) w0 a1_A a1_n a1_c a1) : Calls Try.prog 51 #[.slice a0_A a0_n a0_c, .slice a1_A a1_n a1_c, .agg (enc .u8 a2).toArray] w0 fun e w' => ∃ h : (Option Addr × Nat × Nat), e = .returned (.slice h.1 h.2.1 h.2.2) ∧ St w0 [] [.ownL (CI .u8) h.1 h.2.1 h.2.2 r0 5] [] w' := by
 refine calls_k Try.func51 rfl fun Q qq => ?_
 have hs := St.startR (all_cons (RowP.ent hp0) (all_cons (RowP.ent hp1) all_nil))
 refine wp_conv (a' := ⟨#[.slice a0_A a0_n a0_c, .slice a1_A a1_n a1_c, .agg (enc .u8 a2).toArray, undef, undef, undef, undef, undef, undef, undef, undef, undef, undef, undef, undef, undef, undef, undef, undef, undef, undef, undef, undef, undef, undef, undef, undef, undef, undef, undef, undef, undef, undef, undef, undef, undef, undef, undef, undef, undef, undef, undef, undef], []⟩) (by kernel_rfl) ?_
 refine xseq_k fun KS1 ks1 => ?_
 refine xregS [0, 1] fun KR2 kr2 => ?_
 refine wpS.only 0 (op_box (t := 46) (v := .agg (enc .u8 a2).toArray) (d := (some 5)) (by kernel_rfl) hs (enc .u8 a2) (by kernel_rfl) (by kernel_rfl) ?_)
 intro b1 w gw hs
 refine ⟨fun _ => trivial, ?_⟩
 refine wpS.q 1 6 (.slice none 0 0) ?_
 refine wpS.fin rfl (kr2 _ _ (then_n (ks1 _ _ (xseq_k fun KS3 ks3 => (xregS [0, 1, 2, 3, 4] fun KR4 kr4 => ?_)))))
 refine wpS.q 0 10 (.slice a0_A a0_n a0_c) ?_
 refine wpS.tk 1 false (some 11) (.int .i64 (a0.length : Int)) (yld_lenL (hs.rowR 0 rfl) (fun _ => by kernel_rfl)) ?_
 refine wpS.qs [(2, 12, .int .i64 (iquo .i64 (a0.length : Int) 16)), (3, 13, .int .i64 (isub .i64 (iquo .i64 (a0.length : Int) 16) 1))] ?_
 obtain ⟨x2, hx, h⟩ := of_bind h
 refine wpS.tk 4 false (some 7) (.int .i64 x2) (yld_int hx (fun _ => by kernel_rfl)) ?_
 refine wpS.fin rfl (kr4 _ _ (then_n (ks3 _ _ (xseq_k fun KS5 ks5 => (xregS [0, 1, 2, 3, 4] fun KR6 kr6 => ?_)))))
 refine wpS.qs [(0, 14, .slice a1_A a1_n a1_c), (1, 15, .slice a0_A a0_n a0_c)] ?_
 obtain ⟨h0, h⟩ := of_chk h
 obtain ⟨h1, h⟩ := of_chk h
 obtain ⟨h2, h⟩ := of_chk h
 obtain ⟨s3_A, hA⟩ : ∃ A, A = if a0_c = (0 : Int).toNat then a0_A else adr a0_A ((0 : Int).toNat * Cod.size (CI .u8)) := ⟨_, rfl⟩
 obtain ⟨s3_n, hn⟩ : ∃ n, n = (16 : Int).toNat - (0 : Int).toNat := ⟨_, rfl⟩
 obtain ⟨s3_c, hc⟩ : ∃ c, c = a0_c - (0 : Int).toNat := ⟨_, rfl⟩
 refine wpS.tk 2 false (some 16) (.slice s3_A s3_n s3_c) (yld_sub (C := (CI .u8)) (t := 26) (e := 5) (low := none) (high := some (.int .i64 16)) (lo := 0) (hi := 16) (hs.rowR 0 rfl) (by kernel_rfl) (by kernel_rfl) (by kernel_rfl) (.inl ⟨rfl, rfl⟩) (.inr ⟨_, rfl⟩) h0 h1 h2 hA hn hc) ?_
 have hs := hs.addSub (C := (CI .u8)) 0 rfl h0 h1 h2 hA hn hc
 obtain ⟨r4, hg, h⟩ := of_bind h
 refine wpS.only 3 (op_callH (d := (some 17)) (by kernel_rfl) hs (fun _ => by kernel_rfl) (ref01_Xor.ok hg _ (hs.rowR 2 rfl) (hs.rowR 0 rfl)) ?_)
 rintro ⟨r4_A, r4_n, r4_c⟩ w gw hs
 have hs := hs.conv (L' := [.ownL (CI .u8) r4_A r4_n r4_c r4 5, .blk b1 (enc .u8 a2) 46]) rfl
 refine ⟨fun _ => trivial, ?_⟩
 refine wpS.q 4 8 (.slice r4_A r4_n r4_c) ?_
 refine wpS.fin rfl (kr6 _ _ (then_n (ks5 _ _ (xseq_k fun KS7 ks7 => (xseq_k fun KS8 ks8 => (xregS [0] fun KR9 kr9 => ?_))))))
 refine wpS.q 0 9 (.int .i64 1) ?_
 refine wpS.fin rfl (kr9 _ _ (then_n (ks8 _ _ ?_)))
 obtain ⟨y7, hy, hk0⟩ := of_bind h
 refine wp_exq (N := fun a w => ∃ (y7_A : Option Addr) (y7_n : Nat) (y7_c : Nat), St w0 [] [.ownL (CI .u8) y7_A y7_n y7_c y7 5, .blk b1 (enc .u8 a2) 46] [.rowL (CI .u8) s3_A s3_n s3_c (subL a0 0 16), .rowL (CI .u8) a0_A a0_n a0_c a0, .rowL (CI .u8) a1_A a1_n a1_c a1] w ∧ ∃ g11 : Nat → Value, a = ⟨#[.slice a0_A a0_n a0_c, .slice a1_A a1_n a1_c, .agg (enc .u8 a2).toArray, undef, undef, .pointer (some ⟨b1, 0, none⟩), .slice none 0 0, .int .i64 x2, .slice y7_A y7_n y7_c, (g11 9), .slice a0_A a0_n a0_c, .int .i64 (a0.length : Int), .int .i64 (iquo .i64 (a0.length : Int) 16), .int .i64 (isub .i64 (iquo .i64 (a0.length : Int) 16) 1), .slice a1_A a1_n a1_c, .slice a0_A a0_n a0_c, .slice s3_A s3_n s3_c, .slice r4_A r4_n r4_c, (g11 18), (g11 19), (g11 20), (g11 21), (g11 22), (g11 23), (g11 24), (g11 25), (g11 26), (g11 27), (g11 28), (g11 29), (g11 30), (g11 31), (g11 32), (g11 33), (g11 34), (g11 35), (g11 36), (g11 37), (g11 38), (g11 39), (g11 40), (g11 41), undef], []⟩) (fun N0 nn0 => ?_) ?_
 ·clear hk0
  refine xblock ?_
  refine wp_loop_k (fun n a w => ∃ z5 z6, ∃ (z6_A : Option Addr) (z6_n : Nat) (z6_c : Nat), ref10_there.l0 K n a0 a2 x2 z5 z6 = some y7 ∧ St w0 [] [.ownL (CI .u8) z6_A z6_n z6_c z6 5, .blk b1 (enc .u8 a2) 46] [.rowL (CI .u8) s3_A s3_n s3_c (subL a0 0 16), .rowL (CI .u8) a0_A a0_n a0_c a0, .rowL (CI .u8) a1_A a1_n a1_c a1] w ∧ ∃ g10 : Nat → Value, a = ⟨#[.slice a0_A a0_n a0_c, .slice a1_A a1_n a1_c, .agg (enc .u8 a2).toArray, undef, undef, .pointer (some ⟨b1, 0, none⟩), .slice none 0 0, .int .i64 x2, .slice z6_A z6_n z6_c, .int .i64 z5, .slice a0_A a0_n a0_c, .int .i64 (a0.length : Int), .int .i64 (iquo .i64 (a0.length : Int) 16), .int .i64 (isub .i64 (iquo .i64 (a0.length : Int) 16) 1), .slice a1_A a1_n a1_c, .slice a0_A a0_n a0_c, .slice s3_A s3_n s3_c, .slice r4_A r4_n r4_c, (g10 18), (g10 19), (g10 20), (g10 21), (g10 22), (g10 23), (g10 24), (g10 25), (g10 26), (g10 27), (g10 28), (g10 29), (g10 30), (g10 31), (g10 32), (g10 33), (g10 34), (g10 35), (g10 36), (g10 37), (g10 38), (g10 39), (g10 40), (g10 41), undef], []⟩) K ⟨1, r4, r4_A, r4_n, r4_c, hy, hs.conv rfl, exg (by kernel_rfl)⟩ ?_
  clear hs h hy
  rintro n a w ⟨z5, z6, z6_A, z6_n, z6_c, h, hs, g10, rfl⟩ KL0 kl0
  cases n with
  | zero => exact nomatch (show none = some _ from h)
  | succ n =>
   refine xseq_k fun KS12 ks12 => ?_
   refine xseq_k fun KS13 ks13 => ?_
   refine xregS [0, 1, 2] fun KR14 kr14 => ?_
   refine wpS.qs [(0, 18, .int .i64 z5), (1, 19, .int .i64 x2)] ?_
   rcases of_if h with ⟨hc, h⟩ | ⟨hc, h⟩
   ·refine wpS.tk 2 false (some 20) (.bool true) (yld_b (dt hc) (fun _ => by kernel_rfl)) ?_
    refine wpS.fin rfl (kr14 _ _ (then_n (ks13 _ _ (wp_cond_t (by kernel_rfl) (xskip (then_n (ks12 _ _ (xseq_k fun KS15 ks15 => (xblock (xseq_k fun KS16 ks16 => (xregS [0, 1, 2, 3, 4] fun KR17 kr17 => ?_)))))))))))
    refine wpS.q 0 23 (.slice z6_A z6_n z6_c) ?_
    refine wpS.tk 1 true (some 24) (.agg (enc .u8 a2).toArray) (yld_loadW (e := 46) (n := 256) hs 1 rfl (by kernel_rfl) (by kernel_rfl) (by kernel_rfl) (by exact enc_len _ _) .grow) ?_
    obtain ⟨r8, hg, h⟩ := of_bind h
    refine wpS.only 2 (op_callH (d := (some 25)) (by kernel_rfl) hs (fun _ => by kernel_rfl) (ref10_each.ok hg _ (hs.rowL 0 rfl)) ?_)
    rintro ⟨r8_A, r8_n, r8_c⟩ w gw hs
    have hs := hs.conv (L' := [.ownL (CI .u8) r8_A r8_n r8_c r8 5, .ownL (CI .u8) z6_A z6_n z6_c z6 5, .blk b1 (enc .u8 a2) 46]) rfl
    refine ⟨fun _ => trivial, ?_⟩
    obtain ⟨r9, hg, h⟩ := of_bind h
    refine wpS.only 3 (op_callH (d := (some 26)) (by kernel_rfl) hs (fun _ => by kernel_rfl) (ref10_rows.ok hg _ (hs.rowL 0 rfl)) ?_)
    rintro ⟨r9_A, r9_n, r9_c⟩ w gw hs
    have hs := hs.conv (L' := [.ownL (CI .u8) r9_A r9_n r9_c r9 5, .ownL (CI .u8) r8_A r8_n r8_c r8 5, .ownL (CI .u8) z6_A z6_n z6_c z6 5, .blk b1 (enc .u8 a2) 46]) rfl
    refine ⟨fun _ => trivial, ?_⟩
    refine wpS.q 4 8 (.slice r9_A r9_n r9_c) ?_
    refine wpS.fin rfl (kr17 _ _ (then_n (ks16 _ _ ?_)))
    obtain ⟨y10, hj, h⟩ := of_bind h
    refine xseq_k fun KS19 ks19 => wp_join (N := fun a w => ∃ (y10_A : Option Addr) (y10_n : Nat) (y10_c : Nat), St w0 [] [.ownL (CI .u8) y10_A y10_n y10_c y10 5, .ownL (CI .u8) r8_A r8_n r8_c r8 5, .ownL (CI .u8) z6_A z6_n z6_c z6 5, .blk b1 (enc .u8 a2) 46] [.rowL (CI .u8) s3_A s3_n s3_c (subL a0 0 16), .rowL (CI .u8) a0_A a0_n a0_c a0, .rowL (CI .u8) a1_A a1_n a1_c a1] w ∧ ∃ g18 : Nat → Value, a = ⟨#[.slice a0_A a0_n a0_c, .slice a1_A a1_n a1_c, .agg (enc .u8 a2).toArray, undef, undef, .pointer (some ⟨b1, 0, none⟩), .slice none 0 0, .int .i64 x2, .slice y10_A y10_n y10_c, .int .i64 z5, .slice a0_A a0_n a0_c, .int .i64 (a0.length : Int), .int .i64 (iquo .i64 (a0.length : Int) 16), .int .i64 (isub .i64 (iquo .i64 (a0.length : Int) 16) 1), .slice a1_A a1_n a1_c, .slice a0_A a0_n a0_c, .slice s3_A s3_n s3_c, .slice r4_A r4_n r4_c, .int .i64 z5, .int .i64 x2, .bool true, (g10 21), (g10 22), .slice z6_A z6_n z6_c, .agg (enc .u8 a2).toArray, .slice r8_A r8_n r8_c, .slice r9_A r9_n r9_c, (g18 27), (g18 28), (g18 29), (g18 30), (g18 31), (g18 32), (g10 33), (g10 34), (g10 35), (g10 36), (g10 37), (g10 38), (g10 39), (g10 40), (g10 41), undef], []⟩) (fun N nj => ?_) ?_
    ·clear h
     have h := hj
     refine xseq_k fun KS20 ks20 => ?_
     refine xregS [0, 1, 2] fun KR21 kr21 => ?_
     refine wpS.qs [(0, 27, .int .i64 z5), (1, 28, .int .i64 x2)] ?_
     rcases of_if h with ⟨hc, h⟩ | ⟨hc, h⟩
     ·refine wpS.tk 2 false (some 29) (.bool true) (yld_b (dt hc) (fun _ => by kernel_rfl)) ?_
      refine wpS.fin rfl (kr21 _ _ (then_n (ks20 _ _ (wp_cond_t (by kernel_rfl) (xregS [0, 1, 2, 3] fun KR22 kr22 => ?_)))))
      refine wpS.qs [(0, 30, .slice r9_A r9_n r9_c), (1, 31, .agg (enc .u8 (wr (wr (wr (wr (zeroA 4) 0 2) 1 3) 2 1) 3 1)).toArray)] ?_
      obtain ⟨r11, hg, h⟩ := of_bind h
      refine wpS.only 2 (op_callH (d := (some 32)) (by kernel_rfl) hs (fun _ => by kernel_rfl) (ref10_columns.ok hg _ (hs.rowL 0 rfl)) ?_)
      rintro ⟨r11_A, r11_n, r11_c⟩ w gw hs
      have hs := hs.conv (L' := [.ownL (CI .u8) r11_A r11_n r11_c r11 5, .ownL (CI .u8) r9_A r9_n r9_c r9 5, .ownL (CI .u8) r8_A r8_n r8_c r8 5, .ownL (CI .u8) z6_A z6_n z6_c z6 5, .blk b1 (enc .u8 a2) 46]) rfl
      refine ⟨fun _ => trivial, ?_⟩
      refine wpS.q 3 8 (.slice r11_A r11_n r11_c) ?_
      refine wpS.fin rfl (kr22 _ _ ?_)
      have q0 := of_some h
      subst q0
      exact nj _ _ ⟨r11_A, r11_n, r11_c, (hs.drop (.cons_cons _ (.cons _ (.cons_cons _ (.cons_cons _ (.cons_cons _ .slnil)))))), exg (by kernel_rfl)⟩
     refine wpS.tk 2 false (some 29) (.bool false) (yld_b (df hc) (fun _ => by kernel_rfl)) ?_
     refine wpS.fin rfl (kr21 _ _ (then_n (ks20 _ _ (wp_cond_f (by kernel_rfl) (xskip ?_)))))
     have q0 := of_some h
     subst q0
     exact nj _ _ ⟨r9_A, r9_n, r9_c, (hs.conv rfl), exg (by kernel_rfl)⟩
    clear hj hs
    rintro a w ⟨y10_A, y10_n, y10_c, hs, g18, rfl⟩
    refine then_n (ks19 _ _ (xregS [0, 1, 2, 3, 4, 5, 6, 7, 8, 9] fun KR23 kr23 => ?_))
    refine wpS.qs [(0, 33, .slice y10_A y10_n y10_c), (1, 34, .slice a0_A a0_n a0_c), (2, 35, .int .i64 z5), (3, 36, .int .i64 (imul .i64 16 z5)), (4, 37, .int .i64 z5), (5, 38, .int .i64 (imul .i64 16 z5)), (6, 39, .int .i64 (iadd .i64 (imul .i64 16 z5) 16))] ?_
    obtain ⟨h0, h⟩ := of_chk h
    obtain ⟨h1, h⟩ := of_chk h
    obtain ⟨h2, h⟩ := of_chk h
    obtain ⟨s12_A, hA⟩ : ∃ A, A = if a0_c = ((imul .i64 16 z5) : Int).toNat then a0_A else adr a0_A (((imul .i64 16 z5) : Int).toNat * Cod.size (CI .u8)) := ⟨_, rfl⟩
    obtain ⟨s12_n, hn⟩ : ∃ n, n = ((iadd .i64 (imul .i64 16 z5) 16) : Int).toNat - ((imul .i64 16 z5) : Int).toNat := ⟨_, rfl⟩
    obtain ⟨s12_c, hc⟩ : ∃ c, c = a0_c - ((imul .i64 16 z5) : Int).toNat := ⟨_, rfl⟩
    refine wpS.tk 7 false (some 40) (.slice s12_A s12_n s12_c) (yld_sub (C := (CI .u8)) (t := 26) (e := 5) (low := some (.int .i64 (imul .i64 16 z5))) (high := some (.int .i64 (iadd .i64 (imul .i64 16 z5) 16))) (lo := (imul .i64 16 z5)) (hi := (iadd .i64 (imul .i64 16 z5) 16)) (hs.rowR 1 rfl) (by kernel_rfl) (by kernel_rfl) (by kernel_rfl) (.inr ⟨_, rfl⟩) (.inr ⟨_, rfl⟩) h0 h1 h2 hA hn hc) ?_
    have hs := hs.addSub (C := (CI .u8)) 1 rfl h0 h1 h2 hA hn hc
    obtain ⟨r13, hg, h⟩ := of_bind h
    refine wpS.only 8 (op_callH (d := (some 41)) (by kernel_rfl) hs (fun _ => by kernel_rfl) (ref01_Xor.ok hg _ (hs.rowL 0 rfl) (hs.rowR 0 rfl)) ?_)
    rintro ⟨r13_A, r13_n, r13_c⟩ w gw hs
    have hs := hs.conv (L' := [.ownL (CI .u8) r13_A r13_n r13_c r13 5, .ownL (CI .u8) y10_A y10_n y10_c y10 5, .ownL (CI .u8) r8_A r8_n r8_c r8 5, .ownL (CI .u8) z6_A z6_n z6_c z6 5, .blk b1 (enc .u8 a2) 46]) rfl
    refine ⟨fun _ => trivial, ?_⟩
    refine wpS.q 9 8 (.slice r13_A r13_n r13_c) ?_
    refine wpS.fin rfl (kr23 _ _ (inBlock_n (then_n (ks15 _ _ (xregS [0, 1, 2] fun KR24 kr24 => ?_)))))
    refine wpS.qs [(0, 21, .int .i64 z5), (1, 22, .int .i64 (iadd .i64 z5 1))] ?_
    obtain ⟨x14, hx, h⟩ := of_bind h
    refine wpS.tk 2 false (some 9) (.int .i64 x14) (yld_int hx (fun _ => by kernel_rfl)) ?_
    refine wpS.fin rfl (kr24 _ _ ?_)
    exact then_n (kl0 _ _ ⟨n, Nat.lt_succ_self n, x14, r13, r13_A, r13_n, r13_c, h, ((hs.drop (.cons_cons _ (.cons _ (.cons _ (.cons _ (.cons_cons _ .slnil)))))).pickR (pick_cons 1 rfl (pick_cons 2 rfl (pick_cons 3 rfl pick_nil)))), exg (by kernel_rfl)⟩)
   refine wpS.tk 2 false (some 20) (.bool false) (yld_b (df hc) (fun _ => by kernel_rfl)) ?_
   refine wpS.fin rfl (kr14 _ _ (then_n (ks13 _ _ (wp_cond_f (by kernel_rfl) (xexit (then_x (then_x (inBlock_hit ?_))))))))
   have q0 := of_some h
   subst q0
   exact exq_n (nn0 _ _ ⟨z6_A, z6_n, z6_c, (hs.conv rfl), exg (by kernel_rfl)⟩)
 clear hs h hy
 rintro a w ⟨y7_A, y7_n, y7_c, hs, g11, rfl⟩
 have h := hk0
 refine then_n (ks7 _ _ (xseq_k fun KS25 ks25 => (xregS [0, 1] fun KR26 kr26 => ?_)))
 refine wpS.qs [(0, 42, .slice y7_A y7_n y7_c), (1, 6, .slice y7_A y7_n y7_c)] ?_
 refine wpS.fin rfl (kr26 _ _ (then_n (ks25 _ _ (xret ?_))))
 have q0 := of_some h
 subst q0
 exact qq _ _ (post_ret (by kernel_rfl) (run_results [.tmp 6] [.slice y7_A y7_n y7_c] (by kernel_rfl) (.cons (res_tmp (by kernel_rfl)) .nil)) ⟨⟨y7_A, y7_n, y7_c⟩, congrArg Ending.returned (by kernel_rfl), ((hs.drop (.cons_cons _ (.cons _ .slnil))).pickR pick_nil)⟩)
end Go.Proofs.Ytmpagpbnpgcecaa
