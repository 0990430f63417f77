/- Printed by this work's own program: the code of each function below comes to the answer that its plain form tells. -/
import Derived.Test.YtmpagpbnpgcecaaMa
import Derived.Test.YtmpagpbnpgcecaaProg
import Derived.Test.YtmpagpbnpgcecaaLWrapBack
import Derived.Test.YtmpagpbnpgcecaaQX0
import Derived.Test.YtmpagpbnpgcecaaQX1
import Derived.Test.YtmpagpbnpgcecaaQX2
import Derived.Test.YtmpagpbnpgcecaaQX3
import Derived.Test.YtmpagpbnpgcecaaQX4
import Derived.Test.YtmpagpbnpgcecaaQX5
set_option linter.unusedVariables false
set_option linter.unusedSimpArgs false
set_option maxRecDepth 100000
set_option maxHeartbeats 4000000
namespace Go.Proofs.Ytmpagpbnpgcecaa
open Go.Mx
attribute [local irreducible] wpOp

theorem law11_WrapBack.ok {K : Nat} {a0 : List Int} {a1 : List Int} {a2 : List Int} {r0 : Bool} {a0_A : Option Addr} {a0_n : Nat} {a0_c : Nat} {a1_A : Option Addr} {a1_n : Nat} {a1_c : Nat} {a2_A : Option Addr} {a2_n : Nat} {a2_c : Nat} (h : law11_WrapBack.f K a0 a1 a2 = some r0) (w0 : World) (hp0 : RowL (CI .u8) w0 a0_A a0_n a0_c a0) (hp1 : RowL (CI .u8) w0 a1_A a1_n a1_c a1) (hp2 : RowL (CI .u8) w0 a2_A a2_n a2_c a2) : Ret Try.prog 6 #[.slice a0_A a0_n a0_c, .slice a1_A a1_n a1_c, .slice a2_A a2_n a2_c] w0 (.bool r0) := by
 refine calls_k Try.func6 rfl fun Q qq => ?_
 have hs := St.startR (all_cons (RowP.ent hp0) (all_cons (RowP.ent hp1) (all_cons (RowP.ent hp2) all_nil)))
 refine wp_conv (a' := ⟨#[.slice a0_A a0_n a0_c, .slice a1_A a1_n a1_c, .slice a2_A a2_n a2_c, undef, undef, undef, undef, undef, undef, undef, undef, undef, undef, undef, undef, undef, undef, undef, undef, undef, undef, undef, undef, undef, undef, undef, undef, undef, undef, undef, undef, undef, undef, undef, undef, undef, undef, undef, undef, undef, undef, undef, undef, undef, undef, undef, undef, undef, undef, undef, undef, undef, undef, undef, undef, undef, undef, undef, undef, undef, undef, undef, undef, undef, undef, undef, undef, undef, undef, undef, undef, undef, undef, undef, undef, undef, undef, undef, undef, undef, undef, undef, undef, undef, undef, undef, undef, undef, undef, undef, undef, undef], []⟩) (by kernel_rfl) ?_
 refine xseq_k fun KS1 ks1 => ?_
 refine xregS [0] fun KR2 kr2 => ?_
 refine wpS.q 0 6 (.bool false) ?_
 refine wpS.fin rfl (kr2 _ _ (then_n (ks1 _ _ (xseq_k fun KS3 ks3 => (xseq_k fun KS4 ks4 => (xregS [0, 1, 2, 3, 4, 5, 6, 7, 8, 9, 10, 11, 12] fun KR5 kr5 => ?_))))))
 refine wpS.q 0 15 (.slice a0_A a0_n a0_c) ?_
 refine wpS.tk 1 false (some 16) (.int .i64 (a0.length : Int)) (yld_lenL (hs.rowR 0 rfl) (fun _ => by kernel_rfl)) ?_
 rcases of_if h with ⟨hc, h⟩ | ⟨hc, h⟩
 ·refine wpS.tk 2 false (some 17) (.bool true) (yld_b (dt hc) (fun _ => by kernel_rfl)) ?_
  refine wpS.qs [(3, 18, .bool true), (4, 19, undef), (5, 20, undef), (6, 21, undef), (7, 22, .bool true), (8, 23, .bool true), (9, 24, undef), (10, 25, undef), (11, 26, undef), (12, 27, .bool true)] ?_
  refine wpS.fin rfl (kr5 _ _ (then_n (ks4 _ _ (wp_cond_t (by kernel_rfl) (xseq_k fun KS6 ks6 => (xregS [0, 1] fun KR7 kr7 => ?_))))))
  obtain ⟨r1, hg, h⟩ := of_bind h
  refine wpS.only 0 (op_call (d := (some 28)) (by kernel_rfl) hs (fun _ => by kernel_rfl) (law11_awake.ok hg _) ?_)
  intro w gw hs
  refine ⟨fun _ => trivial, ?_⟩
  refine wpS.q 1 6 (.bool r1) ?_
  refine wpS.fin rfl (kr7 _ _ (then_n (ks6 _ _ (xret (then_r ?_)))))
  have q0 := of_some h
  subst q0
  exact qq _ _ (post_ret (by kernel_rfl) (run_results [.tmp 6] [.bool r1] (by kernel_rfl) (.cons (res_tmp (by kernel_rfl)) .nil)) ⟨congrArg Ending.returned (by kernel_rfl), hs.none⟩)
 refine wpS.tk 2 false (some 17) (.bool false) (yld_b (df hc) (fun _ => by kernel_rfl)) ?_
 refine wpS.qs [(3, 18, .bool false), (4, 19, .slice a1_A a1_n a1_c)] ?_
 refine wpS.tk 5 false (some 20) (.int .i64 (a1.length : Int)) (yld_lenL (hs.rowR 1 rfl) (fun _ => by kernel_rfl)) ?_
 rcases of_if h with ⟨hc, h⟩ | ⟨hc, h⟩
 ·refine wpS.tk 6 false (some 21) (.bool true) (yld_b (dt hc) (fun _ => by kernel_rfl)) ?_
  refine wpS.qs [(7, 22, .bool true), (8, 23, .bool true), (9, 24, undef), (10, 25, undef), (11, 26, undef), (12, 27, .bool true)] ?_
  refine wpS.fin rfl (kr5 _ _ (then_n (ks4 _ _ (wp_cond_t (by kernel_rfl) (xseq_k fun KS8 ks8 => (xregS [0, 1] fun KR9 kr9 => ?_))))))
  obtain ⟨r2, hg, h⟩ := of_bind h
  refine wpS.only 0 (op_call (d := (some 28)) (by kernel_rfl) hs (fun _ => by kernel_rfl) (law11_awake.ok hg _) ?_)
  intro w gw hs
  refine ⟨fun _ => trivial, ?_⟩
  refine wpS.q 1 6 (.bool r2) ?_
  refine wpS.fin rfl (kr9 _ _ (then_n (ks8 _ _ (xret (then_r ?_)))))
  have q0 := of_some h
  subst q0
  exact qq _ _ (post_ret (by kernel_rfl) (run_results [.tmp 6] [.bool r2] (by kernel_rfl) (.cons (res_tmp (by kernel_rfl)) .nil)) ⟨congrArg Ending.returned (by kernel_rfl), hs.none⟩)
 refine wpS.tk 6 false (some 21) (.bool false) (yld_b (df hc) (fun _ => by kernel_rfl)) ?_
 refine wpS.qs [(7, 22, .bool false), (8, 23, .bool false), (9, 24, .slice a2_A a2_n a2_c)] ?_
 refine wpS.tk 10 false (some 25) (.int .i64 (a2.length : Int)) (yld_lenL (hs.rowR 2 rfl) (fun _ => by kernel_rfl)) ?_
 rcases of_if h with ⟨hc, h⟩ | ⟨hc, h⟩
 ·refine wpS.tk 11 false (some 26) (.bool true) (yld_b (dt hc) (fun _ => by kernel_rfl)) ?_
  refine wpS.q 12 27 (.bool true) ?_
  refine wpS.fin rfl (kr5 _ _ (then_n (ks4 _ _ (wp_cond_t (by kernel_rfl) (xseq_k fun KS10 ks10 => (xregS [0, 1] fun KR11 kr11 => ?_))))))
  obtain ⟨r3, hg, h⟩ := of_bind h
  refine wpS.only 0 (op_call (d := (some 28)) (by kernel_rfl) hs (fun _ => by kernel_rfl) (law11_awake.ok hg _) ?_)
  intro w gw hs
  refine ⟨fun _ => trivial, ?_⟩
  refine wpS.q 1 6 (.bool r3) ?_
  refine wpS.fin rfl (kr11 _ _ (then_n (ks10 _ _ (xret (then_r ?_)))))
  have q0 := of_some h
  subst q0
  exact qq _ _ (post_ret (by kernel_rfl) (run_results [.tmp 6] [.bool r3] (by kernel_rfl) (.cons (res_tmp (by kernel_rfl)) .nil)) ⟨congrArg Ending.returned (by kernel_rfl), hs.none⟩)
 refine wpS.tk 11 false (some 26) (.bool false) (yld_b (df hc) (fun _ => by kernel_rfl)) ?_
 refine wpS.q 12 27 (.bool false) ?_
 refine wpS.fin rfl (kr5 _ _ (then_n (ks4 _ _ (wp_cond_f (by kernel_rfl) (xskip (then_n (ks3 _ _ (xseq_k fun KS12 ks12 => (xregS [0, 1, 2, 3, 4, 5, 6, 7] fun KR13 kr13 => ?_)))))))))
 refine wpS.qs [(0, 30, .slice a0_A a0_n a0_c), (1, 31, .slice a1_A a1_n a1_c)] ?_
 obtain ⟨⟨r4, r5⟩, hg, h⟩ := of_bind h
 refine wpS.only 2 (op_callH (d := (some 32)) (by kernel_rfl) hs (fun _ => by kernel_rfl) (wrap_Wrap.ok hg _ (hs.rowR 0 rfl) (hs.rowR 1 rfl)) ?_)
 rintro ⟨r4_A, r4_n, r4_c⟩ w gw hs
 have hs := hs.conv (L' := [.ownL (CI .u8) r4_A r4_n r4_c r4 5]) rfl
 refine ⟨fun _ => trivial, ?_⟩
 refine wpS.qs [(3, 29, .tuple #[.slice r4_A r4_n r4_c, .int .i64 r5]), (4, 33, .slice r4_A r4_n r4_c), (5, 34, .int .i64 r5), (6, 7, .slice r4_A r4_n r4_c), (7, 8, .int .i64 r5)] ?_
 refine wpS.fin rfl (kr13 _ _ (then_n (ks12 _ _ ?_)))
 obtain ⟨tv15, hj, hk_15⟩ := of_bind h
 refine xseq_k fun KS15 ks15 => wp_exj (N := fun a w => tv15 = .inl () ∧ St w0 [] [.ownL (CI .u8) r4_A r4_n r4_c r4 5] [.rowL (CI .u8) a0_A a0_n a0_c a0, .rowL (CI .u8) a1_A a1_n a1_c a1, .rowL (CI .u8) a2_A a2_n a2_c a2] w ∧ ∃ g14 : Nat → Value, a = ⟨#[.slice a0_A a0_n a0_c, .slice a1_A a1_n a1_c, .slice a2_A a2_n a2_c, undef, undef, undef, (g14 6), .slice r4_A r4_n r4_c, .int .i64 r5, (g14 9), (g14 10), undef, undef, undef, undef, .slice a0_A a0_n a0_c, .int .i64 (a0.length : Int), .bool false, .bool false, .slice a1_A a1_n a1_c, .int .i64 (a1.length : Int), .bool false, .bool false, .bool false, .slice a2_A a2_n a2_c, .int .i64 (a2.length : Int), .bool false, .bool false, undef, .tuple #[.slice r4_A r4_n r4_c, .int .i64 r5], .slice a0_A a0_n a0_c, .slice a1_A a1_n a1_c, .tuple #[.slice r4_A r4_n r4_c, .int .i64 r5], .slice r4_A r4_n r4_c, .int .i64 r5, (g14 35), (g14 36), (g14 37), (g14 38), (g14 39), (g14 40), (g14 41), (g14 42), (g14 43), (g14 44), (g14 45), (g14 46), (g14 47), (g14 48), (g14 49), (g14 50), (g14 51), (g14 52), (g14 53), (g14 54), (g14 55), (g14 56), (g14 57), (g14 58), (g14 59), (g14 60), (g14 61), undef, undef, undef, undef, undef, undef, undef, undef, undef, undef, undef, undef, undef, undef, undef, undef, undef, undef, undef, undef, undef, undef, undef, undef, undef, undef, undef, undef, undef, undef], []⟩) (fun N nj => ?_) ?_
 ·clear h
  have h := hj
  refine xseq_k fun KS16 ks16 => ?_
  refine xregS [0, 1] fun KR17 kr17 => ?_
  refine wpS.q 0 35 (.int .i64 r5) ?_
  rcases of_if h with ⟨hc, h⟩ | ⟨hc, h⟩
  ·refine wpS.tk 1 false (some 36) (.bool true) (yld_b (et hc) (fun _ => by kernel_rfl)) ?_
   refine wpS.fin rfl (kr17 _ _ (then_n (ks16 _ _ (wp_cond_t (by kernel_rfl) (xseq_k fun KS18 ks18 => (xregS [0, 1, 2, 3, 4, 5, 6, 7] fun KR19 kr19 => ?_))))))
   refine wpS.qs [(0, 38, .slice a0_A a0_n a0_c), (1, 39, .slice r4_A r4_n r4_c)] ?_
   obtain ⟨⟨r6, r7⟩, hg, h⟩ := of_bind h
   refine wpS.only 2 (op_callH (d := (some 40)) (by kernel_rfl) hs (fun _ => by kernel_rfl) (wrap_Unwrap.ok hg _ (hs.rowR 0 rfl) (hs.rowL 0 rfl)) ?_)
   rintro ⟨r6_A, r6_n, r6_c⟩ w gw hs
   have hs := hs.conv (L' := [.ownL (CI .u8) r6_A r6_n r6_c r6 5, .ownL (CI .u8) r4_A r4_n r4_c r4 5]) rfl
   refine ⟨fun _ => trivial, ?_⟩
   refine wpS.qs [(3, 37, .tuple #[.slice r6_A r6_n r6_c, .int .i64 r7]), (4, 41, .slice r6_A r6_n r6_c), (5, 42, .int .i64 r7), (6, 9, .slice r6_A r6_n r6_c), (7, 10, .int .i64 r7)] ?_
   refine wpS.fin rfl (kr19 _ _ (then_n (ks18 _ _ (xseq_k fun KS20 ks20 => (xregS [0, 1, 2, 3, 4, 5, 6, 7, 8, 9, 10, 11, 12, 13, 14, 15] fun KR21 kr21 => ?_)))))
   refine wpS.q 0 43 (.int .i64 r7) ?_
   rcases of_if h with ⟨hc, h⟩ | ⟨hc, h⟩
   ·refine wpS.tk 1 false (some 44) (.bool false) (yld_b (nf hc) (fun _ => by kernel_rfl)) ?_
    refine wpS.qs [(2, 45, .bool false), (3, 46, .slice r6_A r6_n r6_c), (4, 47, .slice a1_A a1_n a1_c)] ?_
    obtain ⟨r8, hg, h⟩ := of_bind h
    cases r8 with
    | true =>
     have h := of_if_t h
     refine wpS.only 5 (op_call (d := (some 48)) (by kernel_rfl) hs (fun _ => by kernel_rfl) (ref01_Same.ok hg _ (hs.rowL 0 rfl) (hs.rowR 1 rfl)) ?_)
     intro w gw hs
     refine ⟨fun _ => trivial, ?_⟩
     refine wpS.qs [(6, 49, .bool false), (7, 50, .bool false), (8, 51, .bool false), (9, 52, .slice r4_A r4_n r4_c)] ?_
     refine wpS.tk 10 false (some 53) (.int .i64 (r4.length : Int)) (yld_lenL (hs.rowL 1 rfl) (fun _ => by kernel_rfl)) ?_
     refine wpS.q 11 54 (.slice a1_A a1_n a1_c) ?_
     refine wpS.tk 12 false (some 55) (.int .i64 (a1.length : Int)) (yld_lenL (hs.rowR 1 rfl) (fun _ => by kernel_rfl)) ?_
     refine wpS.q 13 56 (.int .i64 (iadd .i64 (a1.length : Int) 8)) ?_
     rcases of_if h with ⟨hc, h⟩ | ⟨hc, h⟩
     ·refine wpS.tk 14 false (some 57) (.bool false) (yld_b (nf hc) (fun _ => by kernel_rfl)) ?_
      refine wpS.q 15 58 (.bool false) ?_
      refine wpS.fin rfl (kr21 _ _ (then_n (ks20 _ _ (wp_cond_f (by kernel_rfl) (xskip ?_)))))
      have q0 := of_some h
      subst q0
      exact exj_n (nj _ _ ⟨rfl, (hs.drop (.cons _ (.cons_cons _ .slnil))), exg (by kernel_rfl)⟩)
     refine wpS.tk 14 false (some 57) (.bool true) (yld_b (nt hc) (fun _ => by kernel_rfl)) ?_
     refine wpS.q 15 58 (.bool true) ?_
     refine wpS.fin rfl (kr21 _ _ (then_n (ks20 _ _ (wp_cond_t (by kernel_rfl) (xseq_k fun KS22 ks22 => (xregS [0] fun KR23 kr23 => ?_))))))
     refine wpS.q 0 6 (.bool false) ?_
     refine wpS.fin rfl (kr23 _ _ (then_n (ks22 _ _ (xret ?_))))
     have q0 := of_some h
     subst q0
     have h := hk_15
     refine exj_r ?_
     refine then_r ?_
     have q0 := of_some h
     subst q0
     exact qq _ _ (post_ret (by kernel_rfl) (run_results [.tmp 6] [.bool false] (by kernel_rfl) (.cons (res_tmp (by kernel_rfl)) .nil)) ⟨congrArg Ending.returned (by kernel_rfl), hs.none⟩)
    | false =>
     have h := of_if_f h
     refine wpS.only 5 (op_call (d := (some 48)) (by kernel_rfl) hs (fun _ => by kernel_rfl) (ref01_Same.ok hg _ (hs.rowL 0 rfl) (hs.rowR 1 rfl)) ?_)
     intro w gw hs
     refine ⟨fun _ => trivial, ?_⟩
     refine wpS.qs [(6, 49, .bool true), (7, 50, .bool true), (8, 51, .bool true), (9, 52, undef), (10, 53, undef), (11, 54, undef), (12, 55, undef), (13, 56, undef), (14, 57, undef), (15, 58, .bool true)] ?_
     refine wpS.fin rfl (kr21 _ _ (then_n (ks20 _ _ (wp_cond_t (by kernel_rfl) (xseq_k fun KS24 ks24 => (xregS [0] fun KR25 kr25 => ?_))))))
     refine wpS.q 0 6 (.bool false) ?_
     refine wpS.fin rfl (kr25 _ _ (then_n (ks24 _ _ (xret ?_))))
     have q0 := of_some h
     subst q0
     have h := hk_15
     refine exj_r ?_
     refine then_r ?_
     have q0 := of_some h
     subst q0
     exact qq _ _ (post_ret (by kernel_rfl) (run_results [.tmp 6] [.bool false] (by kernel_rfl) (.cons (res_tmp (by kernel_rfl)) .nil)) ⟨congrArg Ending.returned (by kernel_rfl), hs.none⟩)
   refine wpS.tk 1 false (some 44) (.bool true) (yld_b (nt hc) (fun _ => by kernel_rfl)) ?_
   refine wpS.qs [(2, 45, .bool true), (3, 46, undef), (4, 47, undef), (5, 48, undef), (6, 49, undef), (7, 50, .bool true), (8, 51, .bool true), (9, 52, undef), (10, 53, undef), (11, 54, undef), (12, 55, undef), (13, 56, undef), (14, 57, undef), (15, 58, .bool true)] ?_
   refine wpS.fin rfl (kr21 _ _ (then_n (ks20 _ _ (wp_cond_t (by kernel_rfl) (xseq_k fun KS26 ks26 => (xregS [0] fun KR27 kr27 => ?_))))))
   refine wpS.q 0 6 (.bool false) ?_
   refine wpS.fin rfl (kr27 _ _ (then_n (ks26 _ _ (xret ?_))))
   have q0 := of_some h
   subst q0
   have h := hk_15
   refine exj_r ?_
   refine then_r ?_
   have q0 := of_some h
   subst q0
   exact qq _ _ (post_ret (by kernel_rfl) (run_results [.tmp 6] [.bool false] (by kernel_rfl) (.cons (res_tmp (by kernel_rfl)) .nil)) ⟨congrArg Ending.returned (by kernel_rfl), hs.none⟩)
  refine wpS.tk 1 false (some 36) (.bool false) (yld_b (ef hc) (fun _ => by kernel_rfl)) ?_
  refine wpS.fin rfl (kr17 _ _ (then_n (ks16 _ _ (wp_cond_f (by kernel_rfl) (xseq_k fun KS28 ks28 => (xregS [0, 1, 2] fun KR29 kr29 => ?_))))))
  refine wpS.q 0 59 (.slice r4_A r4_n r4_c) ?_
  refine wpS.tk 1 false (some 60) (.int .i64 (r4.length : Int)) (yld_lenL (hs.rowL 0 rfl) (fun _ => by kernel_rfl)) ?_
  rcases of_if h with ⟨hc, h⟩ | ⟨hc, h⟩
  ·refine wpS.tk 2 false (some 61) (.bool true) (yld_b (dt hc) (fun _ => by kernel_rfl)) ?_
   refine wpS.fin rfl (kr29 _ _ (then_n (ks28 _ _ (wp_cond_t (by kernel_rfl) (xseq_k fun KS30 ks30 => (xregS [0] fun KR31 kr31 => ?_))))))
   refine wpS.q 0 6 (.bool false) ?_
   refine wpS.fin rfl (kr31 _ _ (then_n (ks30 _ _ (xret ?_))))
   have q0 := of_some h
   subst q0
   have h := hk_15
   refine exj_r ?_
   refine then_r ?_
   have q0 := of_some h
   subst q0
   exact qq _ _ (post_ret (by kernel_rfl) (run_results [.tmp 6] [.bool false] (by kernel_rfl) (.cons (res_tmp (by kernel_rfl)) .nil)) ⟨congrArg Ending.returned (by kernel_rfl), hs.none⟩)
  refine wpS.tk 2 false (some 61) (.bool false) (yld_b (df hc) (fun _ => by kernel_rfl)) ?_
  refine wpS.fin rfl (kr29 _ _ (then_n (ks28 _ _ (wp_cond_f (by kernel_rfl) (xskip ?_)))))
  have q0 := of_some h
  subst q0
  exact exj_n (nj _ _ ⟨rfl, (hs.conv rfl), exg (by kernel_rfl)⟩)
 clear hj hs
 rintro a w ⟨rfl, hs, g14, rfl⟩
 have h := hk_15
 refine then_n (ks15 _ _ (xseq_k fun KS32 ks32 => (xregS [0, 1, 2, 3, 4, 5, 6, 7] fun KR33 kr33 => ?_)))
 refine wpS.qs [(0, 63, .slice a0_A a0_n a0_c), (1, 64, .slice a2_A a2_n a2_c)] ?_
 obtain ⟨⟨r9, r10⟩, hg, h⟩ := of_bind h
 refine wpS.only 2 (op_callH (d := (some 65)) (by kernel_rfl) hs (fun _ => by kernel_rfl) (wrap_Unwrap.ok hg _ (hs.rowR 0 rfl) (hs.rowR 2 rfl)) ?_)
 rintro ⟨r9_A, r9_n, r9_c⟩ w gw hs
 have hs := hs.conv (L' := [.ownL (CI .u8) r9_A r9_n r9_c r9 5, .ownL (CI .u8) r4_A r4_n r4_c r4 5]) rfl
 refine ⟨fun _ => trivial, ?_⟩
 refine wpS.qs [(3, 62, .tuple #[.slice r9_A r9_n r9_c, .int .i64 r10]), (4, 66, .slice r9_A r9_n r9_c), (5, 67, .int .i64 r10), (6, 11, .slice r9_A r9_n r9_c), (7, 12, .int .i64 r10)] ?_
 refine wpS.fin rfl (kr33 _ _ (then_n (ks32 _ _ (xseq_k fun KS34 ks34 => (xseq_k fun KS35 ks35 => (xregS [0, 1] fun KR36 kr36 => ?_))))))
 refine wpS.q 0 68 (.int .i64 r10) ?_
 rcases of_if h with ⟨hc, h⟩ | ⟨hc, h⟩
 ·refine wpS.tk 1 false (some 69) (.bool false) (yld_b (nf hc) (fun _ => by kernel_rfl)) ?_
  refine wpS.fin rfl (kr36 _ _ (then_n (ks35 _ _ (wp_cond_f (by kernel_rfl) (xskip (then_n (ks34 _ _ (xseq_k fun KS37 ks37 => (xregS [0, 1, 2, 3, 4, 5, 6, 7] fun KR38 kr38 => ?_)))))))))
  refine wpS.qs [(0, 77, .slice a0_A a0_n a0_c), (1, 78, .slice r9_A r9_n r9_c)] ?_
  obtain ⟨⟨r11, r12⟩, hg, h⟩ := of_bind h
  refine wpS.only 2 (op_callH (d := (some 79)) (by kernel_rfl) hs (fun _ => by kernel_rfl) (wrap_Wrap.ok hg _ (hs.rowR 0 rfl) (hs.rowL 0 rfl)) ?_)
  rintro ⟨r11_A, r11_n, r11_c⟩ w gw hs
  have hs := hs.conv (L' := [.ownL (CI .u8) r11_A r11_n r11_c r11 5, .ownL (CI .u8) r9_A r9_n r9_c r9 5, .ownL (CI .u8) r4_A r4_n r4_c r4 5]) rfl
  refine ⟨fun _ => trivial, ?_⟩
  refine wpS.qs [(3, 76, .tuple #[.slice r11_A r11_n r11_c, .int .i64 r12]), (4, 80, .slice r11_A r11_n r11_c), (5, 81, .int .i64 r12), (6, 13, .slice r11_A r11_n r11_c), (7, 14, .int .i64 r12)] ?_
  refine wpS.fin rfl (kr38 _ _ (then_n (ks37 _ _ (xseq_k fun KS39 ks39 => (xregS [0, 1, 2, 3, 4, 5, 6, 7, 8, 9, 10] fun KR40 kr40 => ?_)))))
  refine wpS.q 0 82 (.int .i64 r12) ?_
  rcases of_if h with ⟨hc, h⟩ | ⟨hc, h⟩
  ·refine wpS.tk 1 false (some 83) (.bool true) (yld_b (et hc) (fun _ => by kernel_rfl)) ?_
   refine wpS.qs [(2, 84, .bool true), (3, 85, .slice r11_A r11_n r11_c), (4, 86, .slice a2_A a2_n a2_c)] ?_
   obtain ⟨r13, hg, h⟩ := of_bind h
   cases r13 with
   | true =>
    have h := of_if_t h
    refine wpS.only 5 (op_call (d := (some 87)) (by kernel_rfl) hs (fun _ => by kernel_rfl) (ref01_Same.ok hg _ (hs.rowL 0 rfl) (hs.rowR 2 rfl)) ?_)
    intro w gw hs
    refine ⟨fun _ => trivial, ?_⟩
    refine wpS.qs [(6, 88, .bool true), (7, 89, .bool true)] ?_
    obtain ⟨r14, hg, h⟩ := of_bind h
    refine wpS.only 8 (op_call (d := (some 90)) (by kernel_rfl) hs (fun _ => by kernel_rfl) (law11_awake.ok hg _) ?_)
    intro w gw hs
    refine ⟨fun _ => trivial, ?_⟩
    refine wpS.qs [(9, 91, .bool r14), (10, 6, .bool r14)] ?_
    refine wpS.fin rfl (kr40 _ _ (then_n (ks39 _ _ (xret ?_))))
    have q0 := of_some h
    subst q0
    exact qq _ _ (post_ret (by kernel_rfl) (run_results [.tmp 6] [.bool r14] (by kernel_rfl) (.cons (res_tmp (by kernel_rfl)) .nil)) ⟨congrArg Ending.returned (by kernel_rfl), hs.none⟩)
   | false =>
    have h := of_if_f h
    refine wpS.only 5 (op_call (d := (some 87)) (by kernel_rfl) hs (fun _ => by kernel_rfl) (ref01_Same.ok hg _ (hs.rowL 0 rfl) (hs.rowR 2 rfl)) ?_)
    intro w gw hs
    refine ⟨fun _ => trivial, ?_⟩
    refine wpS.qs [(6, 88, .bool false), (7, 89, .bool false), (8, 90, undef), (9, 91, .bool false), (10, 6, .bool false)] ?_
    refine wpS.fin rfl (kr40 _ _ (then_n (ks39 _ _ (xret ?_))))
    have q0 := of_some h
    subst q0
    exact qq _ _ (post_ret (by kernel_rfl) (run_results [.tmp 6] [.bool false] (by kernel_rfl) (.cons (res_tmp (by kernel_rfl)) .nil)) ⟨congrArg Ending.returned (by kernel_rfl), hs.none⟩)
  refine wpS.tk 1 false (some 83) (.bool false) (yld_b (ef hc) (fun _ => by kernel_rfl)) ?_
  refine wpS.qs [(2, 84, .bool false), (3, 85, undef), (4, 86, undef), (5, 87, undef), (6, 88, .bool false), (7, 89, .bool false), (8, 90, undef), (9, 91, .bool false), (10, 6, .bool false)] ?_
  refine wpS.fin rfl (kr40 _ _ (then_n (ks39 _ _ (xret ?_))))
  have q0 := of_some h
  subst q0
  exact qq _ _ (post_ret (by kernel_rfl) (run_results [.tmp 6] [.bool false] (by kernel_rfl) (.cons (res_tmp (by kernel_rfl)) .nil)) ⟨congrArg Ending.returned (by kernel_rfl), hs.none⟩)
 refine wpS.tk 1 false (some 69) (.bool true) (yld_b (nt hc) (fun _ => by kernel_rfl)) ?_
 refine wpS.fin rfl (kr36 _ _ (then_n (ks35 _ _ (wp_cond_t (by kernel_rfl) (xseq_k fun KS41 ks41 => (xregS [0, 1, 2, 3, 4, 5, 6] fun KR42 kr42 => ?_))))))
 refine wpS.q 0 70 (.slice r9_A r9_n r9_c) ?_
 refine wpS.tk 1 false (some 71) (.int .i64 (r9.length : Int)) (yld_lenL (hs.rowL 0 rfl) (fun _ => by kernel_rfl)) ?_
 rcases of_if h with ⟨hc, h⟩ | ⟨hc, h⟩
 ·refine wpS.tk 2 false (some 72) (.bool true) (yld_b (et hc) (fun _ => by kernel_rfl)) ?_
  refine wpS.q 3 73 (.bool true) ?_
  obtain ⟨r15, hg, h⟩ := of_bind h
  refine wpS.only 4 (op_call (d := (some 74)) (by kernel_rfl) hs (fun _ => by kernel_rfl) (law11_awake.ok hg _) ?_)
  intro w gw hs
  refine ⟨fun _ => trivial, ?_⟩
  refine wpS.qs [(5, 75, .bool r15), (6, 6, .bool r15)] ?_
  refine wpS.fin rfl (kr42 _ _ (then_n (ks41 _ _ (xret (then_r ?_)))))
  have q0 := of_some h
  subst q0
  exact qq _ _ (post_ret (by kernel_rfl) (run_results [.tmp 6] [.bool r15] (by kernel_rfl) (.cons (res_tmp (by kernel_rfl)) .nil)) ⟨congrArg Ending.returned (by kernel_rfl), hs.none⟩)
 refine wpS.tk 2 false (some 72) (.bool false) (yld_b (ef hc) (fun _ => by kernel_rfl)) ?_
 refine wpS.qs [(3, 73, .bool false), (4, 74, undef), (5, 75, .bool false), (6, 6, .bool false)] ?_
 refine wpS.fin rfl (kr42 _ _ (then_n (ks41 _ _ (xret (then_r ?_)))))
 have q0 := of_some h
 subst q0
 exact qq _ _ (post_ret (by kernel_rfl) (run_results [.tmp 6] [.bool false] (by kernel_rfl) (.cons (res_tmp (by kernel_rfl)) .nil)) ⟨congrArg Ending.returned (by kernel_rfl), hs.none⟩)
end Go.Proofs.Ytmpagpbnpgcecaa
