/- Printed by this work's own program: the code of each function below comes to the answer that its plain form tells. -/
import Derived.Test.YtmpagpbnpgcecaaMa
import Derived.Test.YtmpagpbnpgcecaaProg
import Derived.Test.YtmpagpbnpgcecaaLWrapTells
import Derived.Test.YtmpagpbnpgcecaaPX0
import Derived.Test.YtmpagpbnpgcecaaPX1
import Derived.Test.YtmpagpbnpgcecaaPX2
import Derived.Test.YtmpagpbnpgcecaaPX3
import Derived.Test.YtmpagpbnpgcecaaPX4
import Derived.Test.YtmpagpbnpgcecaaPX5
import Derived.Test.YtmpagpbnpgcecaaPX6
import Derived.Test.YtmpagpbnpgcecaaPX7
import Derived.Test.YtmpagpbnpgcecaaPX8
import Derived.Test.YtmpagpbnpgcecaaPX9
set_option linter.unusedVariables false
set_option linter.unusedSimpArgs false
set_option maxRecDepth 100000
set_option maxHeartbeats 4000000
namespace Go.Proofs.Ytmpagpbnpgcecaa
open Go.Mx
attribute [local irreducible] wpOp

theorem law11_WrapTells.ok {K : Nat} {a0 : List Int} {a1 : List Int} {r0 : Bool} {a0_A : Option Addr} {a0_n : Nat} {a0_c : Nat} {a1_A : Option Addr} {a1_n : Nat} {a1_c : Nat} (h : law11_WrapTells.f K a0 a1 = some r0) (w0 : World) (hp0 : RowL (CI .u8) w0 a0_A a0_n a0_c a0) (hp1 : RowL (CI .u8) w0 a1_A a1_n a1_c a1) : Ret Try.prog 5 #[.slice a0_A a0_n a0_c, .slice a1_A a1_n a1_c] w0 (.bool r0) := by
 refine calls_k Try.func5 rfl fun Q qq => ?_
 have hs := St.startR (all_cons (RowP.ent hp0) (all_cons (RowP.ent hp1) all_nil))
 refine wp_conv (a' := ⟨#[.slice a0_A a0_n a0_c, .slice a1_A a1_n a1_c, undef, undef, undef, undef, undef, undef, undef, undef, undef, undef, undef, undef, undef, undef, undef, undef, undef, undef, undef, undef, undef, undef, undef, undef, undef, undef, undef, undef, undef, undef, undef, undef, undef, undef, undef, undef, undef, undef, undef, undef, undef, undef, undef, undef, undef, undef, undef, undef, undef, undef, undef, undef, undef, undef, undef, undef, undef, undef, undef, undef, undef, undef, undef, undef, undef, undef, undef, undef, undef, undef], []⟩) (by kernel_rfl) ?_
 refine xseq_k fun KS1 ks1 => ?_
 refine xregS [0] fun KR2 kr2 => ?_
 refine wpS.q 0 4 (.bool false) ?_
 refine wpS.fin rfl (kr2 _ _ (then_n (ks1 _ _ ?_)))
 obtain ⟨tv4, hj, hk_4⟩ := of_bind h
 refine xseq_k fun KS4 ks4 => wp_exj (N := fun a w => tv4 = .inl () ∧ St w0 [] [] [.rowL (CI .u8) a0_A a0_n a0_c a0, .rowL (CI .u8) a1_A a1_n a1_c a1] w ∧ ∃ g3 : Nat → Value, a = ⟨#[.slice a0_A a0_n a0_c, .slice a1_A a1_n a1_c, undef, undef, (g3 4), undef, undef, undef, undef, undef, undef, undef, undef, (g3 13), (g3 14), (g3 15), (g3 16), (g3 17), (g3 18), (g3 19), (g3 20), (g3 21), (g3 22), (g3 23), (g3 24), (g3 25), (g3 26), undef, undef, undef, undef, undef, undef, undef, undef, undef, undef, undef, undef, undef, undef, undef, undef, undef, undef, undef, undef, undef, undef, undef, undef, undef, undef, undef, undef, undef, undef, undef, undef, undef, undef, undef, undef, undef, undef, undef, undef, undef, undef, undef, undef, undef], []⟩) (fun N nj => ?_) ?_
 ·clear h
  have h := hj
  refine xseq_k fun KS5 ks5 => ?_
  refine xregS [0, 1, 2, 3, 4, 5, 6, 7, 8, 9, 10, 11, 12] fun KR6 kr6 => ?_
  refine wpS.q 0 13 (.slice a0_A a0_n a0_c) ?_
  refine wpS.tk 1 false (some 14) (.int .i64 (a0.length : Int)) (yld_lenL (hs.rowR 0 rfl) (fun _ => by kernel_rfl)) ?_
  rcases of_if h with ⟨hc, h⟩ | ⟨hc, h⟩
  ·refine wpS.tk 2 false (some 15) (.bool true) (yld_b (dt hc) (fun _ => by kernel_rfl)) ?_
   refine wpS.qs [(3, 16, .bool true), (4, 17, undef), (5, 18, undef), (6, 19, undef), (7, 20, undef), (8, 21, undef), (9, 22, undef), (10, 23, undef), (11, 24, undef), (12, 25, .bool true)] ?_
   refine wpS.fin rfl (kr6 _ _ (then_n (ks5 _ _ (wp_cond_t (by kernel_rfl) (xseq_k fun KS7 ks7 => (xregS [0, 1] fun KR8 kr8 => ?_))))))
   obtain ⟨r1, hg, h⟩ := of_bind h
   refine wpS.only 0 (op_call (d := (some 26)) (by kernel_rfl) hs (fun _ => by kernel_rfl) (law11_awake.ok hg _) ?_)
   intro w gw hs
   refine ⟨fun _ => trivial, ?_⟩
   refine wpS.q 1 4 (.bool r1) ?_
   refine wpS.fin rfl (kr8 _ _ (then_n (ks7 _ _ (xret ?_))))
   have q0 := of_some h
   subst q0
   have h := hk_4
   refine exj_r ?_
   refine then_r ?_
   have q0 := of_some h
   subst q0
   exact qq _ _ (post_ret (by kernel_rfl) (run_results [.tmp 4] [.bool r1] (by kernel_rfl) (.cons (res_tmp (by kernel_rfl)) .nil)) ⟨congrArg Ending.returned (by kernel_rfl), hs.none⟩)
  refine wpS.tk 2 false (some 15) (.bool false) (yld_b (df hc) (fun _ => by kernel_rfl)) ?_
  refine wpS.qs [(3, 16, .bool false), (4, 17, .slice a1_A a1_n a1_c)] ?_
  refine wpS.tk 5 false (some 18) (.int .i64 (a1.length : Int)) (yld_lenL (hs.rowR 1 rfl) (fun _ => by kernel_rfl)) ?_
  rcases of_if h with ⟨hc, h⟩ | ⟨hc, h⟩
  ·refine wpS.tk 6 false (some 19) (.bool true) (yld_b (dt hc) (fun _ => by kernel_rfl)) ?_
   refine wpS.qs [(7, 20, .bool true), (8, 21, .slice a1_A a1_n a1_c)] ?_
   refine wpS.tk 9 false (some 22) (.int .i64 (a1.length : Int)) (yld_lenL (hs.rowR 1 rfl) (fun _ => by kernel_rfl)) ?_
   rcases of_if h with ⟨hc, h⟩ | ⟨hc, h⟩
   ·refine wpS.tk 10 false (some 23) (.bool true) (yld_b (dt hc) (fun _ => by kernel_rfl)) ?_
    refine wpS.qs [(11, 24, .bool true), (12, 25, .bool true)] ?_
    refine wpS.fin rfl (kr6 _ _ (then_n (ks5 _ _ (wp_cond_t (by kernel_rfl) (xseq_k fun KS9 ks9 => (xregS [0, 1] fun KR10 kr10 => ?_))))))
    obtain ⟨r2, hg, h⟩ := of_bind h
    refine wpS.only 0 (op_call (d := (some 26)) (by kernel_rfl) hs (fun _ => by kernel_rfl) (law11_awake.ok hg _) ?_)
    intro w gw hs
    refine ⟨fun _ => trivial, ?_⟩
    refine wpS.q 1 4 (.bool r2) ?_
    refine wpS.fin rfl (kr10 _ _ (then_n (ks9 _ _ (xret ?_))))
    have q0 := of_some h
    subst q0
    have h := hk_4
    refine exj_r ?_
    refine then_r ?_
    have q0 := of_some h
    subst q0
    exact qq _ _ (post_ret (by kernel_rfl) (run_results [.tmp 4] [.bool r2] (by kernel_rfl) (.cons (res_tmp (by kernel_rfl)) .nil)) ⟨congrArg Ending.returned (by kernel_rfl), hs.none⟩)
   refine wpS.tk 10 false (some 23) (.bool false) (yld_b (df hc) (fun _ => by kernel_rfl)) ?_
   refine wpS.qs [(11, 24, .bool false), (12, 25, .bool false)] ?_
   refine wpS.fin rfl (kr6 _ _ (then_n (ks5 _ _ (wp_cond_f (by kernel_rfl) (xskip ?_)))))
   have q0 := of_some h
   subst q0
   exact exj_n (nj _ _ ⟨rfl, (hs.conv rfl), exg (by kernel_rfl)⟩)
  refine wpS.tk 6 false (some 19) (.bool false) (yld_b (df hc) (fun _ => by kernel_rfl)) ?_
  refine wpS.qs [(7, 20, .bool false), (8, 21, undef), (9, 22, undef), (10, 23, undef), (11, 24, .bool false), (12, 25, .bool false)] ?_
  refine wpS.fin rfl (kr6 _ _ (then_n (ks5 _ _ (wp_cond_f (by kernel_rfl) (xskip ?_)))))
  have q0 := of_some h
  subst q0
  exact exj_n (nj _ _ ⟨rfl, (hs.conv rfl), exg (by kernel_rfl)⟩)
 clear hj hs
 rintro a w ⟨rfl, hs, g3, rfl⟩
 have h := hk_4
 refine then_n (ks4 _ _ (xseq_k fun KS11 ks11 => (xregS [0, 1, 2, 3, 4, 5, 6, 7] fun KR12 kr12 => ?_)))
 refine wpS.qs [(0, 28, .slice a0_A a0_n a0_c), (1, 29, .slice a1_A a1_n a1_c)] ?_
 obtain ⟨⟨r3, r4⟩, hg, h⟩ := of_bind h
 refine wpS.only 2 (op_callH (d := (some 30)) (by kernel_rfl) hs (fun _ => by kernel_rfl) (wrap_Wrap.ok hg _ (hs.rowR 0 rfl) (hs.rowR 1 rfl)) ?_)
 rintro ⟨r3_A, r3_n, r3_c⟩ w gw hs
 have hs := hs.conv (L' := [.ownL (CI .u8) r3_A r3_n r3_c r3 5]) rfl
 refine ⟨fun _ => trivial, ?_⟩
 refine wpS.qs [(3, 27, .tuple #[.slice r3_A r3_n r3_c, .int .i64 r4]), (4, 31, .slice r3_A r3_n r3_c), (5, 32, .int .i64 r4), (6, 5, .slice r3_A r3_n r3_c), (7, 6, .int .i64 r4)] ?_
 refine wpS.fin rfl (kr12 _ _ (then_n (ks11 _ _ (xseq_k fun KS13 ks13 => (xregS [0, 1, 2, 3, 4, 5, 6, 7] fun KR14 kr14 => ?_)))))
 refine wpS.qs [(0, 34, .slice a0_A a0_n a0_c), (1, 35, .slice a1_A a1_n a1_c)] ?_
 obtain ⟨⟨r5, r6⟩, hg, h⟩ := of_bind h
 refine wpS.only 2 (op_callH (d := (some 36)) (by kernel_rfl) hs (fun _ => by kernel_rfl) (ref11_Wrap.ok hg _ (hs.rowR 0 rfl) (hs.rowR 1 rfl)) ?_)
 rintro ⟨r5_A, r5_n, r5_c⟩ w gw hs
 have hs := hs.conv (L' := [.ownL (CI .u8) r5_A r5_n r5_c r5 5, .ownL (CI .u8) r3_A r3_n r3_c r3 5]) rfl
 refine ⟨fun _ => trivial, ?_⟩
 refine wpS.qs [(3, 33, .tuple #[.slice r5_A r5_n r5_c, .int .i64 r6]), (4, 37, .slice r5_A r5_n r5_c), (5, 38, .int .i64 r6), (6, 7, .slice r5_A r5_n r5_c), (7, 8, .int .i64 r6)] ?_
 refine wpS.fin rfl (kr14 _ _ (then_n (ks13 _ _ (xseq_k fun KS15 ks15 => (xregS [0, 1, 2, 3, 4, 5, 6, 7] fun KR16 kr16 => ?_)))))
 refine wpS.qs [(0, 40, .slice a0_A a0_n a0_c), (1, 41, .slice a1_A a1_n a1_c)] ?_
 obtain ⟨⟨r7, r8⟩, hg, h⟩ := of_bind h
 refine wpS.only 2 (op_callH (d := (some 42)) (by kernel_rfl) hs (fun _ => by kernel_rfl) (wrap_Unwrap.ok hg _ (hs.rowR 0 rfl) (hs.rowR 1 rfl)) ?_)
 rintro ⟨r7_A, r7_n, r7_c⟩ w gw hs
 have hs := hs.conv (L' := [.ownL (CI .u8) r7_A r7_n r7_c r7 5, .ownL (CI .u8) r5_A r5_n r5_c r5 5, .ownL (CI .u8) r3_A r3_n r3_c r3 5]) rfl
 refine ⟨fun _ => trivial, ?_⟩
 refine wpS.qs [(3, 39, .tuple #[.slice r7_A r7_n r7_c, .int .i64 r8]), (4, 43, .slice r7_A r7_n r7_c), (5, 44, .int .i64 r8), (6, 9, .slice r7_A r7_n r7_c), (7, 10, .int .i64 r8)] ?_
 refine wpS.fin rfl (kr16 _ _ (then_n (ks15 _ _ (xseq_k fun KS17 ks17 => (xregS [0, 1, 2, 3, 4, 5, 6, 7] fun KR18 kr18 => ?_)))))
 refine wpS.qs [(0, 46, .slice a0_A a0_n a0_c), (1, 47, .slice a1_A a1_n a1_c)] ?_
 obtain ⟨⟨r9, r10⟩, hg, h⟩ := of_bind h
 refine wpS.only 2 (op_callH (d := (some 48)) (by kernel_rfl) hs (fun _ => by kernel_rfl) (ref11_Unwrap.ok hg _ (hs.rowR 0 rfl) (hs.rowR 1 rfl)) ?_)
 rintro ⟨r9_A, r9_n, r9_c⟩ w gw hs
 have hs := hs.conv (L' := [.ownL (CI .u8) r9_A r9_n r9_c r9 5, .ownL (CI .u8) r7_A r7_n r7_c r7 5, .ownL (CI .u8) r5_A r5_n r5_c r5 5, .ownL (CI .u8) r3_A r3_n r3_c r3 5]) rfl
 refine ⟨fun _ => trivial, ?_⟩
 refine wpS.qs [(3, 45, .tuple #[.slice r9_A r9_n r9_c, .int .i64 r10]), (4, 49, .slice r9_A r9_n r9_c), (5, 50, .int .i64 r10), (6, 11, .slice r9_A r9_n r9_c), (7, 12, .int .i64 r10)] ?_
 refine wpS.fin rfl (kr18 _ _ (then_n (ks17 _ _ (xseq_k fun KS19 ks19 => (xregS [0, 1, 2, 3, 4, 5, 6, 7, 8, 9, 10, 11, 12, 13, 14, 15, 16, 17, 18, 19, 20, 21] fun KR20 kr20 => ?_)))))
 refine wpS.qs [(0, 51, .slice r3_A r3_n r3_c), (1, 52, .slice r5_A r5_n r5_c)] ?_
 obtain ⟨r11, hg, h⟩ := of_bind h
 cases r11 with
 | true =>
  have h := of_if_t h
  refine wpS.only 2 (op_call (d := (some 53)) (by kernel_rfl) hs (fun _ => by kernel_rfl) (ref01_Same.ok hg _ (hs.rowL 3 rfl) (hs.rowL 2 rfl)) ?_)
  intro w gw hs
  refine ⟨fun _ => trivial, ?_⟩
  refine wpS.qs [(3, 54, .bool true), (4, 55, .int .i64 r4), (5, 56, .int .i64 r6)] ?_
  rcases of_if h with ⟨hc, h⟩ | ⟨hc, h⟩
  ·refine wpS.tk 6 false (some 57) (.bool true) (yld_b (et hc) (fun _ => by kernel_rfl)) ?_
   refine wpS.qs [(7, 58, .bool true), (8, 59, .bool true), (9, 60, .slice r7_A r7_n r7_c), (10, 61, .slice r9_A r9_n r9_c)] ?_
   obtain ⟨r12, hg, h⟩ := of_bind h
   cases r12 with
   | true =>
    have h := of_if_t h
    refine wpS.only 11 (op_call (d := (some 62)) (by kernel_rfl) hs (fun _ => by kernel_rfl) (ref01_Same.ok hg _ (hs.rowL 1 rfl) (hs.rowL 0 rfl)) ?_)
    intro w gw hs
    refine ⟨fun _ => trivial, ?_⟩
    refine wpS.qs [(12, 63, .bool true), (13, 64, .bool true), (14, 65, .int .i64 r8), (15, 66, .int .i64 r10)] ?_
    rcases of_if h with ⟨hc, h⟩ | ⟨hc, h⟩
    ·refine wpS.tk 16 false (some 67) (.bool true) (yld_b (et hc) (fun _ => by kernel_rfl)) ?_
     refine wpS.qs [(17, 68, .bool true), (18, 69, .bool true)] ?_
     obtain ⟨r13, hg, h⟩ := of_bind h
     refine wpS.only 19 (op_call (d := (some 70)) (by kernel_rfl) hs (fun _ => by kernel_rfl) (law11_awake.ok hg _) ?_)
     intro w gw hs
     refine ⟨fun _ => trivial, ?_⟩
     refine wpS.qs [(20, 71, .bool r13), (21, 4, .bool r13)] ?_
     refine wpS.fin rfl (kr20 _ _ (then_n (ks19 _ _ (xret ?_))))
     have q0 := of_some h
     subst q0
     exact qq _ _ (post_ret (by kernel_rfl) (run_results [.tmp 4] [.bool r13] (by kernel_rfl) (.cons (res_tmp (by kernel_rfl)) .nil)) ⟨congrArg Ending.returned (by kernel_rfl), hs.none⟩)
    refine wpS.tk 16 false (some 67) (.bool false) (yld_b (ef hc) (fun _ => by kernel_rfl)) ?_
    refine wpS.qs [(17, 68, .bool false), (18, 69, .bool false), (19, 70, undef), (20, 71, .bool false), (21, 4, .bool false)] ?_
    refine wpS.fin rfl (kr20 _ _ (then_n (ks19 _ _ (xret ?_))))
    have q0 := of_some h
    subst q0
    exact qq _ _ (post_ret (by kernel_rfl) (run_results [.tmp 4] [.bool false] (by kernel_rfl) (.cons (res_tmp (by kernel_rfl)) .nil)) ⟨congrArg Ending.returned (by kernel_rfl), hs.none⟩)
   | false =>
    have h := of_if_f h
    refine wpS.only 11 (op_call (d := (some 62)) (by kernel_rfl) hs (fun _ => by kernel_rfl) (ref01_Same.ok hg _ (hs.rowL 1 rfl) (hs.rowL 0 rfl)) ?_)
    intro w gw hs
    refine ⟨fun _ => trivial, ?_⟩
    refine wpS.qs [(12, 63, .bool false), (13, 64, .bool false), (14, 65, undef), (15, 66, undef), (16, 67, undef), (17, 68, .bool false), (18, 69, .bool false), (19, 70, undef), (20, 71, .bool false), (21, 4, .bool false)] ?_
    refine wpS.fin rfl (kr20 _ _ (then_n (ks19 _ _ (xret ?_))))
    have q0 := of_some h
    subst q0
    exact qq _ _ (post_ret (by kernel_rfl) (run_results [.tmp 4] [.bool false] (by kernel_rfl) (.cons (res_tmp (by kernel_rfl)) .nil)) ⟨congrArg Ending.returned (by kernel_rfl), hs.none⟩)
  refine wpS.tk 6 false (some 57) (.bool false) (yld_b (ef hc) (fun _ => by kernel_rfl)) ?_
  refine wpS.qs [(7, 58, .bool false), (8, 59, .bool false), (9, 60, undef), (10, 61, undef), (11, 62, undef), (12, 63, .bool false), (13, 64, .bool false), (14, 65, undef), (15, 66, undef), (16, 67, undef), (17, 68, .bool false), (18, 69, .bool false), (19, 70, undef), (20, 71, .bool false), (21, 4, .bool false)] ?_
  refine wpS.fin rfl (kr20 _ _ (then_n (ks19 _ _ (xret ?_))))
  have q0 := of_some h
  subst q0
  exact qq _ _ (post_ret (by kernel_rfl) (run_results [.tmp 4] [.bool false] (by kernel_rfl) (.cons (res_tmp (by kernel_rfl)) .nil)) ⟨congrArg Ending.returned (by kernel_rfl), hs.none⟩)
 | false =>
  have h := of_if_f h
  refine wpS.only 2 (op_call (d := (some 53)) (by kernel_rfl) hs (fun _ => by kernel_rfl) (ref01_Same.ok hg _ (hs.rowL 3 rfl) (hs.rowL 2 rfl)) ?_)
  intro w gw hs
  refine ⟨fun _ => trivial, ?_⟩
  refine wpS.qs [(3, 54, .bool false), (4, 55, undef), (5, 56, undef), (6, 57, undef), (7, 58, .bool false), (8, 59, .bool false), (9, 60, undef), (10, 61, undef), (11, 62, undef), (12, 63, .bool false), (13, 64, .bool false), (14, 65, undef), (15, 66, undef), (16, 67, undef), (17, 68, .bool false), (18, 69, .bool false), (19, 70, undef), (20, 71, .bool false), (21, 4, .bool false)] ?_
  refine wpS.fin rfl (kr20 _ _ (then_n (ks19 _ _ (xret ?_))))
  have q0 := of_some h
  subst q0
  exact qq _ _ (post_ret (by kernel_rfl) (run_results [.tmp 4] [.bool false] (by kernel_rfl) (.cons (res_tmp (by kernel_rfl)) .nil)) ⟨congrArg Ending.returned (by kernel_rfl), hs.none⟩)
end Go.Proofs.Ytmpagpbnpgcecaa
