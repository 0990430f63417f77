/- Printed by this work's own program: the code of each function below comes to the answer that its plain form tells. -/
import Derived.Test.YtmpagpbnpgcecaaMd
import Derived.Test.YtmpagpbnpgcecaaProg
import Derived.Test.YtmpagpbnpgcecaaLAesBack
import Derived.Test.YtmpagpbnpgcecaaRX0
import Derived.Test.YtmpagpbnpgcecaaRX1
import Derived.Test.YtmpagpbnpgcecaaRX2
import Derived.Test.YtmpagpbnpgcecaaRX6
import Derived.Test.YtmpagpbnpgcecaaRX7
import Derived.Test.YtmpagpbnpgcecaaRX8
set_option linter.unusedVariables false
set_option linter.unusedSimpArgs false
set_option maxRecDepth 100000
set_option maxHeartbeats 4000000
namespace Go.Proofs.Ytmpagpbnpgcecaa
open Go.Mx
attribute [local irreducible] wpOp

theorem law10_AesBack.ok {K : Nat} {a0 : List Int} {a1 : List Int} {a2 : List Int} {a3 : List Int} {r0 : Bool} {a0_A : Option Addr} {a0_n : Nat} {a0_c : Nat} {a1_A : Option Addr} {a1_n : Nat} {a1_c : Nat} {a2_A : Option Addr} {a2_n : Nat} {a2_c : Nat} {a3_A : Option Addr} {a3_n : Nat} {a3_c : Nat} (h : law10_AesBack.f K a0 a1 a2 a3 = some r0) (w0 : World) (hp0 : RowL (CI .u8) w0 a0_A a0_n a0_c a0) (hp1 : RowL (CI .u8) w0 a1_A a1_n a1_c a1) (hp2 : RowL (CI .u8) w0 a2_A a2_n a2_c a2) (hp3 : RowL (CI .u8) w0 a3_A a3_n a3_c a3) : Ret Try.prog 12 #[.slice a0_A a0_n a0_c, .slice a1_A a1_n a1_c, .slice a2_A a2_n a2_c, .slice a3_A a3_n a3_c] w0 (.bool r0) := by
 refine calls_k Try.func12 rfl fun Q qq => ?_
 have hs := St.startR (all_cons (RowP.ent hp0) (all_cons (RowP.ent hp1) (all_cons (RowP.ent hp2) (all_cons (RowP.ent hp3) all_nil))))
 refine wp_conv (a' := ⟨#[.slice a0_A a0_n a0_c, .slice a1_A a1_n a1_c, .slice a2_A a2_n a2_c, .slice a3_A a3_n a3_c, undef, undef, undef, undef, undef, undef, undef, undef, undef, undef, undef, undef, undef, undef, undef, undef, undef, undef, undef, undef, undef, undef, undef, undef, undef, undef, undef, undef, undef, undef, undef, undef, undef, undef, undef, undef, undef, undef, undef, undef, undef, undef, undef, undef, undef, undef, undef, undef, undef, undef, undef, undef, undef, undef, undef, undef, undef, undef, undef, undef, undef, undef, undef, undef, undef, undef, undef, undef, undef, undef, undef, undef, undef, undef, undef, undef, undef, undef, undef, undef, undef, undef, undef, undef, undef, undef, undef, undef, undef, undef, undef, undef, undef, undef, undef, undef, undef, undef, undef, undef, undef, undef, undef, undef, undef, undef, undef, undef, undef, undef, undef, undef, undef, undef, undef, undef, undef, undef, undef, undef, undef, undef, undef, undef, undef, undef, undef, undef, undef, undef, undef, undef, undef, undef, undef, undef, undef, undef, undef, undef, undef, undef, undef, undef, undef, undef, undef, undef, undef, undef, undef, undef, undef, undef, undef, undef, undef], []⟩) (by kernel_rfl) ?_
 refine xseq_k fun KS1 ks1 => ?_
 refine xregS [0] fun KR2 kr2 => ?_
 refine wpS.q 0 8 (.bool false) ?_
 refine wpS.fin rfl (kr2 _ _ (then_n (ks1 _ _ (xseq_k fun KS3 ks3 => (xseq_k fun KS4 ks4 => (xregS [0, 1, 2, 3, 4, 5, 6, 7, 8, 9, 10, 11, 12, 13, 14, 15, 16, 17] fun KR5 kr5 => ?_))))))
 refine wpS.q 0 25 (.slice a0_A a0_n a0_c) ?_
 refine wpS.tk 1 false (some 26) (.int .i64 (a0.length : Int)) (yld_lenL (hs.rowR 0 rfl) (fun _ => by kernel_rfl)) ?_
 rcases of_if h with ⟨hc, h⟩ | ⟨hc, h⟩
 ·refine wpS.tk 2 false (some 27) (.bool true) (yld_b (dt hc) (fun _ => by kernel_rfl)) ?_
  refine wpS.qs [(3, 28, .bool true), (4, 29, undef), (5, 30, undef), (6, 31, undef), (7, 32, .bool true), (8, 33, .bool true), (9, 34, undef), (10, 35, undef), (11, 36, undef), (12, 37, .bool true), (13, 38, .bool true), (14, 39, undef), (15, 40, undef), (16, 41, undef), (17, 42, .bool true)] ?_
  refine wpS.fin rfl (kr5 _ _ (then_n (ks4 _ _ (wp_cond_t (by kernel_rfl) (xseq_k fun KS6 ks6 => (xregS [0, 1] fun KR7 kr7 => ?_))))))
  obtain ⟨r1, hg, h⟩ := of_bind h
  refine wpS.only 0 (op_call (d := (some 43)) (by kernel_rfl) hs (fun _ => by kernel_rfl) (law10_awake.ok hg _) ?_)
  intro w gw hs
  refine ⟨fun _ => trivial, ?_⟩
  refine wpS.q 1 8 (.bool r1) ?_
  refine wpS.fin rfl (kr7 _ _ (then_n (ks6 _ _ (xret (then_r ?_)))))
  have q0 := of_some h
  subst q0
  exact qq _ _ (post_ret (by kernel_rfl) (run_results [.tmp 8] [.bool r1] (by kernel_rfl) (.cons (res_tmp (by kernel_rfl)) .nil)) ⟨congrArg Ending.returned (by kernel_rfl), hs.none⟩)
 refine wpS.tk 2 false (some 27) (.bool false) (yld_b (df hc) (fun _ => by kernel_rfl)) ?_
 refine wpS.qs [(3, 28, .bool false), (4, 29, .slice a1_A a1_n a1_c)] ?_
 refine wpS.tk 5 false (some 30) (.int .i64 (a1.length : Int)) (yld_lenL (hs.rowR 1 rfl) (fun _ => by kernel_rfl)) ?_
 rcases of_if h with ⟨hc, h⟩ | ⟨hc, h⟩
 ·refine wpS.tk 6 false (some 31) (.bool true) (yld_b (dt hc) (fun _ => by kernel_rfl)) ?_
  refine wpS.qs [(7, 32, .bool true), (8, 33, .bool true), (9, 34, undef), (10, 35, undef), (11, 36, undef), (12, 37, .bool true), (13, 38, .bool true), (14, 39, undef), (15, 40, undef), (16, 41, undef), (17, 42, .bool true)] ?_
  refine wpS.fin rfl (kr5 _ _ (then_n (ks4 _ _ (wp_cond_t (by kernel_rfl) (xseq_k fun KS8 ks8 => (xregS [0, 1] fun KR9 kr9 => ?_))))))
  obtain ⟨r2, hg, h⟩ := of_bind h
  refine wpS.only 0 (op_call (d := (some 43)) (by kernel_rfl) hs (fun _ => by kernel_rfl) (law10_awake.ok hg _) ?_)
  intro w gw hs
  refine ⟨fun _ => trivial, ?_⟩
  refine wpS.q 1 8 (.bool r2) ?_
  refine wpS.fin rfl (kr9 _ _ (then_n (ks8 _ _ (xret (then_r ?_)))))
  have q0 := of_some h
  subst q0
  exact qq _ _ (post_ret (by kernel_rfl) (run_results [.tmp 8] [.bool r2] (by kernel_rfl) (.cons (res_tmp (by kernel_rfl)) .nil)) ⟨congrArg Ending.returned (by kernel_rfl), hs.none⟩)
 refine wpS.tk 6 false (some 31) (.bool false) (yld_b (df hc) (fun _ => by kernel_rfl)) ?_
 refine wpS.qs [(7, 32, .bool false), (8, 33, .bool false), (9, 34, .slice a2_A a2_n a2_c)] ?_
 refine wpS.tk 10 false (some 35) (.int .i64 (a2.length : Int)) (yld_lenL (hs.rowR 2 rfl) (fun _ => by kernel_rfl)) ?_
 rcases of_if h with ⟨hc, h⟩ | ⟨hc, h⟩
 ·refine wpS.tk 11 false (some 36) (.bool true) (yld_b (dt hc) (fun _ => by kernel_rfl)) ?_
  refine wpS.qs [(12, 37, .bool true), (13, 38, .bool true), (14, 39, undef), (15, 40, undef), (16, 41, undef), (17, 42, .bool true)] ?_
  refine wpS.fin rfl (kr5 _ _ (then_n (ks4 _ _ (wp_cond_t (by kernel_rfl) (xseq_k fun KS10 ks10 => (xregS [0, 1] fun KR11 kr11 => ?_))))))
  obtain ⟨r3, hg, h⟩ := of_bind h
  refine wpS.only 0 (op_call (d := (some 43)) (by kernel_rfl) hs (fun _ => by kernel_rfl) (law10_awake.ok hg _) ?_)
  intro w gw hs
  refine ⟨fun _ => trivial, ?_⟩
  refine wpS.q 1 8 (.bool r3) ?_
  refine wpS.fin rfl (kr11 _ _ (then_n (ks10 _ _ (xret (then_r ?_)))))
  have q0 := of_some h
  subst q0
  exact qq _ _ (post_ret (by kernel_rfl) (run_results [.tmp 8] [.bool r3] (by kernel_rfl) (.cons (res_tmp (by kernel_rfl)) .nil)) ⟨congrArg Ending.returned (by kernel_rfl), hs.none⟩)
 refine wpS.tk 11 false (some 36) (.bool false) (yld_b (df hc) (fun _ => by kernel_rfl)) ?_
 refine wpS.qs [(12, 37, .bool false), (13, 38, .bool false), (14, 39, .slice a3_A a3_n a3_c)] ?_
 refine wpS.tk 15 false (some 40) (.int .i64 (a3.length : Int)) (yld_lenL (hs.rowR 3 rfl) (fun _ => by kernel_rfl)) ?_
 rcases of_if h with ⟨hc, h⟩ | ⟨hc, h⟩
 ·refine wpS.tk 16 false (some 41) (.bool true) (yld_b (dt hc) (fun _ => by kernel_rfl)) ?_
  refine wpS.q 17 42 (.bool true) ?_
  refine wpS.fin rfl (kr5 _ _ (then_n (ks4 _ _ (wp_cond_t (by kernel_rfl) (xseq_k fun KS12 ks12 => (xregS [0, 1] fun KR13 kr13 => ?_))))))
  obtain ⟨r4, hg, h⟩ := of_bind h
  refine wpS.only 0 (op_call (d := (some 43)) (by kernel_rfl) hs (fun _ => by kernel_rfl) (law10_awake.ok hg _) ?_)
  intro w gw hs
  refine ⟨fun _ => trivial, ?_⟩
  refine wpS.q 1 8 (.bool r4) ?_
  refine wpS.fin rfl (kr13 _ _ (then_n (ks12 _ _ (xret (then_r ?_)))))
  have q0 := of_some h
  subst q0
  exact qq _ _ (post_ret (by kernel_rfl) (run_results [.tmp 8] [.bool r4] (by kernel_rfl) (.cons (res_tmp (by kernel_rfl)) .nil)) ⟨congrArg Ending.returned (by kernel_rfl), hs.none⟩)
 refine wpS.tk 16 false (some 41) (.bool false) (yld_b (df hc) (fun _ => by kernel_rfl)) ?_
 refine wpS.q 17 42 (.bool false) ?_
 refine wpS.fin rfl (kr5 _ _ (then_n (ks4 _ _ (wp_cond_f (by kernel_rfl) (xskip (then_n (ks3 _ _ ?_)))))))
 obtain ⟨tv15, hj, hk_15⟩ := of_bind h
 refine xseq_k fun KS15 ks15 => wp_exj (N := fun a w => tv15 = .inl () ∧ St w0 [] [] [.rowL (CI .u8) a0_A a0_n a0_c a0, .rowL (CI .u8) a1_A a1_n a1_c a1, .rowL (CI .u8) a2_A a2_n a2_c a2, .rowL (CI .u8) a3_A a3_n a3_c a3] w ∧ ∃ g14 : Nat → Value, a = ⟨#[.slice a0_A a0_n a0_c, .slice a1_A a1_n a1_c, .slice a2_A a2_n a2_c, .slice a3_A a3_n a3_c, undef, undef, undef, undef, (g14 8), (g14 9), (g14 10), (g14 11), (g14 12), (g14 13), (g14 14), (g14 15), (g14 16), undef, undef, undef, undef, undef, undef, undef, undef, .slice a0_A a0_n a0_c, .int .i64 (a0.length : Int), .bool false, .bool false, .slice a1_A a1_n a1_c, .int .i64 (a1.length : Int), .bool false, .bool false, .bool false, .slice a2_A a2_n a2_c, .int .i64 (a2.length : Int), .bool false, .bool false, .bool false, .slice a3_A a3_n a3_c, .int .i64 (a3.length : Int), .bool false, .bool false, undef, (g14 44), (g14 45), (g14 46), (g14 47), (g14 48), (g14 49), (g14 50), (g14 51), (g14 52), (g14 53), (g14 54), (g14 55), (g14 56), (g14 57), (g14 58), (g14 59), (g14 60), (g14 61), (g14 62), (g14 63), (g14 64), (g14 65), (g14 66), (g14 67), (g14 68), (g14 69), (g14 70), (g14 71), (g14 72), (g14 73), (g14 74), (g14 75), (g14 76), (g14 77), (g14 78), (g14 79), (g14 80), (g14 81), (g14 82), (g14 83), (g14 84), (g14 85), (g14 86), (g14 87), (g14 88), (g14 89), (g14 90), (g14 91), undef, undef, undef, undef, undef, undef, undef, undef, undef, undef, undef, undef, undef, undef, undef, undef, undef, undef, undef, undef, undef, undef, undef, undef, undef, undef, undef, undef, undef, undef, undef, undef, undef, undef, undef, undef, undef, undef, undef, undef, undef, undef, undef, undef, undef, undef, undef, undef, undef, undef, undef, undef, undef, undef, undef, undef, undef, undef, undef, undef, undef, undef, undef, undef, undef, undef, undef, undef, undef], []⟩) (fun N nj => ?_) ?_
 ·clear h
  have h := hj
  refine xseq_k fun KS16 ks16 => ?_
  refine xregS [0, 1, 2, 3, 4, 5, 6, 7] fun KR17 kr17 => ?_
  refine wpS.qs [(0, 45, .slice a0_A a0_n a0_c), (1, 46, .slice a1_A a1_n a1_c)] ?_
  obtain ⟨⟨r5, r6⟩, hg, h⟩ := of_bind h
  refine wpS.only 2 (op_callH (d := (some 47)) (by kernel_rfl) hs (fun _ => by kernel_rfl) (aes_Block.ok hg _ (hs.rowR 0 rfl) (hs.rowR 1 rfl)) ?_)
  rintro ⟨r5_A, r5_n, r5_c⟩ w gw hs
  have hs := hs.conv (L' := [.rowL (CI .u8) r5_A r5_n r5_c r5]) rfl
  have hs := hs.toR 0 rfl
  refine ⟨fun _ => trivial, ?_⟩
  refine wpS.qs [(3, 44, .tuple #[.slice r5_A r5_n r5_c, .int .i64 r6]), (4, 48, .slice r5_A r5_n r5_c), (5, 49, .int .i64 r6), (6, 9, .slice r5_A r5_n r5_c), (7, 10, .int .i64 r6)] ?_
  refine wpS.fin rfl (kr17 _ _ (then_n (ks16 _ _ (xseq_k fun KS18 ks18 => (xregS [0, 1] fun KR19 kr19 => ?_)))))
  refine wpS.q 0 50 (.int .i64 r6) ?_
  rcases of_if h with ⟨hc, h⟩ | ⟨hc, h⟩
  ·refine wpS.tk 1 false (some 51) (.bool true) (yld_b (et hc) (fun _ => by kernel_rfl)) ?_
   refine wpS.fin rfl (kr19 _ _ (then_n (ks18 _ _ (wp_cond_t (by kernel_rfl) (xseq_k fun KS20 ks20 => (xregS [0, 1, 2, 3, 4, 5, 6, 7] fun KR21 kr21 => ?_))))))
   refine wpS.qs [(0, 53, .slice a0_A a0_n a0_c), (1, 54, .slice r5_A r5_n r5_c)] ?_
   obtain ⟨⟨r7, r8⟩, hg, h⟩ := of_bind h
   refine wpS.only 2 (op_callH (d := (some 55)) (by kernel_rfl) hs (fun _ => by kernel_rfl) (aes_Back.ok hg _ (hs.rowR 1 rfl) (hs.rowR 0 rfl)) ?_)
   rintro ⟨r7_A, r7_n, r7_c⟩ w gw hs
   have hs := hs.conv (L' := [.rowL (CI .u8) r7_A r7_n r7_c r7]) rfl
   have hs := hs.toR 0 rfl
   refine ⟨fun _ => trivial, ?_⟩
   refine wpS.qs [(3, 52, .tuple #[.slice r7_A r7_n r7_c, .int .i64 r8]), (4, 56, .slice r7_A r7_n r7_c), (5, 57, .int .i64 r8), (6, 11, .slice r7_A r7_n r7_c), (7, 12, .int .i64 r8)] ?_
   refine wpS.fin rfl (kr21 _ _ (then_n (ks20 _ _ (xseq_k fun KS22 ks22 => (xregS [0, 1, 2, 3, 4, 5, 6, 7] fun KR23 kr23 => ?_)))))
   refine wpS.qs [(0, 59, .slice a0_A a0_n a0_c), (1, 60, .slice a1_A a1_n a1_c)] ?_
   obtain ⟨⟨r9, r10⟩, hg, h⟩ := of_bind h
   refine wpS.only 2 (op_callH (d := (some 61)) (by kernel_rfl) hs (fun _ => by kernel_rfl) (aes_Back.ok hg _ (hs.rowR 2 rfl) (hs.rowR 3 rfl)) ?_)
   rintro ⟨r9_A, r9_n, r9_c⟩ w gw hs
   have hs := hs.conv (L' := [.rowL (CI .u8) r9_A r9_n r9_c r9]) rfl
   have hs := hs.toR 0 rfl
   refine ⟨fun _ => trivial, ?_⟩
   refine wpS.qs [(3, 58, .tuple #[.slice r9_A r9_n r9_c, .int .i64 r10]), (4, 62, .slice r9_A r9_n r9_c), (5, 63, .int .i64 r10), (6, 13, .slice r9_A r9_n r9_c), (7, 14, .int .i64 r10)] ?_
   refine wpS.fin rfl (kr23 _ _ (then_n (ks22 _ _ (xseq_k fun KS24 ks24 => (xregS [0, 1, 2, 3, 4, 5, 6, 7] fun KR25 kr25 => ?_)))))
   refine wpS.qs [(0, 65, .slice a0_A a0_n a0_c), (1, 66, .slice r9_A r9_n r9_c)] ?_
   obtain ⟨⟨r11, r12⟩, hg, h⟩ := of_bind h
   refine wpS.only 2 (op_callH (d := (some 67)) (by kernel_rfl) hs (fun _ => by kernel_rfl) (aes_Block.ok hg _ (hs.rowR 3 rfl) (hs.rowR 0 rfl)) ?_)
   rintro ⟨r11_A, r11_n, r11_c⟩ w gw hs
   have hs := hs.conv (L' := [.rowL (CI .u8) r11_A r11_n r11_c r11]) rfl
   have hs := hs.toR 0 rfl
   refine ⟨fun _ => trivial, ?_⟩
   refine wpS.qs [(3, 64, .tuple #[.slice r11_A r11_n r11_c, .int .i64 r12]), (4, 68, .slice r11_A r11_n r11_c), (5, 69, .int .i64 r12), (6, 15, .slice r11_A r11_n r11_c), (7, 16, .int .i64 r12)] ?_
   refine wpS.fin rfl (kr25 _ _ (then_n (ks24 _ _ (xseq_k fun KS26 ks26 => (xregS [0, 1, 2, 3, 4, 5, 6, 7, 8, 9, 10, 11, 12, 13, 14, 15, 16, 17, 18, 19, 20, 21] fun KR27 kr27 => ?_)))))
   refine wpS.q 0 70 (.int .i64 r8) ?_
   rcases of_if h with ⟨hc, h⟩ | ⟨hc, h⟩
   ·refine wpS.tk 1 false (some 71) (.bool false) (yld_b (nf hc) (fun _ => by kernel_rfl)) ?_
    refine wpS.qs [(2, 72, .bool false), (3, 73, .int .i64 r10)] ?_
    rcases of_if h with ⟨hc, h⟩ | ⟨hc, h⟩
    ·refine wpS.tk 4 false (some 74) (.bool false) (yld_b (nf hc) (fun _ => by kernel_rfl)) ?_
     refine wpS.qs [(5, 75, .bool false), (6, 76, .bool false), (7, 77, .int .i64 r12)] ?_
     rcases of_if h with ⟨hc, h⟩ | ⟨hc, h⟩
     ·refine wpS.tk 8 false (some 78) (.bool false) (yld_b (nf hc) (fun _ => by kernel_rfl)) ?_
      refine wpS.qs [(9, 79, .bool false), (10, 80, .bool false), (11, 81, .slice r7_A r7_n r7_c), (12, 82, .slice a1_A a1_n a1_c)] ?_
      obtain ⟨r13, hg, h⟩ := of_bind h
      cases r13 with
      | true =>
       have h := of_if_t h
       refine wpS.only 13 (op_call (d := (some 83)) (by kernel_rfl) hs (fun _ => by kernel_rfl) (ref01_Same.ok hg _ (hs.rowR 2 rfl) (hs.rowR 5 rfl)) ?_)
       intro w gw hs
       refine ⟨fun _ => trivial, ?_⟩
       refine wpS.qs [(14, 84, .bool false), (15, 85, .bool false), (16, 86, .bool false), (17, 87, .slice r11_A r11_n r11_c), (18, 88, .slice a1_A a1_n a1_c)] ?_
       obtain ⟨r14, hg, h⟩ := of_bind h
       cases r14 with
       | true =>
        have h := of_if_t h
        refine wpS.only 19 (op_call (d := (some 89)) (by kernel_rfl) hs (fun _ => by kernel_rfl) (ref01_Same.ok hg _ (hs.rowR 0 rfl) (hs.rowR 5 rfl)) ?_)
        intro w gw hs
        refine ⟨fun _ => trivial, ?_⟩
        refine wpS.qs [(20, 90, .bool false), (21, 91, .bool false)] ?_
        refine wpS.fin rfl (kr27 _ _ (then_n (ks26 _ _ (wp_cond_f (by kernel_rfl) (xskip ?_)))))
        have q0 := of_some h
        subst q0
        exact exj_n (nj _ _ ⟨rfl, (hs.pickR (pick_cons 4 rfl (pick_cons 5 rfl (pick_cons 6 rfl (pick_cons 7 rfl pick_nil))))), exg (by kernel_rfl)⟩)
       | false =>
        have h := of_if_f h
        refine wpS.only 19 (op_call (d := (some 89)) (by kernel_rfl) hs (fun _ => by kernel_rfl) (ref01_Same.ok hg _ (hs.rowR 0 rfl) (hs.rowR 5 rfl)) ?_)
        intro w gw hs
        refine ⟨fun _ => trivial, ?_⟩
        refine wpS.qs [(20, 90, .bool true), (21, 91, .bool true)] ?_
        refine wpS.fin rfl (kr27 _ _ (then_n (ks26 _ _ (wp_cond_t (by kernel_rfl) (xseq_k fun KS28 ks28 => (xregS [0] fun KR29 kr29 => ?_))))))
        refine wpS.q 0 8 (.bool false) ?_
        refine wpS.fin rfl (kr29 _ _ (then_n (ks28 _ _ (xret ?_))))
        have q0 := of_some h
        subst q0
        have h := hk_15
        refine exj_r ?_
        refine then_r ?_
        have q0 := of_some h
        subst q0
        exact qq _ _ (post_ret (by kernel_rfl) (run_results [.tmp 8] [.bool false] (by kernel_rfl) (.cons (res_tmp (by kernel_rfl)) .nil)) ⟨congrArg Ending.returned (by kernel_rfl), hs.none⟩)
      | false =>
       have h := of_if_f h
       refine wpS.only 13 (op_call (d := (some 83)) (by kernel_rfl) hs (fun _ => by kernel_rfl) (ref01_Same.ok hg _ (hs.rowR 2 rfl) (hs.rowR 5 rfl)) ?_)
       intro w gw hs
       refine ⟨fun _ => trivial, ?_⟩
       refine wpS.qs [(14, 84, .bool true), (15, 85, .bool true), (16, 86, .bool true), (17, 87, undef), (18, 88, undef), (19, 89, undef), (20, 90, undef), (21, 91, .bool true)] ?_
       refine wpS.fin rfl (kr27 _ _ (then_n (ks26 _ _ (wp_cond_t (by kernel_rfl) (xseq_k fun KS30 ks30 => (xregS [0] fun KR31 kr31 => ?_))))))
       refine wpS.q 0 8 (.bool false) ?_
       refine wpS.fin rfl (kr31 _ _ (then_n (ks30 _ _ (xret ?_))))
       have q0 := of_some h
       subst q0
       have h := hk_15
       refine exj_r ?_
       refine then_r ?_
       have q0 := of_some h
       subst q0
       exact qq _ _ (post_ret (by kernel_rfl) (run_results [.tmp 8] [.bool false] (by kernel_rfl) (.cons (res_tmp (by kernel_rfl)) .nil)) ⟨congrArg Ending.returned (by kernel_rfl), hs.none⟩)
     refine wpS.tk 8 false (some 78) (.bool true) (yld_b (nt hc) (fun _ => by kernel_rfl)) ?_
     refine wpS.qs [(9, 79, .bool true), (10, 80, .bool true), (11, 81, undef), (12, 82, undef), (13, 83, undef), (14, 84, undef), (15, 85, .bool true), (16, 86, .bool true), (17, 87, undef), (18, 88, undef), (19, 89, undef), (20, 90, undef), (21, 91, .bool true)] ?_
     refine wpS.fin rfl (kr27 _ _ (then_n (ks26 _ _ (wp_cond_t (by kernel_rfl) (xseq_k fun KS32 ks32 => (xregS [0] fun KR33 kr33 => ?_))))))
     refine wpS.q 0 8 (.bool false) ?_
     refine wpS.fin rfl (kr33 _ _ (then_n (ks32 _ _ (xret ?_))))
     have q0 := of_some h
     subst q0
     have h := hk_15
     refine exj_r ?_
     refine then_r ?_
     have q0 := of_some h
     subst q0
     exact qq _ _ (post_ret (by kernel_rfl) (run_results [.tmp 8] [.bool false] (by kernel_rfl) (.cons (res_tmp (by kernel_rfl)) .nil)) ⟨congrArg Ending.returned (by kernel_rfl), hs.none⟩)
    refine wpS.tk 4 false (some 74) (.bool true) (yld_b (nt hc) (fun _ => by kernel_rfl)) ?_
    refine wpS.qs [(5, 75, .bool true), (6, 76, .bool true), (7, 77, undef), (8, 78, undef), (9, 79, .bool true), (10, 80, .bool true), (11, 81, undef), (12, 82, undef), (13, 83, undef), (14, 84, undef), (15, 85, .bool true), (16, 86, .bool true), (17, 87, undef), (18, 88, undef), (19, 89, undef), (20, 90, undef), (21, 91, .bool true)] ?_
    refine wpS.fin rfl (kr27 _ _ (then_n (ks26 _ _ (wp_cond_t (by kernel_rfl) (xseq_k fun KS34 ks34 => (xregS [0] fun KR35 kr35 => ?_))))))
    refine wpS.q 0 8 (.bool false) ?_
    refine wpS.fin rfl (kr35 _ _ (then_n (ks34 _ _ (xret ?_))))
    have q0 := of_some h
    subst q0
    have h := hk_15
    refine exj_r ?_
    refine then_r ?_
    have q0 := of_some h
    subst q0
    exact qq _ _ (post_ret (by kernel_rfl) (run_results [.tmp 8] [.bool false] (by kernel_rfl) (.cons (res_tmp (by kernel_rfl)) .nil)) ⟨congrArg Ending.returned (by kernel_rfl), hs.none⟩)
   refine wpS.tk 1 false (some 71) (.bool true) (yld_b (nt hc) (fun _ => by kernel_rfl)) ?_
   refine wpS.qs [(2, 72, .bool true), (3, 73, undef), (4, 74, undef), (5, 75, .bool true), (6, 76, .bool true), (7, 77, undef), (8, 78, undef), (9, 79, .bool true), (10, 80, .bool true), (11, 81, undef), (12, 82, undef), (13, 83, undef), (14, 84, undef), (15, 85, .bool true), (16, 86, .bool true), (17, 87, undef), (18, 88, undef), (19, 89, undef), (20, 90, undef), (21, 91, .bool true)] ?_
   refine wpS.fin rfl (kr27 _ _ (then_n (ks26 _ _ (wp_cond_t (by kernel_rfl) (xseq_k fun KS36 ks36 => (xregS [0] fun KR37 kr37 => ?_))))))
   refine wpS.q 0 8 (.bool false) ?_
   refine wpS.fin rfl (kr37 _ _ (then_n (ks36 _ _ (xret ?_))))
   have q0 := of_some h
   subst q0
   have h := hk_15
   refine exj_r ?_
   refine then_r ?_
   have q0 := of_some h
   subst q0
   exact qq _ _ (post_ret (by kernel_rfl) (run_results [.tmp 8] [.bool false] (by kernel_rfl) (.cons (res_tmp (by kernel_rfl)) .nil)) ⟨congrArg Ending.returned (by kernel_rfl), hs.none⟩)
  refine wpS.tk 1 false (some 51) (.bool false) (yld_b (ef hc) (fun _ => by kernel_rfl)) ?_
  refine wpS.fin rfl (kr19 _ _ (then_n (ks18 _ _ (wp_cond_f (by kernel_rfl) (xskip ?_)))))
  have q0 := of_some h
  subst q0
  exact exj_n (nj _ _ ⟨rfl, (hs.pickR (pick_cons 1 rfl (pick_cons 2 rfl (pick_cons 3 rfl (pick_cons 4 rfl pick_nil))))), exg (by kernel_rfl)⟩)
 clear hj hs
 rintro a w ⟨rfl, hs, g14, rfl⟩
 have h := hk_15
 refine then_n (ks15 _ _ ?_)
 obtain ⟨tv39, hj, hk_39⟩ := of_bind h
 refine xseq_k fun KS39 ks39 => wp_exj (N := fun a w => tv39 = .inl () ∧ St w0 [] [] [.rowL (CI .u8) a0_A a0_n a0_c a0, .rowL (CI .u8) a1_A a1_n a1_c a1, .rowL (CI .u8) a2_A a2_n a2_c a2, .rowL (CI .u8) a3_A a3_n a3_c a3] w ∧ ∃ g38 : Nat → Value, a = ⟨#[.slice a0_A a0_n a0_c, .slice a1_A a1_n a1_c, .slice a2_A a2_n a2_c, .slice a3_A a3_n a3_c, undef, undef, undef, undef, (g38 8), (g14 9), (g14 10), (g14 11), (g14 12), (g14 13), (g14 14), (g14 15), (g14 16), (g38 17), (g38 18), (g38 19), (g38 20), undef, undef, undef, undef, .slice a0_A a0_n a0_c, .int .i64 (a0.length : Int), .bool false, .bool false, .slice a1_A a1_n a1_c, .int .i64 (a1.length : Int), .bool false, .bool false, .bool false, .slice a2_A a2_n a2_c, .int .i64 (a2.length : Int), .bool false, .bool false, .bool false, .slice a3_A a3_n a3_c, .int .i64 (a3.length : Int), .bool false, .bool false, undef, (g14 44), (g14 45), (g14 46), (g14 47), (g14 48), (g14 49), (g14 50), (g14 51), (g14 52), (g14 53), (g14 54), (g14 55), (g14 56), (g14 57), (g14 58), (g14 59), (g14 60), (g14 61), (g14 62), (g14 63), (g14 64), (g14 65), (g14 66), (g14 67), (g14 68), (g14 69), (g14 70), (g14 71), (g14 72), (g14 73), (g14 74), (g14 75), (g14 76), (g14 77), (g14 78), (g14 79), (g14 80), (g14 81), (g14 82), (g14 83), (g14 84), (g14 85), (g14 86), (g14 87), (g14 88), (g14 89), (g14 90), (g14 91), (g38 92), (g38 93), (g38 94), (g38 95), (g38 96), (g38 97), (g38 98), (g38 99), (g38 100), (g38 101), (g38 102), (g38 103), (g38 104), (g38 105), (g38 106), (g38 107), (g38 108), (g38 109), (g38 110), (g38 111), (g38 112), (g38 113), (g38 114), (g38 115), (g38 116), (g38 117), (g38 118), (g38 119), (g38 120), (g38 121), (g38 122), (g38 123), (g38 124), (g38 125), (g38 126), (g38 127), (g38 128), undef, undef, undef, undef, undef, undef, undef, undef, undef, undef, undef, undef, undef, undef, undef, undef, undef, undef, undef, undef, undef, undef, undef, undef, undef, undef, undef, undef, undef, undef, undef, undef], []⟩) (fun N nj => ?_) ?_
 ·clear h
  have h := hj
  refine xseq_k fun KS40 ks40 => ?_
  refine xregS [0, 1, 2, 3, 4, 5, 6, 7, 8] fun KR41 kr41 => ?_
  refine wpS.qs [(0, 93, .slice a0_A a0_n a0_c), (1, 94, .slice a1_A a1_n a1_c), (2, 95, .slice a2_A a2_n a2_c)] ?_
  obtain ⟨⟨r15, r16⟩, hg, h⟩ := of_bind h
  refine wpS.only 3 (op_callH (d := (some 96)) (by kernel_rfl) hs (fun _ => by kernel_rfl) (aes_Chain.ok hg _ (hs.rowR 0 rfl) (hs.rowR 1 rfl) (hs.rowR 2 rfl)) ?_)
  rintro ⟨r15_A, r15_n, r15_c⟩ w gw hs
  have hs := hs.conv (L' := [.ownL (CI .u8) r15_A r15_n r15_c r15 5]) rfl
  refine ⟨fun _ => trivial, ?_⟩
  refine wpS.qs [(4, 92, .tuple #[.slice r15_A r15_n r15_c, .int .i64 r16]), (5, 97, .slice r15_A r15_n r15_c), (6, 98, .int .i64 r16), (7, 17, .slice r15_A r15_n r15_c), (8, 18, .int .i64 r16)] ?_
  refine wpS.fin rfl (kr41 _ _ (then_n (ks40 _ _ (xseq_k fun KS42 ks42 => (xregS [0, 1] fun KR43 kr43 => ?_)))))
  refine wpS.q 0 99 (.int .i64 r16) ?_
  rcases of_if h with ⟨hc, h⟩ | ⟨hc, h⟩
  ·refine wpS.tk 1 false (some 100) (.bool true) (yld_b (et hc) (fun _ => by kernel_rfl)) ?_
   refine wpS.fin rfl (kr43 _ _ (then_n (ks42 _ _ (wp_cond_t (by kernel_rfl) (xseq_k fun KS44 ks44 => (xregS [0, 1, 2, 3, 4, 5, 6, 7, 8] fun KR45 kr45 => ?_))))))
   refine wpS.qs [(0, 102, .slice a0_A a0_n a0_c), (1, 103, .slice a1_A a1_n a1_c), (2, 104, .slice r15_A r15_n r15_c)] ?_
   obtain ⟨⟨r17, r18⟩, hg, h⟩ := of_bind h
   refine wpS.only 3 (op_callH (d := (some 105)) (by kernel_rfl) hs (fun _ => by kernel_rfl) (aes_Unchain.ok hg _ (hs.rowR 0 rfl) (hs.rowR 1 rfl) (hs.rowL 0 rfl)) ?_)
   rintro ⟨r17_A, r17_n, r17_c⟩ w gw hs
   have hs := hs.conv (L' := [.rowL (CI .u8) r17_A r17_n r17_c r17, .ownL (CI .u8) r15_A r15_n r15_c r15 5]) rfl
   have hs := hs.toR 0 rfl
   refine ⟨fun _ => trivial, ?_⟩
   refine wpS.qs [(4, 101, .tuple #[.slice r17_A r17_n r17_c, .int .i64 r18]), (5, 106, .slice r17_A r17_n r17_c), (6, 107, .int .i64 r18), (7, 19, .slice r17_A r17_n r17_c), (8, 20, .int .i64 r18)] ?_
   refine wpS.fin rfl (kr45 _ _ (then_n (ks44 _ _ (xseq_k fun KS46 ks46 => (xregS [0, 1, 2, 3, 4, 5, 6, 7, 8, 9, 10, 11, 12, 13, 14, 15, 16, 17, 18, 19, 20] fun KR47 kr47 => ?_)))))
   refine wpS.q 0 108 (.int .i64 r18) ?_
   rcases of_if h with ⟨hc, h⟩ | ⟨hc, h⟩
   ·refine wpS.tk 1 false (some 109) (.bool false) (yld_b (nf hc) (fun _ => by kernel_rfl)) ?_
    refine wpS.qs [(2, 110, .bool false), (3, 111, .slice r17_A r17_n r17_c), (4, 112, .slice a2_A a2_n a2_c)] ?_
    obtain ⟨r19, hg, h⟩ := of_bind h
    cases r19 with
    | true =>
     have h := of_if_t h
     refine wpS.only 5 (op_call (d := (some 113)) (by kernel_rfl) hs (fun _ => by kernel_rfl) (ref01_Same.ok hg _ (hs.rowR 0 rfl) (hs.rowR 3 rfl)) ?_)
     intro w gw hs
     refine ⟨fun _ => trivial, ?_⟩
     refine wpS.qs [(6, 114, .bool false), (7, 115, .bool false), (8, 116, .bool false), (9, 117, .slice r15_A r15_n r15_c)] ?_
     refine wpS.tk 10 false (some 118) (.int .i64 (r15.length : Int)) (yld_lenL (hs.rowL 0 rfl) (fun _ => by kernel_rfl)) ?_
     refine wpS.q 11 119 (.int .i64 (irem .i64 (r15.length : Int) 16)) ?_
     rcases of_if h with ⟨hc, h⟩ | ⟨hc, h⟩
     ·refine wpS.tk 12 false (some 120) (.bool false) (yld_b (nf hc) (fun _ => by kernel_rfl)) ?_
      refine wpS.qs [(13, 121, .bool false), (14, 122, .bool false), (15, 123, .slice r15_A r15_n r15_c)] ?_
      refine wpS.tk 16 false (some 124) (.int .i64 (r15.length : Int)) (yld_lenL (hs.rowL 0 rfl) (fun _ => by kernel_rfl)) ?_
      refine wpS.q 17 125 (.slice a2_A a2_n a2_c) ?_
      refine wpS.tk 18 false (some 126) (.int .i64 (a2.length : Int)) (yld_lenL (hs.rowR 3 rfl) (fun _ => by kernel_rfl)) ?_
      rcases of_if h with ⟨hc, h⟩ | ⟨hc, h⟩
      ·refine wpS.tk 19 false (some 127) (.bool true) (yld_b (dt hc) (fun _ => by kernel_rfl)) ?_
       refine wpS.q 20 128 (.bool true) ?_
       refine wpS.fin rfl (kr47 _ _ (then_n (ks46 _ _ (wp_cond_t (by kernel_rfl) (xseq_k fun KS48 ks48 => (xregS [0] fun KR49 kr49 => ?_))))))
       refine wpS.q 0 8 (.bool false) ?_
       refine wpS.fin rfl (kr49 _ _ (then_n (ks48 _ _ (xret ?_))))
       have q0 := of_some h
       subst q0
       have h := hk_39
       refine exj_r ?_
       refine then_r ?_
       have q0 := of_some h
       subst q0
       exact qq _ _ (post_ret (by kernel_rfl) (run_results [.tmp 8] [.bool false] (by kernel_rfl) (.cons (res_tmp (by kernel_rfl)) .nil)) ⟨congrArg Ending.returned (by kernel_rfl), hs.none⟩)
      refine wpS.tk 19 false (some 127) (.bool false) (yld_b (df hc) (fun _ => by kernel_rfl)) ?_
      refine wpS.q 20 128 (.bool false) ?_
      refine wpS.fin rfl (kr47 _ _ (then_n (ks46 _ _ (wp_cond_f (by kernel_rfl) (xskip ?_)))))
      have q0 := of_some h
      subst q0
      exact exj_n (nj _ _ ⟨rfl, ((hs.drop (.cons _ .slnil)).pickR (pick_cons 1 rfl (pick_cons 2 rfl (pick_cons 3 rfl (pick_cons 4 rfl pick_nil))))), exg (by kernel_rfl)⟩)
     refine wpS.tk 12 false (some 120) (.bool true) (yld_b (nt hc) (fun _ => by kernel_rfl)) ?_
     refine wpS.qs [(13, 121, .bool true), (14, 122, .bool true), (15, 123, undef), (16, 124, undef), (17, 125, undef), (18, 126, undef), (19, 127, undef), (20, 128, .bool true)] ?_
     refine wpS.fin rfl (kr47 _ _ (then_n (ks46 _ _ (wp_cond_t (by kernel_rfl) (xseq_k fun KS50 ks50 => (xregS [0] fun KR51 kr51 => ?_))))))
     refine wpS.q 0 8 (.bool false) ?_
     refine wpS.fin rfl (kr51 _ _ (then_n (ks50 _ _ (xret ?_))))
     have q0 := of_some h
     subst q0
     have h := hk_39
     refine exj_r ?_
     refine then_r ?_
     have q0 := of_some h
     subst q0
     exact qq _ _ (post_ret (by kernel_rfl) (run_results [.tmp 8] [.bool false] (by kernel_rfl) (.cons (res_tmp (by kernel_rfl)) .nil)) ⟨congrArg Ending.returned (by kernel_rfl), hs.none⟩)
    | false =>
     have h := of_if_f h
     refine wpS.only 5 (op_call (d := (some 113)) (by kernel_rfl) hs (fun _ => by kernel_rfl) (ref01_Same.ok hg _ (hs.rowR 0 rfl) (hs.rowR 3 rfl)) ?_)
     intro w gw hs
     refine ⟨fun _ => trivial, ?_⟩
     refine wpS.qs [(6, 114, .bool true), (7, 115, .bool true), (8, 116, .bool true), (9, 117, undef), (10, 118, undef), (11, 119, undef), (12, 120, undef), (13, 121, .bool true), (14, 122, .bool true), (15, 123, undef), (16, 124, undef), (17, 125, undef), (18, 126, undef), (19, 127, undef), (20, 128, .bool true)] ?_
     refine wpS.fin rfl (kr47 _ _ (then_n (ks46 _ _ (wp_cond_t (by kernel_rfl) (xseq_k fun KS52 ks52 => (xregS [0] fun KR53 kr53 => ?_))))))
     refine wpS.q 0 8 (.bool false) ?_
     refine wpS.fin rfl (kr53 _ _ (then_n (ks52 _ _ (xret ?_))))
     have q0 := of_some h
     subst q0
     have h := hk_39
     refine exj_r ?_
     refine then_r ?_
     have q0 := of_some h
     subst q0
     exact qq _ _ (post_ret (by kernel_rfl) (run_results [.tmp 8] [.bool false] (by kernel_rfl) (.cons (res_tmp (by kernel_rfl)) .nil)) ⟨congrArg Ending.returned (by kernel_rfl), hs.none⟩)
   refine wpS.tk 1 false (some 109) (.bool true) (yld_b (nt hc) (fun _ => by kernel_rfl)) ?_
   refine wpS.qs [(2, 110, .bool true), (3, 111, undef), (4, 112, undef), (5, 113, undef), (6, 114, undef), (7, 115, .bool true), (8, 116, .bool true), (9, 117, undef), (10, 118, undef), (11, 119, undef), (12, 120, undef), (13, 121, .bool true), (14, 122, .bool true), (15, 123, undef), (16, 124, undef), (17, 125, undef), (18, 126, undef), (19, 127, undef), (20, 128, .bool true)] ?_
   refine wpS.fin rfl (kr47 _ _ (then_n (ks46 _ _ (wp_cond_t (by kernel_rfl) (xseq_k fun KS54 ks54 => (xregS [0] fun KR55 kr55 => ?_))))))
   refine wpS.q 0 8 (.bool false) ?_
   refine wpS.fin rfl (kr55 _ _ (then_n (ks54 _ _ (xret ?_))))
   have q0 := of_some h
   subst q0
   have h := hk_39
   refine exj_r ?_
   refine then_r ?_
   have q0 := of_some h
   subst q0
   exact qq _ _ (post_ret (by kernel_rfl) (run_results [.tmp 8] [.bool false] (by kernel_rfl) (.cons (res_tmp (by kernel_rfl)) .nil)) ⟨congrArg Ending.returned (by kernel_rfl), hs.none⟩)
  refine wpS.tk 1 false (some 100) (.bool false) (yld_b (ef hc) (fun _ => by kernel_rfl)) ?_
  refine wpS.fin rfl (kr43 _ _ (then_n (ks42 _ _ (wp_cond_f (by kernel_rfl) (xskip ?_)))))
  have q0 := of_some h
  subst q0
  exact exj_n (nj _ _ ⟨rfl, (hs.drop (.cons _ .slnil)), exg (by kernel_rfl)⟩)
 clear hj hs
 rintro a w ⟨rfl, hs, g38, rfl⟩
 have h := hk_39
 refine then_n (ks39 _ _ (xseq_k fun KS56 ks56 => (xregS [0, 1, 2, 3, 4, 5, 6, 7, 8] fun KR57 kr57 => ?_)))
 refine wpS.qs [(0, 130, .slice a0_A a0_n a0_c), (1, 131, .slice a1_A a1_n a1_c), (2, 132, .slice a3_A a3_n a3_c)] ?_
 obtain ⟨⟨r20, r21⟩, hg, h⟩ := of_bind h
 refine wpS.only 3 (op_callH (d := (some 133)) (by kernel_rfl) hs (fun _ => by kernel_rfl) (aes_Unchain.ok hg _ (hs.rowR 0 rfl) (hs.rowR 1 rfl) (hs.rowR 3 rfl)) ?_)
 rintro ⟨r20_A, r20_n, r20_c⟩ w gw hs
 have hs := hs.conv (L' := [.rowL (CI .u8) r20_A r20_n r20_c r20]) rfl
 have hs := hs.toR 0 rfl
 refine ⟨fun _ => trivial, ?_⟩
 refine wpS.qs [(4, 129, .tuple #[.slice r20_A r20_n r20_c, .int .i64 r21]), (5, 134, .slice r20_A r20_n r20_c), (6, 135, .int .i64 r21), (7, 21, .slice r20_A r20_n r20_c), (8, 22, .int .i64 r21)] ?_
 refine wpS.fin rfl (kr57 _ _ (then_n (ks56 _ _ (xseq_k fun KS58 ks58 => (xseq_k fun KS59 ks59 => (xregS [0, 1] fun KR60 kr60 => ?_))))))
 refine wpS.q 0 136 (.int .i64 r21) ?_
 rcases of_if h with ⟨hc, h⟩ | ⟨hc, h⟩
 ·refine wpS.tk 1 false (some 137) (.bool false) (yld_b (nf hc) (fun _ => by kernel_rfl)) ?_
  refine wpS.fin rfl (kr60 _ _ (then_n (ks59 _ _ (wp_cond_f (by kernel_rfl) (xskip (then_n (ks58 _ _ (xseq_k fun KS61 ks61 => (xregS [0, 1, 2, 3, 4, 5, 6, 7, 8] fun KR62 kr62 => ?_)))))))))
  refine wpS.qs [(0, 145, .slice a0_A a0_n a0_c), (1, 146, .slice a1_A a1_n a1_c), (2, 147, .slice r20_A r20_n r20_c)] ?_
  obtain ⟨⟨r22, r23⟩, hg, h⟩ := of_bind h
  refine wpS.only 3 (op_callH (d := (some 148)) (by kernel_rfl) hs (fun _ => by kernel_rfl) (aes_Chain.ok hg _ (hs.rowR 1 rfl) (hs.rowR 2 rfl) (hs.rowR 0 rfl)) ?_)
  rintro ⟨r22_A, r22_n, r22_c⟩ w gw hs
  have hs := hs.conv (L' := [.ownL (CI .u8) r22_A r22_n r22_c r22 5]) rfl
  refine ⟨fun _ => trivial, ?_⟩
  refine wpS.qs [(4, 144, .tuple #[.slice r22_A r22_n r22_c, .int .i64 r23]), (5, 149, .slice r22_A r22_n r22_c), (6, 150, .int .i64 r23), (7, 23, .slice r22_A r22_n r22_c), (8, 24, .int .i64 r23)] ?_
  refine wpS.fin rfl (kr62 _ _ (then_n (ks61 _ _ (xseq_k fun KS63 ks63 => (xregS [0, 1, 2, 3, 4, 5, 6, 7, 8, 9, 10] fun KR64 kr64 => ?_)))))
  refine wpS.q 0 151 (.int .i64 r23) ?_
  rcases of_if h with ⟨hc, h⟩ | ⟨hc, h⟩
  ·refine wpS.tk 1 false (some 152) (.bool true) (yld_b (et hc) (fun _ => by kernel_rfl)) ?_
   refine wpS.qs [(2, 153, .bool true), (3, 154, .slice r22_A r22_n r22_c), (4, 155, .slice a3_A a3_n a3_c)] ?_
   obtain ⟨r24, hg, h⟩ := of_bind h
   cases r24 with
   | true =>
    have h := of_if_t h
    refine wpS.only 5 (op_call (d := (some 156)) (by kernel_rfl) hs (fun _ => by kernel_rfl) (ref01_Same.ok hg _ (hs.rowL 0 rfl) (hs.rowR 4 rfl)) ?_)
    intro w gw hs
    refine ⟨fun _ => trivial, ?_⟩
    refine wpS.qs [(6, 157, .bool true), (7, 158, .bool true)] ?_
    obtain ⟨r25, hg, h⟩ := of_bind h
    refine wpS.only 8 (op_call (d := (some 159)) (by kernel_rfl) hs (fun _ => by kernel_rfl) (law10_awake.ok hg _) ?_)
    intro w gw hs
    refine ⟨fun _ => trivial, ?_⟩
    refine wpS.qs [(9, 160, .bool r25), (10, 8, .bool r25)] ?_
    refine wpS.fin rfl (kr64 _ _ (then_n (ks63 _ _ (xret ?_))))
    have q0 := of_some h
    subst q0
    exact qq _ _ (post_ret (by kernel_rfl) (run_results [.tmp 8] [.bool r25] (by kernel_rfl) (.cons (res_tmp (by kernel_rfl)) .nil)) ⟨congrArg Ending.returned (by kernel_rfl), hs.none⟩)
   | false =>
    have h := of_if_f h
    refine wpS.only 5 (op_call (d := (some 156)) (by kernel_rfl) hs (fun _ => by kernel_rfl) (ref01_Same.ok hg _ (hs.rowL 0 rfl) (hs.rowR 4 rfl)) ?_)
    intro w gw hs
    refine ⟨fun _ => trivial, ?_⟩
    refine wpS.qs [(6, 157, .bool false), (7, 158, .bool false), (8, 159, undef), (9, 160, .bool false), (10, 8, .bool false)] ?_
    refine wpS.fin rfl (kr64 _ _ (then_n (ks63 _ _ (xret ?_))))
    have q0 := of_some h
    subst q0
    exact qq _ _ (post_ret (by kernel_rfl) (run_results [.tmp 8] [.bool false] (by kernel_rfl) (.cons (res_tmp (by kernel_rfl)) .nil)) ⟨congrArg Ending.returned (by kernel_rfl), hs.none⟩)
  refine wpS.tk 1 false (some 152) (.bool false) (yld_b (ef hc) (fun _ => by kernel_rfl)) ?_
  refine wpS.qs [(2, 153, .bool false), (3, 154, undef), (4, 155, undef), (5, 156, undef), (6, 157, .bool false), (7, 158, .bool false), (8, 159, undef), (9, 160, .bool false), (10, 8, .bool false)] ?_
  refine wpS.fin rfl (kr64 _ _ (then_n (ks63 _ _ (xret ?_))))
  have q0 := of_some h
  subst q0
  exact qq _ _ (post_ret (by kernel_rfl) (run_results [.tmp 8] [.bool false] (by kernel_rfl) (.cons (res_tmp (by kernel_rfl)) .nil)) ⟨congrArg Ending.returned (by kernel_rfl), hs.none⟩)
 refine wpS.tk 1 false (some 137) (.bool true) (yld_b (nt hc) (fun _ => by kernel_rfl)) ?_
 refine wpS.fin rfl (kr60 _ _ (then_n (ks59 _ _ (wp_cond_t (by kernel_rfl) (xseq_k fun KS65 ks65 => (xregS [0, 1, 2, 3, 4, 5, 6] fun KR66 kr66 => ?_))))))
 refine wpS.q 0 138 (.slice r20_A r20_n r20_c) ?_
 refine wpS.tk 1 false (some 139) (.int .i64 (r20.length : Int)) (yld_lenL (hs.rowR 0 rfl) (fun _ => by kernel_rfl)) ?_
 rcases of_if h with ⟨hc, h⟩ | ⟨hc, h⟩
 ·refine wpS.tk 2 false (some 140) (.bool true) (yld_b (et hc) (fun _ => by kernel_rfl)) ?_
  refine wpS.q 3 141 (.bool true) ?_
  obtain ⟨r26, hg, h⟩ := of_bind h
  refine wpS.only 4 (op_call (d := (some 142)) (by kernel_rfl) hs (fun _ => by kernel_rfl) (law10_awake.ok hg _) ?_)
  intro w gw hs
  refine ⟨fun _ => trivial, ?_⟩
  refine wpS.qs [(5, 143, .bool r26), (6, 8, .bool r26)] ?_
  refine wpS.fin rfl (kr66 _ _ (then_n (ks65 _ _ (xret (then_r ?_)))))
  have q0 := of_some h
  subst q0
  exact qq _ _ (post_ret (by kernel_rfl) (run_results [.tmp 8] [.bool r26] (by kernel_rfl) (.cons (res_tmp (by kernel_rfl)) .nil)) ⟨congrArg Ending.returned (by kernel_rfl), hs.none⟩)
 refine wpS.tk 2 false (some 140) (.bool false) (yld_b (ef hc) (fun _ => by kernel_rfl)) ?_
 refine wpS.qs [(3, 141, .bool false), (4, 142, undef), (5, 143, .bool false), (6, 8, .bool false)] ?_
 refine wpS.fin rfl (kr66 _ _ (then_n (ks65 _ _ (xret (then_r ?_)))))
 have q0 := of_some h
 subst q0
 exact qq _ _ (post_ret (by kernel_rfl) (run_results [.tmp 8] [.bool false] (by kernel_rfl) (.cons (res_tmp (by kernel_rfl)) .nil)) ⟨congrArg Ending.returned (by kernel_rfl), hs.none⟩)
end Go.Proofs.Ytmpagpbnpgcecaa
