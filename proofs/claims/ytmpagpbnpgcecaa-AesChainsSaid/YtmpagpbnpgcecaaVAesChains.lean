/- Printed by this work's own program: the code of each function below comes to the answer that its plain form tells. -/
import Derived.Test.YtmpagpbnpgcecaaMd
import Derived.Test.YtmpagpbnpgcecaaProg
import Derived.Test.YtmpagpbnpgcecaaLAesChains
import Derived.Test.YtmpagpbnpgcecaaRX0
import Derived.Test.YtmpagpbnpgcecaaRX1
import Derived.Test.YtmpagpbnpgcecaaRX2
import Derived.Test.YtmpagpbnpgcecaaRX3
import Derived.Test.YtmpagpbnpgcecaaRX4
import Derived.Test.YtmpagpbnpgcecaaRX7
import Derived.Test.YtmpagpbnpgcecaaRX8
import Derived.Test.YtmpagpbnpgcecaaRX9
set_option linter.unusedVariables false
set_option linter.unusedSimpArgs false
set_option maxRecDepth 100000
set_option maxHeartbeats 4000000
namespace Go.Proofs.Ytmpagpbnpgcecaa
open Go.Mx
attribute [local irreducible] wpOp

theorem law10_AesChains.ok {K : Nat} {a0 : List Int} {a1 : List Int} {a2 : List Int} {r0 : Bool} {a0_A : Option Addr} {a0_n : Nat} {a0_c : Nat} {a1_A : Option Addr} {a1_n : Nat} {a1_c : Nat} {a2_A : Option Addr} {a2_n : Nat} {a2_c : Nat} (h : law10_AesChains.f K a0 a1 a2 = some r0) (w0 : World) (hp0 : RowL (CI .u8) w0 a0_A a0_n a0_c a0) (hp1 : RowL (CI .u8) w0 a1_A a1_n a1_c a1) (hp2 : RowL (CI .u8) w0 a2_A a2_n a2_c a2) : Ret Try.prog 9 #[.slice a0_A a0_n a0_c, .slice a1_A a1_n a1_c, .slice a2_A a2_n a2_c] w0 (.bool r0) := by
 refine calls_k Try.func9 rfl fun Q qq => ?_
 have hs := St.startR (all_cons (RowP.ent hp0) (all_cons (RowP.ent hp1) (all_cons (RowP.ent hp2) all_nil)))
 refine wp_conv (a' := ⟨#[.slice a0_A a0_n a0_c, .slice a1_A a1_n a1_c, .slice a2_A a2_n a2_c, undef, undef, undef, undef, undef, undef, undef, undef, undef, undef, undef, undef, undef, undef, undef, undef, undef, undef, undef, undef, undef, undef, undef, undef, undef, undef, undef, undef, undef, undef, undef, undef, undef, undef, undef, undef, undef, undef, undef, undef, undef, undef, undef, undef, undef, undef, undef, undef, undef, undef, undef, undef, undef, undef, undef, undef, undef, undef, undef, undef, undef, undef, undef, undef, undef, undef, undef, undef, undef, undef, undef, undef, undef, undef, undef], []⟩) (by kernel_rfl) ?_
 refine xseq_k fun KS1 ks1 => ?_
 refine xregS [0] fun KR2 kr2 => ?_
 refine wpS.q 0 6 (.bool false) ?_
 refine wpS.fin rfl (kr2 _ _ (then_n (ks1 _ _ (xseq_k fun KS3 ks3 => (xseq_k fun KS4 ks4 => (xregS [0, 1, 2, 3, 4, 5, 6, 7, 8, 9, 10, 11, 12] fun KR5 kr5 => ?_))))))
 refine wpS.q 0 15 (.slice a0_A a0_n a0_c) ?_
 refine wpS.tk 1 false (some 16) (.int .i64 (a0.length : Int)) (yld_lenL (hs.rowR 0 rfl) (fun _ => by kernel_rfl)) ?_
 rcases of_if h with ⟨hc, h⟩ | ⟨hc, h⟩
 ·refine wpS.tk 2 false (some 17) (.bool true) (yld_b (dt hc) (fun _ => by kernel_rfl)) ?_
  refine wpS.qs [(3, 18, .bool true), (4, 19, undef), (5, 20, undef), (6, 21, undef), (7, 22, .bool true), (8, 23, .bool true), (9, 24, undef), (10, 25, undef), (11, 26, undef), (12, 27, .bool true)] ?_
  refine wpS.fin rfl (kr5 _ _ (then_n (ks4 _ _ (wp_cond_t (by kernel_rfl) (xseq_k fun KS6 ks6 => (xregS [0, 1] fun KR7 kr7 => ?_))))))
  obtain ⟨r1, hg, h⟩ := of_bind h
  refine wpS.only 0 (op_call (d := (some 28)) (by kernel_rfl) hs (fun _ => by kernel_rfl) (law10_awake.ok hg _) ?_)
  intro w gw hs
  refine ⟨fun _ => trivial, ?_⟩
  refine wpS.q 1 6 (.bool r1) ?_
  refine wpS.fin rfl (kr7 _ _ (then_n (ks6 _ _ (xret (then_r ?_)))))
  have q0 := of_some h
  subst q0
  exact qq _ _ (post_ret (by kernel_rfl) (run_results [.tmp 6] [.bool r1] (by kernel_rfl) (.cons (res_tmp (by kernel_rfl)) .nil)) ⟨congrArg Ending.returned (by kernel_rfl), hs.none⟩)
 refine wpS.tk 2 false (some 17) (.bool false) (yld_b (df hc) (fun _ => by kernel_rfl)) ?_
 refine wpS.qs [(3, 18, .bool false), (4, 19, .slice a1_A a1_n a1_c)] ?_
 refine wpS.tk 5 false (some 20) (.int .i64 (a1.length : Int)) (yld_lenL (hs.rowR 1 rfl) (fun _ => by kernel_rfl)) ?_
 rcases of_if h with ⟨hc, h⟩ | ⟨hc, h⟩
 ·refine wpS.tk 6 false (some 21) (.bool true) (yld_b (dt hc) (fun _ => by kernel_rfl)) ?_
  refine wpS.qs [(7, 22, .bool true), (8, 23, .bool true), (9, 24, undef), (10, 25, undef), (11, 26, undef), (12, 27, .bool true)] ?_
  refine wpS.fin rfl (kr5 _ _ (then_n (ks4 _ _ (wp_cond_t (by kernel_rfl) (xseq_k fun KS8 ks8 => (xregS [0, 1] fun KR9 kr9 => ?_))))))
  obtain ⟨r2, hg, h⟩ := of_bind h
  refine wpS.only 0 (op_call (d := (some 28)) (by kernel_rfl) hs (fun _ => by kernel_rfl) (law10_awake.ok hg _) ?_)
  intro w gw hs
  refine ⟨fun _ => trivial, ?_⟩
  refine wpS.q 1 6 (.bool r2) ?_
  refine wpS.fin rfl (kr9 _ _ (then_n (ks8 _ _ (xret (then_r ?_)))))
  have q0 := of_some h
  subst q0
  exact qq _ _ (post_ret (by kernel_rfl) (run_results [.tmp 6] [.bool r2] (by kernel_rfl) (.cons (res_tmp (by kernel_rfl)) .nil)) ⟨congrArg Ending.returned (by kernel_rfl), hs.none⟩)
 refine wpS.tk 6 false (some 21) (.bool false) (yld_b (df hc) (fun _ => by kernel_rfl)) ?_
 refine wpS.qs [(7, 22, .bool false), (8, 23, .bool false), (9, 24, .slice a2_A a2_n a2_c)] ?_
 refine wpS.tk 10 false (some 25) (.int .i64 (a2.length : Int)) (yld_lenL (hs.rowR 2 rfl) (fun _ => by kernel_rfl)) ?_
 rcases of_if h with ⟨hc, h⟩ | ⟨hc, h⟩
 ·refine wpS.tk 11 false (some 26) (.bool true) (yld_b (dt hc) (fun _ => by kernel_rfl)) ?_
  refine wpS.q 12 27 (.bool true) ?_
  refine wpS.fin rfl (kr5 _ _ (then_n (ks4 _ _ (wp_cond_t (by kernel_rfl) (xseq_k fun KS10 ks10 => (xregS [0, 1] fun KR11 kr11 => ?_))))))
  obtain ⟨r3, hg, h⟩ := of_bind h
  refine wpS.only 0 (op_call (d := (some 28)) (by kernel_rfl) hs (fun _ => by kernel_rfl) (law10_awake.ok hg _) ?_)
  intro w gw hs
  refine ⟨fun _ => trivial, ?_⟩
  refine wpS.q 1 6 (.bool r3) ?_
  refine wpS.fin rfl (kr11 _ _ (then_n (ks10 _ _ (xret (then_r ?_)))))
  have q0 := of_some h
  subst q0
  exact qq _ _ (post_ret (by kernel_rfl) (run_results [.tmp 6] [.bool r3] (by kernel_rfl) (.cons (res_tmp (by kernel_rfl)) .nil)) ⟨congrArg Ending.returned (by kernel_rfl), hs.none⟩)
 refine wpS.tk 11 false (some 26) (.bool false) (yld_b (df hc) (fun _ => by kernel_rfl)) ?_
 refine wpS.q 12 27 (.bool false) ?_
 refine wpS.fin rfl (kr5 _ _ (then_n (ks4 _ _ (wp_cond_f (by kernel_rfl) (xskip (then_n (ks3 _ _ (xseq_k fun KS12 ks12 => (xregS [0, 1, 2, 3, 4, 5, 6, 7, 8] fun KR13 kr13 => ?_)))))))))
 refine wpS.qs [(0, 30, .slice a0_A a0_n a0_c), (1, 31, .slice a1_A a1_n a1_c), (2, 32, .slice a2_A a2_n a2_c)] ?_
 obtain ⟨⟨r4, r5⟩, hg, h⟩ := of_bind h
 refine wpS.only 3 (op_callH (d := (some 33)) (by kernel_rfl) hs (fun _ => by kernel_rfl) (aes_Chain.ok hg _ (hs.rowR 0 rfl) (hs.rowR 1 rfl) (hs.rowR 2 rfl)) ?_)
 rintro ⟨r4_A, r4_n, r4_c⟩ w gw hs
 have hs := hs.conv (L' := [.ownL (CI .u8) r4_A r4_n r4_c r4 5]) rfl
 refine ⟨fun _ => trivial, ?_⟩
 refine wpS.qs [(4, 29, .tuple #[.slice r4_A r4_n r4_c, .int .i64 r5]), (5, 34, .slice r4_A r4_n r4_c), (6, 35, .int .i64 r5), (7, 7, .slice r4_A r4_n r4_c), (8, 8, .int .i64 r5)] ?_
 refine wpS.fin rfl (kr13 _ _ (then_n (ks12 _ _ (xseq_k fun KS14 ks14 => (xregS [0, 1, 2, 3, 4, 5, 6, 7, 8] fun KR15 kr15 => ?_)))))
 refine wpS.qs [(0, 37, .slice a0_A a0_n a0_c), (1, 38, .slice a1_A a1_n a1_c), (2, 39, .slice a2_A a2_n a2_c)] ?_
 obtain ⟨⟨r6, r7⟩, hg, h⟩ := of_bind h
 refine wpS.only 3 (op_callH (d := (some 40)) (by kernel_rfl) hs (fun _ => by kernel_rfl) (ref10_Chain.ok hg _ (hs.rowR 0 rfl) (hs.rowR 1 rfl) (hs.rowR 2 rfl)) ?_)
 rintro ⟨r6_A, r6_n, r6_c⟩ w gw hs
 have hs := hs.conv (L' := [.ownL (CI .u8) r6_A r6_n r6_c r6 5, .ownL (CI .u8) r4_A r4_n r4_c r4 5]) rfl
 refine ⟨fun _ => trivial, ?_⟩
 refine wpS.qs [(4, 36, .tuple #[.slice r6_A r6_n r6_c, .int .i64 r7]), (5, 41, .slice r6_A r6_n r6_c), (6, 42, .int .i64 r7), (7, 9, .slice r6_A r6_n r6_c), (8, 10, .int .i64 r7)] ?_
 refine wpS.fin rfl (kr15 _ _ (then_n (ks14 _ _ (xseq_k fun KS16 ks16 => (xregS [0, 1, 2, 3, 4, 5, 6, 7, 8] fun KR17 kr17 => ?_)))))
 refine wpS.qs [(0, 44, .slice a0_A a0_n a0_c), (1, 45, .slice a1_A a1_n a1_c), (2, 46, .slice a2_A a2_n a2_c)] ?_
 obtain ⟨⟨r8, r9⟩, hg, h⟩ := of_bind h
 refine wpS.only 3 (op_callH (d := (some 47)) (by kernel_rfl) hs (fun _ => by kernel_rfl) (aes_Unchain.ok hg _ (hs.rowR 0 rfl) (hs.rowR 1 rfl) (hs.rowR 2 rfl)) ?_)
 rintro ⟨r8_A, r8_n, r8_c⟩ w gw hs
 have hs := hs.conv (L' := [.rowL (CI .u8) r8_A r8_n r8_c r8, .ownL (CI .u8) r6_A r6_n r6_c r6 5, .ownL (CI .u8) r4_A r4_n r4_c r4 5]) rfl
 have hs := hs.toR 0 rfl
 refine ⟨fun _ => trivial, ?_⟩
 refine wpS.qs [(4, 43, .tuple #[.slice r8_A r8_n r8_c, .int .i64 r9]), (5, 48, .slice r8_A r8_n r8_c), (6, 49, .int .i64 r9), (7, 11, .slice r8_A r8_n r8_c), (8, 12, .int .i64 r9)] ?_
 refine wpS.fin rfl (kr17 _ _ (then_n (ks16 _ _ (xseq_k fun KS18 ks18 => (xregS [0, 1, 2, 3, 4, 5, 6, 7, 8] fun KR19 kr19 => ?_)))))
 refine wpS.qs [(0, 51, .slice a0_A a0_n a0_c), (1, 52, .slice a1_A a1_n a1_c), (2, 53, .slice a2_A a2_n a2_c)] ?_
 obtain ⟨⟨r10, r11⟩, hg, h⟩ := of_bind h
 refine wpS.only 3 (op_callH (d := (some 54)) (by kernel_rfl) hs (fun _ => by kernel_rfl) (ref10_Unchain.ok hg _ (hs.rowR 1 rfl) (hs.rowR 2 rfl) (hs.rowR 3 rfl)) ?_)
 rintro ⟨r10_A, r10_n, r10_c⟩ w gw hs
 have hs := hs.conv (L' := [.ownL (CI .u8) r10_A r10_n r10_c r10 5, .ownL (CI .u8) r6_A r6_n r6_c r6 5, .ownL (CI .u8) r4_A r4_n r4_c r4 5]) rfl
 refine ⟨fun _ => trivial, ?_⟩
 refine wpS.qs [(4, 50, .tuple #[.slice r10_A r10_n r10_c, .int .i64 r11]), (5, 55, .slice r10_A r10_n r10_c), (6, 56, .int .i64 r11), (7, 13, .slice r10_A r10_n r10_c), (8, 14, .int .i64 r11)] ?_
 refine wpS.fin rfl (kr19 _ _ (then_n (ks18 _ _ (xseq_k fun KS20 ks20 => (xregS [0, 1, 2, 3, 4, 5, 6, 7, 8, 9, 10, 11, 12, 13, 14, 15, 16, 17, 18, 19, 20, 21] fun KR21 kr21 => ?_)))))
 refine wpS.qs [(0, 57, .slice r4_A r4_n r4_c), (1, 58, .slice r6_A r6_n r6_c)] ?_
 obtain ⟨r12, hg, h⟩ := of_bind h
 cases r12 with
 | true =>
  have h := of_if_t h
  refine wpS.only 2 (op_call (d := (some 59)) (by kernel_rfl) hs (fun _ => by kernel_rfl) (ref01_Same.ok hg _ (hs.rowL 2 rfl) (hs.rowL 1 rfl)) ?_)
  intro w gw hs
  refine ⟨fun _ => trivial, ?_⟩
  refine wpS.qs [(3, 60, .bool true), (4, 61, .int .i64 r5), (5, 62, .int .i64 r7)] ?_
  rcases of_if h with ⟨hc, h⟩ | ⟨hc, h⟩
  ·refine wpS.tk 6 false (some 63) (.bool true) (yld_b (et hc) (fun _ => by kernel_rfl)) ?_
   refine wpS.qs [(7, 64, .bool true), (8, 65, .bool true), (9, 66, .slice r8_A r8_n r8_c), (10, 67, .slice r10_A r10_n r10_c)] ?_
   obtain ⟨r13, hg, h⟩ := of_bind h
   cases r13 with
   | true =>
    have h := of_if_t h
    refine wpS.only 11 (op_call (d := (some 68)) (by kernel_rfl) hs (fun _ => by kernel_rfl) (ref01_Same.ok hg _ (hs.rowR 0 rfl) (hs.rowL 0 rfl)) ?_)
    intro w gw hs
    refine ⟨fun _ => trivial, ?_⟩
    refine wpS.qs [(12, 69, .bool true), (13, 70, .bool true), (14, 71, .int .i64 r9), (15, 72, .int .i64 r11)] ?_
    rcases of_if h with ⟨hc, h⟩ | ⟨hc, h⟩
    ·refine wpS.tk 16 false (some 73) (.bool true) (yld_b (et hc) (fun _ => by kernel_rfl)) ?_
     refine wpS.qs [(17, 74, .bool true), (18, 75, .bool true)] ?_
     obtain ⟨r14, hg, h⟩ := of_bind h
     refine wpS.only 19 (op_call (d := (some 76)) (by kernel_rfl) hs (fun _ => by kernel_rfl) (law10_awake.ok hg _) ?_)
     intro w gw hs
     refine ⟨fun _ => trivial, ?_⟩
     refine wpS.qs [(20, 77, .bool r14), (21, 6, .bool r14)] ?_
     refine wpS.fin rfl (kr21 _ _ (then_n (ks20 _ _ (xret ?_))))
     have q0 := of_some h
     subst q0
     exact qq _ _ (post_ret (by kernel_rfl) (run_results [.tmp 6] [.bool r14] (by kernel_rfl) (.cons (res_tmp (by kernel_rfl)) .nil)) ⟨congrArg Ending.returned (by kernel_rfl), hs.none⟩)
    refine wpS.tk 16 false (some 73) (.bool false) (yld_b (ef hc) (fun _ => by kernel_rfl)) ?_
    refine wpS.qs [(17, 74, .bool false), (18, 75, .bool false), (19, 76, undef), (20, 77, .bool false), (21, 6, .bool false)] ?_
    refine wpS.fin rfl (kr21 _ _ (then_n (ks20 _ _ (xret ?_))))
    have q0 := of_some h
    subst q0
    exact qq _ _ (post_ret (by kernel_rfl) (run_results [.tmp 6] [.bool false] (by kernel_rfl) (.cons (res_tmp (by kernel_rfl)) .nil)) ⟨congrArg Ending.returned (by kernel_rfl), hs.none⟩)
   | false =>
    have h := of_if_f h
    refine wpS.only 11 (op_call (d := (some 68)) (by kernel_rfl) hs (fun _ => by kernel_rfl) (ref01_Same.ok hg _ (hs.rowR 0 rfl) (hs.rowL 0 rfl)) ?_)
    intro w gw hs
    refine ⟨fun _ => trivial, ?_⟩
    refine wpS.qs [(12, 69, .bool false), (13, 70, .bool false), (14, 71, undef), (15, 72, undef), (16, 73, undef), (17, 74, .bool false), (18, 75, .bool false), (19, 76, undef), (20, 77, .bool false), (21, 6, .bool false)] ?_
    refine wpS.fin rfl (kr21 _ _ (then_n (ks20 _ _ (xret ?_))))
    have q0 := of_some h
    subst q0
    exact qq _ _ (post_ret (by kernel_rfl) (run_results [.tmp 6] [.bool false] (by kernel_rfl) (.cons (res_tmp (by kernel_rfl)) .nil)) ⟨congrArg Ending.returned (by kernel_rfl), hs.none⟩)
  refine wpS.tk 6 false (some 63) (.bool false) (yld_b (ef hc) (fun _ => by kernel_rfl)) ?_
  refine wpS.qs [(7, 64, .bool false), (8, 65, .bool false), (9, 66, undef), (10, 67, undef), (11, 68, undef), (12, 69, .bool false), (13, 70, .bool false), (14, 71, undef), (15, 72, undef), (16, 73, undef), (17, 74, .bool false), (18, 75, .bool false), (19, 76, undef), (20, 77, .bool false), (21, 6, .bool false)] ?_
  refine wpS.fin rfl (kr21 _ _ (then_n (ks20 _ _ (xret ?_))))
  have q0 := of_some h
  subst q0
  exact qq _ _ (post_ret (by kernel_rfl) (run_results [.tmp 6] [.bool false] (by kernel_rfl) (.cons (res_tmp (by kernel_rfl)) .nil)) ⟨congrArg Ending.returned (by kernel_rfl), hs.none⟩)
 | false =>
  have h := of_if_f h
  refine wpS.only 2 (op_call (d := (some 59)) (by kernel_rfl) hs (fun _ => by kernel_rfl) (ref01_Same.ok hg _ (hs.rowL 2 rfl) (hs.rowL 1 rfl)) ?_)
  intro w gw hs
  refine ⟨fun _ => trivial, ?_⟩
  refine wpS.qs [(3, 60, .bool false), (4, 61, undef), (5, 62, undef), (6, 63, undef), (7, 64, .bool false), (8, 65, .bool false), (9, 66, undef), (10, 67, undef), (11, 68, undef), (12, 69, .bool false), (13, 70, .bool false), (14, 71, undef), (15, 72, undef), (16, 73, undef), (17, 74, .bool false), (18, 75, .bool false), (19, 76, undef), (20, 77, .bool false), (21, 6, .bool false)] ?_
  refine wpS.fin rfl (kr21 _ _ (then_n (ks20 _ _ (xret ?_))))
  have q0 := of_some h
  subst q0
  exact qq _ _ (post_ret (by kernel_rfl) (run_results [.tmp 6] [.bool false] (by kernel_rfl) (.cons (res_tmp (by kernel_rfl)) .nil)) ⟨congrArg Ending.returned (by kernel_rfl), hs.none⟩)
end Go.Proofs.Ytmpagpbnpgcecaa
