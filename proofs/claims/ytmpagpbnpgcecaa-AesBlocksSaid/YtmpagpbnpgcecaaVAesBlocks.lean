/- Printed by this work's own program: the code of each function below comes to the answer that its plain form tells. -/
import Derived.Test.YtmpagpbnpgcecaaMy
import Derived.Test.YtmpagpbnpgcecaaProg
import Derived.Test.YtmpagpbnpgcecaaLAesBlocks
import Derived.Test.YtmpagpbnpgcecaaEX0
import Derived.Test.YtmpagpbnpgcecaaEX1
import Derived.Test.YtmpagpbnpgcecaaEX2
import Derived.Test.YtmpagpbnpgcecaaEX3
import Derived.Test.YtmpagpbnpgcecaaEX4
import Derived.Test.YtmpagpbnpgcecaaEX5
set_option linter.unusedVariables false
set_option linter.unusedSimpArgs false
set_option maxRecDepth 100000
set_option maxHeartbeats 4000000
namespace Go.Proofs.Ytmpagpbnpgcecaa
open Go.Mx
attribute [local irreducible] wpOp

theorem law10_AesBlocks.ok {K : Nat} {a0 : List Int} {a1 : List Int} {r0 : Bool} {a0_A : Option Addr} {a0_n : Nat} {a0_c : Nat} {a1_A : Option Addr} {a1_n : Nat} {a1_c : Nat} (h : law10_AesBlocks.f K a0 a1 = some r0) (w0 : World) (hp0 : RowL (CI .u8) w0 a0_A a0_n a0_c a0) (hp1 : RowL (CI .u8) w0 a1_A a1_n a1_c a1) : Ret Try.prog 4 #[.slice a0_A a0_n a0_c, .slice a1_A a1_n a1_c] w0 (.bool r0) := by
 refine calls_k Try.func4 rfl fun Q qq => ?_
 have hs := St.startR (all_cons (RowP.ent hp0) (all_cons (RowP.ent hp1) all_nil))
 refine wp_conv (a' := ⟨#[.slice a0_A a0_n a0_c, .slice a1_A a1_n a1_c, undef, undef, undef, undef, undef, undef, undef, undef, undef, undef, undef, undef, undef, undef, undef, undef, undef, undef, undef, undef, undef, undef, undef, undef, undef, undef, undef, undef, undef, undef, undef, undef, undef, undef, undef, undef, undef, undef, undef, undef, undef, undef, undef, undef, undef, undef, undef, undef, undef, undef, undef, undef, undef, undef, undef, undef, undef, undef, undef, undef, undef, undef, undef, undef, undef], []⟩) (by kernel_rfl) ?_
 refine xseq_k fun KS1 ks1 => ?_
 refine xregS [0] fun KR2 kr2 => ?_
 refine wpS.q 0 4 (.bool false) ?_
 refine wpS.fin rfl (kr2 _ _ (then_n (ks1 _ _ (xseq_k fun KS3 ks3 => (xseq_k fun KS4 ks4 => (xregS [0, 1, 2, 3, 4, 5, 6, 7] fun KR5 kr5 => ?_))))))
 refine wpS.q 0 13 (.slice a0_A a0_n a0_c) ?_
 refine wpS.tk 1 false (some 14) (.int .i64 (a0.length : Int)) (yld_lenL (hs.rowR 0 rfl) (fun _ => by kernel_rfl)) ?_
 rcases of_if h with ⟨hc, h⟩ | ⟨hc, h⟩
 ·refine wpS.tk 2 false (some 15) (.bool true) (yld_b (dt hc) (fun _ => by kernel_rfl)) ?_
  refine wpS.qs [(3, 16, .bool true), (4, 17, undef), (5, 18, undef), (6, 19, undef), (7, 20, .bool true)] ?_
  refine wpS.fin rfl (kr5 _ _ (then_n (ks4 _ _ (wp_cond_t (by kernel_rfl) (xseq_k fun KS6 ks6 => (xregS [0, 1] fun KR7 kr7 => ?_))))))
  obtain ⟨r1, hg, h⟩ := of_bind h
  refine wpS.only 0 (op_call (d := (some 21)) (by kernel_rfl) hs (fun _ => by kernel_rfl) (law10_awake.ok hg _) ?_)
  intro w gw hs
  refine ⟨fun _ => trivial, ?_⟩
  refine wpS.q 1 4 (.bool r1) ?_
  refine wpS.fin rfl (kr7 _ _ (then_n (ks6 _ _ (xret (then_r ?_)))))
  have q0 := of_some h
  subst q0
  exact qq _ _ (post_ret (by kernel_rfl) (run_results [.tmp 4] [.bool r1] (by kernel_rfl) (.cons (res_tmp (by kernel_rfl)) .nil)) ⟨congrArg Ending.returned (by kernel_rfl), hs.none⟩)
 refine wpS.tk 2 false (some 15) (.bool false) (yld_b (df hc) (fun _ => by kernel_rfl)) ?_
 refine wpS.qs [(3, 16, .bool false), (4, 17, .slice a1_A a1_n a1_c)] ?_
 refine wpS.tk 5 false (some 18) (.int .i64 (a1.length : Int)) (yld_lenL (hs.rowR 1 rfl) (fun _ => by kernel_rfl)) ?_
 rcases of_if h with ⟨hc, h⟩ | ⟨hc, h⟩
 ·refine wpS.tk 6 false (some 19) (.bool true) (yld_b (dt hc) (fun _ => by kernel_rfl)) ?_
  refine wpS.q 7 20 (.bool true) ?_
  refine wpS.fin rfl (kr5 _ _ (then_n (ks4 _ _ (wp_cond_t (by kernel_rfl) (xseq_k fun KS8 ks8 => (xregS [0, 1] fun KR9 kr9 => ?_))))))
  obtain ⟨r2, hg, h⟩ := of_bind h
  refine wpS.only 0 (op_call (d := (some 21)) (by kernel_rfl) hs (fun _ => by kernel_rfl) (law10_awake.ok hg _) ?_)
  intro w gw hs
  refine ⟨fun _ => trivial, ?_⟩
  refine wpS.q 1 4 (.bool r2) ?_
  refine wpS.fin rfl (kr9 _ _ (then_n (ks8 _ _ (xret (then_r ?_)))))
  have q0 := of_some h
  subst q0
  exact qq _ _ (post_ret (by kernel_rfl) (run_results [.tmp 4] [.bool r2] (by kernel_rfl) (.cons (res_tmp (by kernel_rfl)) .nil)) ⟨congrArg Ending.returned (by kernel_rfl), hs.none⟩)
 refine wpS.tk 6 false (some 19) (.bool false) (yld_b (df hc) (fun _ => by kernel_rfl)) ?_
 refine wpS.q 7 20 (.bool false) ?_
 refine wpS.fin rfl (kr5 _ _ (then_n (ks4 _ _ (wp_cond_f (by kernel_rfl) (xskip (then_n (ks3 _ _ (xseq_k fun KS10 ks10 => (xregS [0, 1, 2, 3, 4, 5, 6, 7] fun KR11 kr11 => ?_)))))))))
 refine wpS.qs [(0, 23, .slice a0_A a0_n a0_c), (1, 24, .slice a1_A a1_n a1_c)] ?_
 obtain ⟨⟨r3, r4⟩, hg, h⟩ := of_bind h
 refine wpS.only 2 (op_callH (d := (some 25)) (by kernel_rfl) hs (fun _ => by kernel_rfl) (aes_Block.ok hg _ (hs.rowR 0 rfl) (hs.rowR 1 rfl)) ?_)
 rintro ⟨r3_A, r3_n, r3_c⟩ w gw hs
 have hs := hs.conv (L' := [.rowL (CI .u8) r3_A r3_n r3_c r3]) rfl
 have hs := hs.toR 0 rfl
 refine ⟨fun _ => trivial, ?_⟩
 refine wpS.qs [(3, 22, .tuple #[.slice r3_A r3_n r3_c, .int .i64 r4]), (4, 26, .slice r3_A r3_n r3_c), (5, 27, .int .i64 r4), (6, 5, .slice r3_A r3_n r3_c), (7, 6, .int .i64 r4)] ?_
 refine wpS.fin rfl (kr11 _ _ (then_n (ks10 _ _ (xseq_k fun KS12 ks12 => (xregS [0, 1, 2, 3, 4, 5, 6, 7] fun KR13 kr13 => ?_)))))
 refine wpS.qs [(0, 29, .slice a0_A a0_n a0_c), (1, 30, .slice a1_A a1_n a1_c)] ?_
 obtain ⟨⟨r5, r6⟩, hg, h⟩ := of_bind h
 refine wpS.only 2 (op_callH (d := (some 31)) (by kernel_rfl) hs (fun _ => by kernel_rfl) (ref10_Block.ok hg _ (hs.rowR 1 rfl) (hs.rowR 2 rfl)) ?_)
 rintro ⟨r5_A, r5_n, r5_c⟩ w gw hs
 have hs := hs.conv (L' := [.ownL (CI .u8) r5_A r5_n r5_c r5 5]) rfl
 refine ⟨fun _ => trivial, ?_⟩
 refine wpS.qs [(3, 28, .tuple #[.slice r5_A r5_n r5_c, .int .i64 r6]), (4, 32, .slice r5_A r5_n r5_c), (5, 33, .int .i64 r6), (6, 7, .slice r5_A r5_n r5_c), (7, 8, .int .i64 r6)] ?_
 refine wpS.fin rfl (kr13 _ _ (then_n (ks12 _ _ (xseq_k fun KS14 ks14 => (xregS [0, 1, 2, 3, 4, 5, 6, 7] fun KR15 kr15 => ?_)))))
 refine wpS.qs [(0, 35, .slice a0_A a0_n a0_c), (1, 36, .slice a1_A a1_n a1_c)] ?_
 obtain ⟨⟨r7, r8⟩, hg, h⟩ := of_bind h
 refine wpS.only 2 (op_callH (d := (some 37)) (by kernel_rfl) hs (fun _ => by kernel_rfl) (aes_Back.ok hg _ (hs.rowR 1 rfl) (hs.rowR 2 rfl)) ?_)
 rintro ⟨r7_A, r7_n, r7_c⟩ w gw hs
 have hs := hs.conv (L' := [.rowL (CI .u8) r7_A r7_n r7_c r7, .ownL (CI .u8) r5_A r5_n r5_c r5 5]) rfl
 have hs := hs.toR 0 rfl
 refine ⟨fun _ => trivial, ?_⟩
 refine wpS.qs [(3, 34, .tuple #[.slice r7_A r7_n r7_c, .int .i64 r8]), (4, 38, .slice r7_A r7_n r7_c), (5, 39, .int .i64 r8), (6, 9, .slice r7_A r7_n r7_c), (7, 10, .int .i64 r8)] ?_
 refine wpS.fin rfl (kr15 _ _ (then_n (ks14 _ _ (xseq_k fun KS16 ks16 => (xregS [0, 1, 2, 3, 4, 5, 6, 7] fun KR17 kr17 => ?_)))))
 refine wpS.qs [(0, 41, .slice a0_A a0_n a0_c), (1, 42, .slice a1_A a1_n a1_c)] ?_
 obtain ⟨⟨r9, r10⟩, hg, h⟩ := of_bind h
 refine wpS.only 2 (op_callH (d := (some 43)) (by kernel_rfl) hs (fun _ => by kernel_rfl) (ref10_Back.ok hg _ (hs.rowR 2 rfl) (hs.rowR 3 rfl)) ?_)
 rintro ⟨r9_A, r9_n, r9_c⟩ w gw hs
 have hs := hs.conv (L' := [.ownL (CI .u8) r9_A r9_n r9_c r9 5, .ownL (CI .u8) r5_A r5_n r5_c r5 5]) rfl
 refine ⟨fun _ => trivial, ?_⟩
 refine wpS.qs [(3, 40, .tuple #[.slice r9_A r9_n r9_c, .int .i64 r10]), (4, 44, .slice r9_A r9_n r9_c), (5, 45, .int .i64 r10), (6, 11, .slice r9_A r9_n r9_c), (7, 12, .int .i64 r10)] ?_
 refine wpS.fin rfl (kr17 _ _ (then_n (ks16 _ _ (xseq_k fun KS18 ks18 => (xregS [0, 1, 2, 3, 4, 5, 6, 7, 8, 9, 10, 11, 12, 13, 14, 15, 16, 17, 18, 19, 20, 21] fun KR19 kr19 => ?_)))))
 refine wpS.qs [(0, 46, .slice r3_A r3_n r3_c), (1, 47, .slice r5_A r5_n r5_c)] ?_
 obtain ⟨r11, hg, h⟩ := of_bind h
 cases r11 with
 | true =>
  have h := of_if_t h
  refine wpS.only 2 (op_call (d := (some 48)) (by kernel_rfl) hs (fun _ => by kernel_rfl) (ref01_Same.ok hg _ (hs.rowR 1 rfl) (hs.rowL 1 rfl)) ?_)
  intro w gw hs
  refine ⟨fun _ => trivial, ?_⟩
  refine wpS.qs [(3, 49, .bool true), (4, 50, .int .i64 r4), (5, 51, .int .i64 r6)] ?_
  rcases of_if h with ⟨hc, h⟩ | ⟨hc, h⟩
  ·refine wpS.tk 6 false (some 52) (.bool true) (yld_b (et hc) (fun _ => by kernel_rfl)) ?_
   refine wpS.qs [(7, 53, .bool true), (8, 54, .bool true), (9, 55, .slice r7_A r7_n r7_c), (10, 56, .slice r9_A r9_n r9_c)] ?_
   obtain ⟨r12, hg, h⟩ := of_bind h
   cases r12 with
   | true =>
    have h := of_if_t h
    refine wpS.only 11 (op_call (d := (some 57)) (by kernel_rfl) hs (fun _ => by kernel_rfl) (ref01_Same.ok hg _ (hs.rowR 0 rfl) (hs.rowL 0 rfl)) ?_)
    intro w gw hs
    refine ⟨fun _ => trivial, ?_⟩
    refine wpS.qs [(12, 58, .bool true), (13, 59, .bool true), (14, 60, .int .i64 r8), (15, 61, .int .i64 r10)] ?_
    rcases of_if h with ⟨hc, h⟩ | ⟨hc, h⟩
    ·refine wpS.tk 16 false (some 62) (.bool true) (yld_b (et hc) (fun _ => by kernel_rfl)) ?_
     refine wpS.qs [(17, 63, .bool true), (18, 64, .bool true)] ?_
     obtain ⟨r13, hg, h⟩ := of_bind h
     refine wpS.only 19 (op_call (d := (some 65)) (by kernel_rfl) hs (fun _ => by kernel_rfl) (law10_awake.ok hg _) ?_)
     intro w gw hs
     refine ⟨fun _ => trivial, ?_⟩
     refine wpS.qs [(20, 66, .bool r13), (21, 4, .bool r13)] ?_
     refine wpS.fin rfl (kr19 _ _ (then_n (ks18 _ _ (xret ?_))))
     have q0 := of_some h
     subst q0
     exact qq _ _ (post_ret (by kernel_rfl) (run_results [.tmp 4] [.bool r13] (by kernel_rfl) (.cons (res_tmp (by kernel_rfl)) .nil)) ⟨congrArg Ending.returned (by kernel_rfl), hs.none⟩)
    refine wpS.tk 16 false (some 62) (.bool false) (yld_b (ef hc) (fun _ => by kernel_rfl)) ?_
    refine wpS.qs [(17, 63, .bool false), (18, 64, .bool false), (19, 65, undef), (20, 66, .bool false), (21, 4, .bool false)] ?_
    refine wpS.fin rfl (kr19 _ _ (then_n (ks18 _ _ (xret ?_))))
    have q0 := of_some h
    subst q0
    exact qq _ _ (post_ret (by kernel_rfl) (run_results [.tmp 4] [.bool false] (by kernel_rfl) (.cons (res_tmp (by kernel_rfl)) .nil)) ⟨congrArg Ending.returned (by kernel_rfl), hs.none⟩)
   | false =>
    have h := of_if_f h
    refine wpS.only 11 (op_call (d := (some 57)) (by kernel_rfl) hs (fun _ => by kernel_rfl) (ref01_Same.ok hg _ (hs.rowR 0 rfl) (hs.rowL 0 rfl)) ?_)
    intro w gw hs
    refine ⟨fun _ => trivial, ?_⟩
    refine wpS.qs [(12, 58, .bool false), (13, 59, .bool false), (14, 60, undef), (15, 61, undef), (16, 62, undef), (17, 63, .bool false), (18, 64, .bool false), (19, 65, undef), (20, 66, .bool false), (21, 4, .bool false)] ?_
    refine wpS.fin rfl (kr19 _ _ (then_n (ks18 _ _ (xret ?_))))
    have q0 := of_some h
    subst q0
    exact qq _ _ (post_ret (by kernel_rfl) (run_results [.tmp 4] [.bool false] (by kernel_rfl) (.cons (res_tmp (by kernel_rfl)) .nil)) ⟨congrArg Ending.returned (by kernel_rfl), hs.none⟩)
  refine wpS.tk 6 false (some 52) (.bool false) (yld_b (ef hc) (fun _ => by kernel_rfl)) ?_
  refine wpS.qs [(7, 53, .bool false), (8, 54, .bool false), (9, 55, undef), (10, 56, undef), (11, 57, undef), (12, 58, .bool false), (13, 59, .bool false), (14, 60, undef), (15, 61, undef), (16, 62, undef), (17, 63, .bool false), (18, 64, .bool false), (19, 65, undef), (20, 66, .bool false), (21, 4, .bool false)] ?_
  refine wpS.fin rfl (kr19 _ _ (then_n (ks18 _ _ (xret ?_))))
  have q0 := of_some h
  subst q0
  exact qq _ _ (post_ret (by kernel_rfl) (run_results [.tmp 4] [.bool false] (by kernel_rfl) (.cons (res_tmp (by kernel_rfl)) .nil)) ⟨congrArg Ending.returned (by kernel_rfl), hs.none⟩)
 | false =>
  have h := of_if_f h
  refine wpS.only 2 (op_call (d := (some 48)) (by kernel_rfl) hs (fun _ => by kernel_rfl) (ref01_Same.ok hg _ (hs.rowR 1 rfl) (hs.rowL 1 rfl)) ?_)
  intro w gw hs
  refine ⟨fun _ => trivial, ?_⟩
  refine wpS.qs [(3, 49, .bool false), (4, 50, undef), (5, 51, undef), (6, 52, undef), (7, 53, .bool false), (8, 54, .bool false), (9, 55, undef), (10, 56, undef), (11, 57, undef), (12, 58, .bool false), (13, 59, .bool false), (14, 60, undef), (15, 61, undef), (16, 62, undef), (17, 63, .bool false), (18, 64, .bool false), (19, 65, undef), (20, 66, .bool false), (21, 4, .bool false)] ?_
  refine wpS.fin rfl (kr19 _ _ (then_n (ks18 _ _ (xret ?_))))
  have q0 := of_some h
  subst q0
  exact qq _ _ (post_ret (by kernel_rfl) (run_results [.tmp 4] [.bool false] (by kernel_rfl) (.cons (res_tmp (by kernel_rfl)) .nil)) ⟨congrArg Ending.returned (by kernel_rfl), hs.none⟩)
end Go.Proofs.Ytmpagpbnpgcecaa
