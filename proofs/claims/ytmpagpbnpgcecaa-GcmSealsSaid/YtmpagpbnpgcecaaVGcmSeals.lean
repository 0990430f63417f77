/- Printed by this work's own program: the code of each function below comes to the answer that its plain form tells. -/
import Derived.Test.YtmpagpbnpgcecaaMd
import Derived.Test.YtmpagpbnpgcecaaProg
import Derived.Test.YtmpagpbnpgcecaaLGcmSeals
import Derived.Test.YtmpagpbnpgcecaaGX0
import Derived.Test.YtmpagpbnpgcecaaGX11
import Derived.Test.YtmpagpbnpgcecaaGX12
import Derived.Test.YtmpagpbnpgcecaaGX13
import Derived.Test.YtmpagpbnpgcecaaGX2
import Derived.Test.YtmpagpbnpgcecaaGX3
import Derived.Test.YtmpagpbnpgcecaaGX4
import Derived.Test.YtmpagpbnpgcecaaGX5
import Derived.Test.YtmpagpbnpgcecaaGX6
import Derived.Test.YtmpagpbnpgcecaaGX7
import Derived.Test.YtmpagpbnpgcecaaGX8
import Derived.Test.YtmpagpbnpgcecaaGX9
set_option linter.unusedVariables false
set_option linter.unusedSimpArgs false
set_option maxRecDepth 100000
set_option maxHeartbeats 4000000
namespace Go.Proofs.Ytmpagpbnpgcecaa
open Go.Mx
attribute [local irreducible] wpOp

theorem law12_GcmSeals.ok {K : Nat} {a0 : List Int} {a1 : List Int} {a2 : List Int} {a3 : List Int} {r0 : Bool} {a0_A : Option Addr} {a0_n : Nat} {a0_c : Nat} {a1_A : Option Addr} {a1_n : Nat} {a1_c : Nat} {a2_A : Option Addr} {a2_n : Nat} {a2_c : Nat} {a3_A : Option Addr} {a3_n : Nat} {a3_c : Nat} (h : law12_GcmSeals.f K a0 a1 a2 a3 = some r0) (w0 : World) (hp0 : RowL (CI .u8) w0 a0_A a0_n a0_c a0) (hp1 : RowL (CI .u8) w0 a1_A a1_n a1_c a1) (hp2 : RowL (CI .u8) w0 a2_A a2_n a2_c a2) (hp3 : RowL (CI .u8) w0 a3_A a3_n a3_c a3) : Ret Try.prog 7 #[.slice a0_A a0_n a0_c, .slice a1_A a1_n a1_c, .slice a2_A a2_n a2_c, .slice a3_A a3_n a3_c] w0 (.bool r0) := by
 refine calls_k Try.func7 rfl fun Q qq => ?_
 have hs := St.startR (all_cons (RowP.ent hp0) (all_cons (RowP.ent hp1) (all_cons (RowP.ent hp2) (all_cons (RowP.ent hp3) all_nil))))
 refine wp_conv (a' := ⟨#[.slice a0_A a0_n a0_c, .slice a1_A a1_n a1_c, .slice a2_A a2_n a2_c, .slice a3_A a3_n a3_c, undef, undef, undef, undef, undef, undef, undef, undef, undef, undef, undef, undef, undef, undef, undef, undef, undef, undef, undef, undef, undef, undef, undef, undef, undef, undef, undef, undef, undef, undef, undef, undef, undef, undef, undef, undef, undef, undef, undef, undef, undef, undef, undef, undef, undef, undef, undef, undef, undef, undef, undef, undef, undef, undef, undef, undef, undef, undef, undef, undef, undef, undef, undef, undef, undef, undef, undef, undef, undef, undef, undef, undef, undef, undef], []⟩) (by kernel_rfl) ?_
 refine xseq_k fun KS1 ks1 => ?_
 refine xregS [0] fun KR2 kr2 => ?_
 refine wpS.q 0 8 (.bool false) ?_
 refine wpS.fin rfl (kr2 _ _ (then_n (ks1 _ _ (xseq_k fun KS3 ks3 => (xseq_k fun KS4 ks4 => (xregS [0, 1, 2, 3, 4, 5, 6] fun KR5 kr5 => ?_))))))
 refine wpS.qs [(0, 17, .slice a0_A a0_n a0_c), (1, 18, .slice a1_A a1_n a1_c), (2, 19, .slice a2_A a2_n a2_c), (3, 20, .slice a3_A a3_n a3_c)] ?_
 refine wpS.only 4 (op_lit (C := CS) (t := 44) (e := 26) (len := 4) (parts := #[(0, .slice a0_A a0_n a0_c), (1, .slice a1_A a1_n a1_c), (2, .slice a2_A a2_n a2_c), (3, .slice a3_A a3_n a3_c)]) (l := ([(a0_A, a0_n, a0_c), (a1_A, a1_n, a1_c), (a2_A, a2_n, a2_c), (a3_A, a3_n, a3_c)] : List HS)) (d := (some 21)) (by kernel_rfl) hs (by kernel_rfl) (by kernel_rfl) (by kernel_rfl) (z := .slice none 0 0) (by kernel_rfl) rfl (by decide) (by decide) (by kernel_rfl) ?_)
 intro s1_A s1_n s1_c w gw hs
 refine ⟨fun _ => trivial, ?_⟩
 obtain ⟨r2, hg, h⟩ := of_bind h
 cases r2 with
 | true =>
  have h := of_if_t h
  refine wpS.only 5 (op_call (d := (some 22)) (by kernel_rfl) hs (fun _ => by kernel_rfl) (law12_few.ok hg _ (LLP.mk (hs.rowL 0 rfl) (inn_cons (hs.rowR 0 rfl) (inn_cons (hs.rowR 1 rfl) (inn_cons (hs.rowR 2 rfl) (inn_cons (hs.rowR 3 rfl) inn_nil)))))) ?_)
  intro w gw hs
  refine ⟨fun _ => trivial, ?_⟩
  refine wpS.q 6 23 (.bool false) ?_
  refine wpS.fin rfl (kr5 _ _ (then_n (ks4 _ _ (wp_cond_f (by kernel_rfl) (xskip (then_n (ks3 _ _ (xseq_k fun KS6 ks6 => (xregS [0, 1, 2, 3, 4, 5, 6, 7, 8, 9] fun KR7 kr7 => ?_)))))))))
  refine wpS.qs [(0, 26, .slice a0_A a0_n a0_c), (1, 27, .slice a1_A a1_n a1_c), (2, 28, .slice a2_A a2_n a2_c), (3, 29, .slice a3_A a3_n a3_c)] ?_
  obtain ⟨⟨r3, r4⟩, hg, h⟩ := of_bind h
  refine wpS.only 4 (op_callH (d := (some 30)) (by kernel_rfl) hs (fun _ => by kernel_rfl) (gcm_Seal.ok hg _ (hs.rowR 0 rfl) (hs.rowR 1 rfl) (hs.rowR 2 rfl) (hs.rowR 3 rfl)) ?_)
  rintro ⟨r3_A, r3_n, r3_c⟩ w gw hs
  have hs := hs.conv (L' := [.ownL (CI .u8) r3_A r3_n r3_c r3 5, .ownL CS s1_A s1_n s1_c ([(a0_A, a0_n, a0_c), (a1_A, a1_n, a1_c), (a2_A, a2_n, a2_c), (a3_A, a3_n, a3_c)] : List HS) 26]) rfl
  refine ⟨fun _ => trivial, ?_⟩
  refine wpS.qs [(5, 25, .tuple #[.slice r3_A r3_n r3_c, .int .i64 r4]), (6, 31, .slice r3_A r3_n r3_c), (7, 32, .int .i64 r4), (8, 9, .slice r3_A r3_n r3_c), (9, 10, .int .i64 r4)] ?_
  refine wpS.fin rfl (kr7 _ _ (then_n (ks6 _ _ (xseq_k fun KS8 ks8 => (xregS [0, 1, 2, 3, 4, 5, 6, 7, 8, 9] fun KR9 kr9 => ?_)))))
  refine wpS.qs [(0, 34, .slice a0_A a0_n a0_c), (1, 35, .slice a1_A a1_n a1_c), (2, 36, .slice a2_A a2_n a2_c), (3, 37, .slice a3_A a3_n a3_c)] ?_
  obtain ⟨⟨r5, r6⟩, hg, h⟩ := of_bind h
  refine wpS.only 4 (op_callH (d := (some 38)) (by kernel_rfl) hs (fun _ => by kernel_rfl) (ref12_Seal.ok hg _ (hs.rowR 0 rfl) (hs.rowR 1 rfl) (hs.rowR 2 rfl) (hs.rowR 3 rfl)) ?_)
  rintro ⟨r5_A, r5_n, r5_c⟩ w gw hs
  have hs := hs.conv (L' := [.ownL (CI .u8) r5_A r5_n r5_c r5 5, .ownL (CI .u8) r3_A r3_n r3_c r3 5, .ownL CS s1_A s1_n s1_c ([(a0_A, a0_n, a0_c), (a1_A, a1_n, a1_c), (a2_A, a2_n, a2_c), (a3_A, a3_n, a3_c)] : List HS) 26]) rfl
  refine ⟨fun _ => trivial, ?_⟩
  refine wpS.qs [(5, 33, .tuple #[.slice r5_A r5_n r5_c, .int .i64 r6]), (6, 39, .slice r5_A r5_n r5_c), (7, 40, .int .i64 r6), (8, 11, .slice r5_A r5_n r5_c), (9, 12, .int .i64 r6)] ?_
  refine wpS.fin rfl (kr9 _ _ (then_n (ks8 _ _ (xseq_k fun KS10 ks10 => (xregS [0, 1, 2, 3, 4, 5, 6, 7, 8, 9] fun KR11 kr11 => ?_)))))
  refine wpS.qs [(0, 42, .slice a0_A a0_n a0_c), (1, 43, .slice a1_A a1_n a1_c), (2, 44, .slice a2_A a2_n a2_c), (3, 45, .slice a3_A a3_n a3_c)] ?_
  obtain ⟨⟨r7, r8⟩, hg, h⟩ := of_bind h
  refine wpS.only 4 (op_callH (d := (some 46)) (by kernel_rfl) hs (fun _ => by kernel_rfl) (gcm_Open.ok hg _ (hs.rowR 0 rfl) (hs.rowR 1 rfl) (hs.rowR 2 rfl) (hs.rowR 3 rfl)) ?_)
  rintro ⟨r7_A, r7_n, r7_c⟩ w gw hs
  have hs := hs.conv (L' := [.ownL (CI .u8) r7_A r7_n r7_c r7 5, .ownL (CI .u8) r5_A r5_n r5_c r5 5, .ownL (CI .u8) r3_A r3_n r3_c r3 5, .ownL CS s1_A s1_n s1_c ([(a0_A, a0_n, a0_c), (a1_A, a1_n, a1_c), (a2_A, a2_n, a2_c), (a3_A, a3_n, a3_c)] : List HS) 26]) rfl
  refine ⟨fun _ => trivial, ?_⟩
  refine wpS.qs [(5, 41, .tuple #[.slice r7_A r7_n r7_c, .int .i64 r8]), (6, 47, .slice r7_A r7_n r7_c), (7, 48, .int .i64 r8), (8, 13, .slice r7_A r7_n r7_c), (9, 14, .int .i64 r8)] ?_
  refine wpS.fin rfl (kr11 _ _ (then_n (ks10 _ _ (xseq_k fun KS12 ks12 => (xregS [0, 1, 2, 3, 4, 5, 6, 7, 8, 9] fun KR13 kr13 => ?_)))))
  refine wpS.qs [(0, 50, .slice a0_A a0_n a0_c), (1, 51, .slice a1_A a1_n a1_c), (2, 52, .slice a2_A a2_n a2_c), (3, 53, .slice a3_A a3_n a3_c)] ?_
  obtain ⟨⟨r9, r10⟩, hg, h⟩ := of_bind h
  refine wpS.only 4 (op_callH (d := (some 54)) (by kernel_rfl) hs (fun _ => by kernel_rfl) (ref12_Open.ok hg _ (hs.rowR 0 rfl) (hs.rowR 1 rfl) (hs.rowR 2 rfl) (hs.rowR 3 rfl)) ?_)
  rintro ⟨r9_A, r9_n, r9_c⟩ w gw hs
  have hs := hs.conv (L' := [.ownL (CI .u8) r9_A r9_n r9_c r9 5, .ownL (CI .u8) r7_A r7_n r7_c r7 5, .ownL (CI .u8) r5_A r5_n r5_c r5 5, .ownL (CI .u8) r3_A r3_n r3_c r3 5, .ownL CS s1_A s1_n s1_c ([(a0_A, a0_n, a0_c), (a1_A, a1_n, a1_c), (a2_A, a2_n, a2_c), (a3_A, a3_n, a3_c)] : List HS) 26]) rfl
  refine ⟨fun _ => trivial, ?_⟩
  refine wpS.qs [(5, 49, .tuple #[.slice r9_A r9_n r9_c, .int .i64 r10]), (6, 55, .slice r9_A r9_n r9_c), (7, 56, .int .i64 r10), (8, 15, .slice r9_A r9_n r9_c), (9, 16, .int .i64 r10)] ?_
  refine wpS.fin rfl (kr13 _ _ (then_n (ks12 _ _ (xseq_k fun KS14 ks14 => (xregS [0, 1, 2, 3, 4, 5, 6, 7, 8, 9, 10, 11, 12, 13, 14, 15, 16, 17, 18, 19, 20, 21] fun KR15 kr15 => ?_)))))
  refine wpS.qs [(0, 57, .slice r3_A r3_n r3_c), (1, 58, .slice r5_A r5_n r5_c)] ?_
  obtain ⟨r11, hg, h⟩ := of_bind h
  cases r11 with
  | true =>
   have h := of_if_t h
   refine wpS.only 2 (op_call (d := (some 59)) (by kernel_rfl) hs (fun _ => by kernel_rfl) (ref01_Same.ok hg _ (hs.rowL 3 rfl) (hs.rowL 2 rfl)) ?_)
   intro w gw hs
   refine ⟨fun _ => trivial, ?_⟩
   refine wpS.qs [(3, 60, .bool true), (4, 61, .int .i64 r4), (5, 62, .int .i64 r6)] ?_
   rcases of_if h with ⟨hc, h⟩ | ⟨hc, h⟩
   ·refine wpS.tk 6 false (some 63) (.bool true) (yld_b (et hc) (fun _ => by kernel_rfl)) ?_
    refine wpS.qs [(7, 64, .bool true), (8, 65, .bool true), (9, 66, .slice r7_A r7_n r7_c), (10, 67, .slice r9_A r9_n r9_c)] ?_
    obtain ⟨r12, hg, h⟩ := of_bind h
    cases r12 with
    | true =>
     have h := of_if_t h
     refine wpS.only 11 (op_call (d := (some 68)) (by kernel_rfl) hs (fun _ => by kernel_rfl) (ref01_Same.ok hg _ (hs.rowL 1 rfl) (hs.rowL 0 rfl)) ?_)
     intro w gw hs
     refine ⟨fun _ => trivial, ?_⟩
     refine wpS.qs [(12, 69, .bool true), (13, 70, .bool true), (14, 71, .int .i64 r8), (15, 72, .int .i64 r10)] ?_
     rcases of_if h with ⟨hc, h⟩ | ⟨hc, h⟩
     ·refine wpS.tk 16 false (some 73) (.bool true) (yld_b (et hc) (fun _ => by kernel_rfl)) ?_
      refine wpS.qs [(17, 74, .bool true), (18, 75, .bool true)] ?_
      obtain ⟨r13, hg, h⟩ := of_bind h
      refine wpS.only 19 (op_call (d := (some 76)) (by kernel_rfl) hs (fun _ => by kernel_rfl) (law12_awake.ok hg _) ?_)
      intro w gw hs
      refine ⟨fun _ => trivial, ?_⟩
      refine wpS.qs [(20, 77, .bool r13), (21, 8, .bool r13)] ?_
      refine wpS.fin rfl (kr15 _ _ (then_n (ks14 _ _ (xret ?_))))
      have q0 := of_some h
      subst q0
      exact qq _ _ (post_ret (by kernel_rfl) (run_results [.tmp 8] [.bool r13] (by kernel_rfl) (.cons (res_tmp (by kernel_rfl)) .nil)) ⟨congrArg Ending.returned (by kernel_rfl), hs.none⟩)
     refine wpS.tk 16 false (some 73) (.bool false) (yld_b (ef hc) (fun _ => by kernel_rfl)) ?_
     refine wpS.qs [(17, 74, .bool false), (18, 75, .bool false), (19, 76, undef), (20, 77, .bool false), (21, 8, .bool false)] ?_
     refine wpS.fin rfl (kr15 _ _ (then_n (ks14 _ _ (xret ?_))))
     have q0 := of_some h
     subst q0
     exact qq _ _ (post_ret (by kernel_rfl) (run_results [.tmp 8] [.bool false] (by kernel_rfl) (.cons (res_tmp (by kernel_rfl)) .nil)) ⟨congrArg Ending.returned (by kernel_rfl), hs.none⟩)
    | false =>
     have h := of_if_f h
     refine wpS.only 11 (op_call (d := (some 68)) (by kernel_rfl) hs (fun _ => by kernel_rfl) (ref01_Same.ok hg _ (hs.rowL 1 rfl) (hs.rowL 0 rfl)) ?_)
     intro w gw hs
     refine ⟨fun _ => trivial, ?_⟩
     refine wpS.qs [(12, 69, .bool false), (13, 70, .bool false), (14, 71, undef), (15, 72, undef), (16, 73, undef), (17, 74, .bool false), (18, 75, .bool false), (19, 76, undef), (20, 77, .bool false), (21, 8, .bool false)] ?_
     refine wpS.fin rfl (kr15 _ _ (then_n (ks14 _ _ (xret ?_))))
     have q0 := of_some h
     subst q0
     exact qq _ _ (post_ret (by kernel_rfl) (run_results [.tmp 8] [.bool false] (by kernel_rfl) (.cons (res_tmp (by kernel_rfl)) .nil)) ⟨congrArg Ending.returned (by kernel_rfl), hs.none⟩)
   refine wpS.tk 6 false (some 63) (.bool false) (yld_b (ef hc) (fun _ => by kernel_rfl)) ?_
   refine wpS.qs [(7, 64, .bool false), (8, 65, .bool false), (9, 66, undef), (10, 67, undef), (11, 68, undef), (12, 69, .bool false), (13, 70, .bool false), (14, 71, undef), (15, 72, undef), (16, 73, undef), (17, 74, .bool false), (18, 75, .bool false), (19, 76, undef), (20, 77, .bool false), (21, 8, .bool false)] ?_
   refine wpS.fin rfl (kr15 _ _ (then_n (ks14 _ _ (xret ?_))))
   have q0 := of_some h
   subst q0
   exact qq _ _ (post_ret (by kernel_rfl) (run_results [.tmp 8] [.bool false] (by kernel_rfl) (.cons (res_tmp (by kernel_rfl)) .nil)) ⟨congrArg Ending.returned (by kernel_rfl), hs.none⟩)
  | false =>
   have h := of_if_f h
   refine wpS.only 2 (op_call (d := (some 59)) (by kernel_rfl) hs (fun _ => by kernel_rfl) (ref01_Same.ok hg _ (hs.rowL 3 rfl) (hs.rowL 2 rfl)) ?_)
   intro w gw hs
   refine ⟨fun _ => trivial, ?_⟩
   refine wpS.qs [(3, 60, .bool false), (4, 61, undef), (5, 62, undef), (6, 63, undef), (7, 64, .bool false), (8, 65, .bool false), (9, 66, undef), (10, 67, undef), (11, 68, undef), (12, 69, .bool false), (13, 70, .bool false), (14, 71, undef), (15, 72, undef), (16, 73, undef), (17, 74, .bool false), (18, 75, .bool false), (19, 76, undef), (20, 77, .bool false), (21, 8, .bool false)] ?_
   refine wpS.fin rfl (kr15 _ _ (then_n (ks14 _ _ (xret ?_))))
   have q0 := of_some h
   subst q0
   exact qq _ _ (post_ret (by kernel_rfl) (run_results [.tmp 8] [.bool false] (by kernel_rfl) (.cons (res_tmp (by kernel_rfl)) .nil)) ⟨congrArg Ending.returned (by kernel_rfl), hs.none⟩)
 | false =>
  have h := of_if_f h
  refine wpS.only 5 (op_call (d := (some 22)) (by kernel_rfl) hs (fun _ => by kernel_rfl) (law12_few.ok hg _ (LLP.mk (hs.rowL 0 rfl) (inn_cons (hs.rowR 0 rfl) (inn_cons (hs.rowR 1 rfl) (inn_cons (hs.rowR 2 rfl) (inn_cons (hs.rowR 3 rfl) inn_nil)))))) ?_)
  intro w gw hs
  refine ⟨fun _ => trivial, ?_⟩
  refine wpS.q 6 23 (.bool true) ?_
  refine wpS.fin rfl (kr5 _ _ (then_n (ks4 _ _ (wp_cond_t (by kernel_rfl) (xseq_k fun KS16 ks16 => (xregS [0, 1] fun KR17 kr17 => ?_))))))
  obtain ⟨r14, hg, h⟩ := of_bind h
  refine wpS.only 0 (op_call (d := (some 24)) (by kernel_rfl) hs (fun _ => by kernel_rfl) (law12_awake.ok hg _) ?_)
  intro w gw hs
  refine ⟨fun _ => trivial, ?_⟩
  refine wpS.q 1 8 (.bool r14) ?_
  refine wpS.fin rfl (kr17 _ _ (then_n (ks16 _ _ (xret (then_r ?_)))))
  have q0 := of_some h
  subst q0
  exact qq _ _ (post_ret (by kernel_rfl) (run_results [.tmp 8] [.bool r14] (by kernel_rfl) (.cons (res_tmp (by kernel_rfl)) .nil)) ⟨congrArg Ending.returned (by kernel_rfl), hs.none⟩)
end Go.Proofs.Ytmpagpbnpgcecaa
