/- Printed by this work's own program: the code of each function below comes to the answer that its plain form tells. -/
import Derived.Test.YtmpagpbnpgcecaaMd
import Derived.Test.YtmpagpbnpgcecaaProg
import Derived.Test.YtmpagpbnpgcecaaLGcmTells
import Derived.Test.YtmpagpbnpgcecaaGX0
import Derived.Test.YtmpagpbnpgcecaaGX10
import Derived.Test.YtmpagpbnpgcecaaGX11
import Derived.Test.YtmpagpbnpgcecaaGX2
import Derived.Test.YtmpagpbnpgcecaaGX3
import Derived.Test.YtmpagpbnpgcecaaGX4
import Derived.Test.YtmpagpbnpgcecaaGX7
import Derived.Test.YtmpagpbnpgcecaaGX8
import Derived.Test.YtmpagpbnpgcecaaGX9
set_option linter.unusedVariables false
set_option linter.unusedSimpArgs false
set_option maxRecDepth 100000
set_option maxHeartbeats 4000000
namespace Go.Proofs.Ytmpagpbnpgcecaa
open Go.Mx
attribute [local irreducible] wpOp

theorem law12_GcmTells.ok {K : Nat} {a0 : List Int} {a1 : List Int} {a2 : List Int} {r0 : Bool} {a0_A : Option Addr} {a0_n : Nat} {a0_c : Nat} {a1_A : Option Addr} {a1_n : Nat} {a1_c : Nat} {a2_A : Option Addr} {a2_n : Nat} {a2_c : Nat} (h : law12_GcmTells.f K a0 a1 a2 = some r0) (w0 : World) (hp0 : RowL (CI .u8) w0 a0_A a0_n a0_c a0) (hp1 : RowL (CI .u8) w0 a1_A a1_n a1_c a1) (hp2 : RowL (CI .u8) w0 a2_A a2_n a2_c a2) : Ret Try.prog 10 #[.slice a0_A a0_n a0_c, .slice a1_A a1_n a1_c, .slice a2_A a2_n a2_c] w0 (.bool r0) := by
 refine calls_k Try.func10 rfl fun Q qq => ?_
 have hs := St.startR (all_cons (RowP.ent hp0) (all_cons (RowP.ent hp1) (all_cons (RowP.ent hp2) all_nil)))
 refine wp_conv (a' := ⟨#[.slice a0_A a0_n a0_c, .slice a1_A a1_n a1_c, .slice a2_A a2_n a2_c, undef, undef, undef, undef, undef, undef, undef, undef, undef, undef, undef, undef, undef, undef, undef, undef, undef, undef, undef, undef, undef, undef, undef, undef, undef, undef, undef, undef, undef, undef], []⟩) (by kernel_rfl) ?_
 refine xseq_k fun KS1 ks1 => ?_
 refine xregS [0] fun KR2 kr2 => ?_
 refine wpS.q 0 6 (.bool false) ?_
 refine wpS.fin rfl (kr2 _ _ (then_n (ks1 _ _ (xseq_k fun KS3 ks3 => (xseq_k fun KS4 ks4 => (xregS [0, 1, 2, 3, 4, 5] fun KR5 kr5 => ?_))))))
 refine wpS.qs [(0, 7, .slice a0_A a0_n a0_c), (1, 8, .slice a1_A a1_n a1_c), (2, 9, .slice a2_A a2_n a2_c)] ?_
 refine wpS.only 3 (op_lit (C := CS) (t := 44) (e := 26) (len := 3) (parts := #[(0, .slice a0_A a0_n a0_c), (1, .slice a1_A a1_n a1_c), (2, .slice a2_A a2_n a2_c)]) (l := ([(a0_A, a0_n, a0_c), (a1_A, a1_n, a1_c), (a2_A, a2_n, a2_c)] : List HS)) (d := (some 10)) (by kernel_rfl) hs (by kernel_rfl) (by kernel_rfl) (by kernel_rfl) (z := .slice none 0 0) (by kernel_rfl) rfl (by decide) (by decide) (by kernel_rfl) ?_)
 intro s1_A s1_n s1_c w gw hs
 refine ⟨fun _ => trivial, ?_⟩
 obtain ⟨r2, hg, h⟩ := of_bind h
 cases r2 with
 | true =>
  have h := of_if_t h
  refine wpS.only 4 (op_call (d := (some 11)) (by kernel_rfl) hs (fun _ => by kernel_rfl) (law12_few.ok hg _ (LLP.mk (hs.rowL 0 rfl) (inn_cons (hs.rowR 0 rfl) (inn_cons (hs.rowR 1 rfl) (inn_cons (hs.rowR 2 rfl) inn_nil))))) ?_)
  intro w gw hs
  refine ⟨fun _ => trivial, ?_⟩
  refine wpS.q 5 12 (.bool false) ?_
  refine wpS.fin rfl (kr5 _ _ (then_n (ks4 _ _ (wp_cond_f (by kernel_rfl) (xskip (then_n (ks3 _ _ (xseq_k fun KS6 ks6 => (xregS [0, 1, 2, 3, 4, 5, 6, 7, 8, 9, 10, 11, 12, 13, 14, 15, 16, 17, 18, 19] fun KR7 kr7 => ?_)))))))))
  refine wpS.qs [(0, 14, .slice a0_A a0_n a0_c), (1, 15, .slice a1_A a1_n a1_c)] ?_
  obtain ⟨r3, hg, h⟩ := of_bind h
  refine wpS.only 2 (op_callH (d := (some 16)) (by kernel_rfl) hs (fun _ => by kernel_rfl) (gcm_Mul.ok hg _ (hs.rowR 0 rfl) (hs.rowR 1 rfl)) ?_)
  rintro ⟨r3_A, r3_n, r3_c⟩ w gw hs
  have hs := hs.conv (L' := [.ownL (CI .u8) r3_A r3_n r3_c r3 5, .ownL CS s1_A s1_n s1_c ([(a0_A, a0_n, a0_c), (a1_A, a1_n, a1_c), (a2_A, a2_n, a2_c)] : List HS) 26]) rfl
  refine ⟨fun _ => trivial, ?_⟩
  refine wpS.qs [(3, 17, .slice a0_A a0_n a0_c), (4, 18, .slice a1_A a1_n a1_c)] ?_
  obtain ⟨r4, hg, h⟩ := of_bind h
  refine wpS.only 5 (op_callH (d := (some 19)) (by kernel_rfl) hs (fun _ => by kernel_rfl) (ref12_Mul.ok hg _ (hs.rowR 0 rfl) (hs.rowR 1 rfl)) ?_)
  rintro ⟨r4_A, r4_n, r4_c⟩ w gw hs
  have hs := hs.conv (L' := [.ownL (CI .u8) r4_A r4_n r4_c r4 5, .ownL (CI .u8) r3_A r3_n r3_c r3 5, .ownL CS s1_A s1_n s1_c ([(a0_A, a0_n, a0_c), (a1_A, a1_n, a1_c), (a2_A, a2_n, a2_c)] : List HS) 26]) rfl
  refine ⟨fun _ => trivial, ?_⟩
  obtain ⟨r5, hg, h⟩ := of_bind h
  cases r5 with
  | true =>
   have h := of_if_t h
   refine wpS.only 6 (op_call (d := (some 20)) (by kernel_rfl) hs (fun _ => by kernel_rfl) (ref01_Same.ok hg _ (hs.rowL 1 rfl) (hs.rowL 0 rfl)) ?_)
   intro w gw hs
   refine ⟨fun _ => trivial, ?_⟩
   refine wpS.qs [(7, 21, .bool true), (8, 22, .slice a0_A a0_n a0_c), (9, 23, .slice a2_A a2_n a2_c)] ?_
   obtain ⟨r6, hg, h⟩ := of_bind h
   refine wpS.only 10 (op_callH (d := (some 24)) (by kernel_rfl) hs (fun _ => by kernel_rfl) (gcm_Ghash.ok hg _ (hs.rowR 0 rfl) (hs.rowR 2 rfl)) ?_)
   rintro ⟨r6_A, r6_n, r6_c⟩ w gw hs
   have hs := hs.conv (L' := [.ownL (CI .u8) r6_A r6_n r6_c r6 5, .ownL (CI .u8) r4_A r4_n r4_c r4 5, .ownL (CI .u8) r3_A r3_n r3_c r3 5, .ownL CS s1_A s1_n s1_c ([(a0_A, a0_n, a0_c), (a1_A, a1_n, a1_c), (a2_A, a2_n, a2_c)] : List HS) 26]) rfl
   refine ⟨fun _ => trivial, ?_⟩
   refine wpS.qs [(11, 25, .slice a0_A a0_n a0_c), (12, 26, .slice a2_A a2_n a2_c)] ?_
   obtain ⟨r7, hg, h⟩ := of_bind h
   refine wpS.only 13 (op_callH (d := (some 27)) (by kernel_rfl) hs (fun _ => by kernel_rfl) (ref12_Ghash.ok hg _ (hs.rowR 0 rfl) (hs.rowR 2 rfl)) ?_)
   rintro ⟨r7_A, r7_n, r7_c⟩ w gw hs
   have hs := hs.conv (L' := [.ownL (CI .u8) r7_A r7_n r7_c r7 5, .ownL (CI .u8) r6_A r6_n r6_c r6 5, .ownL (CI .u8) r4_A r4_n r4_c r4 5, .ownL (CI .u8) r3_A r3_n r3_c r3 5, .ownL CS s1_A s1_n s1_c ([(a0_A, a0_n, a0_c), (a1_A, a1_n, a1_c), (a2_A, a2_n, a2_c)] : List HS) 26]) rfl
   refine ⟨fun _ => trivial, ?_⟩
   obtain ⟨r8, hg, h⟩ := of_bind h
   cases r8 with
   | true =>
    have h := of_if_t h
    refine wpS.only 14 (op_call (d := (some 28)) (by kernel_rfl) hs (fun _ => by kernel_rfl) (ref01_Same.ok hg _ (hs.rowL 1 rfl) (hs.rowL 0 rfl)) ?_)
    intro w gw hs
    refine ⟨fun _ => trivial, ?_⟩
    refine wpS.qs [(15, 29, .bool true), (16, 30, .bool true)] ?_
    obtain ⟨r9, hg, h⟩ := of_bind h
    refine wpS.only 17 (op_call (d := (some 31)) (by kernel_rfl) hs (fun _ => by kernel_rfl) (law12_awake.ok hg _) ?_)
    intro w gw hs
    refine ⟨fun _ => trivial, ?_⟩
    refine wpS.qs [(18, 32, .bool r9), (19, 6, .bool r9)] ?_
    refine wpS.fin rfl (kr7 _ _ (then_n (ks6 _ _ (xret ?_))))
    have q0 := of_some h
    subst q0
    exact qq _ _ (post_ret (by kernel_rfl) (run_results [.tmp 6] [.bool r9] (by kernel_rfl) (.cons (res_tmp (by kernel_rfl)) .nil)) ⟨congrArg Ending.returned (by kernel_rfl), hs.none⟩)
   | false =>
    have h := of_if_f h
    refine wpS.only 14 (op_call (d := (some 28)) (by kernel_rfl) hs (fun _ => by kernel_rfl) (ref01_Same.ok hg _ (hs.rowL 1 rfl) (hs.rowL 0 rfl)) ?_)
    intro w gw hs
    refine ⟨fun _ => trivial, ?_⟩
    refine wpS.qs [(15, 29, .bool false), (16, 30, .bool false), (17, 31, undef), (18, 32, .bool false), (19, 6, .bool false)] ?_
    refine wpS.fin rfl (kr7 _ _ (then_n (ks6 _ _ (xret ?_))))
    have q0 := of_some h
    subst q0
    exact qq _ _ (post_ret (by kernel_rfl) (run_results [.tmp 6] [.bool false] (by kernel_rfl) (.cons (res_tmp (by kernel_rfl)) .nil)) ⟨congrArg Ending.returned (by kernel_rfl), hs.none⟩)
  | false =>
   have h := of_if_f h
   refine wpS.only 6 (op_call (d := (some 20)) (by kernel_rfl) hs (fun _ => by kernel_rfl) (ref01_Same.ok hg _ (hs.rowL 1 rfl) (hs.rowL 0 rfl)) ?_)
   intro w gw hs
   refine ⟨fun _ => trivial, ?_⟩
   refine wpS.qs [(7, 21, .bool false), (8, 22, undef), (9, 23, undef), (10, 24, undef), (11, 25, undef), (12, 26, undef), (13, 27, undef), (14, 28, undef), (15, 29, .bool false), (16, 30, .bool false), (17, 31, undef), (18, 32, .bool false), (19, 6, .bool false)] ?_
   refine wpS.fin rfl (kr7 _ _ (then_n (ks6 _ _ (xret ?_))))
   have q0 := of_some h
   subst q0
   exact qq _ _ (post_ret (by kernel_rfl) (run_results [.tmp 6] [.bool false] (by kernel_rfl) (.cons (res_tmp (by kernel_rfl)) .nil)) ⟨congrArg Ending.returned (by kernel_rfl), hs.none⟩)
 | false =>
  have h := of_if_f h
  refine wpS.only 4 (op_call (d := (some 11)) (by kernel_rfl) hs (fun _ => by kernel_rfl) (law12_few.ok hg _ (LLP.mk (hs.rowL 0 rfl) (inn_cons (hs.rowR 0 rfl) (inn_cons (hs.rowR 1 rfl) (inn_cons (hs.rowR 2 rfl) inn_nil))))) ?_)
  intro w gw hs
  refine ⟨fun _ => trivial, ?_⟩
  refine wpS.q 5 12 (.bool true) ?_
  refine wpS.fin rfl (kr5 _ _ (then_n (ks4 _ _ (wp_cond_t (by kernel_rfl) (xseq_k fun KS8 ks8 => (xregS [0, 1] fun KR9 kr9 => ?_))))))
  obtain ⟨r10, hg, h⟩ := of_bind h
  refine wpS.only 0 (op_call (d := (some 13)) (by kernel_rfl) hs (fun _ => by kernel_rfl) (law12_awake.ok hg _) ?_)
  intro w gw hs
  refine ⟨fun _ => trivial, ?_⟩
  refine wpS.q 1 6 (.bool r10) ?_
  refine wpS.fin rfl (kr9 _ _ (then_n (ks8 _ _ (xret (then_r ?_)))))
  have q0 := of_some h
  subst q0
  exact qq _ _ (post_ret (by kernel_rfl) (run_results [.tmp 6] [.bool r10] (by kernel_rfl) (.cons (res_tmp (by kernel_rfl)) .nil)) ⟨congrArg Ending.returned (by kernel_rfl), hs.none⟩)
end Go.Proofs.Ytmpagpbnpgcecaa
