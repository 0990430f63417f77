/- Printed by this work's own program: the code of each function below comes to the answer that its plain form tells. -/
import Derived.Test.YtmpagpbnpgcecaaMd
import Derived.Test.YtmpagpbnpgcecaaProg
import Derived.Test.YtmpagpbnpgcecaaLGcmFields
import Derived.Test.YtmpagpbnpgcecaaGX0
import Derived.Test.YtmpagpbnpgcecaaGX10
import Derived.Test.YtmpagpbnpgcecaaGX12
import Derived.Test.YtmpagpbnpgcecaaGX2
import Derived.Test.YtmpagpbnpgcecaaGX3
import Derived.Test.YtmpagpbnpgcecaaGX4
import Derived.Test.YtmpagpbnpgcecaaGX7
import Derived.Test.YtmpagpbnpgcecaaGX8
import Derived.Test.YtmpagpbnpgcecaaGX9
set_option linter.unusedVariables false
set_option linter.unusedSimpArgs false
set_option maxRecDepth 100000
set_option maxHeartbeats 4000000
namespace Go.Proofs.Ytmpagpbnpgcecaa
open Go.Mx
attribute [local irreducible] wpOp

theorem law12_GcmFields.ok {K : Nat} {a0 : Arr 16} {a1 : Arr 16} {a2 : Arr 16} {a3 : List Int} {a4 : List Int} {r0 : Bool} {a3_A : Option Addr} {a3_n : Nat} {a3_c : Nat} {a4_A : Option Addr} {a4_n : Nat} {a4_c : Nat} (h : law12_GcmFields.f K a0 a1 a2 a3 a4 = some r0) (w0 : World) (hp3 : RowL (CI .u8) w0 a3_A a3_n a3_c a3) (hp4 : RowL (CI .u8) w0 a4_A a4_n a4_c a4) : Ret Try.prog 11 #[.agg (enc .u8 a0).toArray, .agg (enc .u8 a1).toArray, .agg (enc .u8 a2).toArray, .slice a3_A a3_n a3_c, .slice a4_A a4_n a4_c] w0 (.bool r0) := by
 refine calls_k Try.func11 rfl fun Q qq => ?_
 have hs := St.startR (all_cons (RowP.ent hp3) (all_cons (RowP.ent hp4) all_nil))
 refine wp_conv (a' := ⟨#[.agg (enc .u8 a0).toArray, .agg (enc .u8 a1).toArray, .agg (enc .u8 a2).toArray, .slice a3_A a3_n a3_c, .slice a4_A a4_n a4_c, undef, undef, undef, undef, undef, undef, undef, undef, undef, undef, undef, undef, undef, undef, undef, undef, undef, undef, undef, undef, undef, undef, undef, undef, undef, undef, undef, undef, undef, undef, undef, undef, undef, undef, undef, undef, undef, undef, undef, undef, undef, undef, undef, undef, undef, undef, undef, undef, undef, undef, undef, undef, undef, undef, undef, undef, undef, undef, undef, undef, undef, undef, undef, undef, undef, undef, undef, undef, undef, undef, undef, undef, undef, undef, undef, undef, undef, undef, undef, undef, undef, undef, undef, undef, undef, undef, undef, undef, undef, undef, undef, undef, undef, undef, undef, undef, undef], []⟩) (by kernel_rfl) ?_
 refine xseq_k fun KS1 ks1 => ?_
 refine xregS [0, 1, 2, 3] fun KR2 kr2 => ?_
 refine wpS.only 0 (op_box (t := 42) (v := .agg (enc .u8 a0).toArray) (d := (some 5)) (by kernel_rfl) hs (enc .u8 a0) (by kernel_rfl) (by kernel_rfl) ?_)
 intro b1 w gw hs
 refine ⟨fun _ => trivial, ?_⟩
 refine wpS.only 1 (op_box (t := 42) (v := .agg (enc .u8 a1).toArray) (d := (some 6)) (by kernel_rfl) hs (enc .u8 a1) (by kernel_rfl) (by kernel_rfl) ?_)
 intro b2 w gw hs
 refine ⟨fun _ => trivial, ?_⟩
 refine wpS.only 2 (op_box (t := 42) (v := .agg (enc .u8 a2).toArray) (d := (some 7)) (by kernel_rfl) hs (enc .u8 a2) (by kernel_rfl) (by kernel_rfl) ?_)
 intro b3 w gw hs
 refine ⟨fun _ => trivial, ?_⟩
 refine wpS.q 3 10 (.bool false) ?_
 refine wpS.fin rfl (kr2 _ _ (then_n (ks1 _ _ (xseq_k fun KS3 ks3 => (xseq_k fun KS4 ks4 => (xregS [0, 1, 2, 3, 4] fun KR5 kr5 => ?_))))))
 refine wpS.qs [(0, 16, .slice a3_A a3_n a3_c), (1, 17, .slice a4_A a4_n a4_c)] ?_
 refine wpS.only 2 (op_lit (C := CS) (t := 44) (e := 26) (len := 2) (parts := #[(0, .slice a3_A a3_n a3_c), (1, .slice a4_A a4_n a4_c)]) (l := ([(a3_A, a3_n, a3_c), (a4_A, a4_n, a4_c)] : List HS)) (d := (some 18)) (by kernel_rfl) hs (by kernel_rfl) (by kernel_rfl) (by kernel_rfl) (z := .slice none 0 0) (by kernel_rfl) rfl (by decide) (by decide) (by kernel_rfl) ?_)
 intro s4_A s4_n s4_c w gw hs
 refine ⟨fun _ => trivial, ?_⟩
 obtain ⟨r5, hg, h⟩ := of_bind h
 cases r5 with
 | true =>
  have h := of_if_t h
  refine wpS.only 3 (op_call (d := (some 19)) (by kernel_rfl) hs (fun _ => by kernel_rfl) (law12_few.ok hg _ (LLP.mk (hs.rowL 0 rfl) (inn_cons (hs.rowR 0 rfl) (inn_cons (hs.rowR 1 rfl) inn_nil)))) ?_)
  intro w gw hs
  refine ⟨fun _ => trivial, ?_⟩
  refine wpS.q 4 20 (.bool false) ?_
  refine wpS.fin rfl (kr5 _ _ (then_n (ks4 _ _ (wp_cond_f (by kernel_rfl) (xskip (then_n (ks3 _ _ (xseq_k fun KS6 ks6 => ?_))))))))
  refine wp_regG [] (fun k => True) 6 (by kernel_rfl) (by kernel_rfl) (by kernel_rfl) fun KR7 kr7 => ?_
  have hs := hs.drawn1
  refine wpG.tD 0 false (some 22) (.slice (some ⟨b1, 0 + (0 : Int).toNat * 1, none⟩) ((16 : Int).toNat - (0 : Int).toNat) (16 - (0 : Int).toNat)) (yld_slA2 (t := 42) (e := 5) (n := 16) (low := Option.none) (high := Option.none) (lo := 0) (hi := 16) (by kernel_rfl) (by kernel_rfl) (by kernel_rfl) (.inl ⟨rfl, rfl⟩) (.inl ⟨rfl, rfl⟩) (by decide) (by decide) (by decide) (by decide)) ?_
  refine wpG.tD 1 false (some 23) (.slice (some ⟨b2, 0 + (0 : Int).toNat * 1, none⟩) ((16 : Int).toNat - (0 : Int).toNat) (16 - (0 : Int).toNat)) (yld_slA2 (t := 42) (e := 5) (n := 16) (low := Option.none) (high := Option.none) (lo := 0) (hi := 16) (by kernel_rfl) (by kernel_rfl) (by kernel_rfl) (.inl ⟨rfl, rfl⟩) (.inl ⟨rfl, rfl⟩) (by decide) (by decide) (by decide) (by decide)) ?_
  refine wpG.tD 2 false (some 24) (.slice (some ⟨b3, 0 + (0 : Int).toNat * 1, none⟩) ((16 : Int).toNat - (0 : Int).toNat) (16 - (0 : Int).toNat)) (yld_slA2 (t := 42) (e := 5) (n := 16) (low := Option.none) (high := Option.none) (lo := 0) (hi := 16) (by kernel_rfl) (by kernel_rfl) (by kernel_rfl) (.inl ⟨rfl, rfl⟩) (.inl ⟨rfl, rfl⟩) (by decide) (by decide) (by decide) (by decide)) ?_
  refine wpG.q 3 11 (.slice (some ⟨b1, 0 + (0 : Int).toNat * 1, none⟩) ((16 : Int).toNat - (0 : Int).toNat) (16 - (0 : Int).toNat)) ?_
  refine wpG.q 4 12 (.slice (some ⟨b2, 0 + (0 : Int).toNat * 1, none⟩) ((16 : Int).toNat - (0 : Int).toNat) (16 - (0 : Int).toNat)) ?_
  refine wpG.q 5 13 (.slice (some ⟨b3, 0 + (0 : Int).toNat * 1, none⟩) ((16 : Int).toNat - (0 : Int).toNat) (16 - (0 : Int).toNat)) ?_
  refine wpG.fin (by kernel_rfl) rfl (kr7 _ _ ?_)
  refine then_n (ks6 _ _ (xseq_k fun KS11 ks11 => (xseq_k fun KS12 ks12 => (xregS [0, 1, 2, 3, 4, 5, 6, 7, 8, 9, 10, 11, 12, 13, 14, 15, 16, 17, 18, 19, 20, 21, 22, 23, 24, 25, 26, 27, 28, 29, 30, 31, 32, 33, 34, 35, 36, 37] fun KR13 kr13 => ?_))))
  refine wpS.qs [(0, 25, .slice (some ⟨b1, 0 + (0 : Int).toNat * 1, none⟩) ((16 : Int).toNat - (0 : Int).toNat) (16 - (0 : Int).toNat)), (1, 26, .slice (some ⟨b2, 0 + (0 : Int).toNat * 1, none⟩) ((16 : Int).toNat - (0 : Int).toNat) (16 - (0 : Int).toNat))] ?_
  obtain ⟨r6, hg, h⟩ := of_bind h
  refine wpS.only 2 (op_callH (d := (some 27)) (by kernel_rfl) hs (fun _ => by kernel_rfl) (gcm_Mul.ok hg _ (hs.rowB (lo := 0) (hi := 16) 3 rfl (by decide) (by decide) (by decide)) (hs.rowB (lo := 0) (hi := 16) 2 rfl (by decide) (by decide) (by decide))) ?_)
  rintro ⟨r6_A, r6_n, r6_c⟩ w gw hs
  have hs := hs.conv (L' := [.ownL (CI .u8) r6_A r6_n r6_c r6 5, .ownL CS s4_A s4_n s4_c ([(a3_A, a3_n, a3_c), (a4_A, a4_n, a4_c)] : List HS) 26, .blk b3 (enc .u8 a2) 42, .blk b2 (enc .u8 a1) 42, .blk b1 (enc .u8 a0) 42]) rfl
  refine ⟨fun _ => trivial, ?_⟩
  refine wpS.qs [(3, 28, .slice (some ⟨b2, 0 + (0 : Int).toNat * 1, none⟩) ((16 : Int).toNat - (0 : Int).toNat) (16 - (0 : Int).toNat)), (4, 29, .slice (some ⟨b1, 0 + (0 : Int).toNat * 1, none⟩) ((16 : Int).toNat - (0 : Int).toNat) (16 - (0 : Int).toNat))] ?_
  obtain ⟨r7, hg, h⟩ := of_bind h
  refine wpS.only 5 (op_callH (d := (some 30)) (by kernel_rfl) hs (fun _ => by kernel_rfl) (gcm_Mul.ok hg _ (hs.rowB (lo := 0) (hi := 16) 3 rfl (by decide) (by decide) (by decide)) (hs.rowB (lo := 0) (hi := 16) 4 rfl (by decide) (by decide) (by decide))) ?_)
  rintro ⟨r7_A, r7_n, r7_c⟩ w gw hs
  have hs := hs.conv (L' := [.ownL (CI .u8) r7_A r7_n r7_c r7 5, .ownL (CI .u8) r6_A r6_n r6_c r6 5, .ownL CS s4_A s4_n s4_c ([(a3_A, a3_n, a3_c), (a4_A, a4_n, a4_c)] : List HS) 26, .blk b3 (enc .u8 a2) 42, .blk b2 (enc .u8 a1) 42, .blk b1 (enc .u8 a0) 42]) rfl
  refine ⟨fun _ => trivial, ?_⟩
  obtain ⟨r8, hg, h⟩ := of_bind h
  cases r8 with
  | true =>
   have h := of_if_t h
   refine wpS.only 6 (op_call (d := (some 31)) (by kernel_rfl) hs (fun _ => by kernel_rfl) (ref01_Same.ok hg _ (hs.rowL 1 rfl) (hs.rowL 0 rfl)) ?_)
   intro w gw hs
   refine ⟨fun _ => trivial, ?_⟩
   refine wpS.qs [(7, 32, .bool false), (8, 33, .bool false), (9, 34, .slice (some ⟨b1, 0 + (0 : Int).toNat * 1, none⟩) ((16 : Int).toNat - (0 : Int).toNat) (16 - (0 : Int).toNat)), (10, 35, .slice (some ⟨b2, 0 + (0 : Int).toNat * 1, none⟩) ((16 : Int).toNat - (0 : Int).toNat) (16 - (0 : Int).toNat)), (11, 36, .slice (some ⟨b3, 0 + (0 : Int).toNat * 1, none⟩) ((16 : Int).toNat - (0 : Int).toNat) (16 - (0 : Int).toNat))] ?_
   obtain ⟨r9, hg, h⟩ := of_bind h
   refine wpS.only 12 (op_callH (d := (some 37)) (by kernel_rfl) hs (fun _ => by kernel_rfl) (gcm_Mul.ok hg _ (hs.rowB (lo := 0) (hi := 16) 4 rfl (by decide) (by decide) (by decide)) (hs.rowB (lo := 0) (hi := 16) 3 rfl (by decide) (by decide) (by decide))) ?_)
   rintro ⟨r9_A, r9_n, r9_c⟩ w gw hs
   have hs := hs.conv (L' := [.ownL (CI .u8) r9_A r9_n r9_c r9 5, .ownL (CI .u8) r7_A r7_n r7_c r7 5, .ownL (CI .u8) r6_A r6_n r6_c r6 5, .ownL CS s4_A s4_n s4_c ([(a3_A, a3_n, a3_c), (a4_A, a4_n, a4_c)] : List HS) 26, .blk b3 (enc .u8 a2) 42, .blk b2 (enc .u8 a1) 42, .blk b1 (enc .u8 a0) 42]) rfl
   refine ⟨fun _ => trivial, ?_⟩
   obtain ⟨r10, hg, h⟩ := of_bind h
   refine wpS.only 13 (op_callH (d := (some 38)) (by kernel_rfl) hs (fun _ => by kernel_rfl) (gcm_Mul.ok hg _ (hs.rowB (lo := 0) (hi := 16) 6 rfl (by decide) (by decide) (by decide)) (hs.rowL 0 rfl)) ?_)
   rintro ⟨r10_A, r10_n, r10_c⟩ w gw hs
   have hs := hs.conv (L' := [.ownL (CI .u8) r10_A r10_n r10_c r10 5, .ownL (CI .u8) r9_A r9_n r9_c r9 5, .ownL (CI .u8) r7_A r7_n r7_c r7 5, .ownL (CI .u8) r6_A r6_n r6_c r6 5, .ownL CS s4_A s4_n s4_c ([(a3_A, a3_n, a3_c), (a4_A, a4_n, a4_c)] : List HS) 26, .blk b3 (enc .u8 a2) 42, .blk b2 (enc .u8 a1) 42, .blk b1 (enc .u8 a0) 42]) rfl
   refine ⟨fun _ => trivial, ?_⟩
   refine wpS.qs [(14, 39, .slice (some ⟨b1, 0 + (0 : Int).toNat * 1, none⟩) ((16 : Int).toNat - (0 : Int).toNat) (16 - (0 : Int).toNat)), (15, 40, .slice (some ⟨b2, 0 + (0 : Int).toNat * 1, none⟩) ((16 : Int).toNat - (0 : Int).toNat) (16 - (0 : Int).toNat))] ?_
   obtain ⟨r11, hg, h⟩ := of_bind h
   refine wpS.only 16 (op_callH (d := (some 41)) (by kernel_rfl) hs (fun _ => by kernel_rfl) (gcm_Mul.ok hg _ (hs.rowB (lo := 0) (hi := 16) 7 rfl (by decide) (by decide) (by decide)) (hs.rowB (lo := 0) (hi := 16) 6 rfl (by decide) (by decide) (by decide))) ?_)
   rintro ⟨r11_A, r11_n, r11_c⟩ w gw hs
   have hs := hs.conv (L' := [.ownL (CI .u8) r11_A r11_n r11_c r11 5, .ownL (CI .u8) r10_A r10_n r10_c r10 5, .ownL (CI .u8) r9_A r9_n r9_c r9 5, .ownL (CI .u8) r7_A r7_n r7_c r7 5, .ownL (CI .u8) r6_A r6_n r6_c r6 5, .ownL CS s4_A s4_n s4_c ([(a3_A, a3_n, a3_c), (a4_A, a4_n, a4_c)] : List HS) 26, .blk b3 (enc .u8 a2) 42, .blk b2 (enc .u8 a1) 42, .blk b1 (enc .u8 a0) 42]) rfl
   refine ⟨fun _ => trivial, ?_⟩
   refine wpS.q 17 42 (.slice (some ⟨b3, 0 + (0 : Int).toNat * 1, none⟩) ((16 : Int).toNat - (0 : Int).toNat) (16 - (0 : Int).toNat)) ?_
   obtain ⟨r12, hg, h⟩ := of_bind h
   refine wpS.only 18 (op_callH (d := (some 43)) (by kernel_rfl) hs (fun _ => by kernel_rfl) (gcm_Mul.ok hg _ (hs.rowL 0 rfl) (hs.rowB (lo := 0) (hi := 16) 6 rfl (by decide) (by decide) (by decide))) ?_)
   rintro ⟨r12_A, r12_n, r12_c⟩ w gw hs
   have hs := hs.conv (L' := [.ownL (CI .u8) r12_A r12_n r12_c r12 5, .ownL (CI .u8) r11_A r11_n r11_c r11 5, .ownL (CI .u8) r10_A r10_n r10_c r10 5, .ownL (CI .u8) r9_A r9_n r9_c r9 5, .ownL (CI .u8) r7_A r7_n r7_c r7 5, .ownL (CI .u8) r6_A r6_n r6_c r6 5, .ownL CS s4_A s4_n s4_c ([(a3_A, a3_n, a3_c), (a4_A, a4_n, a4_c)] : List HS) 26, .blk b3 (enc .u8 a2) 42, .blk b2 (enc .u8 a1) 42, .blk b1 (enc .u8 a0) 42]) rfl
   refine ⟨fun _ => trivial, ?_⟩
   obtain ⟨r13, hg, h⟩ := of_bind h
   cases r13 with
   | true =>
    have h := of_if_t h
    refine wpS.only 19 (op_call (d := (some 44)) (by kernel_rfl) hs (fun _ => by kernel_rfl) (ref01_Same.ok hg _ (hs.rowL 2 rfl) (hs.rowL 0 rfl)) ?_)
    intro w gw hs
    refine ⟨fun _ => trivial, ?_⟩
    refine wpS.qs [(20, 45, .bool false), (21, 46, .bool false), (22, 47, .bool false), (23, 48, .slice (some ⟨b1, 0 + (0 : Int).toNat * 1, none⟩) ((16 : Int).toNat - (0 : Int).toNat) (16 - (0 : Int).toNat)), (24, 49, .slice (some ⟨b2, 0 + (0 : Int).toNat * 1, none⟩) ((16 : Int).toNat - (0 : Int).toNat) (16 - (0 : Int).toNat)), (25, 50, .slice (some ⟨b3, 0 + (0 : Int).toNat * 1, none⟩) ((16 : Int).toNat - (0 : Int).toNat) (16 - (0 : Int).toNat))] ?_
    obtain ⟨r14, hg, h⟩ := of_bind h
    refine wpS.only 26 (op_callH (d := (some 51)) (by kernel_rfl) hs (fun _ => by kernel_rfl) (ref01_Xor.ok hg _ (hs.rowB (lo := 0) (hi := 16) 8 rfl (by decide) (by decide) (by decide)) (hs.rowB (lo := 0) (hi := 16) 7 rfl (by decide) (by decide) (by decide))) ?_)
    rintro ⟨r14_A, r14_n, r14_c⟩ w gw hs
    have hs := hs.conv (L' := [.ownL (CI .u8) r14_A r14_n r14_c r14 5, .ownL (CI .u8) r12_A r12_n r12_c r12 5, .ownL (CI .u8) r11_A r11_n r11_c r11 5, .ownL (CI .u8) r10_A r10_n r10_c r10 5, .ownL (CI .u8) r9_A r9_n r9_c r9 5, .ownL (CI .u8) r7_A r7_n r7_c r7 5, .ownL (CI .u8) r6_A r6_n r6_c r6 5, .ownL CS s4_A s4_n s4_c ([(a3_A, a3_n, a3_c), (a4_A, a4_n, a4_c)] : List HS) 26, .blk b3 (enc .u8 a2) 42, .blk b2 (enc .u8 a1) 42, .blk b1 (enc .u8 a0) 42]) rfl
    refine ⟨fun _ => trivial, ?_⟩
    obtain ⟨r15, hg, h⟩ := of_bind h
    refine wpS.only 27 (op_callH (d := (some 52)) (by kernel_rfl) hs (fun _ => by kernel_rfl) (gcm_Mul.ok hg _ (hs.rowB (lo := 0) (hi := 16) 10 rfl (by decide) (by decide) (by decide)) (hs.rowL 0 rfl)) ?_)
    rintro ⟨r15_A, r15_n, r15_c⟩ w gw hs
    have hs := hs.conv (L' := [.ownL (CI .u8) r15_A r15_n r15_c r15 5, .ownL (CI .u8) r14_A r14_n r14_c r14 5, .ownL (CI .u8) r12_A r12_n r12_c r12 5, .ownL (CI .u8) r11_A r11_n r11_c r11 5, .ownL (CI .u8) r10_A r10_n r10_c r10 5, .ownL (CI .u8) r9_A r9_n r9_c r9 5, .ownL (CI .u8) r7_A r7_n r7_c r7 5, .ownL (CI .u8) r6_A r6_n r6_c r6 5, .ownL CS s4_A s4_n s4_c ([(a3_A, a3_n, a3_c), (a4_A, a4_n, a4_c)] : List HS) 26, .blk b3 (enc .u8 a2) 42, .blk b2 (enc .u8 a1) 42, .blk b1 (enc .u8 a0) 42]) rfl
    refine ⟨fun _ => trivial, ?_⟩
    refine wpS.qs [(28, 53, .slice (some ⟨b1, 0 + (0 : Int).toNat * 1, none⟩) ((16 : Int).toNat - (0 : Int).toNat) (16 - (0 : Int).toNat)), (29, 54, .slice (some ⟨b2, 0 + (0 : Int).toNat * 1, none⟩) ((16 : Int).toNat - (0 : Int).toNat) (16 - (0 : Int).toNat))] ?_
    obtain ⟨r16, hg, h⟩ := of_bind h
    refine wpS.only 30 (op_callH (d := (some 55)) (by kernel_rfl) hs (fun _ => by kernel_rfl) (gcm_Mul.ok hg _ (hs.rowB (lo := 0) (hi := 16) 11 rfl (by decide) (by decide) (by decide)) (hs.rowB (lo := 0) (hi := 16) 10 rfl (by decide) (by decide) (by decide))) ?_)
    rintro ⟨r16_A, r16_n, r16_c⟩ w gw hs
    have hs := hs.conv (L' := [.ownL (CI .u8) r16_A r16_n r16_c r16 5, .ownL (CI .u8) r15_A r15_n r15_c r15 5, .ownL (CI .u8) r14_A r14_n r14_c r14 5, .ownL (CI .u8) r12_A r12_n r12_c r12 5, .ownL (CI .u8) r11_A r11_n r11_c r11 5, .ownL (CI .u8) r10_A r10_n r10_c r10 5, .ownL (CI .u8) r9_A r9_n r9_c r9 5, .ownL (CI .u8) r7_A r7_n r7_c r7 5, .ownL (CI .u8) r6_A r6_n r6_c r6 5, .ownL CS s4_A s4_n s4_c ([(a3_A, a3_n, a3_c), (a4_A, a4_n, a4_c)] : List HS) 26, .blk b3 (enc .u8 a2) 42, .blk b2 (enc .u8 a1) 42, .blk b1 (enc .u8 a0) 42]) rfl
    refine ⟨fun _ => trivial, ?_⟩
    refine wpS.qs [(31, 56, .slice (some ⟨b1, 0 + (0 : Int).toNat * 1, none⟩) ((16 : Int).toNat - (0 : Int).toNat) (16 - (0 : Int).toNat)), (32, 57, .slice (some ⟨b3, 0 + (0 : Int).toNat * 1, none⟩) ((16 : Int).toNat - (0 : Int).toNat) (16 - (0 : Int).toNat))] ?_
    obtain ⟨r17, hg, h⟩ := of_bind h
    refine wpS.only 33 (op_callH (d := (some 58)) (by kernel_rfl) hs (fun _ => by kernel_rfl) (gcm_Mul.ok hg _ (hs.rowB (lo := 0) (hi := 16) 12 rfl (by decide) (by decide) (by decide)) (hs.rowB (lo := 0) (hi := 16) 10 rfl (by decide) (by decide) (by decide))) ?_)
    rintro ⟨r17_A, r17_n, r17_c⟩ w gw hs
    have hs := hs.conv (L' := [.ownL (CI .u8) r17_A r17_n r17_c r17 5, .ownL (CI .u8) r16_A r16_n r16_c r16 5, .ownL (CI .u8) r15_A r15_n r15_c r15 5, .ownL (CI .u8) r14_A r14_n r14_c r14 5, .ownL (CI .u8) r12_A r12_n r12_c r12 5, .ownL (CI .u8) r11_A r11_n r11_c r11 5, .ownL (CI .u8) r10_A r10_n r10_c r10 5, .ownL (CI .u8) r9_A r9_n r9_c r9 5, .ownL (CI .u8) r7_A r7_n r7_c r7 5, .ownL (CI .u8) r6_A r6_n r6_c r6 5, .ownL CS s4_A s4_n s4_c ([(a3_A, a3_n, a3_c), (a4_A, a4_n, a4_c)] : List HS) 26, .blk b3 (enc .u8 a2) 42, .blk b2 (enc .u8 a1) 42, .blk b1 (enc .u8 a0) 42]) rfl
    refine ⟨fun _ => trivial, ?_⟩
    obtain ⟨r18, hg, h⟩ := of_bind h
    refine wpS.only 34 (op_callH (d := (some 59)) (by kernel_rfl) hs (fun _ => by kernel_rfl) (ref01_Xor.ok hg _ (hs.rowL 1 rfl) (hs.rowL 0 rfl)) ?_)
    rintro ⟨r18_A, r18_n, r18_c⟩ w gw hs
    have hs := hs.conv (L' := [.ownL (CI .u8) r18_A r18_n r18_c r18 5, .ownL (CI .u8) r17_A r17_n r17_c r17 5, .ownL (CI .u8) r16_A r16_n r16_c r16 5, .ownL (CI .u8) r15_A r15_n r15_c r15 5, .ownL (CI .u8) r14_A r14_n r14_c r14 5, .ownL (CI .u8) r12_A r12_n r12_c r12 5, .ownL (CI .u8) r11_A r11_n r11_c r11 5, .ownL (CI .u8) r10_A r10_n r10_c r10 5, .ownL (CI .u8) r9_A r9_n r9_c r9 5, .ownL (CI .u8) r7_A r7_n r7_c r7 5, .ownL (CI .u8) r6_A r6_n r6_c r6 5, .ownL CS s4_A s4_n s4_c ([(a3_A, a3_n, a3_c), (a4_A, a4_n, a4_c)] : List HS) 26, .blk b3 (enc .u8 a2) 42, .blk b2 (enc .u8 a1) 42, .blk b1 (enc .u8 a0) 42]) rfl
    refine ⟨fun _ => trivial, ?_⟩
    obtain ⟨r19, hg, h⟩ := of_bind h
    cases r19 with
    | true =>
     have h := of_if_t h
     refine wpS.only 35 (op_call (d := (some 60)) (by kernel_rfl) hs (fun _ => by kernel_rfl) (ref01_Same.ok hg _ (hs.rowL 3 rfl) (hs.rowL 0 rfl)) ?_)
     intro w gw hs
     refine ⟨fun _ => trivial, ?_⟩
     refine wpS.qs [(36, 61, .bool false), (37, 62, .bool false)] ?_
     refine wpS.fin rfl (kr13 _ _ (then_n (ks12 _ _ (wp_cond_f (by kernel_rfl) (xskip (then_n (ks11 _ _ (xseq_k fun KS14 ks14 => ?_))))))))
     refine wp_regG [] (fun k => True) 14 (by kernel_rfl) (by kernel_rfl) (by kernel_rfl) fun KR15 kr15 => ?_
     have hs := hs.drawn1
     refine wpG.q 0 63 (.slice a3_A a3_n a3_c) ?_
     refine wpG.q 1 64 (.slice a3_A a3_n a3_c) ?_
     refine wpG.tD 2 false (some 65) (.int .i64 (a3.length : Int)) (yld_lenL (hs.rowR 0 rfl) (fun _ => by kernel_rfl)) ?_
     refine wpG.q 3 66 (.int .i64 (iquo .i64 (a3.length : Int) 16)) ?_
     refine wpG.q 4 67 (.int .i64 (imul .i64 (iquo .i64 (a3.length : Int) 16) 16)) ?_
     obtain ⟨h0, h⟩ := of_chk h
     obtain ⟨h1, h⟩ := of_chk h
     obtain ⟨h2, h⟩ := of_chk h
     obtain ⟨s20_A, hA⟩ : ∃ A, A = if a3_c = (0 : Int).toNat then a3_A else adr a3_A ((0 : Int).toNat * Cod.size (CI .u8)) := ⟨_, rfl⟩
     obtain ⟨s20_n, hn⟩ : ∃ n, n = ((imul .i64 (iquo .i64 (a3.length : Int) 16) 16) : Int).toNat - (0 : Int).toNat := ⟨_, rfl⟩
     obtain ⟨s20_c, hc⟩ : ∃ c, c = a3_c - (0 : Int).toNat := ⟨_, rfl⟩
     refine wpG.tD 5 false (some 68) (.slice s20_A s20_n s20_c) (yld_sub (C := (CI .u8)) (t := 26) (e := 5) (low := none) (high := some (.int .i64 (imul .i64 (iquo .i64 (a3.length : Int) 16) 16))) (lo := 0) (hi := (imul .i64 (iquo .i64 (a3.length : Int) 16) 16)) (hs.rowR 0 rfl) (by kernel_rfl) (by kernel_rfl) (by kernel_rfl) (.inl ⟨rfl, rfl⟩) (.inr ⟨_, rfl⟩) h0 h1 h2 hA hn hc) ?_
     have hs := hs.addSub (C := (CI .u8)) 0 rfl h0 h1 h2 hA hn hc
     refine wpG.q 6 69 (.slice a4_A a4_n a4_c) ?_
     refine wpG.q 7 70 (.slice a4_A a4_n a4_c) ?_
     refine wpG.tD 8 false (some 71) (.int .i64 (a4.length : Int)) (yld_lenL (hs.rowR 2 rfl) (fun _ => by kernel_rfl)) ?_
     refine wpG.q 9 72 (.int .i64 (iquo .i64 (a4.length : Int) 16)) ?_
     refine wpG.q 10 73 (.int .i64 (imul .i64 (iquo .i64 (a4.length : Int) 16) 16)) ?_
     obtain ⟨h0, h⟩ := of_chk h
     obtain ⟨h1, h⟩ := of_chk h
     obtain ⟨h2, h⟩ := of_chk h
     obtain ⟨s21_A, hA⟩ : ∃ A, A = if a4_c = (0 : Int).toNat then a4_A else adr a4_A ((0 : Int).toNat * Cod.size (CI .u8)) := ⟨_, rfl⟩
     obtain ⟨s21_n, hn⟩ : ∃ n, n = ((imul .i64 (iquo .i64 (a4.length : Int) 16) 16) : Int).toNat - (0 : Int).toNat := ⟨_, rfl⟩
     obtain ⟨s21_c, hc⟩ : ∃ c, c = a4_c - (0 : Int).toNat := ⟨_, rfl⟩
     refine wpG.tD 11 false (some 74) (.slice s21_A s21_n s21_c) (yld_sub (C := (CI .u8)) (t := 26) (e := 5) (low := none) (high := some (.int .i64 (imul .i64 (iquo .i64 (a4.length : Int) 16) 16))) (lo := 0) (hi := (imul .i64 (iquo .i64 (a4.length : Int) 16) 16)) (hs.rowR 2 rfl) (by kernel_rfl) (by kernel_rfl) (by kernel_rfl) (.inl ⟨rfl, rfl⟩) (.inr ⟨_, rfl⟩) h0 h1 h2 hA hn hc) ?_
     have hs := hs.addSub (C := (CI .u8)) 2 rfl h0 h1 h2 hA hn hc
     refine wpG.q 12 3 (.slice s20_A s20_n s20_c) ?_
     refine wpG.q 13 4 (.slice s21_A s21_n s21_c) ?_
     refine wpG.fin (by kernel_rfl) rfl (kr15 _ _ ?_)
     refine then_n (ks14 _ _ (xseq_k fun KS16 ks16 => (xseq_k fun KS17 ks17 => (xregS [0, 1, 2] fun KR18 kr18 => ?_))))
     refine wpS.q 0 75 (.slice s21_A s21_n s21_c) ?_
     refine wpS.tk 1 false (some 76) (.int .i64 ((subL a4 0 (imul .i64 (iquo .i64 (a4.length : Int) 16) 16)).length : Int)) (yld_lenL (hs.rowR 0 rfl) (fun _ => by kernel_rfl)) ?_
     rcases of_if h with ⟨hc, h⟩ | ⟨hc, h⟩
     ·refine wpS.tk 2 false (some 77) (.bool true) (yld_b (et hc) (fun _ => by kernel_rfl)) ?_
      refine wpS.fin rfl (kr18 _ _ (then_n (ks17 _ _ (wp_cond_t (by kernel_rfl) (xseq_k fun KS19 ks19 => (xregS [0, 1] fun KR20 kr20 => ?_))))))
      obtain ⟨r22, hg, h⟩ := of_bind h
      refine wpS.only 0 (op_call (d := (some 78)) (by kernel_rfl) hs (fun _ => by kernel_rfl) (law12_awake.ok hg _) ?_)
      intro w gw hs
      refine ⟨fun _ => trivial, ?_⟩
      refine wpS.q 1 10 (.bool r22) ?_
      refine wpS.fin rfl (kr20 _ _ (then_n (ks19 _ _ (xret (then_r ?_)))))
      have q0 := of_some h
      subst q0
      exact qq _ _ (post_ret (by kernel_rfl) (run_results [.tmp 10] [.bool r22] (by kernel_rfl) (.cons (res_tmp (by kernel_rfl)) .nil)) ⟨congrArg Ending.returned (by kernel_rfl), hs.none⟩)
     refine wpS.tk 2 false (some 77) (.bool false) (yld_b (ef hc) (fun _ => by kernel_rfl)) ?_
     refine wpS.fin rfl (kr18 _ _ (then_n (ks17 _ _ (wp_cond_f (by kernel_rfl) (xskip (then_n (ks16 _ _ (xseq_k fun KS21 ks21 => (xregS [0, 1, 2, 3] fun KR22 kr22 => ?_)))))))))
     refine wpS.qs [(0, 79, .slice (some ⟨b1, 0 + (0 : Int).toNat * 1, none⟩) ((16 : Int).toNat - (0 : Int).toNat) (16 - (0 : Int).toNat)), (1, 80, .slice s20_A s20_n s20_c)] ?_
     obtain ⟨r23, hg, h⟩ := of_bind h
     refine wpS.only 2 (op_callH (d := (some 81)) (by kernel_rfl) hs (fun _ => by kernel_rfl) (gcm_Ghash.ok hg _ (hs.rowB (lo := 0) (hi := 16) 14 rfl (by decide) (by decide) (by decide)) (hs.rowR 1 rfl)) ?_)
     rintro ⟨r23_A, r23_n, r23_c⟩ w gw hs
     have hs := hs.conv (L' := [.ownL (CI .u8) r23_A r23_n r23_c r23 5, .ownL (CI .u8) r18_A r18_n r18_c r18 5, .ownL (CI .u8) r17_A r17_n r17_c r17 5, .ownL (CI .u8) r16_A r16_n r16_c r16 5, .ownL (CI .u8) r15_A r15_n r15_c r15 5, .ownL (CI .u8) r14_A r14_n r14_c r14 5, .ownL (CI .u8) r12_A r12_n r12_c r12 5, .ownL (CI .u8) r11_A r11_n r11_c r11 5, .ownL (CI .u8) r10_A r10_n r10_c r10 5, .ownL (CI .u8) r9_A r9_n r9_c r9 5, .ownL (CI .u8) r7_A r7_n r7_c r7 5, .ownL (CI .u8) r6_A r6_n r6_c r6 5, .ownL CS s4_A s4_n s4_c ([(a3_A, a3_n, a3_c), (a4_A, a4_n, a4_c)] : List HS) 26, .blk b3 (enc .u8 a2) 42, .blk b2 (enc .u8 a1) 42, .blk b1 (enc .u8 a0) 42]) rfl
     refine ⟨fun _ => trivial, ?_⟩
     refine wpS.q 3 14 (.slice r23_A r23_n r23_c) ?_
     refine wpS.fin rfl (kr22 _ _ (then_n (ks21 _ _ (xseq_k fun KS23 ks23 => ?_))))
     refine wp_regG [6] (fun k => True) 8 (by kernel_rfl) (by kernel_rfl) (by kernel_rfl) fun KR24 kr24 => ?_
     have hs := hs.drawn1
     refine wpG.q 0 82 (.slice s21_A s21_n s21_c) ?_
     obtain ⟨h0, h⟩ := of_chk h
     obtain ⟨h1, h⟩ := of_chk h
     obtain ⟨h2, h⟩ := of_chk h
     obtain ⟨s24_A, hA⟩ : ∃ A, A = if s21_c = (0 : Int).toNat then s21_A else adr s21_A ((0 : Int).toNat * Cod.size (CI .u8)) := ⟨_, rfl⟩
     obtain ⟨s24_n, hn⟩ : ∃ n, n = (16 : Int).toNat - (0 : Int).toNat := ⟨_, rfl⟩
     obtain ⟨s24_c, hc⟩ : ∃ c, c = s21_c - (0 : Int).toNat := ⟨_, rfl⟩
     refine wpG.tD 1 false (some 83) (.slice s24_A s24_n s24_c) (yld_sub (C := (CI .u8)) (t := 26) (e := 5) (low := none) (high := some (.int .i64 16)) (lo := 0) (hi := 16) (hs.rowR 0 rfl) (by kernel_rfl) (by kernel_rfl) (by kernel_rfl) (.inl ⟨rfl, rfl⟩) (.inr ⟨_, rfl⟩) h0 h1 h2 hA hn hc) ?_
     have hs := hs.addSub (C := (CI .u8)) 0 rfl h0 h1 h2 hA hn hc
     refine wpG.q 2 84 (.slice r23_A r23_n r23_c) ?_
     refine wpG.q 4 86 (.slice s21_A s21_n s21_c) ?_
     obtain ⟨h0, h⟩ := of_chk h
     obtain ⟨h1, h⟩ := of_chk h
     obtain ⟨h2, h⟩ := of_chk h
     obtain ⟨s25_A, hA⟩ : ∃ A, A = if s21_c = (16 : Int).toNat then s21_A else adr s21_A ((16 : Int).toNat * Cod.size (CI .u8)) := ⟨_, rfl⟩
     obtain ⟨s25_n, hn⟩ : ∃ n, n = (((subL a4 0 (imul .i64 (iquo .i64 (a4.length : Int) 16) 16)).length : Int) : Int).toNat - (16 : Int).toNat := ⟨_, rfl⟩
     obtain ⟨s25_c, hc⟩ : ∃ c, c = s21_c - (16 : Int).toNat := ⟨_, rfl⟩
     refine wpG.tD 5 false (some 87) (.slice s25_A s25_n s25_c) (yld_sub (C := (CI .u8)) (t := 26) (e := 5) (low := some (.int .i64 16)) (high := none) (lo := 16) (hi := ((subL a4 0 (imul .i64 (iquo .i64 (a4.length : Int) 16) 16)).length : Int)) (hs.rowR 1 rfl) (by kernel_rfl) (by kernel_rfl) (by kernel_rfl) (.inr ⟨_, rfl⟩) (.inl ⟨rfl, rfl⟩) h0 h1 h2 hA hn hc) ?_
     have hs := hs.addSub (C := (CI .u8)) 1 rfl h0 h1 h2 hA hn hc
     obtain ⟨r26, hg, h⟩ := of_bind h
     refine wpG.only 3 (by kernel_rfl) (op_callH (d := (some 85)) (by kernel_rfl) hs (fun _ => by kernel_rfl) (ref01_Xor.ok hg _ (hs.rowR 1 rfl) (hs.rowL 0 rfl)) ?_)
     rintro ⟨r26_A, r26_n, r26_c⟩ w gw hs
     have hs := hs.conv (L' := [.ownL (CI .u8) r26_A r26_n r26_c r26 5, .ownL (CI .u8) r23_A r23_n r23_c r23 5, .ownL (CI .u8) r18_A r18_n r18_c r18 5, .ownL (CI .u8) r17_A r17_n r17_c r17 5, .ownL (CI .u8) r16_A r16_n r16_c r16 5, .ownL (CI .u8) r15_A r15_n r15_c r15 5, .ownL (CI .u8) r14_A r14_n r14_c r14 5, .ownL (CI .u8) r12_A r12_n r12_c r12 5, .ownL (CI .u8) r11_A r11_n r11_c r11 5, .ownL (CI .u8) r10_A r10_n r10_c r10 5, .ownL (CI .u8) r9_A r9_n r9_c r9 5, .ownL (CI .u8) r7_A r7_n r7_c r7 5, .ownL (CI .u8) r6_A r6_n r6_c r6 5, .ownL CS s4_A s4_n s4_c ([(a3_A, a3_n, a3_c), (a4_A, a4_n, a4_c)] : List HS) 26, .blk b3 (enc .u8 a2) 42, .blk b2 (enc .u8 a1) 42, .blk b1 (enc .u8 a0) 42]) rfl
     refine ⟨.of gw, ?_⟩
     obtain ⟨h0, h⟩ := of_chk h
     refine wpG.only 6 (by kernel_rfl) (op_appendT (C := (CI .u8)) (t := 26) (ty := 26) (e := 5) (bytes := 1) (B := 140737488355328) (d := (some 88)) (by kernel_rfl) hs 0 rfl (hs.rowR 0 rfl) (by kernel_rfl) (by kernel_rfl) (by kernel_rfl) (by kernel_rfl) (by kernel_rfl) h0 (by decide) (by decide) ?_)
     intro s27_A s27_n s27_c w hs
     refine ⟨⟨fun hf => absurd hf (by decide), .all _ _⟩, ?_⟩
     refine wpG.q 7 15 (.slice s27_A s27_n s27_c) ?_
     refine wpG.fin (by kernel_rfl) rfl (kr24 _ _ ?_)
     refine then_n (ks23 _ _ (xseq_k fun KS25 ks25 => (xregS [0, 1, 2, 3, 4, 5, 6, 7, 8, 9, 10, 11, 12, 13] fun KR26 kr26 => ?_)))
     refine wpS.qs [(0, 89, .slice (some ⟨b1, 0 + (0 : Int).toNat * 1, none⟩) ((16 : Int).toNat - (0 : Int).toNat) (16 - (0 : Int).toNat)), (1, 90, .slice s20_A s20_n s20_c), (2, 91, .slice s21_A s21_n s21_c)] ?_
     refine wpS.only 3 (op_lit (C := CS) (t := 44) (e := 26) (len := 2) (parts := #[(0, .slice s20_A s20_n s20_c), (1, .slice s21_A s21_n s21_c)]) (l := ([(s20_A, s20_n, s20_c), (s21_A, s21_n, s21_c)] : List HS)) (d := (some 92)) (by kernel_rfl) hs (by kernel_rfl) (by kernel_rfl) (by kernel_rfl) (z := .slice none 0 0) (by kernel_rfl) rfl (by decide) (by decide) (by kernel_rfl) ?_)
     intro s28_A s28_n s28_c w gw hs
     refine ⟨fun _ => trivial, ?_⟩
     obtain ⟨r29, hg, h⟩ := of_bind h
     refine wpS.only 4 (op_callH (d := (some 93)) (by kernel_rfl) hs (fun _ => by kernel_rfl) (ref01_Join.ok hg _ (LLP.mk (hs.rowL 0 rfl) (inn_cons (hs.rowR 3 rfl) (inn_cons (hs.rowR 2 rfl) inn_nil)))) ?_)
     rintro ⟨r29_A, r29_n, r29_c⟩ w gw hs
     have hs := hs.conv (L' := [.ownL (CI .u8) r29_A r29_n r29_c r29 5, .ownL CS s28_A s28_n s28_c ([(s20_A, s20_n, s20_c), (s21_A, s21_n, s21_c)] : List HS) 26, .ownL (CI .u8) s27_A s27_n s27_c (r26 ++ (subL (subL a4 0 (imul .i64 (iquo .i64 (a4.length : Int) 16) 16)) 16 ((subL a4 0 (imul .i64 (iquo .i64 (a4.length : Int) 16) 16)).length : Int))) 5, .ownL (CI .u8) r23_A r23_n r23_c r23 5, .ownL (CI .u8) r18_A r18_n r18_c r18 5, .ownL (CI .u8) r17_A r17_n r17_c r17 5, .ownL (CI .u8) r16_A r16_n r16_c r16 5, .ownL (CI .u8) r15_A r15_n r15_c r15 5, .ownL (CI .u8) r14_A r14_n r14_c r14 5, .ownL (CI .u8) r12_A r12_n r12_c r12 5, .ownL (CI .u8) r11_A r11_n r11_c r11 5, .ownL (CI .u8) r10_A r10_n r10_c r10 5, .ownL (CI .u8) r9_A r9_n r9_c r9 5, .ownL (CI .u8) r7_A r7_n r7_c r7 5, .ownL (CI .u8) r6_A r6_n r6_c r6 5, .ownL CS s4_A s4_n s4_c ([(a3_A, a3_n, a3_c), (a4_A, a4_n, a4_c)] : List HS) 26, .blk b3 (enc .u8 a2) 42, .blk b2 (enc .u8 a1) 42, .blk b1 (enc .u8 a0) 42]) rfl
     refine ⟨fun _ => trivial, ?_⟩
     obtain ⟨r30, hg, h⟩ := of_bind h
     refine wpS.only 5 (op_callH (d := (some 94)) (by kernel_rfl) hs (fun _ => by kernel_rfl) (gcm_Ghash.ok hg _ (hs.rowB (lo := 0) (hi := 16) 18 rfl (by decide) (by decide) (by decide)) (hs.rowL 0 rfl)) ?_)
     rintro ⟨r30_A, r30_n, r30_c⟩ w gw hs
     have hs := hs.conv (L' := [.ownL (CI .u8) r30_A r30_n r30_c r30 5, .ownL (CI .u8) r29_A r29_n r29_c r29 5, .ownL CS s28_A s28_n s28_c ([(s20_A, s20_n, s20_c), (s21_A, s21_n, s21_c)] : List HS) 26, .ownL (CI .u8) s27_A s27_n s27_c (r26 ++ (subL (subL a4 0 (imul .i64 (iquo .i64 (a4.length : Int) 16) 16)) 16 ((subL a4 0 (imul .i64 (iquo .i64 (a4.length : Int) 16) 16)).length : Int))) 5, .ownL (CI .u8) r23_A r23_n r23_c r23 5, .ownL (CI .u8) r18_A r18_n r18_c r18 5, .ownL (CI .u8) r17_A r17_n r17_c r17 5, .ownL (CI .u8) r16_A r16_n r16_c r16 5, .ownL (CI .u8) r15_A r15_n r15_c r15 5, .ownL (CI .u8) r14_A r14_n r14_c r14 5, .ownL (CI .u8) r12_A r12_n r12_c r12 5, .ownL (CI .u8) r11_A r11_n r11_c r11 5, .ownL (CI .u8) r10_A r10_n r10_c r10 5, .ownL (CI .u8) r9_A r9_n r9_c r9 5, .ownL (CI .u8) r7_A r7_n r7_c r7 5, .ownL (CI .u8) r6_A r6_n r6_c r6 5, .ownL CS s4_A s4_n s4_c ([(a3_A, a3_n, a3_c), (a4_A, a4_n, a4_c)] : List HS) 26, .blk b3 (enc .u8 a2) 42, .blk b2 (enc .u8 a1) 42, .blk b1 (enc .u8 a0) 42]) rfl
     refine ⟨fun _ => trivial, ?_⟩
     refine wpS.qs [(6, 95, .slice (some ⟨b1, 0 + (0 : Int).toNat * 1, none⟩) ((16 : Int).toNat - (0 : Int).toNat) (16 - (0 : Int).toNat)), (7, 96, .slice s27_A s27_n s27_c)] ?_
     obtain ⟨r31, hg, h⟩ := of_bind h
     refine wpS.only 8 (op_callH (d := (some 97)) (by kernel_rfl) hs (fun _ => by kernel_rfl) (gcm_Ghash.ok hg _ (hs.rowB (lo := 0) (hi := 16) 19 rfl (by decide) (by decide) (by decide)) (hs.rowL 3 rfl)) ?_)
     rintro ⟨r31_A, r31_n, r31_c⟩ w gw hs
     have hs := hs.conv (L' := [.ownL (CI .u8) r31_A r31_n r31_c r31 5, .ownL (CI .u8) r30_A r30_n r30_c r30 5, .ownL (CI .u8) r29_A r29_n r29_c r29 5, .ownL CS s28_A s28_n s28_c ([(s20_A, s20_n, s20_c), (s21_A, s21_n, s21_c)] : List HS) 26, .ownL (CI .u8) s27_A s27_n s27_c (r26 ++ (subL (subL a4 0 (imul .i64 (iquo .i64 (a4.length : Int) 16) 16)) 16 ((subL a4 0 (imul .i64 (iquo .i64 (a4.length : Int) 16) 16)).length : Int))) 5, .ownL (CI .u8) r23_A r23_n r23_c r23 5, .ownL (CI .u8) r18_A r18_n r18_c r18 5, .ownL (CI .u8) r17_A r17_n r17_c r17 5, .ownL (CI .u8) r16_A r16_n r16_c r16 5, .ownL (CI .u8) r15_A r15_n r15_c r15 5, .ownL (CI .u8) r14_A r14_n r14_c r14 5, .ownL (CI .u8) r12_A r12_n r12_c r12 5, .ownL (CI .u8) r11_A r11_n r11_c r11 5, .ownL (CI .u8) r10_A r10_n r10_c r10 5, .ownL (CI .u8) r9_A r9_n r9_c r9 5, .ownL (CI .u8) r7_A r7_n r7_c r7 5, .ownL (CI .u8) r6_A r6_n r6_c r6 5, .ownL CS s4_A s4_n s4_c ([(a3_A, a3_n, a3_c), (a4_A, a4_n, a4_c)] : List HS) 26, .blk b3 (enc .u8 a2) 42, .blk b2 (enc .u8 a1) 42, .blk b1 (enc .u8 a0) 42]) rfl
     refine ⟨fun _ => trivial, ?_⟩
     obtain ⟨r32, hg, h⟩ := of_bind h
     cases r32 with
     | true =>
      have h := of_if_t h
      refine wpS.only 9 (op_call (d := (some 98)) (by kernel_rfl) hs (fun _ => by kernel_rfl) (ref01_Same.ok hg _ (hs.rowL 1 rfl) (hs.rowL 0 rfl)) ?_)
      intro w gw hs
      refine ⟨fun _ => trivial, ?_⟩
      refine wpS.q 10 99 (.bool true) ?_
      obtain ⟨r33, hg, h⟩ := of_bind h
      refine wpS.only 11 (op_call (d := (some 100)) (by kernel_rfl) hs (fun _ => by kernel_rfl) (law12_awake.ok hg _) ?_)
      intro w gw hs
      refine ⟨fun _ => trivial, ?_⟩
      refine wpS.qs [(12, 101, .bool r33), (13, 10, .bool r33)] ?_
      refine wpS.fin rfl (kr26 _ _ (then_n (ks25 _ _ (xret ?_))))
      have q0 := of_some h
      subst q0
      exact qq _ _ (post_ret (by kernel_rfl) (run_results [.tmp 10] [.bool r33] (by kernel_rfl) (.cons (res_tmp (by kernel_rfl)) .nil)) ⟨congrArg Ending.returned (by kernel_rfl), hs.none⟩)
     | false =>
      have h := of_if_f h
      refine wpS.only 9 (op_call (d := (some 98)) (by kernel_rfl) hs (fun _ => by kernel_rfl) (ref01_Same.ok hg _ (hs.rowL 1 rfl) (hs.rowL 0 rfl)) ?_)
      intro w gw hs
      refine ⟨fun _ => trivial, ?_⟩
      refine wpS.qs [(10, 99, .bool false), (11, 100, undef), (12, 101, .bool false), (13, 10, .bool false)] ?_
      refine wpS.fin rfl (kr26 _ _ (then_n (ks25 _ _ (xret ?_))))
      have q0 := of_some h
      subst q0
      exact qq _ _ (post_ret (by kernel_rfl) (run_results [.tmp 10] [.bool false] (by kernel_rfl) (.cons (res_tmp (by kernel_rfl)) .nil)) ⟨congrArg Ending.returned (by kernel_rfl), hs.none⟩)
    | false =>
     have h := of_if_f h
     refine wpS.only 35 (op_call (d := (some 60)) (by kernel_rfl) hs (fun _ => by kernel_rfl) (ref01_Same.ok hg _ (hs.rowL 3 rfl) (hs.rowL 0 rfl)) ?_)
     intro w gw hs
     refine ⟨fun _ => trivial, ?_⟩
     refine wpS.qs [(36, 61, .bool true), (37, 62, .bool true)] ?_
     refine wpS.fin rfl (kr13 _ _ (then_n (ks12 _ _ (wp_cond_t (by kernel_rfl) (xseq_k fun KS27 ks27 => (xregS [0] fun KR28 kr28 => ?_))))))
     refine wpS.q 0 10 (.bool false) ?_
     refine wpS.fin rfl (kr28 _ _ (then_n (ks27 _ _ (xret (then_r ?_)))))
     have q0 := of_some h
     subst q0
     exact qq _ _ (post_ret (by kernel_rfl) (run_results [.tmp 10] [.bool false] (by kernel_rfl) (.cons (res_tmp (by kernel_rfl)) .nil)) ⟨congrArg Ending.returned (by kernel_rfl), hs.none⟩)
   | false =>
    have h := of_if_f h
    refine wpS.only 19 (op_call (d := (some 44)) (by kernel_rfl) hs (fun _ => by kernel_rfl) (ref01_Same.ok hg _ (hs.rowL 2 rfl) (hs.rowL 0 rfl)) ?_)
    intro w gw hs
    refine ⟨fun _ => trivial, ?_⟩
    refine wpS.qs [(20, 45, .bool true), (21, 46, .bool true), (22, 47, .bool true), (23, 48, undef), (24, 49, undef), (25, 50, undef), (26, 51, undef), (27, 52, undef), (28, 53, undef), (29, 54, undef), (30, 55, undef), (31, 56, undef), (32, 57, undef), (33, 58, undef), (34, 59, undef), (35, 60, undef), (36, 61, undef), (37, 62, .bool true)] ?_
    refine wpS.fin rfl (kr13 _ _ (then_n (ks12 _ _ (wp_cond_t (by kernel_rfl) (xseq_k fun KS29 ks29 => (xregS [0] fun KR30 kr30 => ?_))))))
    refine wpS.q 0 10 (.bool false) ?_
    refine wpS.fin rfl (kr30 _ _ (then_n (ks29 _ _ (xret (then_r ?_)))))
    have q0 := of_some h
    subst q0
    exact qq _ _ (post_ret (by kernel_rfl) (run_results [.tmp 10] [.bool false] (by kernel_rfl) (.cons (res_tmp (by kernel_rfl)) .nil)) ⟨congrArg Ending.returned (by kernel_rfl), hs.none⟩)
  | false =>
   have h := of_if_f h
   refine wpS.only 6 (op_call (d := (some 31)) (by kernel_rfl) hs (fun _ => by kernel_rfl) (ref01_Same.ok hg _ (hs.rowL 1 rfl) (hs.rowL 0 rfl)) ?_)
   intro w gw hs
   refine ⟨fun _ => trivial, ?_⟩
   refine wpS.qs [(7, 32, .bool true), (8, 33, .bool true), (9, 34, undef), (10, 35, undef), (11, 36, undef), (12, 37, undef), (13, 38, undef), (14, 39, undef), (15, 40, undef), (16, 41, undef), (17, 42, undef), (18, 43, undef), (19, 44, undef), (20, 45, undef), (21, 46, .bool true), (22, 47, .bool true), (23, 48, undef), (24, 49, undef), (25, 50, undef), (26, 51, undef), (27, 52, undef), (28, 53, undef), (29, 54, undef), (30, 55, undef), (31, 56, undef), (32, 57, undef), (33, 58, undef), (34, 59, undef), (35, 60, undef), (36, 61, undef), (37, 62, .bool true)] ?_
   refine wpS.fin rfl (kr13 _ _ (then_n (ks12 _ _ (wp_cond_t (by kernel_rfl) (xseq_k fun KS31 ks31 => (xregS [0] fun KR32 kr32 => ?_))))))
   refine wpS.q 0 10 (.bool false) ?_
   refine wpS.fin rfl (kr32 _ _ (then_n (ks31 _ _ (xret (then_r ?_)))))
   have q0 := of_some h
   subst q0
   exact qq _ _ (post_ret (by kernel_rfl) (run_results [.tmp 10] [.bool false] (by kernel_rfl) (.cons (res_tmp (by kernel_rfl)) .nil)) ⟨congrArg Ending.returned (by kernel_rfl), hs.none⟩)
 | false =>
  have h := of_if_f h
  refine wpS.only 3 (op_call (d := (some 19)) (by kernel_rfl) hs (fun _ => by kernel_rfl) (law12_few.ok hg _ (LLP.mk (hs.rowL 0 rfl) (inn_cons (hs.rowR 0 rfl) (inn_cons (hs.rowR 1 rfl) inn_nil)))) ?_)
  intro w gw hs
  refine ⟨fun _ => trivial, ?_⟩
  refine wpS.q 4 20 (.bool true) ?_
  refine wpS.fin rfl (kr5 _ _ (then_n (ks4 _ _ (wp_cond_t (by kernel_rfl) (xseq_k fun KS33 ks33 => (xregS [0, 1] fun KR34 kr34 => ?_))))))
  obtain ⟨r34, hg, h⟩ := of_bind h
  refine wpS.only 0 (op_call (d := (some 21)) (by kernel_rfl) hs (fun _ => by kernel_rfl) (law12_awake.ok hg _) ?_)
  intro w gw hs
  refine ⟨fun _ => trivial, ?_⟩
  refine wpS.q 1 10 (.bool r34) ?_
  refine wpS.fin rfl (kr34 _ _ (then_n (ks33 _ _ (xret (then_r ?_)))))
  have q0 := of_some h
  subst q0
  exact qq _ _ (post_ret (by kernel_rfl) (run_results [.tmp 10] [.bool r34] (by kernel_rfl) (.cons (res_tmp (by kernel_rfl)) .nil)) ⟨congrArg Ending.returned (by kernel_rfl), hs.none⟩)
end Go.Proofs.Ytmpagpbnpgcecaa
