/- Printed by this work's own program: the code of each function below comes to the answer that its plain form tells. -/
import Derived.Test.YtemdbgmldljbpaaDoorMf
import Derived.Test.YtemdbgmldljbpaaDoorProg
import Derived.Test.YtemdbgmldljbpaaDoorLKpkeSmall
import Derived.Test.YtemdbgmldljbpaaDoorZX1
import Derived.Test.YtemdbgmldljbpaaDoorZX17
import Derived.Test.YtemdbgmldljbpaaDoorZX2
import Derived.Test.YtemdbgmldljbpaaDoorZX3
import Derived.Test.YtemdbgmldljbpaaDoorZX4
import Derived.Test.YtemdbgmldljbpaaDoorZX5
import Derived.Test.YtemdbgmldljbpaaDoorZX6
import Derived.Test.YtemdbgmldljbpaaDoorZX7
import Derived.Test.YtemdbgmldljbpaaDoorZX8
import Derived.Test.YtemdbgmldljbpaaDoorZX9
set_option linter.unusedVariables false
set_option linter.unusedSimpArgs false
set_option maxRecDepth 100000
set_option maxHeartbeats 4000000
namespace Go.Proofs.YtemdbgmldljbpaaDoor
open Go.Mx
attribute [local irreducible] wpOp

theorem law26_KpkeSmall.ok {K : Nat} {a0 : Int} {a1 : Bool} {a2 : Int} {a3 : Arr 32} {a4 : Arr 32} {a5 : Arr 32} {r0 : Bool} (h : law26_KpkeSmall.f K a0 a1 a2 a3 a4 a5 = some r0) (w0 : World) (hg0 : RowL (CA .u64 24 (by decide)) w0 (some ⟨0, 0, none⟩) 1 1 [tab_0]) (hg1 : RowL (CA .i64 24 (by decide)) w0 (some ⟨1, 0, none⟩) 1 1 [tab_1]) (hg2 : RowL (CA .i64 24 (by decide)) w0 (some ⟨2, 0, none⟩) 1 1 [tab_2]) : Ret Tryd.prog 5 #[.int .u8 a0, .bool a1, .int .u8 a2, .agg (enc .u8 a3).toArray, .agg (enc .u8 a4).toArray, .agg (enc .u8 a5).toArray] w0 (.bool r0) := by
 refine calls_k Tryd.func5 rfl fun Q qq => ?_
 have hs := St.startR (all_cons (RowP.ent hg0) (all_cons (RowP.ent hg1) (all_cons (RowP.ent hg2) all_nil)))
 refine wp_conv (a' := ⟨#[.int .u8 a0, .bool a1, .int .u8 a2, .agg (enc .u8 a3).toArray, .agg (enc .u8 a4).toArray, .agg (enc .u8 a5).toArray, undef, undef, undef, undef, undef, undef, undef, undef, undef, undef, undef, undef, undef, undef, undef, undef, undef, undef, undef, undef, undef, undef, undef, undef, undef, undef, undef, undef, undef, undef, undef, undef, undef, undef, undef, undef, undef, undef, undef, undef, undef, undef, undef, undef, undef, undef, undef, undef, undef, undef, undef, undef, undef, undef, undef, undef, undef, undef, undef, undef, undef, undef, undef, undef, undef, undef, undef, undef, undef, undef, undef, undef, undef, undef, undef, undef, undef, undef, undef, undef, undef, undef, undef, undef, undef, undef, undef, undef, undef, undef, undef, undef, undef, undef, undef, undef, undef, undef, undef, undef, undef, undef, undef, undef, undef, undef, undef, undef, undef, undef, undef, undef, undef, undef, undef, undef, undef, undef, undef], []⟩) (by kernel_rfl) ?_
 refine xseq_k fun KS1 ks1 => ?_
 refine xregS [0, 1, 2, 3] fun KR2 kr2 => ?_
 refine wpS.only 0 (op_box (t := 53) (v := .agg (enc .u8 a3).toArray) (d := (some 9)) (by kernel_rfl) hs (enc .u8 a3) (by kernel_rfl) (by kernel_rfl) ?_)
 intro b1 w gw hs
 refine ⟨fun _ => trivial, ?_⟩
 refine wpS.only 1 (op_box (t := 53) (v := .agg (enc .u8 a4).toArray) (d := (some 10)) (by kernel_rfl) hs (enc .u8 a4) (by kernel_rfl) (by kernel_rfl) ?_)
 intro b2 w gw hs
 refine ⟨fun _ => trivial, ?_⟩
 refine wpS.only 2 (op_box (t := 53) (v := .agg (enc .u8 a5).toArray) (d := (some 11)) (by kernel_rfl) hs (enc .u8 a5) (by kernel_rfl) (by kernel_rfl) ?_)
 intro b3 w gw hs
 refine ⟨fun _ => trivial, ?_⟩
 refine wpS.q 3 12 (.bool false) ?_
 refine wpS.fin rfl (kr2 _ _ (then_n (ks1 _ _ (xseq_k fun KS3 ks3 => (xregS [0, 1, 2, 3, 4, 5] fun KR4 kr4 => ?_)))))
 refine wpS.qs [(0, 28, .int .u8 a0), (1, 29, .int .u8 (irem .u8 a0 3)), (2, 30, .agg #[.int .i64 0, .int .i64 0, .int .i64 0, .int .i64 0, .int .i64 0])] ?_
 obtain ⟨⟨r4_0, r4_1, r4_2, r4_3, r4_4⟩, hg, h⟩ := of_bind h
 refine wpS.only 3 (op_call (d := (some 31)) (by kernel_rfl) hs (fun _ => by kernel_rfl) (law26_kind.ok hg _) ?_)
 intro w gw hs
 refine ⟨fun _ => trivial, ?_⟩
 refine wpS.only 4 (op_alloc (t := 23) (d := (some 13)) (by kernel_rfl) hs ([.int .i64 0, .int .i64 0, .int .i64 0, .int .i64 0, .int .i64 0]) (.agg #[.int .i64 0, .int .i64 0, .int .i64 0, .int .i64 0, .int .i64 0]) (by kernel_rfl) (by kernel_rfl) (by kernel_rfl) ?_)
 intro b5 w gw hs
 refine ⟨fun _ => trivial, ?_⟩
 refine wpS.only 5 (op_storeW (t := 23) (v := .agg #[.int .i64 r4_0, .int .i64 r4_1, .int .i64 r4_2, .int .i64 r4_3, .int .i64 r4_4]) (d := none) (by kernel_rfl) hs 0 rfl (vs := [.int .i64 r4_0, .int .i64 r4_1, .int .i64 r4_2, .int .i64 r4_3, .int .i64 r4_4]) (n := 5) (by kernel_rfl) (by kernel_rfl) (by kernel_rfl) (by simp [enc_len]) (by simp [enc_len]) (by simp [Value.oneCell']) ?_)
 intro w kp hs
 refine ⟨fun _ => trivial, ?_⟩
 refine wpS.fin rfl (kr4 _ _ (then_n (ks3 _ _ (xseq_k fun KS5 ks5 => (xregS [0] fun KR6 kr6 => ?_)))))
 refine wpS.q 0 14 (.int .i32 2) ?_
 refine wpS.fin rfl (kr6 _ _ (then_n (ks5 _ _ ?_)))
 obtain ⟨y6, hj, h⟩ := of_bind h
 refine xseq_k fun KS8 ks8 => wp_join (N := fun a w => St w0 [] [.blk b5 ([.int .i64 r4_0, .int .i64 r4_1, .int .i64 r4_2, .int .i64 r4_3, .int .i64 r4_4]) 23, .blk b3 (enc .u8 a5) 53, .blk b2 (enc .u8 a4) 53, .blk b1 (enc .u8 a3) 53] [.rowL (CA .u64 24 (by decide)) (some ⟨0, 0, none⟩) 1 1 ([tab_0]), .rowL (CA .i64 24 (by decide)) (some ⟨1, 0, none⟩) 1 1 ([tab_1]), .rowL (CA .i64 24 (by decide)) (some ⟨2, 0, none⟩) 1 1 ([tab_2])] w ∧ ∃ g7 : Nat → Value, a = ⟨#[.int .u8 a0, .bool a1, .int .u8 a2, .agg (enc .u8 a3).toArray, .agg (enc .u8 a4).toArray, .agg (enc .u8 a5).toArray, undef, undef, undef, .pointer (some ⟨b1, 0, none⟩), .pointer (some ⟨b2, 0, none⟩), .pointer (some ⟨b3, 0, none⟩), .bool false, .pointer (some ⟨b5, 0, none⟩), .int .i32 y6, undef, undef, undef, undef, undef, undef, undef, undef, undef, undef, undef, undef, undef, .int .u8 a0, .int .u8 (irem .u8 a0 3), .agg #[.int .i64 0, .int .i64 0, .int .i64 0, .int .i64 0, .int .i64 0], .agg #[.int .i64 r4_0, .int .i64 r4_1, .int .i64 r4_2, .int .i64 r4_3, .int .i64 r4_4], (g7 32), undef, undef, undef, undef, undef, undef, undef, undef, undef, undef, undef, undef, undef, undef, undef, undef, undef, undef, undef, undef, undef, undef, undef, undef, undef, undef, undef, undef, undef, undef, undef, undef, undef, undef, undef, undef, undef, undef, undef, undef, undef, undef, undef, undef, undef, undef, undef, undef, undef, undef, undef, undef, undef, undef, undef, undef, undef, undef, undef, undef, undef, undef, undef, undef, undef, undef, undef, undef, undef, undef, undef, undef, undef, undef, undef, undef, undef, undef, undef, undef, undef, undef, undef, undef, undef, undef, undef, undef, undef, undef, undef, undef], []⟩) (fun N nj => ?_) ?_
 ·clear h
  have h := hj
  refine xseq_k fun KS9 ks9 => ?_
  refine xregS [0] fun KR10 kr10 => ?_
  cases a1 with
  | true =>
   have h := of_if_t h
   refine wpS.q 0 32 (.bool true) ?_
   refine wpS.fin rfl (kr10 _ _ (then_n (ks9 _ _ (wp_cond_t (by kernel_rfl) (xregS [0] fun KR11 kr11 => ?_)))))
   refine wpS.q 0 14 (.int .i32 3) ?_
   refine wpS.fin rfl (kr11 _ _ ?_)
   have q0 := of_some h
   subst q0
   exact nj _ _ ⟨(hs.conv rfl), exg (by kernel_rfl)⟩
  | false =>
   have h := of_if_f h
   refine wpS.q 0 32 (.bool false) ?_
   refine wpS.fin rfl (kr10 _ _ (then_n (ks9 _ _ (wp_cond_f (by kernel_rfl) (xskip ?_)))))
   have q0 := of_some h
   subst q0
   exact nj _ _ ⟨(hs.conv rfl), exg (by kernel_rfl)⟩
 clear hj hs
 rintro a w ⟨hs, g7, rfl⟩
 refine then_n (ks8 _ _ (xseq_k fun KS12 ks12 => (xregS [0, 1, 2, 3, 4, 5, 6] fun KR13 kr13 => ?_)))
 refine wpS.qs [(0, 33, .int .i32 y6), (1, 34, .int .i64 (iconv .i64 y6))] ?_
 refine wpS.tk 2 false (some 35) (.slice (some ⟨b1, 0 + (0 : Int).toNat * 1, none⟩) ((32 : Int).toNat - (0 : Int).toNat) (32 - (0 : Int).toNat)) (yld_slA2 (t := 53) (e := 5) (n := 32) (low := Option.none) (high := Option.none) (lo := 0) (hi := 32) (by kernel_rfl) (by kernel_rfl) (by kernel_rfl) (.inl ⟨rfl, rfl⟩) (.inl ⟨rfl, rfl⟩) (by decide) (by decide) (by decide) (by decide)) ?_
 refine wpS.q 3 36 (.int .u8 a2) ?_
 obtain ⟨r7, hg, h⟩ := of_bind h
 refine wpS.only 4 (op_call (d := (some 37)) (by kernel_rfl) hs (fun _ => by kernel_rfl) (kpke_Noise.ok hg _ (hs.rowB (lo := 0) (hi := 32) 3 rfl (by decide) (by decide) (by decide)) (hs.rowR 0 rfl) (hs.rowR 1 rfl) (hs.rowR 2 rfl)) ?_)
 intro w gw hs
 refine ⟨fun _ => trivial, ?_⟩
 refine wpS.only 5 (op_alloc (t := 32) (d := (some 15)) (by kernel_rfl) hs (enc .i32 (zeroA 256)) (.agg (enc .i32 (zeroA 256)).toArray) (by kernel_rfl) (by kernel_rfl) (by kernel_rfl) ?_)
 intro b8 w gw hs
 refine ⟨fun _ => trivial, ?_⟩
 refine wpS.only 6 (op_storeW (t := 32) (v := .agg (enc .i32 r7).toArray) (d := none) (by kernel_rfl) hs 0 rfl (vs := enc .i32 r7) (n := 256) (by kernel_rfl) (by kernel_rfl) (by kernel_rfl) (by simp [enc_len]) (by simp [enc_len]) (by intro u hu; exact enc_one _ _ u hu) ?_)
 intro w kp hs
 refine ⟨fun _ => trivial, ?_⟩
 refine wpS.fin rfl (kr13 _ _ (then_n (ks12 _ _ (xseq_k fun KS15 ks15 => (xseq_k fun KS16 ks16 => (xregS [0, 1] fun KR17 kr17 => ?_))))))
 refine wpS.tk 0 true (some 38) (.agg (enc .i32 r7).toArray) (yld_loadW (e := 32) (n := 256) hs 0 rfl (by kernel_rfl) (by kernel_rfl) (by kernel_rfl) (by exact enc_len _ _) .grow) ?_
 refine wpS.q 1 39 (.int .i64 0) ?_
 refine wpS.fin rfl (kr17 _ _ (then_n (ks16 _ _ ?_)))
 obtain ⟨t0, hy, hk0⟩ := of_bind h
 refine wp_exq (N := fun a w => t0 = .inl () ∧ St w0 [] [.blk b8 (enc .i32 r7) 32, .blk b5 ([.int .i64 r4_0, .int .i64 r4_1, .int .i64 r4_2, .int .i64 r4_3, .int .i64 r4_4]) 23, .blk b3 (enc .u8 a5) 53, .blk b2 (enc .u8 a4) 53, .blk b1 (enc .u8 a3) 53] [.rowL (CA .u64 24 (by decide)) (some ⟨0, 0, none⟩) 1 1 ([tab_0]), .rowL (CA .i64 24 (by decide)) (some ⟨1, 0, none⟩) 1 1 ([tab_1]), .rowL (CA .i64 24 (by decide)) (some ⟨2, 0, none⟩) 1 1 ([tab_2])] w ∧ ∃ g19 : Nat → Value, a = ⟨#[.int .u8 a0, .bool a1, .int .u8 a2, .agg (enc .u8 a3).toArray, .agg (enc .u8 a4).toArray, .agg (enc .u8 a5).toArray, undef, undef, undef, .pointer (some ⟨b1, 0, none⟩), .pointer (some ⟨b2, 0, none⟩), .pointer (some ⟨b3, 0, none⟩), (g19 12), .pointer (some ⟨b5, 0, none⟩), .int .i32 y6, .pointer (some ⟨b8, 0, none⟩), undef, (g19 17), undef, undef, undef, undef, undef, undef, undef, undef, undef, undef, .int .u8 a0, .int .u8 (irem .u8 a0 3), .agg #[.int .i64 0, .int .i64 0, .int .i64 0, .int .i64 0, .int .i64 0], .agg #[.int .i64 r4_0, .int .i64 r4_1, .int .i64 r4_2, .int .i64 r4_3, .int .i64 r4_4], (g7 32), .int .i32 y6, .int .i64 (iconv .i64 y6), .slice (some ⟨b1, 0 + (0 : Int).toNat * 1, none⟩) ((32 : Int).toNat - (0 : Int).toNat) (32 - (0 : Int).toNat), .int .u8 a2, .agg (enc .i32 r7).toArray, .agg (enc .i32 r7).toArray, (g19 39), (g19 40), (g19 41), (g19 42), (g19 43), (g19 44), (g19 45), (g19 46), (g19 47), (g19 48), undef, undef, undef, undef, undef, undef, undef, undef, undef, undef, undef, undef, undef, undef, undef, undef, undef, undef, undef, undef, undef, undef, undef, undef, undef, undef, undef, undef, undef, undef, undef, undef, undef, undef, undef, undef, undef, undef, undef, undef, undef, undef, undef, undef, undef, undef, undef, undef, undef, undef, undef, undef, undef, undef, undef, undef, undef, undef, undef, undef, undef, undef, undef, undef, undef, undef, undef, undef, undef, undef, undef, undef, undef, undef, undef, undef], []⟩) (fun N0 nn0 => ?_) ?_
 ·refine xblock ?_
  refine wp_loop_k (fun n a w => ∃ z9, law26_KpkeSmall.l0 K n y6 r7 z9 = some t0 ∧ St w0 [] [.blk b8 (enc .i32 r7) 32, .blk b5 ([.int .i64 r4_0, .int .i64 r4_1, .int .i64 r4_2, .int .i64 r4_3, .int .i64 r4_4]) 23, .blk b3 (enc .u8 a5) 53, .blk b2 (enc .u8 a4) 53, .blk b1 (enc .u8 a3) 53] [.rowL (CA .u64 24 (by decide)) (some ⟨0, 0, none⟩) 1 1 ([tab_0]), .rowL (CA .i64 24 (by decide)) (some ⟨1, 0, none⟩) 1 1 ([tab_1]), .rowL (CA .i64 24 (by decide)) (some ⟨2, 0, none⟩) 1 1 ([tab_2])] w ∧ ∃ g18 : Nat → Value, a = ⟨#[.int .u8 a0, .bool a1, .int .u8 a2, .agg (enc .u8 a3).toArray, .agg (enc .u8 a4).toArray, .agg (enc .u8 a5).toArray, undef, undef, undef, .pointer (some ⟨b1, 0, none⟩), .pointer (some ⟨b2, 0, none⟩), .pointer (some ⟨b3, 0, none⟩), (g18 12), .pointer (some ⟨b5, 0, none⟩), .int .i32 y6, .pointer (some ⟨b8, 0, none⟩), undef, (g18 17), undef, undef, undef, undef, undef, undef, undef, undef, undef, undef, .int .u8 a0, .int .u8 (irem .u8 a0 3), .agg #[.int .i64 0, .int .i64 0, .int .i64 0, .int .i64 0, .int .i64 0], .agg #[.int .i64 r4_0, .int .i64 r4_1, .int .i64 r4_2, .int .i64 r4_3, .int .i64 r4_4], (g7 32), .int .i32 y6, .int .i64 (iconv .i64 y6), .slice (some ⟨b1, 0 + (0 : Int).toNat * 1, none⟩) ((32 : Int).toNat - (0 : Int).toNat) (32 - (0 : Int).toNat), .int .u8 a2, .agg (enc .i32 r7).toArray, .agg (enc .i32 r7).toArray, .int .i64 z9, (g18 40), (g18 41), (g18 42), (g18 43), (g18 44), (g18 45), (g18 46), (g18 47), (g18 48), undef, undef, undef, undef, undef, undef, undef, undef, undef, undef, undef, undef, undef, undef, undef, undef, undef, undef, undef, undef, undef, undef, undef, undef, undef, undef, undef, undef, undef, undef, undef, undef, undef, undef, undef, undef, undef, undef, undef, undef, undef, undef, undef, undef, undef, undef, undef, undef, undef, undef, undef, undef, undef, undef, undef, undef, undef, undef, undef, undef, undef, undef, undef, undef, undef, undef, undef, undef, undef, undef, undef, undef, undef, undef, undef, undef], []⟩) K ⟨0, hy, hs.conv rfl, exg (by kernel_rfl)⟩ ?_
  clear hs h hy
  rintro n a w ⟨z9, h, hs, g18, rfl⟩ KL0 kl0
  cases n with
  | zero => exact nomatch (show none = some _ from h)
  | succ n =>
   refine xseq_k fun KS20 ks20 => ?_
   refine xregS [0] fun KR21 kr21 => ?_
   rcases of_if h with ⟨hc, h⟩ | ⟨hc, h⟩
   ·refine wpS.tk 0 false (some 40) (.bool true) (yld_b (dt hc) (fun _ => by kernel_rfl)) ?_
    refine wpS.fin rfl (kr21 _ _ (then_n (ks20 _ _ (xseq_k fun KS22 ks22 => (wp_cond_t (by kernel_rfl) (xskip (then_n (ks22 _ _ (xseq_k fun KS23 ks23 => (xblock (xseq_k fun KS24 ks24 => (xregS [0, 1] fun KR25 kr25 => ?_))))))))))))
    obtain ⟨h0, h⟩ := of_chk h
    obtain ⟨h1, h⟩ := of_chk h
    refine wpS.tk 0 false (some 41) (.int .i32 (rd r7 z9)) (yld_at (t := 32) (e := 21) (k' := .i64) (by kernel_rfl) (by kernel_rfl) (by kernel_rfl) (by kernel_rfl) h0 h1) ?_
    obtain ⟨x10, hx, h⟩ := of_bind h
    refine wpS.tk 1 false (some 17) (.int .i32 x10) (yld_int hx (fun _ => by kernel_rfl)) ?_
    refine wpS.fin rfl (kr25 _ _ (then_n (ks24 _ _ (xseq_k fun KS26 ks26 => (xregS [0, 1, 2, 3, 4, 5] fun KR27 kr27 => ?_)))))
    refine wpS.qs [(0, 42, .int .i32 x10), (1, 43, .int .i32 x10), (2, 44, .int .i32 (isub .i32 3329 x10)), (3, 45, .int .i32 (imin x10 (isub .i32 3329 x10))), (4, 46, .int .i32 y6)] ?_
    rcases of_if h with ⟨hc, h⟩ | ⟨hc, h⟩
    ·refine wpS.tk 5 false (some 47) (.bool true) (yld_b (dt hc) (fun _ => by kernel_rfl)) ?_
     refine wpS.fin rfl (kr27 _ _ (then_n (ks26 _ _ (wp_cond_t (by kernel_rfl) (xseq_k fun KS28 ks28 => (xregS [0] fun KR29 kr29 => ?_))))))
     refine wpS.q 0 12 (.bool false) ?_
     refine wpS.fin rfl (kr29 _ _ (then_n (ks28 _ _ (xret (inBlock_r (then_r (then_r (inBlock_r (exq_r (then_r ?_))))))))))
     have q0 := of_some h
     subst q0
     have q0 := of_some hk0
     subst q0
     exact qq _ _ (post_ret (by kernel_rfl) (run_results [.tmp 12] [.bool false] (by kernel_rfl) (.cons (res_tmp (by kernel_rfl)) .nil)) ⟨congrArg Ending.returned (by kernel_rfl), hs.none⟩)
    refine wpS.tk 5 false (some 47) (.bool false) (yld_b (df hc) (fun _ => by kernel_rfl)) ?_
    refine wpS.fin rfl (kr27 _ _ (then_n (ks26 _ _ (wp_cond_f (by kernel_rfl) (xskip (inBlock_n (then_n (ks23 _ _ (xregS [0, 1] fun KR30 kr30 => ?_)))))))))
    refine wpS.qs [(0, 48, .int .i64 (iadd .i64 z9 1)), (1, 39, .int .i64 (iadd .i64 z9 1))] ?_
    refine wpS.fin rfl (kr30 _ _ ?_)
    exact then_n (kl0 _ _ ⟨n, Nat.lt_succ_self n, (iadd .i64 z9 1), h, (hs.conv rfl), exg (by kernel_rfl)⟩)
   refine wpS.tk 0 false (some 40) (.bool false) (yld_b (df hc) (fun _ => by kernel_rfl)) ?_
   refine wpS.fin rfl (kr21 _ _ (then_n (ks20 _ _ (xseq_k fun KS31 ks31 => (wp_cond_f (by kernel_rfl) (xexit (then_x (then_x (inBlock_hit ?_)))))))))
   have q0 := of_some h
   subst q0
   exact exq_n (nn0 _ _ ⟨rfl, (hs.conv rfl), exg (by kernel_rfl)⟩)
 clear hs h hy
 rintro a w ⟨rfl, hs, g19, rfl⟩
 have h := hk0
 refine then_n (ks15 _ _ (xseq_k fun KS32 ks32 => ?_))
 refine wp_regG [] (fun k => True) 10 (by kernel_rfl) (by kernel_rfl) (by kernel_rfl) fun KR33 kr33 => ?_
 have hs := hs.drawn1
 refine wpG.tD 0 true (some 50) (.agg #[.int .i64 r4_0, .int .i64 r4_1, .int .i64 r4_2, .int .i64 r4_3, .int .i64 r4_4]) (yld_loadW (e := 23) (n := 5) hs 1 rfl (by kernel_rfl) (by kernel_rfl) (by kernel_rfl) (by simp [enc_len]) .grow) ?_
 refine wpG.tD 1 false (some 51) (.slice (some ⟨b1, 0 + (0 : Int).toNat * 1, none⟩) ((32 : Int).toNat - (0 : Int).toNat) (32 - (0 : Int).toNat)) (yld_slA2 (t := 53) (e := 5) (n := 32) (low := Option.none) (high := Option.none) (lo := 0) (hi := 32) (by kernel_rfl) (by kernel_rfl) (by kernel_rfl) (.inl ⟨rfl, rfl⟩) (.inl ⟨rfl, rfl⟩) (by decide) (by decide) (by decide) (by decide)) ?_
 obtain ⟨⟨r11, r12, r13⟩, hg, h⟩ := of_bind h
 refine wpG.only 2 (by kernel_rfl) (op_callH (d := (some 52)) (by kernel_rfl) hs (fun _ => by kernel_rfl) (kpke_Keys.ok hg _ (hs.rowB (lo := 0) (hi := 32) 4 rfl (by decide) (by decide) (by decide)) (hs.rowR 0 rfl) (hs.rowR 1 rfl) (hs.rowR 2 rfl)) ?_)
 rintro ⟨⟨r11_A, r11_n, r11_c⟩, ⟨r12_A, r12_n, r12_c⟩⟩ w gw hs
 have hs := hs.conv (L' := [.ownL (CI .u8) r11_A r11_n r11_c r11 5, .ownL (CI .u8) r12_A r12_n r12_c r12 5, .blk b8 (enc .i32 r7) 32, .blk b5 ([.int .i64 r4_0, .int .i64 r4_1, .int .i64 r4_2, .int .i64 r4_3, .int .i64 r4_4]) 23, .blk b3 (enc .u8 a5) 53, .blk b2 (enc .u8 a4) 53, .blk b1 (enc .u8 a3) 53]) rfl
 refine ⟨.of gw, ?_⟩
 refine wpG.q 3 49 (.tuple #[.slice r11_A r11_n r11_c, .slice r12_A r12_n r12_c, .int .i64 r13]) ?_
 refine wpG.q 4 53 (.slice r11_A r11_n r11_c) ?_
 refine wpG.q 5 54 (.slice r12_A r12_n r12_c) ?_
 refine wpG.q 6 55 (.int .i64 r13) ?_
 refine wpG.q 7 18 (.slice r11_A r11_n r11_c) ?_
 refine wpG.q 8 19 (.slice r12_A r12_n r12_c) ?_
 refine wpG.q 9 20 (.int .i64 r13) ?_
 refine wpG.fin (by kernel_rfl) rfl (kr33 _ _ ?_)
 refine then_n (ks32 _ _ (xseq_k fun KS35 ks35 => (xseq_k fun KS36 ks36 => (xregS [0, 1, 2, 3, 4, 5, 6] fun KR37 kr37 => ?_))))
 refine wpS.tk 0 true (some 56) (.agg (enc .i32 r7).toArray) (yld_loadW (e := 32) (n := 256) hs 2 rfl (by kernel_rfl) (by kernel_rfl) (by kernel_rfl) (by exact enc_len _ _) .grow) ?_
 obtain ⟨r14, hg, h⟩ := of_bind h
 cases r14 with
 | true =>
  have h := of_if_t h
  refine wpS.only 1 (op_call (d := (some 57)) (by kernel_rfl) hs (fun _ => by kernel_rfl) (ref25_Fit.ok hg _) ?_)
  intro w gw hs
  refine ⟨fun _ => trivial, ?_⟩
  refine wpS.qs [(2, 58, .bool false), (3, 59, .bool false), (4, 60, .int .i64 r13)] ?_
  rcases of_if h with ⟨hc, h⟩ | ⟨hc, h⟩
  ·refine wpS.tk 5 false (some 61) (.bool false) (yld_b (nf hc) (fun _ => by kernel_rfl)) ?_
   refine wpS.q 6 62 (.bool false) ?_
   refine wpS.fin rfl (kr37 _ _ (then_n (ks36 _ _ (wp_cond_f (by kernel_rfl) (xskip (then_n (ks35 _ _ (xseq_k fun KS38 ks38 => ?_))))))))
   refine wp_regG [] (fun k => True) 10 (by kernel_rfl) (by kernel_rfl) (by kernel_rfl) fun KR39 kr39 => ?_
   have hs := hs.drawn1
   refine wpG.tD 0 true (some 73) (.agg #[.int .i64 r4_0, .int .i64 r4_1, .int .i64 r4_2, .int .i64 r4_3, .int .i64 r4_4]) (yld_loadW (e := 23) (n := 5) hs 3 rfl (by kernel_rfl) (by kernel_rfl) (by kernel_rfl) (by simp [enc_len]) .grow) ?_
   refine wpG.q 1 74 (.slice r11_A r11_n r11_c) ?_
   refine wpG.tD 2 false (some 75) (.slice (some ⟨b2, 0 + (0 : Int).toNat * 1, none⟩) ((32 : Int).toNat - (0 : Int).toNat) (32 - (0 : Int).toNat)) (yld_slA2 (t := 53) (e := 5) (n := 32) (low := Option.none) (high := Option.none) (lo := 0) (hi := 32) (by kernel_rfl) (by kernel_rfl) (by kernel_rfl) (.inl ⟨rfl, rfl⟩) (.inl ⟨rfl, rfl⟩) (by decide) (by decide) (by decide) (by decide)) ?_
   refine wpG.tD 3 false (some 76) (.slice (some ⟨b3, 0 + (0 : Int).toNat * 1, none⟩) ((32 : Int).toNat - (0 : Int).toNat) (32 - (0 : Int).toNat)) (yld_slA2 (t := 53) (e := 5) (n := 32) (low := Option.none) (high := Option.none) (lo := 0) (hi := 32) (by kernel_rfl) (by kernel_rfl) (by kernel_rfl) (.inl ⟨rfl, rfl⟩) (.inl ⟨rfl, rfl⟩) (by decide) (by decide) (by decide) (by decide)) ?_
   obtain ⟨⟨r15, r16⟩, hg, h⟩ := of_bind h
   refine wpG.only 4 (by kernel_rfl) (op_callH (d := (some 77)) (by kernel_rfl) hs (fun _ => by kernel_rfl) (kpke_Encrypt.ok hg _ (hs.rowL 0 rfl) (hs.rowB (lo := 0) (hi := 32) 5 rfl (by decide) (by decide) (by decide)) (hs.rowB (lo := 0) (hi := 32) 4 rfl (by decide) (by decide) (by decide)) (hs.rowR 0 rfl) (hs.rowR 1 rfl) (hs.rowR 2 rfl)) ?_)
   rintro ⟨r15_A, r15_n, r15_c⟩ w gw hs
   have hs := hs.conv (L' := [.ownL (CI .u8) r15_A r15_n r15_c r15 5, .ownL (CI .u8) r11_A r11_n r11_c r11 5, .ownL (CI .u8) r12_A r12_n r12_c r12 5, .blk b8 (enc .i32 r7) 32, .blk b5 ([.int .i64 r4_0, .int .i64 r4_1, .int .i64 r4_2, .int .i64 r4_3, .int .i64 r4_4]) 23, .blk b3 (enc .u8 a5) 53, .blk b2 (enc .u8 a4) 53, .blk b1 (enc .u8 a3) 53]) rfl
   refine ⟨.of gw, ?_⟩
   refine wpG.q 5 72 (.tuple #[.slice r15_A r15_n r15_c, .int .i64 r16]) ?_
   refine wpG.q 6 78 (.slice r15_A r15_n r15_c) ?_
   refine wpG.q 7 79 (.int .i64 r16) ?_
   refine wpG.q 8 21 (.slice r15_A r15_n r15_c) ?_
   refine wpG.q 9 22 (.int .i64 r16) ?_
   refine wpG.fin (by kernel_rfl) rfl (kr39 _ _ ?_)
   refine then_n (ks38 _ _ (xseq_k fun KS42 ks42 => (xregS [0, 1, 2, 3, 4, 5, 6, 7, 8] fun KR43 kr43 => ?_)))
   refine wpS.tk 0 true (some 81) (.agg #[.int .i64 r4_0, .int .i64 r4_1, .int .i64 r4_2, .int .i64 r4_3, .int .i64 r4_4]) (yld_loadW (e := 23) (n := 5) hs 4 rfl (by kernel_rfl) (by kernel_rfl) (by kernel_rfl) (by simp [enc_len]) .grow) ?_
   refine wpS.qs [(1, 82, .slice r12_A r12_n r12_c), (2, 83, .slice r15_A r15_n r15_c)] ?_
   obtain ⟨⟨r17, r18⟩, hg, h⟩ := of_bind h
   refine wpS.only 3 (op_callH (d := (some 84)) (by kernel_rfl) hs (fun _ => by kernel_rfl) (kpke_Decrypt.ok hg _ (hs.rowL 2 rfl) (hs.rowL 0 rfl)) ?_)
   rintro ⟨r17_A, r17_n, r17_c⟩ w gw hs
   have hs := hs.conv (L' := [.ownL (CI .u8) r17_A r17_n r17_c r17 5, .ownL (CI .u8) r15_A r15_n r15_c r15 5, .ownL (CI .u8) r11_A r11_n r11_c r11 5, .ownL (CI .u8) r12_A r12_n r12_c r12 5, .blk b8 (enc .i32 r7) 32, .blk b5 ([.int .i64 r4_0, .int .i64 r4_1, .int .i64 r4_2, .int .i64 r4_3, .int .i64 r4_4]) 23, .blk b3 (enc .u8 a5) 53, .blk b2 (enc .u8 a4) 53, .blk b1 (enc .u8 a3) 53]) rfl
   refine ⟨fun _ => trivial, ?_⟩
   refine wpS.qs [(4, 80, .tuple #[.slice r17_A r17_n r17_c, .int .i64 r18]), (5, 85, .slice r17_A r17_n r17_c), (6, 86, .int .i64 r18), (7, 23, .slice r17_A r17_n r17_c), (8, 24, .int .i64 r18)] ?_
   refine wpS.fin rfl (kr43 _ _ (then_n (ks42 _ _ (xseq_k fun KS44 ks44 => (xregS [0, 1, 2, 3, 4, 5, 6, 7, 8] fun KR45 kr45 => ?_)))))
   refine wpS.tk 0 true (some 88) (.agg #[.int .i64 r4_0, .int .i64 r4_1, .int .i64 r4_2, .int .i64 r4_3, .int .i64 r4_4]) (yld_loadW (e := 23) (n := 5) hs 5 rfl (by kernel_rfl) (by kernel_rfl) (by kernel_rfl) (by simp [enc_len]) .grow) ?_
   obtain ⟨⟨r19, r20, r21⟩, hg, h⟩ := of_bind h
   refine wpS.only 1 (op_call (d := (some 89)) (by kernel_rfl) hs (fun _ => by kernel_rfl) (kpke_Sizes.ok hg _) ?_)
   intro w gw hs
   refine ⟨fun _ => trivial, ?_⟩
   refine wpS.qs [(2, 87, .tuple #[.int .i64 r19, .int .i64 r20, .int .i64 r21]), (3, 90, .int .i64 r19), (4, 91, .int .i64 r20), (5, 92, .int .i64 r21), (6, 25, .int .i64 r19), (7, 26, .int .i64 r20), (8, 27, .int .i64 r21)] ?_
   refine wpS.fin rfl (kr45 _ _ (then_n (ks44 _ _ (xseq_k fun KS46 ks46 => (xregS [0, 1, 2, 3, 4, 5, 6, 7, 8, 9, 10, 11, 12, 13, 14, 15, 16, 17, 18, 19, 20, 21, 22, 23, 24, 25, 26, 27, 28, 29, 30, 31, 32] fun KR47 kr47 => ?_)))))
   refine wpS.q 0 93 (.int .i64 r16) ?_
   rcases of_if h with ⟨hc, h⟩ | ⟨hc, h⟩
   ·refine wpS.tk 1 false (some 94) (.bool true) (yld_b (et hc) (fun _ => by kernel_rfl)) ?_
    refine wpS.qs [(2, 95, .bool true), (3, 96, .int .i64 r18)] ?_
    rcases of_if h with ⟨hc, h⟩ | ⟨hc, h⟩
    ·refine wpS.tk 4 false (some 97) (.bool true) (yld_b (et hc) (fun _ => by kernel_rfl)) ?_
     refine wpS.qs [(5, 98, .bool true), (6, 99, .bool true), (7, 100, .slice r11_A r11_n r11_c)] ?_
     refine wpS.tk 8 false (some 101) (.int .i64 (r11.length : Int)) (yld_lenL (hs.rowL 2 rfl) (fun _ => by kernel_rfl)) ?_
     refine wpS.q 9 102 (.int .i64 r19) ?_
     rcases of_if h with ⟨hc, h⟩ | ⟨hc, h⟩
     ·refine wpS.tk 10 false (some 103) (.bool true) (yld_b (et hc) (fun _ => by kernel_rfl)) ?_
      refine wpS.qs [(11, 104, .bool true), (12, 105, .bool true), (13, 106, .slice r12_A r12_n r12_c)] ?_
      refine wpS.tk 14 false (some 107) (.int .i64 (r12.length : Int)) (yld_lenL (hs.rowL 3 rfl) (fun _ => by kernel_rfl)) ?_
      refine wpS.q 15 108 (.int .i64 r20) ?_
      rcases of_if h with ⟨hc, h⟩ | ⟨hc, h⟩
      ·refine wpS.tk 16 false (some 109) (.bool true) (yld_b (et hc) (fun _ => by kernel_rfl)) ?_
       refine wpS.qs [(17, 110, .bool true), (18, 111, .bool true), (19, 112, .slice r15_A r15_n r15_c)] ?_
       refine wpS.tk 20 false (some 113) (.int .i64 (r15.length : Int)) (yld_lenL (hs.rowL 1 rfl) (fun _ => by kernel_rfl)) ?_
       refine wpS.q 21 114 (.int .i64 r21) ?_
       rcases of_if h with ⟨hc, h⟩ | ⟨hc, h⟩
       ·refine wpS.tk 22 false (some 115) (.bool true) (yld_b (et hc) (fun _ => by kernel_rfl)) ?_
        refine wpS.qs [(23, 116, .bool true), (24, 117, .bool true), (25, 118, .slice r17_A r17_n r17_c)] ?_
        refine wpS.tk 26 false (some 119) (.int .i64 (r17.length : Int)) (yld_lenL (hs.rowL 0 rfl) (fun _ => by kernel_rfl)) ?_
        rcases of_if h with ⟨hc, h⟩ | ⟨hc, h⟩
        ·refine wpS.tk 27 false (some 120) (.bool true) (yld_b (et hc) (fun _ => by kernel_rfl)) ?_
         refine wpS.qs [(28, 121, .bool true), (29, 122, .bool true)] ?_
         obtain ⟨r22, hg, h⟩ := of_bind h
         refine wpS.only 30 (op_call (d := (some 123)) (by kernel_rfl) hs (fun _ => by kernel_rfl) (law26_awake.ok hg _ (hs.rowR 0 rfl) (hs.rowR 1 rfl) (hs.rowR 2 rfl)) ?_)
         intro w gw hs
         refine ⟨fun _ => trivial, ?_⟩
         refine wpS.qs [(31, 124, .bool r22), (32, 12, .bool r22)] ?_
         refine wpS.fin rfl (kr47 _ _ (then_n (ks46 _ _ (xret ?_))))
         have q0 := of_some h
         subst q0
         exact qq _ _ (post_ret (by kernel_rfl) (run_results [.tmp 12] [.bool r22] (by kernel_rfl) (.cons (res_tmp (by kernel_rfl)) .nil)) ⟨congrArg Ending.returned (by kernel_rfl), hs.none⟩)
        refine wpS.tk 27 false (some 120) (.bool false) (yld_b (ef hc) (fun _ => by kernel_rfl)) ?_
        refine wpS.qs [(28, 121, .bool false), (29, 122, .bool false), (30, 123, undef), (31, 124, .bool false), (32, 12, .bool false)] ?_
        refine wpS.fin rfl (kr47 _ _ (then_n (ks46 _ _ (xret ?_))))
        have q0 := of_some h
        subst q0
        exact qq _ _ (post_ret (by kernel_rfl) (run_results [.tmp 12] [.bool false] (by kernel_rfl) (.cons (res_tmp (by kernel_rfl)) .nil)) ⟨congrArg Ending.returned (by kernel_rfl), hs.none⟩)
       refine wpS.tk 22 false (some 115) (.bool false) (yld_b (ef hc) (fun _ => by kernel_rfl)) ?_
       refine wpS.qs [(23, 116, .bool false), (24, 117, .bool false), (25, 118, undef), (26, 119, undef), (27, 120, undef), (28, 121, .bool false), (29, 122, .bool false), (30, 123, undef), (31, 124, .bool false), (32, 12, .bool false)] ?_
       refine wpS.fin rfl (kr47 _ _ (then_n (ks46 _ _ (xret ?_))))
       have q0 := of_some h
       subst q0
       exact qq _ _ (post_ret (by kernel_rfl) (run_results [.tmp 12] [.bool false] (by kernel_rfl) (.cons (res_tmp (by kernel_rfl)) .nil)) ⟨congrArg Ending.returned (by kernel_rfl), hs.none⟩)
      refine wpS.tk 16 false (some 109) (.bool false) (yld_b (ef hc) (fun _ => by kernel_rfl)) ?_
      refine wpS.qs [(17, 110, .bool false), (18, 111, .bool false), (19, 112, undef), (20, 113, undef), (21, 114, undef), (22, 115, undef), (23, 116, .bool false), (24, 117, .bool false), (25, 118, undef), (26, 119, undef), (27, 120, undef), (28, 121, .bool false), (29, 122, .bool false), (30, 123, undef), (31, 124, .bool false), (32, 12, .bool false)] ?_
      refine wpS.fin rfl (kr47 _ _ (then_n (ks46 _ _ (xret ?_))))
      have q0 := of_some h
      subst q0
      exact qq _ _ (post_ret (by kernel_rfl) (run_results [.tmp 12] [.bool false] (by kernel_rfl) (.cons (res_tmp (by kernel_rfl)) .nil)) ⟨congrArg Ending.returned (by kernel_rfl), hs.none⟩)
     refine wpS.tk 10 false (some 103) (.bool false) (yld_b (ef hc) (fun _ => by kernel_rfl)) ?_
     refine wpS.qs [(11, 104, .bool false), (12, 105, .bool false), (13, 106, undef), (14, 107, undef), (15, 108, undef), (16, 109, undef), (17, 110, .bool false), (18, 111, .bool false), (19, 112, undef), (20, 113, undef), (21, 114, undef), (22, 115, undef), (23, 116, .bool false), (24, 117, .bool false), (25, 118, undef), (26, 119, undef), (27, 120, undef), (28, 121, .bool false), (29, 122, .bool false), (30, 123, undef), (31, 124, .bool false), (32, 12, .bool false)] ?_
     refine wpS.fin rfl (kr47 _ _ (then_n (ks46 _ _ (xret ?_))))
     have q0 := of_some h
     subst q0
     exact qq _ _ (post_ret (by kernel_rfl) (run_results [.tmp 12] [.bool false] (by kernel_rfl) (.cons (res_tmp (by kernel_rfl)) .nil)) ⟨congrArg Ending.returned (by kernel_rfl), hs.none⟩)
    refine wpS.tk 4 false (some 97) (.bool false) (yld_b (ef hc) (fun _ => by kernel_rfl)) ?_
    refine wpS.qs [(5, 98, .bool false), (6, 99, .bool false), (7, 100, undef), (8, 101, undef), (9, 102, undef), (10, 103, undef), (11, 104, .bool false), (12, 105, .bool false), (13, 106, undef), (14, 107, undef), (15, 108, undef), (16, 109, undef), (17, 110, .bool false), (18, 111, .bool false), (19, 112, undef), (20, 113, undef), (21, 114, undef), (22, 115, undef), (23, 116, .bool false), (24, 117, .bool false), (25, 118, undef), (26, 119, undef), (27, 120, undef), (28, 121, .bool false), (29, 122, .bool false), (30, 123, undef), (31, 124, .bool false), (32, 12, .bool false)] ?_
    refine wpS.fin rfl (kr47 _ _ (then_n (ks46 _ _ (xret ?_))))
    have q0 := of_some h
    subst q0
    exact qq _ _ (post_ret (by kernel_rfl) (run_results [.tmp 12] [.bool false] (by kernel_rfl) (.cons (res_tmp (by kernel_rfl)) .nil)) ⟨congrArg Ending.returned (by kernel_rfl), hs.none⟩)
   refine wpS.tk 1 false (some 94) (.bool false) (yld_b (ef hc) (fun _ => by kernel_rfl)) ?_
   refine wpS.qs [(2, 95, .bool false), (3, 96, undef), (4, 97, undef), (5, 98, .bool false), (6, 99, .bool false), (7, 100, undef), (8, 101, undef), (9, 102, undef), (10, 103, undef), (11, 104, .bool false), (12, 105, .bool false), (13, 106, undef), (14, 107, undef), (15, 108, undef), (16, 109, undef), (17, 110, .bool false), (18, 111, .bool false), (19, 112, undef), (20, 113, undef), (21, 114, undef), (22, 115, undef), (23, 116, .bool false), (24, 117, .bool false), (25, 118, undef), (26, 119, undef), (27, 120, undef), (28, 121, .bool false), (29, 122, .bool false), (30, 123, undef), (31, 124, .bool false), (32, 12, .bool false)] ?_
   refine wpS.fin rfl (kr47 _ _ (then_n (ks46 _ _ (xret ?_))))
   have q0 := of_some h
   subst q0
   exact qq _ _ (post_ret (by kernel_rfl) (run_results [.tmp 12] [.bool false] (by kernel_rfl) (.cons (res_tmp (by kernel_rfl)) .nil)) ⟨congrArg Ending.returned (by kernel_rfl), hs.none⟩)
  refine wpS.tk 5 false (some 61) (.bool true) (yld_b (nt hc) (fun _ => by kernel_rfl)) ?_
  refine wpS.q 6 62 (.bool true) ?_
  refine wpS.fin rfl (kr37 _ _ (then_n (ks36 _ _ (wp_cond_t (by kernel_rfl) (xseq_k fun KS48 ks48 => (xregS [0, 1, 2, 3, 4, 5, 6, 7, 8, 9] fun KR49 kr49 => ?_))))))
  refine wpS.tk 0 true (some 63) (.agg (enc .i32 r7).toArray) (yld_loadW (e := 32) (n := 256) hs 2 rfl (by kernel_rfl) (by kernel_rfl) (by kernel_rfl) (by exact enc_len _ _) .grow) ?_
  obtain ⟨r23, hg, h⟩ := of_bind h
  cases r23 with
  | true =>
   have h := of_if_t h
   refine wpS.only 1 (op_call (d := (some 64)) (by kernel_rfl) hs (fun _ => by kernel_rfl) (ref25_Fit.ok hg _) ?_)
   intro w gw hs
   refine ⟨fun _ => trivial, ?_⟩
   refine wpS.qs [(2, 65, .bool true), (3, 66, .int .i64 r13)] ?_
   rcases of_if h with ⟨hc, h⟩ | ⟨hc, h⟩
   ·refine wpS.tk 4 false (some 67) (.bool true) (yld_b (et hc) (fun _ => by kernel_rfl)) ?_
    refine wpS.qs [(5, 68, .bool true), (6, 69, .bool true)] ?_
    obtain ⟨r24, hg, h⟩ := of_bind h
    refine wpS.only 7 (op_call (d := (some 70)) (by kernel_rfl) hs (fun _ => by kernel_rfl) (law26_awake.ok hg _ (hs.rowR 0 rfl) (hs.rowR 1 rfl) (hs.rowR 2 rfl)) ?_)
    intro w gw hs
    refine ⟨fun _ => trivial, ?_⟩
    refine wpS.qs [(8, 71, .bool r24), (9, 12, .bool r24)] ?_
    refine wpS.fin rfl (kr49 _ _ (then_n (ks48 _ _ (xret (then_r ?_)))))
    have q0 := of_some h
    subst q0
    exact qq _ _ (post_ret (by kernel_rfl) (run_results [.tmp 12] [.bool r24] (by kernel_rfl) (.cons (res_tmp (by kernel_rfl)) .nil)) ⟨congrArg Ending.returned (by kernel_rfl), hs.none⟩)
   refine wpS.tk 4 false (some 67) (.bool false) (yld_b (ef hc) (fun _ => by kernel_rfl)) ?_
   refine wpS.qs [(5, 68, .bool false), (6, 69, .bool false), (7, 70, undef), (8, 71, .bool false), (9, 12, .bool false)] ?_
   refine wpS.fin rfl (kr49 _ _ (then_n (ks48 _ _ (xret (then_r ?_)))))
   have q0 := of_some h
   subst q0
   exact qq _ _ (post_ret (by kernel_rfl) (run_results [.tmp 12] [.bool false] (by kernel_rfl) (.cons (res_tmp (by kernel_rfl)) .nil)) ⟨congrArg Ending.returned (by kernel_rfl), hs.none⟩)
  | false =>
   have h := of_if_f h
   refine wpS.only 1 (op_call (d := (some 64)) (by kernel_rfl) hs (fun _ => by kernel_rfl) (ref25_Fit.ok hg _) ?_)
   intro w gw hs
   refine ⟨fun _ => trivial, ?_⟩
   refine wpS.qs [(2, 65, .bool false), (3, 66, undef), (4, 67, undef), (5, 68, .bool false), (6, 69, .bool false), (7, 70, undef), (8, 71, .bool false), (9, 12, .bool false)] ?_
   refine wpS.fin rfl (kr49 _ _ (then_n (ks48 _ _ (xret (then_r ?_)))))
   have q0 := of_some h
   subst q0
   exact qq _ _ (post_ret (by kernel_rfl) (run_results [.tmp 12] [.bool false] (by kernel_rfl) (.cons (res_tmp (by kernel_rfl)) .nil)) ⟨congrArg Ending.returned (by kernel_rfl), hs.none⟩)
 | false =>
  have h := of_if_f h
  refine wpS.only 1 (op_call (d := (some 57)) (by kernel_rfl) hs (fun _ => by kernel_rfl) (ref25_Fit.ok hg _) ?_)
  intro w gw hs
  refine ⟨fun _ => trivial, ?_⟩
  refine wpS.qs [(2, 58, .bool true), (3, 59, .bool true), (4, 60, undef), (5, 61, undef), (6, 62, .bool true)] ?_
  refine wpS.fin rfl (kr37 _ _ (then_n (ks36 _ _ (wp_cond_t (by kernel_rfl) (xseq_k fun KS50 ks50 => (xregS [0, 1, 2, 3, 4, 5, 6, 7, 8, 9] fun KR51 kr51 => ?_))))))
  refine wpS.tk 0 true (some 63) (.agg (enc .i32 r7).toArray) (yld_loadW (e := 32) (n := 256) hs 2 rfl (by kernel_rfl) (by kernel_rfl) (by kernel_rfl) (by exact enc_len _ _) .grow) ?_
  obtain ⟨r25, hg, h⟩ := of_bind h
  cases r25 with
  | true =>
   have h := of_if_t h
   refine wpS.only 1 (op_call (d := (some 64)) (by kernel_rfl) hs (fun _ => by kernel_rfl) (ref25_Fit.ok hg _) ?_)
   intro w gw hs
   refine ⟨fun _ => trivial, ?_⟩
   refine wpS.qs [(2, 65, .bool true), (3, 66, .int .i64 r13)] ?_
   rcases of_if h with ⟨hc, h⟩ | ⟨hc, h⟩
   ·refine wpS.tk 4 false (some 67) (.bool true) (yld_b (et hc) (fun _ => by kernel_rfl)) ?_
    refine wpS.qs [(5, 68, .bool true), (6, 69, .bool true)] ?_
    obtain ⟨r26, hg, h⟩ := of_bind h
    refine wpS.only 7 (op_call (d := (some 70)) (by kernel_rfl) hs (fun _ => by kernel_rfl) (law26_awake.ok hg _ (hs.rowR 0 rfl) (hs.rowR 1 rfl) (hs.rowR 2 rfl)) ?_)
    intro w gw hs
    refine ⟨fun _ => trivial, ?_⟩
    refine wpS.qs [(8, 71, .bool r26), (9, 12, .bool r26)] ?_
    refine wpS.fin rfl (kr51 _ _ (then_n (ks50 _ _ (xret (then_r ?_)))))
    have q0 := of_some h
    subst q0
    exact qq _ _ (post_ret (by kernel_rfl) (run_results [.tmp 12] [.bool r26] (by kernel_rfl) (.cons (res_tmp (by kernel_rfl)) .nil)) ⟨congrArg Ending.returned (by kernel_rfl), hs.none⟩)
   refine wpS.tk 4 false (some 67) (.bool false) (yld_b (ef hc) (fun _ => by kernel_rfl)) ?_
   refine wpS.qs [(5, 68, .bool false), (6, 69, .bool false), (7, 70, undef), (8, 71, .bool false), (9, 12, .bool false)] ?_
   refine wpS.fin rfl (kr51 _ _ (then_n (ks50 _ _ (xret (then_r ?_)))))
   have q0 := of_some h
   subst q0
   exact qq _ _ (post_ret (by kernel_rfl) (run_results [.tmp 12] [.bool false] (by kernel_rfl) (.cons (res_tmp (by kernel_rfl)) .nil)) ⟨congrArg Ending.returned (by kernel_rfl), hs.none⟩)
  | false =>
   have h := of_if_f h
   refine wpS.only 1 (op_call (d := (some 64)) (by kernel_rfl) hs (fun _ => by kernel_rfl) (ref25_Fit.ok hg _) ?_)
   intro w gw hs
   refine ⟨fun _ => trivial, ?_⟩
   refine wpS.qs [(2, 65, .bool false), (3, 66, undef), (4, 67, undef), (5, 68, .bool false), (6, 69, .bool false), (7, 70, undef), (8, 71, .bool false), (9, 12, .bool false)] ?_
   refine wpS.fin rfl (kr51 _ _ (then_n (ks50 _ _ (xret (then_r ?_)))))
   have q0 := of_some h
   subst q0
   exact qq _ _ (post_ret (by kernel_rfl) (run_results [.tmp 12] [.bool false] (by kernel_rfl) (.cons (res_tmp (by kernel_rfl)) .nil)) ⟨congrArg Ending.returned (by kernel_rfl), hs.none⟩)
end Go.Proofs.YtemdbgmldljbpaaDoor
