/- Printed by this work's own program: the code of each function below comes to the answer that its plain form tells. -/
import Derived.Test.YtemdbgmldljbpaaDoorMf
import Derived.Test.YtemdbgmldljbpaaDoorProg
import Derived.Test.YtemdbgmldljbpaaDoorZF0
import Derived.Test.YtemdbgmldljbpaaDoorZX1
set_option linter.unusedVariables false
set_option linter.unusedSimpArgs false
set_option maxRecDepth 100000
set_option maxHeartbeats 4000000
namespace Go.Proofs.YtemdbgmldljbpaaDoor
open Go.Mx
attribute [local irreducible] wpOp

theorem keccak_round.ok {K : Nat} {a0 : Arr 25} {a1 : Int} {rp : Arr 25} {p0 : Nat} (h : keccak_round.f K a0 a1 = some rp) (w0 : World) (hg1 : RowL (CA .i64 24 (by decide)) w0 (some ⟨1, 0, none⟩) 1 1 [tab_1]) (hg2 : RowL (CA .i64 24 (by decide)) w0 (some ⟨2, 0, none⟩) 1 1 [tab_2]) (hb : w0.heap[p0]? = some (.cells (enc .u64 a0).toArray 113 (0, 0))) (fhg1 : ¬ (Ent.rowL (CA .i64 24 (by decide)) (some ⟨1, 0, none⟩) 1 1 ([tab_1])).foot p0) (fhg2 : ¬ (Ent.rowL (CA .i64 24 (by decide)) (some ⟨2, 0, none⟩) 1 1 ([tab_2])).foot p0) : Calls Tryd.prog 111 #[.pointer (some ⟨p0, 0, none⟩), .int .u64 a1] w0 fun e w' => e = .returned (.tuple #[]) ∧ St w0 [p0] [.blk p0 (enc .u64 rp) 113] [] w' := by
 refine calls_kn Tryd.func111 rfl fun Q qq qn => ?_
 have hs := St.startX hb (allX_cons (RowP.ent hg1) fhg1 (allX_cons (RowP.ent hg2) fhg2 allX_nil))
 refine wp_conv (a' := ⟨#[.pointer (some ⟨p0, 0, none⟩), .int .u64 a1, undef, undef, undef, undef, undef, undef, undef, undef, undef, undef, undef, undef, undef, undef, undef, undef, undef, undef, undef, undef, undef, undef, undef, undef, undef, undef, undef, undef, undef, undef, undef, undef, undef, undef, undef, undef, undef, undef, undef, undef, undef, undef, undef, undef, undef, undef, undef, undef, undef, undef, undef, undef, undef, undef, undef, undef, undef, undef, undef, undef, undef, undef, undef, undef, undef, undef, undef, undef, undef, undef, undef, undef, undef, undef, undef, undef, undef, undef, undef, undef, undef, undef, undef, undef, undef, undef, undef, undef, undef, undef, undef, undef, undef, undef, undef, undef, undef, undef, undef, undef, undef, undef, undef, undef, undef, undef, undef, undef, undef, undef, undef, undef, undef, undef], []⟩) (by kernel_rfl) ?_
 refine xseq_k fun KS1 ks1 => ?_
 refine xregS [0, 1, 2, 3] fun KR2 kr2 => ?_
 refine wpS.q 0 14 (.pointer (some ⟨p0, 0, none⟩)) ?_
 obtain ⟨r1, hg, h⟩ := of_bind h
 refine wpS.only 1 (op_callX (d := (some 15)) (by kernel_rfl) hs 0 rfl (fun _ => by kernel_rfl) (keccak_columns.ok hg _ (hs.blkAt 0 rfl)) ?_)
 intro w kp hs
 have hs := hs.conv (L' := [.blk p0 (enc .u64 a0) 113]) rfl
 refine ⟨fun _ => trivial, ?_⟩
 refine wpS.only 2 (op_alloc (t := 148) (d := (some 4)) (by kernel_rfl) hs (enc .u64 (zeroA 5)) (.agg (enc .u64 (zeroA 5)).toArray) (by kernel_rfl) (by kernel_rfl) (by kernel_rfl) ?_)
 intro b2 w gw hs
 refine ⟨fun _ => trivial, ?_⟩
 refine wpS.only 3 (op_storeW (t := 148) (v := .agg (enc .u64 r1).toArray) (d := none) (by kernel_rfl) hs 0 rfl (vs := enc .u64 r1) (n := 5) (by kernel_rfl) (by kernel_rfl) (by kernel_rfl) (by simp [enc_len]) (by simp [enc_len]) (by intro u hu; exact enc_one _ _ u hu) ?_)
 intro w kp hs
 refine ⟨fun _ => trivial, ?_⟩
 refine wpS.fin rfl (kr2 _ _ (then_n (ks1 _ _ (xseq_k fun KS3 ks3 => (xseq_k fun KS4 ks4 => (xregS [0] fun KR5 kr5 => ?_))))))
 refine wpS.q 0 16 (.int .i64 0) ?_
 refine wpS.fin rfl (kr5 _ _ (then_n (ks4 _ _ ?_)))
 obtain ⟨y5, hy, hk0⟩ := of_bind h
 refine wp_exq (N := fun a w => St w0 [p0] [.blk b2 (enc .u64 r1) 148, .blk p0 (enc .u64 y5) 113] [.rowL (CA .i64 24 (by decide)) (some ⟨1, 0, none⟩) 1 1 ([tab_1]), .rowL (CA .i64 24 (by decide)) (some ⟨2, 0, none⟩) 1 1 ([tab_2])] w ∧ ∃ g7 : Nat → Value, a = ⟨#[.pointer (some ⟨p0, 0, none⟩), .int .u64 a1, undef, undef, .pointer (some ⟨b2, 0, none⟩), (g7 5), (g7 6), (g7 7), undef, undef, undef, undef, undef, undef, .pointer (some ⟨p0, 0, none⟩), .agg (enc .u64 r1).toArray, (g7 16), (g7 17), (g7 18), (g7 19), (g7 20), (g7 21), (g7 22), (g7 23), (g7 24), (g7 25), (g7 26), (g7 27), (g7 28), (g7 29), (g7 30), (g7 31), (g7 32), (g7 33), (g7 34), (g7 35), (g7 36), (g7 37), (g7 38), (g7 39), (g7 40), (g7 41), (g7 42), (g7 43), (g7 44), (g7 45), (g7 46), undef, undef, undef, undef, undef, undef, undef, undef, undef, undef, undef, undef, undef, undef, undef, undef, undef, undef, undef, undef, undef, undef, undef, undef, undef, undef, undef, undef, undef, undef, undef, undef, undef, undef, undef, undef, undef, undef, undef, undef, undef, undef, undef, undef, undef, undef, undef, undef, undef, undef, undef, undef, undef, undef, undef, undef, undef, undef, undef, undef, undef, undef, undef, undef, undef, undef, undef, undef, undef], []⟩) (fun N0 nn0 => ?_) ?_
 ·clear hk0
  refine xblock ?_
  refine wp_loop_k (fun n a w => ∃ z3 z4, keccak_round.l0 K n r1 z3 z4 = some y5 ∧ St w0 [p0] [.blk b2 (enc .u64 r1) 148, .blk p0 (enc .u64 z4) 113] [.rowL (CA .i64 24 (by decide)) (some ⟨1, 0, none⟩) 1 1 ([tab_1]), .rowL (CA .i64 24 (by decide)) (some ⟨2, 0, none⟩) 1 1 ([tab_2])] w ∧ ∃ g6 : Nat → Value, a = ⟨#[.pointer (some ⟨p0, 0, none⟩), .int .u64 a1, undef, undef, .pointer (some ⟨b2, 0, none⟩), (g6 5), (g6 6), (g6 7), undef, undef, undef, undef, undef, undef, .pointer (some ⟨p0, 0, none⟩), .agg (enc .u64 r1).toArray, .int .i64 z3, (g6 17), (g6 18), (g6 19), (g6 20), (g6 21), (g6 22), (g6 23), (g6 24), (g6 25), (g6 26), (g6 27), (g6 28), (g6 29), (g6 30), (g6 31), (g6 32), (g6 33), (g6 34), (g6 35), (g6 36), (g6 37), (g6 38), (g6 39), (g6 40), (g6 41), (g6 42), (g6 43), (g6 44), (g6 45), (g6 46), undef, undef, undef, undef, undef, undef, undef, undef, undef, undef, undef, undef, undef, undef, undef, undef, undef, undef, undef, undef, undef, undef, undef, undef, undef, undef, undef, undef, undef, undef, undef, undef, undef, undef, undef, undef, undef, undef, undef, undef, undef, undef, undef, undef, undef, undef, undef, undef, undef, undef, undef, undef, undef, undef, undef, undef, undef, undef, undef, undef, undef, undef, undef, undef, undef, undef, undef, undef, undef], []⟩) K ⟨0, a0, hy, hs.conv rfl, exg (by kernel_rfl)⟩ ?_
  clear hs h hy
  rintro n a w ⟨z3, z4, h, hs, g6, rfl⟩ KL0 kl0
  cases n with
  | zero => exact nomatch (show none = some _ from h)
  | succ n =>
   refine xseq_k fun KS8 ks8 => ?_
   refine xregS [0] fun KR9 kr9 => ?_
   rcases of_if h with ⟨hc, h⟩ | ⟨hc, h⟩
   ·refine wpS.tk 0 false (some 17) (.bool true) (yld_b (dt hc) (fun _ => by kernel_rfl)) ?_
    refine wpS.fin rfl (kr9 _ _ (then_n (ks8 _ _ (xseq_k fun KS10 ks10 => (wp_cond_t (by kernel_rfl) (xskip (then_n (ks10 _ _ (xseq_k fun KS11 ks11 => (xblock (xseq_k fun KS12 ks12 => (xregS [0, 1] fun KR13 kr13 => ?_))))))))))))
    refine wpS.qs [(0, 18, .int .i64 z3), (1, 5, .int .i64 z3)] ?_
    refine wpS.fin rfl (kr13 _ _ (then_n (ks12 _ _ (xseq_k fun KS14 ks14 => ?_))))
    refine wp_regG [] (fun k => True) 13 (by kernel_rfl) (by kernel_rfl) (by kernel_rfl) fun KR15 kr15 => ?_
    have hs := hs.drawn1
    refine wpG.q 0 19 (.int .i64 z3) ?_
    refine wpG.q 1 20 (.int .i64 (iadd .i64 z3 4)) ?_
    refine wpG.q 2 21 (.int .i64 (irem .i64 (iadd .i64 z3 4) 5)) ?_
    obtain ⟨x6, hx, h⟩ := of_bind h
    have hx := of_some hx
    subst hx
    obtain ⟨i0_16, h⟩ := of_chk h
    obtain ⟨i1_16, h⟩ := of_chk h
    refine wpG.tD 3 false (some 22) (.pointer (some ⟨b2, 0 + ((irem .i64 (iadd .i64 z3 4) 5) : Int).toNat * 1, none⟩)) (yld_idx (t := 148) (e := 112) (n := 5) (sz := 1) (k := .i64) (x := (irem .i64 (iadd .i64 z3 4) 5)) (by kernel_rfl) (by kernel_rfl) (by kernel_rfl) i0_16 i1_16) ?_
    refine wpG.tD 4 true (some 23) (.int .u64 (rd r1 (irem .i64 (iadd .i64 z3 4) 5))) (yld_loadA (e := 112) (x := (irem .i64 (iadd .i64 z3 4) 5)) hs 0 rfl (by kernel_rfl) (by kernel_rfl) i0_16 i1_16 .grow) ?_
    refine wpG.q 5 24 (.int .i64 z3) ?_
    refine wpG.q 6 25 (.int .i64 (iadd .i64 z3 1)) ?_
    refine wpG.q 7 26 (.int .i64 (irem .i64 (iadd .i64 z3 1) 5)) ?_
    obtain ⟨x7, hx, h⟩ := of_bind h
    have hx := of_some hx
    subst hx
    obtain ⟨i0_17, h⟩ := of_chk h
    obtain ⟨i1_17, h⟩ := of_chk h
    refine wpG.tD 8 false (some 27) (.pointer (some ⟨b2, 0 + ((irem .i64 (iadd .i64 z3 1) 5) : Int).toNat * 1, none⟩)) (yld_idx (t := 148) (e := 112) (n := 5) (sz := 1) (k := .i64) (x := (irem .i64 (iadd .i64 z3 1) 5)) (by kernel_rfl) (by kernel_rfl) (by kernel_rfl) i0_17 i1_17) ?_
    refine wpG.tD 9 true (some 28) (.int .u64 (rd r1 (irem .i64 (iadd .i64 z3 1) 5))) (yld_loadA (e := 112) (x := (irem .i64 (iadd .i64 z3 1) 5)) hs 0 rfl (by kernel_rfl) (by kernel_rfl) i0_17 i1_17 .grow) ?_
    obtain ⟨r8, hg, h⟩ := of_bind h
    refine wpG.only 10 (by kernel_rfl) (op_call (d := (some 29)) (by kernel_rfl) hs (fun _ => by kernel_rfl) (math_bits_RotateLeft64.ok hg _) ?_)
    intro w gw hs
    refine ⟨.of gw, ?_⟩
    refine wpG.q 11 30 (.int .u64 (ixor .u64 (rd r1 (irem .i64 (iadd .i64 z3 4) 5)) r8)) ?_
    obtain ⟨x9, hx, h⟩ := of_bind h
    refine wpG.tD 12 false (some 6) (.int .u64 x9) (yld_int hx (fun _ => by kernel_rfl)) ?_
    refine wpG.fin (by kernel_rfl) rfl (kr15 _ _ ?_)
    refine then_n (ks14 _ _ (xseq_k fun KS18 ks18 => (xregS [0] fun KR19 kr19 => ?_)))
    refine wpS.q 0 7 (.int .i64 0) ?_
    refine wpS.fin rfl (kr19 _ _ (then_n (ks18 _ _ ?_)))
    obtain ⟨y12, hy, hk1⟩ := of_bind h
    refine wp_exq (N := fun a w => St w0 [p0] [.blk b2 (enc .u64 r1) 148, .blk p0 (enc .u64 y12) 113] [.rowL (CA .i64 24 (by decide)) (some ⟨1, 0, none⟩) 1 1 ([tab_1]), .rowL (CA .i64 24 (by decide)) (some ⟨2, 0, none⟩) 1 1 ([tab_2])] w ∧ ∃ g21 : Nat → Value, a = ⟨#[.pointer (some ⟨p0, 0, none⟩), .int .u64 a1, undef, undef, .pointer (some ⟨b2, 0, none⟩), .int .i64 z3, .int .u64 x9, (g21 7), undef, undef, undef, undef, undef, undef, .pointer (some ⟨p0, 0, none⟩), .agg (enc .u64 r1).toArray, .int .i64 z3, .bool true, .int .i64 z3, .int .i64 z3, .int .i64 (iadd .i64 z3 4), .int .i64 (irem .i64 (iadd .i64 z3 4) 5), .pointer (some ⟨b2, 0 + ((irem .i64 (iadd .i64 z3 4) 5) : Int).toNat * 1, none⟩), .int .u64 (rd r1 (irem .i64 (iadd .i64 z3 4) 5)), .int .i64 z3, .int .i64 (iadd .i64 z3 1), .int .i64 (irem .i64 (iadd .i64 z3 1) 5), .pointer (some ⟨b2, 0 + ((irem .i64 (iadd .i64 z3 1) 5) : Int).toNat * 1, none⟩), .int .u64 (rd r1 (irem .i64 (iadd .i64 z3 1) 5)), .int .u64 r8, .int .u64 (ixor .u64 (rd r1 (irem .i64 (iadd .i64 z3 4) 5)) r8), (g21 31), (g21 32), (g21 33), (g21 34), (g21 35), (g21 36), (g21 37), (g21 38), (g21 39), (g21 40), (g21 41), (g21 42), (g21 43), (g21 44), (g21 45), (g6 46), undef, undef, undef, undef, undef, undef, undef, undef, undef, undef, undef, undef, undef, undef, undef, undef, undef, undef, undef, undef, undef, undef, undef, undef, undef, undef, undef, undef, undef, undef, undef, undef, undef, undef, undef, undef, undef, undef, undef, undef, undef, undef, undef, undef, undef, undef, undef, undef, undef, undef, undef, undef, undef, undef, undef, undef, undef, undef, undef, undef, undef, undef, undef, undef, undef, undef, undef, undef, undef], []⟩) (fun N1 nn1 => ?_) ?_
    ·clear hk1
     refine xblock ?_
     refine wp_loop_k (fun n a w => ∃ z10 z11, keccak_round.l1 K n z3 x9 z10 z11 = some y12 ∧ St w0 [p0] [.blk b2 (enc .u64 r1) 148, .blk p0 (enc .u64 z11) 113] [.rowL (CA .i64 24 (by decide)) (some ⟨1, 0, none⟩) 1 1 ([tab_1]), .rowL (CA .i64 24 (by decide)) (some ⟨2, 0, none⟩) 1 1 ([tab_2])] w ∧ ∃ g20 : Nat → Value, a = ⟨#[.pointer (some ⟨p0, 0, none⟩), .int .u64 a1, undef, undef, .pointer (some ⟨b2, 0, none⟩), .int .i64 z3, .int .u64 x9, .int .i64 z10, undef, undef, undef, undef, undef, undef, .pointer (some ⟨p0, 0, none⟩), .agg (enc .u64 r1).toArray, .int .i64 z3, .bool true, .int .i64 z3, .int .i64 z3, .int .i64 (iadd .i64 z3 4), .int .i64 (irem .i64 (iadd .i64 z3 4) 5), .pointer (some ⟨b2, 0 + ((irem .i64 (iadd .i64 z3 4) 5) : Int).toNat * 1, none⟩), .int .u64 (rd r1 (irem .i64 (iadd .i64 z3 4) 5)), .int .i64 z3, .int .i64 (iadd .i64 z3 1), .int .i64 (irem .i64 (iadd .i64 z3 1) 5), .pointer (some ⟨b2, 0 + ((irem .i64 (iadd .i64 z3 1) 5) : Int).toNat * 1, none⟩), .int .u64 (rd r1 (irem .i64 (iadd .i64 z3 1) 5)), .int .u64 r8, .int .u64 (ixor .u64 (rd r1 (irem .i64 (iadd .i64 z3 4) 5)) r8), (g20 31), (g20 32), (g20 33), (g20 34), (g20 35), (g20 36), (g20 37), (g20 38), (g20 39), (g20 40), (g20 41), (g20 42), (g20 43), (g20 44), (g20 45), (g6 46), undef, undef, undef, undef, undef, undef, undef, undef, undef, undef, undef, undef, undef, undef, undef, undef, undef, undef, undef, undef, undef, undef, undef, undef, undef, undef, undef, undef, undef, undef, undef, undef, undef, undef, undef, undef, undef, undef, undef, undef, undef, undef, undef, undef, undef, undef, undef, undef, undef, undef, undef, undef, undef, undef, undef, undef, undef, undef, undef, undef, undef, undef, undef, undef, undef, undef, undef, undef, undef], []⟩) K ⟨0, z4, hy, hs.conv rfl, exg (by kernel_rfl)⟩ ?_
     clear hs h hy
     rintro n a w ⟨z10, z11, h, hs, g20, rfl⟩ KL1 kl1
     cases n with
     | zero => exact nomatch (show none = some _ from h)
     | succ n =>
      refine xseq_k fun KS22 ks22 => ?_
      refine xseq_k fun KS23 ks23 => ?_
      refine xregS [0, 1] fun KR24 kr24 => ?_
      refine wpS.q 0 31 (.int .i64 z10) ?_
      rcases of_if h with ⟨hc, h⟩ | ⟨hc, h⟩
      ·refine wpS.tk 1 false (some 32) (.bool true) (yld_b (dt hc) (fun _ => by kernel_rfl)) ?_
       refine wpS.fin rfl (kr24 _ _ (then_n (ks23 _ _ (wp_cond_t (by kernel_rfl) (xskip (then_n (ks22 _ _ (xseq_k fun KS25 ks25 => (xblock ?_)))))))))
       refine wp_regG [11] (fun k => True) 12 (by kernel_rfl) (by kernel_rfl) (by kernel_rfl) fun KR26 kr26 => ?_
       have hs := hs.drawn1
       refine wpG.q 0 35 (.pointer (some ⟨p0, 0, none⟩)) ?_
       refine wpG.q 1 36 (.int .i64 z3) ?_
       refine wpG.q 2 37 (.int .i64 z10) ?_
       refine wpG.q 3 38 (.int .i64 (iadd .i64 z3 z10)) ?_
       refine wpG.q 4 39 (.pointer (some ⟨p0, 0, none⟩)) ?_
       obtain ⟨x13, hx, h⟩ := of_bind h
       have hx := of_some hx
       subst hx
       obtain ⟨i0_27, h⟩ := of_chk h
       obtain ⟨i1_27, h⟩ := of_chk h
       refine wpG.tD 5 false (some 40) (.pointer (some ⟨p0, 0 + ((iadd .i64 z3 z10) : Int).toNat * 1, none⟩)) (yld_idx (t := 113) (e := 112) (n := 25) (sz := 1) (k := .i64) (x := (iadd .i64 z3 z10)) (by kernel_rfl) (by kernel_rfl) (by kernel_rfl) i0_27 i1_27) ?_
       refine wpG.tD 6 true (some 41) (.int .u64 (rd z11 (iadd .i64 z3 z10))) (yld_loadA (e := 112) (x := (iadd .i64 z3 z10)) hs 1 rfl (by kernel_rfl) (by kernel_rfl) i0_27 i1_27 .grow) ?_
       refine wpG.q 7 42 (.int .u64 x9) ?_
       refine wpG.q 8 43 (.int .u64 (ixor .u64 (rd z11 (iadd .i64 z3 z10)) x9)) ?_
       refine wpG.q 9 44 (.pointer (some ⟨p0, 0, none⟩)) ?_
       obtain ⟨x14, hx, h⟩ := of_bind h
       have hx := of_some hx
       subst hx
       obtain ⟨i0_28, h⟩ := of_chk h
       obtain ⟨i1_28, h⟩ := of_chk h
       refine wpG.tD 10 false (some 45) (.pointer (some ⟨p0, 0 + ((iadd .i64 z3 z10) : Int).toNat * 1, none⟩)) (yld_idx (t := 113) (e := 112) (n := 25) (sz := 1) (k := .i64) (x := (iadd .i64 z3 z10)) (by kernel_rfl) (by kernel_rfl) (by kernel_rfl) i0_28 i1_28) ?_
       obtain ⟨x15, hx, h⟩ := of_bind h
       refine wpG.only 11 (by kernel_rfl) (op_storeA (t := 112) (x := (iadd .i64 z3 z10)) (v := x15) (d := none) (by kernel_rfl) hs 1 rfl (by cases hx; kernel_rfl) (by kernel_rfl) i0_28 i1_28 ?_)
       intro w kp hs
       refine ⟨⟨fun hf => absurd hf (by decide), .all _ _⟩, ?_⟩
       refine wpG.fin (by kernel_rfl) rfl (kr26 _ _ ?_)
       refine inBlock_n (then_n (ks25 _ _ (xregS [0, 1, 2] fun KR29 kr29 => ?_)))
       refine wpS.qs [(0, 33, .int .i64 z10), (1, 34, .int .i64 (iadd .i64 z10 5))] ?_
       obtain ⟨x16, hx, h⟩ := of_bind h
       refine wpS.tk 2 false (some 7) (.int .i64 x16) (yld_int hx (fun _ => by kernel_rfl)) ?_
       refine wpS.fin rfl (kr29 _ _ ?_)
       exact then_n (kl1 _ _ ⟨n, Nat.lt_succ_self n, x16, (wr z11 (iadd .i64 z3 z10) x15), h, (hs.conv rfl), exg (by kernel_rfl)⟩)
      refine wpS.tk 1 false (some 32) (.bool false) (yld_b (df hc) (fun _ => by kernel_rfl)) ?_
      refine wpS.fin rfl (kr24 _ _ (then_n (ks23 _ _ (wp_cond_f (by kernel_rfl) (xexit (then_x (then_x (inBlock_hit ?_))))))))
      have q0 := of_some h
      subst q0
      exact exq_n (nn1 _ _ ⟨(hs.conv rfl), exg (by kernel_rfl)⟩)
    clear hs h hy
    rintro a w ⟨hs, g21, rfl⟩
    have h := hk1
    refine inBlock_n (then_n (ks11 _ _ (xregS [0, 1] fun KR30 kr30 => ?_)))
    refine wpS.qs [(0, 46, .int .i64 (iadd .i64 z3 1)), (1, 16, .int .i64 (iadd .i64 z3 1))] ?_
    refine wpS.fin rfl (kr30 _ _ ?_)
    exact then_n (kl0 _ _ ⟨n, Nat.lt_succ_self n, (iadd .i64 z3 1), y12, h, (hs.conv rfl), exg (by kernel_rfl)⟩)
   refine wpS.tk 0 false (some 17) (.bool false) (yld_b (df hc) (fun _ => by kernel_rfl)) ?_
   refine wpS.fin rfl (kr9 _ _ (then_n (ks8 _ _ (xseq_k fun KS31 ks31 => (wp_cond_f (by kernel_rfl) (xexit (then_x (then_x (inBlock_hit ?_)))))))))
   have q0 := of_some h
   subst q0
   exact exq_n (nn0 _ _ ⟨(hs.conv rfl), exg (by kernel_rfl)⟩)
 clear hs h hy
 rintro a w ⟨hs, g7, rfl⟩
 have h := hk0
 refine then_n (ks3 _ _ (xseq_k fun KS32 ks32 => (xregS [0, 1, 2, 3, 4] fun KR33 kr33 => ?_)))
 refine wpS.qs [(0, 47, .pointer (some ⟨p0, 0, none⟩)), (1, 48, .pointer (some ⟨p0, 0, none⟩))] ?_
 refine wpS.tk 2 false (some 49) (.pointer (some ⟨p0, 0 + (1 : Int).toNat * 1, none⟩)) (yld_idx (t := 113) (e := 112) (n := 25) (sz := 1) (k := .i64) (x := 1) (by kernel_rfl) (by kernel_rfl) (by kernel_rfl) (by decide) (by decide)) ?_
 refine wpS.tk 3 true (some 50) (.int .u64 (rd y5 1)) (yld_loadA (e := 112) (x := 1) hs 1 rfl (by kernel_rfl) (by kernel_rfl) (by decide) (by decide) .grow) ?_
 obtain ⟨x17, hx, h⟩ := of_bind h
 refine wpS.tk 4 false (some 8) (.int .u64 x17) (yld_int hx (fun _ => by kernel_rfl)) ?_
 refine wpS.fin rfl (kr33 _ _ (then_n (ks32 _ _ (xseq_k fun KS35 ks35 => (xseq_k fun KS36 ks36 => (xregS [0, 1] fun KR37 kr37 => ?_))))))
 refine wpS.tk 0 true (some 51) (.agg (enc .i64 tab_1).toArray) (yld_loadLA (C := (CA .i64 24 (by decide))) (e := 151) (x := 0) (hs.rowR 0 rfl) (by kernel_rfl) rfl (by kernel_rfl) (by kernel_rfl) (by decide) (by decide)) ?_
 refine wpS.q 1 52 (.int .i64 0) ?_
 refine wpS.fin rfl (kr37 _ _ (then_n (ks36 _ _ ?_)))
 obtain ⟨y21, hy, hk2⟩ := of_bind h
 refine wp_exq (N := fun a w => St w0 [p0] [.blk b2 (enc .u64 r1) 148, .blk p0 (enc .u64 y21) 113] [.rowL (CA .i64 24 (by decide)) (some ⟨1, 0, none⟩) 1 1 ([tab_1]), .rowL (CA .i64 24 (by decide)) (some ⟨2, 0, none⟩) 1 1 ([tab_2])] w ∧ ∃ g39 : Nat → Value, a = ⟨#[.pointer (some ⟨p0, 0, none⟩), .int .u64 a1, undef, undef, .pointer (some ⟨b2, 0, none⟩), (g7 5), (g7 6), (g7 7), (g39 8), (g39 9), (g39 10), undef, undef, undef, .pointer (some ⟨p0, 0, none⟩), .agg (enc .u64 r1).toArray, (g7 16), (g7 17), (g7 18), (g7 19), (g7 20), (g7 21), (g7 22), (g7 23), (g7 24), (g7 25), (g7 26), (g7 27), (g7 28), (g7 29), (g7 30), (g7 31), (g7 32), (g7 33), (g7 34), (g7 35), (g7 36), (g7 37), (g7 38), (g7 39), (g7 40), (g7 41), (g7 42), (g7 43), (g7 44), (g7 45), (g7 46), .pointer (some ⟨p0, 0, none⟩), .pointer (some ⟨p0, 0, none⟩), .pointer (some ⟨p0, 0 + (1 : Int).toNat * 1, none⟩), .int .u64 (rd y5 1), .agg (enc .i64 tab_1).toArray, (g39 52), (g39 53), (g39 54), (g39 55), (g39 56), (g39 57), (g39 58), (g39 59), (g39 60), (g39 61), (g39 62), (g39 63), (g39 64), (g39 65), (g39 66), (g39 67), (g39 68), (g39 69), (g39 70), undef, undef, undef, undef, undef, undef, undef, undef, undef, undef, undef, undef, undef, undef, undef, undef, undef, undef, undef, undef, undef, undef, undef, undef, undef, undef, undef, undef, undef, undef, undef, undef, undef, undef, undef, undef, undef, undef, undef, undef, undef, undef, undef, undef, undef], []⟩) (fun N2 nn2 => ?_) ?_
 ·clear hk2
  refine xblock ?_
  refine wp_loop_k (fun n a w => ∃ z18 z19 z20, keccak_round.l2 K n z18 z19 z20 = some y21 ∧ St w0 [p0] [.blk b2 (enc .u64 r1) 148, .blk p0 (enc .u64 z20) 113] [.rowL (CA .i64 24 (by decide)) (some ⟨1, 0, none⟩) 1 1 ([tab_1]), .rowL (CA .i64 24 (by decide)) (some ⟨2, 0, none⟩) 1 1 ([tab_2])] w ∧ ∃ g38 : Nat → Value, a = ⟨#[.pointer (some ⟨p0, 0, none⟩), .int .u64 a1, undef, undef, .pointer (some ⟨b2, 0, none⟩), (g7 5), (g7 6), (g7 7), .int .u64 z18, (g38 9), (g38 10), undef, undef, undef, .pointer (some ⟨p0, 0, none⟩), .agg (enc .u64 r1).toArray, (g7 16), (g7 17), (g7 18), (g7 19), (g7 20), (g7 21), (g7 22), (g7 23), (g7 24), (g7 25), (g7 26), (g7 27), (g7 28), (g7 29), (g7 30), (g7 31), (g7 32), (g7 33), (g7 34), (g7 35), (g7 36), (g7 37), (g7 38), (g7 39), (g7 40), (g7 41), (g7 42), (g7 43), (g7 44), (g7 45), (g7 46), .pointer (some ⟨p0, 0, none⟩), .pointer (some ⟨p0, 0, none⟩), .pointer (some ⟨p0, 0 + (1 : Int).toNat * 1, none⟩), .int .u64 (rd y5 1), .agg (enc .i64 tab_1).toArray, .int .i64 z19, (g38 53), (g38 54), (g38 55), (g38 56), (g38 57), (g38 58), (g38 59), (g38 60), (g38 61), (g38 62), (g38 63), (g38 64), (g38 65), (g38 66), (g38 67), (g38 68), (g38 69), (g38 70), undef, undef, undef, undef, undef, undef, undef, undef, undef, undef, undef, undef, undef, undef, undef, undef, undef, undef, undef, undef, undef, undef, undef, undef, undef, undef, undef, undef, undef, undef, undef, undef, undef, undef, undef, undef, undef, undef, undef, undef, undef, undef, undef, undef, undef], []⟩) K ⟨x17, 0, y5, hy, hs.conv rfl, exg (by kernel_rfl)⟩ ?_
  clear hs h hy
  rintro n a w ⟨z18, z19, z20, h, hs, g38, rfl⟩ KL2 kl2
  cases n with
  | zero => exact nomatch (show none = some _ from h)
  | succ n =>
   refine xseq_k fun KS40 ks40 => ?_
   refine xregS [0] fun KR41 kr41 => ?_
   rcases of_if h with ⟨hc, h⟩ | ⟨hc, h⟩
   ·refine wpS.tk 0 false (some 53) (.bool true) (yld_b (dt hc) (fun _ => by kernel_rfl)) ?_
    refine wpS.fin rfl (kr41 _ _ (then_n (ks40 _ _ (xseq_k fun KS42 ks42 => (wp_cond_t (by kernel_rfl) (xskip (then_n (ks42 _ _ (xseq_k fun KS43 ks43 => (xblock (xseq_k fun KS44 ks44 => (xregS [0, 1, 2, 3] fun KR45 kr45 => ?_))))))))))))
    refine wpS.q 0 54 (.int .i64 z19) ?_
    obtain ⟨h0, h⟩ := of_chk h
    obtain ⟨h1, h⟩ := of_chk h
    refine wpS.tk 1 false (some 55) (.int .i64 (rd tab_1 z19)) (yld_at (t := 151) (e := 3) (k' := .i64) (by kernel_rfl) (by kernel_rfl) (by kernel_rfl) (by kernel_rfl) h0 h1) ?_
    refine wpS.q 2 9 (.int .i64 z19) ?_
    obtain ⟨x22, hx, h⟩ := of_bind h
    refine wpS.tk 3 false (some 10) (.int .i64 x22) (yld_int hx (fun _ => by kernel_rfl)) ?_
    refine wpS.fin rfl (kr45 _ _ (then_n (ks44 _ _ ?_)))
    refine wp_regG [14] (fun k => True) 16 (by kernel_rfl) (by kernel_rfl) (by kernel_rfl) fun KR46 kr46 => ?_
    have hs := hs.drawn1
    refine wpG.q 0 56 (.pointer (some ⟨p0, 0, none⟩)) ?_
    refine wpG.q 1 57 (.int .i64 x22) ?_
    refine wpG.q 2 58 (.int .u64 z18) ?_
    refine wpG.q 3 59 (.int .i64 z19) ?_
    obtain ⟨i0_47, h⟩ := of_chk h
    obtain ⟨i1_47, h⟩ := of_chk h
    refine wpG.tD 4 false (some 60) (.pointer (some ⟨2, 0 + (z19 : Int).toNat * 1, none⟩)) (yld_idx (t := 151) (e := 3) (n := 24) (sz := 1) (k := .i64) (x := z19) (by kernel_rfl) (by kernel_rfl) (by kernel_rfl) i0_47 i1_47) ?_
    refine wpG.tD 5 true (some 61) (.int .i64 (rd tab_2 z19)) (yld_loadG (e := 3) (x := z19) (hs.rowR 1 rfl) (by kernel_rfl) (by kernel_rfl) i0_47 i1_47) ?_
    refine wpG.q 7 63 (.pointer (some ⟨p0, 0, none⟩)) ?_
    refine wpG.q 8 64 (.int .i64 x22) ?_
    refine wpG.q 9 65 (.pointer (some ⟨p0, 0, none⟩)) ?_
    obtain ⟨i0_48, h⟩ := of_chk h
    obtain ⟨i1_48, h⟩ := of_chk h
    refine wpG.tD 10 false (some 66) (.pointer (some ⟨p0, 0 + (x22 : Int).toNat * 1, none⟩)) (yld_idx (t := 113) (e := 112) (n := 25) (sz := 1) (k := .i64) (x := x22) (by kernel_rfl) (by kernel_rfl) (by kernel_rfl) i0_48 i1_48) ?_
    refine wpG.tD 11 true (some 67) (.int .u64 (rd z20 x22)) (yld_loadA (e := 112) (x := x22) hs 1 rfl (by kernel_rfl) (by kernel_rfl) i0_48 i1_48 .grow) ?_
    refine wpG.q 12 68 (.pointer (some ⟨p0, 0, none⟩)) ?_
    obtain ⟨r23, hg, h⟩ := of_bind h
    refine wpG.only 6 (by kernel_rfl) (op_call (d := (some 62)) (by kernel_rfl) hs (fun _ => by kernel_rfl) (math_bits_RotateLeft64.ok hg _) ?_)
    intro w gw hs
    refine ⟨.of gw, ?_⟩
    obtain ⟨i0_49, h⟩ := of_chk h
    obtain ⟨i1_49, h⟩ := of_chk h
    refine wpG.tD 13 false (some 69) (.pointer (some ⟨p0, 0 + (x22 : Int).toNat * 1, none⟩)) (yld_idx (t := 113) (e := 112) (n := 25) (sz := 1) (k := .i64) (x := x22) (by kernel_rfl) (by kernel_rfl) (by kernel_rfl) i0_49 i1_49) ?_
    refine wpG.only 14 (by kernel_rfl) (op_storeA (t := 112) (x := x22) (v := r23) (d := none) (by kernel_rfl) hs 1 rfl (by kernel_rfl) (by kernel_rfl) i0_49 i1_49 ?_)
    intro w kp hs
    refine ⟨⟨fun hf => absurd hf (by decide), .all _ _⟩, ?_⟩
    obtain ⟨x24, hx, h⟩ := of_bind h
    refine wpG.tD 15 false (some 8) (.int .u64 x24) (yld_int hx (fun _ => by kernel_rfl)) ?_
    refine wpG.fin (by kernel_rfl) rfl (kr46 _ _ ?_)
    refine inBlock_n (then_n (ks43 _ _ (xregS [0, 1] fun KR50 kr50 => ?_)))
    refine wpS.qs [(0, 70, .int .i64 (iadd .i64 z19 1)), (1, 52, .int .i64 (iadd .i64 z19 1))] ?_
    refine wpS.fin rfl (kr50 _ _ ?_)
    exact then_n (kl2 _ _ ⟨n, Nat.lt_succ_self n, x24, (iadd .i64 z19 1), (wr z20 x22 r23), h, (hs.conv rfl), exg (by kernel_rfl)⟩)
   refine wpS.tk 0 false (some 53) (.bool false) (yld_b (df hc) (fun _ => by kernel_rfl)) ?_
   refine wpS.fin rfl (kr41 _ _ (then_n (ks40 _ _ (xseq_k fun KS51 ks51 => (wp_cond_f (by kernel_rfl) (xexit (then_x (then_x (inBlock_hit ?_)))))))))
   have q0 := of_some h
   subst q0
   exact exq_n (nn2 _ _ ⟨(hs.conv rfl), exg (by kernel_rfl)⟩)
 clear hs h hy
 rintro a w ⟨hs, g39, rfl⟩
 have h := hk2
 refine then_n (ks35 _ _ (xseq_k fun KS52 ks52 => (xseq_k fun KS53 ks53 => (xregS [0] fun KR54 kr54 => ?_))))
 refine wpS.q 0 11 (.int .i64 0) ?_
 refine wpS.fin rfl (kr54 _ _ (then_n (ks53 _ _ ?_)))
 obtain ⟨y27, hy, hk3⟩ := of_bind h
 refine wp_exq (N := fun a w => St w0 [p0] [.blk b2 (enc .u64 r1) 148, .blk p0 (enc .u64 y27) 113] [.rowL (CA .i64 24 (by decide)) (some ⟨1, 0, none⟩) 1 1 ([tab_1]), .rowL (CA .i64 24 (by decide)) (some ⟨2, 0, none⟩) 1 1 ([tab_2])] w ∧ ∃ g56 : Nat → Value, a = ⟨#[.pointer (some ⟨p0, 0, none⟩), .int .u64 a1, undef, undef, .pointer (some ⟨b2, 0, none⟩), (g7 5), (g7 6), (g7 7), (g39 8), (g39 9), (g39 10), (g56 11), (g56 12), (g56 13), .pointer (some ⟨p0, 0, none⟩), .agg (enc .u64 r1).toArray, (g7 16), (g7 17), (g7 18), (g7 19), (g7 20), (g7 21), (g7 22), (g7 23), (g7 24), (g7 25), (g7 26), (g7 27), (g7 28), (g7 29), (g7 30), (g7 31), (g7 32), (g7 33), (g7 34), (g7 35), (g7 36), (g7 37), (g7 38), (g7 39), (g7 40), (g7 41), (g7 42), (g7 43), (g7 44), (g7 45), (g7 46), .pointer (some ⟨p0, 0, none⟩), .pointer (some ⟨p0, 0, none⟩), .pointer (some ⟨p0, 0 + (1 : Int).toNat * 1, none⟩), .int .u64 (rd y5 1), .agg (enc .i64 tab_1).toArray, (g39 52), (g39 53), (g39 54), (g39 55), (g39 56), (g39 57), (g39 58), (g39 59), (g39 60), (g39 61), (g39 62), (g39 63), (g39 64), (g39 65), (g39 66), (g39 67), (g39 68), (g39 69), (g39 70), (g56 71), (g56 72), (g56 73), (g56 74), (g56 75), (g56 76), (g56 77), (g56 78), (g56 79), (g56 80), (g56 81), (g56 82), (g56 83), (g56 84), (g56 85), (g56 86), (g56 87), (g56 88), (g56 89), (g56 90), (g56 91), (g56 92), (g56 93), (g56 94), (g56 95), (g56 96), (g56 97), (g56 98), (g56 99), (g56 100), (g56 101), (g56 102), (g56 103), (g56 104), (g56 105), (g56 106), (g56 107), undef, undef, undef, undef, undef, undef, undef, undef], []⟩) (fun N3 nn3 => ?_) ?_
 ·clear hk3
  refine xblock ?_
  refine wp_loop_k (fun n a w => ∃ z25 z26, keccak_round.l3 K n z25 z26 = some y27 ∧ St w0 [p0] [.blk b2 (enc .u64 r1) 148, .blk p0 (enc .u64 z26) 113] [.rowL (CA .i64 24 (by decide)) (some ⟨1, 0, none⟩) 1 1 ([tab_1]), .rowL (CA .i64 24 (by decide)) (some ⟨2, 0, none⟩) 1 1 ([tab_2])] w ∧ ∃ g55 : Nat → Value, a = ⟨#[.pointer (some ⟨p0, 0, none⟩), .int .u64 a1, undef, undef, .pointer (some ⟨b2, 0, none⟩), (g7 5), (g7 6), (g7 7), (g39 8), (g39 9), (g39 10), .int .i64 z25, (g55 12), (g55 13), .pointer (some ⟨p0, 0, none⟩), .agg (enc .u64 r1).toArray, (g7 16), (g7 17), (g7 18), (g7 19), (g7 20), (g7 21), (g7 22), (g7 23), (g7 24), (g7 25), (g7 26), (g7 27), (g7 28), (g7 29), (g7 30), (g7 31), (g7 32), (g7 33), (g7 34), (g7 35), (g7 36), (g7 37), (g7 38), (g7 39), (g7 40), (g7 41), (g7 42), (g7 43), (g7 44), (g7 45), (g7 46), .pointer (some ⟨p0, 0, none⟩), .pointer (some ⟨p0, 0, none⟩), .pointer (some ⟨p0, 0 + (1 : Int).toNat * 1, none⟩), .int .u64 (rd y5 1), .agg (enc .i64 tab_1).toArray, (g39 52), (g39 53), (g39 54), (g39 55), (g39 56), (g39 57), (g39 58), (g39 59), (g39 60), (g39 61), (g39 62), (g39 63), (g39 64), (g39 65), (g39 66), (g39 67), (g39 68), (g39 69), (g39 70), (g55 71), (g55 72), (g55 73), (g55 74), (g55 75), (g55 76), (g55 77), (g55 78), (g55 79), (g55 80), (g55 81), (g55 82), (g55 83), (g55 84), (g55 85), (g55 86), (g55 87), (g55 88), (g55 89), (g55 90), (g55 91), (g55 92), (g55 93), (g55 94), (g55 95), (g55 96), (g55 97), (g55 98), (g55 99), (g55 100), (g55 101), (g55 102), (g55 103), (g55 104), (g55 105), (g55 106), (g55 107), undef, undef, undef, undef, undef, undef, undef, undef], []⟩) K ⟨0, y21, hy, hs.conv rfl, exg (by kernel_rfl)⟩ ?_
  clear hs h hy
  rintro n a w ⟨z25, z26, h, hs, g55, rfl⟩ KL3 kl3
  cases n with
  | zero => exact nomatch (show none = some _ from h)
  | succ n =>
   refine xseq_k fun KS57 ks57 => ?_
   refine xseq_k fun KS58 ks58 => ?_
   refine xregS [0, 1] fun KR59 kr59 => ?_
   refine wpS.q 0 71 (.int .i64 z25) ?_
   rcases of_if h with ⟨hc, h⟩ | ⟨hc, h⟩
   ·refine wpS.tk 1 false (some 72) (.bool true) (yld_b (dt hc) (fun _ => by kernel_rfl)) ?_
    refine wpS.fin rfl (kr59 _ _ (then_n (ks58 _ _ (wp_cond_t (by kernel_rfl) (xskip (then_n (ks57 _ _ (xseq_k fun KS60 ks60 => (xblock (xseq_k fun KS61 ks61 => (xregS [0, 1, 2, 3, 4, 5, 6, 7, 8, 9] fun KR62 kr62 => ?_)))))))))))
    refine wpS.qs [(0, 75, .pointer (some ⟨p0, 0, none⟩)), (1, 76, .pointer (some ⟨p0, 0, none⟩)), (2, 77, .int .i64 z25), (3, 78, .int .i64 z25), (4, 79, .int .i64 (iadd .i64 z25 5))] ?_
    obtain ⟨b0_63, h⟩ := of_chk h
    obtain ⟨b1_63, h⟩ := of_chk h
    obtain ⟨b2_63, h⟩ := of_chk h
    obtain ⟨b3_63, h⟩ := of_chk h
    refine wpS.tk 5 false (some 80) (.slice (some ⟨p0, 0 + (z25 : Int).toNat * 1, none⟩) (((iadd .i64 z25 5) : Int).toNat - (z25 : Int).toNat) (25 - (z25 : Int).toNat)) (yld_slA (t := 113) (e := 112) (n := 25) (k1 := .i64) (k2 := .i64) (lo := z25) (hi := (iadd .i64 z25 5)) (by kernel_rfl) (by kernel_rfl) (by kernel_rfl) b0_63 b1_63 b2_63 b3_63) ?_
    obtain ⟨h0, h⟩ := of_chk h
    have i0_64 := b0_63
    have i1_64 : (z25 : Int) + ((5 : Nat) : Int) ≤ ((25 : Nat) : Int) := by have := b2_63; omega
    refine wpS.tk 6 false (some 81) (.pointer (some ⟨p0, 0 + (z25 : Int).toNat * 1, none⟩)) (yld_toArr (t := 148) (e := 112) (n := 5) (len := ((iadd .i64 z25 5) : Int).toNat - (z25 : Int).toNat) (c := 25 - (z25 : Int).toNat) (by kernel_rfl) (by kernel_rfl) h0) ?_
    refine wpS.tk 7 true (some 82) (.agg (enc .u64 (subA 5 z26 z25)).toArray) (yld_loadSub (e := 148) (m := 5) (x := z25) hs 1 rfl (by kernel_rfl) (by kernel_rfl) (by kernel_rfl) i0_64 i1_64 .grow) ?_
    refine wpS.only 8 (op_alloc (t := 148) (d := (some 12)) (by kernel_rfl) hs (enc .u64 (zeroA 5)) (.agg (enc .u64 (zeroA 5)).toArray) (by kernel_rfl) (by kernel_rfl) (by kernel_rfl) ?_)
    intro b28 w gw hs
    refine ⟨fun _ => trivial, ?_⟩
    refine wpS.only 9 (op_storeW (t := 148) (v := .agg (enc .u64 (subA 5 z26 z25)).toArray) (d := none) (by kernel_rfl) hs 0 rfl (vs := enc .u64 (subA 5 z26 z25)) (n := 5) (by kernel_rfl) (by kernel_rfl) (by kernel_rfl) (by simp [enc_len]) (by simp [enc_len]) (by intro u hu; exact enc_one _ _ u hu) ?_)
    intro w kp hs
    refine ⟨fun _ => trivial, ?_⟩
    refine wpS.fin rfl (kr62 _ _ (then_n (ks61 _ _ (xseq_k fun KS65 ks65 => (xregS [0] fun KR66 kr66 => ?_)))))
    refine wpS.q 0 83 (.int .i64 0) ?_
    refine wpS.fin rfl (kr66 _ _ (then_n (ks65 _ _ ?_)))
    obtain ⟨y31, hy, hk4⟩ := of_bind h
    refine wp_exq (N := fun a w => St w0 [p0] [.blk b28 (enc .u64 (subA 5 z26 z25)) 148, .blk b2 (enc .u64 r1) 148, .blk p0 (enc .u64 y31) 113] [.rowL (CA .i64 24 (by decide)) (some ⟨1, 0, none⟩) 1 1 ([tab_1]), .rowL (CA .i64 24 (by decide)) (some ⟨2, 0, none⟩) 1 1 ([tab_2])] w ∧ ∃ g68 : Nat → Value, a = ⟨#[.pointer (some ⟨p0, 0, none⟩), .int .u64 a1, undef, undef, .pointer (some ⟨b2, 0, none⟩), (g7 5), (g7 6), (g7 7), (g39 8), (g39 9), (g39 10), .int .i64 z25, .pointer (some ⟨b28, 0, none⟩), (g68 13), .pointer (some ⟨p0, 0, none⟩), .agg (enc .u64 r1).toArray, (g7 16), (g7 17), (g7 18), (g7 19), (g7 20), (g7 21), (g7 22), (g7 23), (g7 24), (g7 25), (g7 26), (g7 27), (g7 28), (g7 29), (g7 30), (g7 31), (g7 32), (g7 33), (g7 34), (g7 35), (g7 36), (g7 37), (g7 38), (g7 39), (g7 40), (g7 41), (g7 42), (g7 43), (g7 44), (g7 45), (g7 46), .pointer (some ⟨p0, 0, none⟩), .pointer (some ⟨p0, 0, none⟩), .pointer (some ⟨p0, 0 + (1 : Int).toNat * 1, none⟩), .int .u64 (rd y5 1), .agg (enc .i64 tab_1).toArray, (g39 52), (g39 53), (g39 54), (g39 55), (g39 56), (g39 57), (g39 58), (g39 59), (g39 60), (g39 61), (g39 62), (g39 63), (g39 64), (g39 65), (g39 66), (g39 67), (g39 68), (g39 69), (g39 70), .int .i64 z25, .bool true, (g55 73), (g55 74), .pointer (some ⟨p0, 0, none⟩), .pointer (some ⟨p0, 0, none⟩), .int .i64 z25, .int .i64 z25, .int .i64 (iadd .i64 z25 5), .slice (some ⟨p0, 0 + (z25 : Int).toNat * 1, none⟩) (((iadd .i64 z25 5) : Int).toNat - (z25 : Int).toNat) (25 - (z25 : Int).toNat), .pointer (some ⟨p0, 0 + (z25 : Int).toNat * 1, none⟩), .agg (enc .u64 (subA 5 z26 z25)).toArray, (g68 83), (g68 84), (g68 85), (g68 86), (g68 87), (g68 88), (g68 89), (g68 90), (g68 91), (g68 92), (g68 93), (g68 94), (g68 95), (g68 96), (g68 97), (g68 98), (g68 99), (g68 100), (g68 101), (g68 102), (g68 103), (g68 104), (g68 105), (g68 106), (g68 107), undef, undef, undef, undef, undef, undef, undef, undef], []⟩) (fun N4 nn4 => ?_) ?_
    ·clear hk4
     refine xblock ?_
     refine wp_loop_k (fun n a w => ∃ z29 z30, keccak_round.l4 K n z25 z26 z29 z30 = some y31 ∧ St w0 [p0] [.blk b28 (enc .u64 (subA 5 z26 z25)) 148, .blk b2 (enc .u64 r1) 148, .blk p0 (enc .u64 z30) 113] [.rowL (CA .i64 24 (by decide)) (some ⟨1, 0, none⟩) 1 1 ([tab_1]), .rowL (CA .i64 24 (by decide)) (some ⟨2, 0, none⟩) 1 1 ([tab_2])] w ∧ ∃ g67 : Nat → Value, a = ⟨#[.pointer (some ⟨p0, 0, none⟩), .int .u64 a1, undef, undef, .pointer (some ⟨b2, 0, none⟩), (g7 5), (g7 6), (g7 7), (g39 8), (g39 9), (g39 10), .int .i64 z25, .pointer (some ⟨b28, 0, none⟩), (g67 13), .pointer (some ⟨p0, 0, none⟩), .agg (enc .u64 r1).toArray, (g7 16), (g7 17), (g7 18), (g7 19), (g7 20), (g7 21), (g7 22), (g7 23), (g7 24), (g7 25), (g7 26), (g7 27), (g7 28), (g7 29), (g7 30), (g7 31), (g7 32), (g7 33), (g7 34), (g7 35), (g7 36), (g7 37), (g7 38), (g7 39), (g7 40), (g7 41), (g7 42), (g7 43), (g7 44), (g7 45), (g7 46), .pointer (some ⟨p0, 0, none⟩), .pointer (some ⟨p0, 0, none⟩), .pointer (some ⟨p0, 0 + (1 : Int).toNat * 1, none⟩), .int .u64 (rd y5 1), .agg (enc .i64 tab_1).toArray, (g39 52), (g39 53), (g39 54), (g39 55), (g39 56), (g39 57), (g39 58), (g39 59), (g39 60), (g39 61), (g39 62), (g39 63), (g39 64), (g39 65), (g39 66), (g39 67), (g39 68), (g39 69), (g39 70), .int .i64 z25, .bool true, (g55 73), (g55 74), .pointer (some ⟨p0, 0, none⟩), .pointer (some ⟨p0, 0, none⟩), .int .i64 z25, .int .i64 z25, .int .i64 (iadd .i64 z25 5), .slice (some ⟨p0, 0 + (z25 : Int).toNat * 1, none⟩) (((iadd .i64 z25 5) : Int).toNat - (z25 : Int).toNat) (25 - (z25 : Int).toNat), .pointer (some ⟨p0, 0 + (z25 : Int).toNat * 1, none⟩), .agg (enc .u64 (subA 5 z26 z25)).toArray, .int .i64 z29, (g67 84), (g67 85), (g67 86), (g67 87), (g67 88), (g67 89), (g67 90), (g67 91), (g67 92), (g67 93), (g67 94), (g67 95), (g67 96), (g67 97), (g67 98), (g67 99), (g67 100), (g67 101), (g67 102), (g67 103), (g67 104), (g67 105), (g67 106), (g67 107), undef, undef, undef, undef, undef, undef, undef, undef], []⟩) K ⟨0, z26, hy, hs.conv rfl, exg (by kernel_rfl)⟩ ?_
     clear hs h hy
     rintro n a w ⟨z29, z30, h, hs, g67, rfl⟩ KL4 kl4
     cases n with
     | zero => exact nomatch (show none = some _ from h)
     | succ n =>
      refine xseq_k fun KS69 ks69 => ?_
      refine xregS [0] fun KR70 kr70 => ?_
      rcases of_if h with ⟨hc, h⟩ | ⟨hc, h⟩
      ·refine wpS.tk 0 false (some 84) (.bool true) (yld_b (dt hc) (fun _ => by kernel_rfl)) ?_
       refine wpS.fin rfl (kr70 _ _ (then_n (ks69 _ _ (xseq_k fun KS71 ks71 => (wp_cond_t (by kernel_rfl) (xskip (then_n (ks71 _ _ (xseq_k fun KS72 ks72 => (xblock (xseq_k fun KS73 ks73 => (xregS [0, 1] fun KR74 kr74 => ?_))))))))))))
       refine wpS.qs [(0, 85, .int .i64 z29), (1, 13, .int .i64 z29)] ?_
       refine wpS.fin rfl (kr74 _ _ (then_n (ks73 _ _ ?_)))
       refine wp_regG [21] (fun k => True) 22 (by kernel_rfl) (by kernel_rfl) (by kernel_rfl) fun KR75 kr75 => ?_
       have hs := hs.drawn1
       refine wpG.q 0 86 (.pointer (some ⟨p0, 0, none⟩)) ?_
       refine wpG.q 1 87 (.int .i64 z25) ?_
       refine wpG.q 2 88 (.int .i64 z29) ?_
       refine wpG.q 3 89 (.int .i64 (iadd .i64 z25 z29)) ?_
       refine wpG.q 4 90 (.int .i64 z29) ?_
       obtain ⟨i0_76, h⟩ := of_chk h
       obtain ⟨i1_76, h⟩ := of_chk h
       refine wpG.tD 5 false (some 91) (.pointer (some ⟨b28, 0 + (z29 : Int).toNat * 1, none⟩)) (yld_idx (t := 148) (e := 112) (n := 5) (sz := 1) (k := .i64) (x := z29) (by kernel_rfl) (by kernel_rfl) (by kernel_rfl) i0_76 i1_76) ?_
       refine wpG.tD 6 true (some 92) (.int .u64 (rd (subA 5 z26 z25) z29)) (yld_loadA (e := 112) (x := z29) hs 0 rfl (by kernel_rfl) (by kernel_rfl) i0_76 i1_76 .grow) ?_
       refine wpG.q 7 93 (.int .i64 z29) ?_
       refine wpG.q 8 94 (.int .i64 (iadd .i64 z29 2)) ?_
       refine wpG.q 9 95 (.int .i64 (irem .i64 (iadd .i64 z29 2) 5)) ?_
       obtain ⟨x32, hx, h⟩ := of_bind h
       have hx := of_some hx
       subst hx
       obtain ⟨i0_77, h⟩ := of_chk h
       obtain ⟨i1_77, h⟩ := of_chk h
       refine wpG.tD 10 false (some 96) (.pointer (some ⟨b28, 0 + ((irem .i64 (iadd .i64 z29 2) 5) : Int).toNat * 1, none⟩)) (yld_idx (t := 148) (e := 112) (n := 5) (sz := 1) (k := .i64) (x := (irem .i64 (iadd .i64 z29 2) 5)) (by kernel_rfl) (by kernel_rfl) (by kernel_rfl) i0_77 i1_77) ?_
       refine wpG.tD 11 true (some 97) (.int .u64 (rd (subA 5 z26 z25) (irem .i64 (iadd .i64 z29 2) 5))) (yld_loadA (e := 112) (x := (irem .i64 (iadd .i64 z29 2) 5)) hs 0 rfl (by kernel_rfl) (by kernel_rfl) i0_77 i1_77 .grow) ?_
       refine wpG.q 12 98 (.int .i64 z29) ?_
       refine wpG.q 13 99 (.int .i64 (iadd .i64 z29 1)) ?_
       refine wpG.q 14 100 (.int .i64 (irem .i64 (iadd .i64 z29 1) 5)) ?_
       obtain ⟨x33, hx, h⟩ := of_bind h
       have hx := of_some hx
       subst hx
       obtain ⟨i0_78, h⟩ := of_chk h
       obtain ⟨i1_78, h⟩ := of_chk h
       refine wpG.tD 15 false (some 101) (.pointer (some ⟨b28, 0 + ((irem .i64 (iadd .i64 z29 1) 5) : Int).toNat * 1, none⟩)) (yld_idx (t := 148) (e := 112) (n := 5) (sz := 1) (k := .i64) (x := (irem .i64 (iadd .i64 z29 1) 5)) (by kernel_rfl) (by kernel_rfl) (by kernel_rfl) i0_78 i1_78) ?_
       refine wpG.tD 16 true (some 102) (.int .u64 (rd (subA 5 z26 z25) (irem .i64 (iadd .i64 z29 1) 5))) (yld_loadA (e := 112) (x := (irem .i64 (iadd .i64 z29 1) 5)) hs 0 rfl (by kernel_rfl) (by kernel_rfl) i0_78 i1_78 .grow) ?_
       refine wpG.q 17 103 (.int .u64 (iandn .u64 (rd (subA 5 z26 z25) (irem .i64 (iadd .i64 z29 2) 5)) (rd (subA 5 z26 z25) (irem .i64 (iadd .i64 z29 1) 5)))) ?_
       refine wpG.q 18 104 (.int .u64 (ixor .u64 (rd (subA 5 z26 z25) z29) (iandn .u64 (rd (subA 5 z26 z25) (irem .i64 (iadd .i64 z29 2) 5)) (rd (subA 5 z26 z25) (irem .i64 (iadd .i64 z29 1) 5))))) ?_
       refine wpG.q 19 105 (.pointer (some ⟨p0, 0, none⟩)) ?_
       obtain ⟨x34, hx, h⟩ := of_bind h
       have hx := of_some hx
       subst hx
       obtain ⟨i0_79, h⟩ := of_chk h
       obtain ⟨i1_79, h⟩ := of_chk h
       refine wpG.tD 20 false (some 106) (.pointer (some ⟨p0, 0 + ((iadd .i64 z25 z29) : Int).toNat * 1, none⟩)) (yld_idx (t := 113) (e := 112) (n := 25) (sz := 1) (k := .i64) (x := (iadd .i64 z25 z29)) (by kernel_rfl) (by kernel_rfl) (by kernel_rfl) i0_79 i1_79) ?_
       obtain ⟨x35, hx, h⟩ := of_bind h
       refine wpG.only 21 (by kernel_rfl) (op_storeA (t := 112) (x := (iadd .i64 z25 z29)) (v := x35) (d := none) (by kernel_rfl) hs 2 rfl (by cases hx; kernel_rfl) (by kernel_rfl) i0_79 i1_79 ?_)
       intro w kp hs
       refine ⟨⟨fun hf => absurd hf (by decide), .all _ _⟩, ?_⟩
       refine wpG.fin (by kernel_rfl) rfl (kr75 _ _ ?_)
       refine inBlock_n (then_n (ks72 _ _ (xregS [0, 1] fun KR80 kr80 => ?_)))
       refine wpS.qs [(0, 107, .int .i64 (iadd .i64 z29 1)), (1, 83, .int .i64 (iadd .i64 z29 1))] ?_
       refine wpS.fin rfl (kr80 _ _ ?_)
       exact then_n (kl4 _ _ ⟨n, Nat.lt_succ_self n, (iadd .i64 z29 1), (wr z30 (iadd .i64 z25 z29) x35), h, (hs.conv rfl), exg (by kernel_rfl)⟩)
      refine wpS.tk 0 false (some 84) (.bool false) (yld_b (df hc) (fun _ => by kernel_rfl)) ?_
      refine wpS.fin rfl (kr70 _ _ (then_n (ks69 _ _ (xseq_k fun KS81 ks81 => (wp_cond_f (by kernel_rfl) (xexit (then_x (then_x (inBlock_hit ?_)))))))))
      have q0 := of_some h
      subst q0
      exact exq_n (nn4 _ _ ⟨(hs.conv rfl), exg (by kernel_rfl)⟩)
    clear hs h hy
    rintro a w ⟨hs, g68, rfl⟩
    have h := hk4
    refine inBlock_n (then_n (ks60 _ _ (xregS [0, 1, 2] fun KR82 kr82 => ?_)))
    refine wpS.qs [(0, 73, .int .i64 z25), (1, 74, .int .i64 (iadd .i64 z25 5))] ?_
    obtain ⟨x36, hx, h⟩ := of_bind h
    refine wpS.tk 2 false (some 11) (.int .i64 x36) (yld_int hx (fun _ => by kernel_rfl)) ?_
    refine wpS.fin rfl (kr82 _ _ ?_)
    exact then_n (kl3 _ _ ⟨n, Nat.lt_succ_self n, x36, y31, h, (hs.drop (.cons _ (.cons_cons _ (.cons_cons _ .slnil)))), exg (by kernel_rfl)⟩)
   refine wpS.tk 1 false (some 72) (.bool false) (yld_b (df hc) (fun _ => by kernel_rfl)) ?_
   refine wpS.fin rfl (kr59 _ _ (then_n (ks58 _ _ (wp_cond_f (by kernel_rfl) (xexit (then_x (then_x (inBlock_hit ?_))))))))
   have q0 := of_some h
   subst q0
   exact exq_n (nn3 _ _ ⟨(hs.conv rfl), exg (by kernel_rfl)⟩)
 clear hs h hy
 rintro a w ⟨hs, g56, rfl⟩
 have h := hk3
 refine then_n (ks52 _ _ ?_)
 refine wp_regG [8] (fun k => True) 9 (by kernel_rfl) (by kernel_rfl) (by kernel_rfl) fun KR83 kr83 => ?_
 have hs := hs.drawn1
 refine wpG.q 0 108 (.pointer (some ⟨p0, 0, none⟩)) ?_
 refine wpG.q 1 109 (.pointer (some ⟨p0, 0, none⟩)) ?_
 refine wpG.tD 2 false (some 110) (.pointer (some ⟨p0, 0 + (0 : Int).toNat * 1, none⟩)) (yld_idx (t := 113) (e := 112) (n := 25) (sz := 1) (k := .i64) (x := 0) (by kernel_rfl) (by kernel_rfl) (by kernel_rfl) (by decide) (by decide)) ?_
 refine wpG.tD 3 true (some 111) (.int .u64 (rd y27 0)) (yld_loadA (e := 112) (x := 0) hs 1 rfl (by kernel_rfl) (by kernel_rfl) (by decide) (by decide) .grow) ?_
 refine wpG.q 4 112 (.int .u64 a1) ?_
 refine wpG.q 5 113 (.int .u64 (ixor .u64 (rd y27 0) a1)) ?_
 refine wpG.q 6 114 (.pointer (some ⟨p0, 0, none⟩)) ?_
 refine wpG.tD 7 false (some 115) (.pointer (some ⟨p0, 0 + (0 : Int).toNat * 1, none⟩)) (yld_idx (t := 113) (e := 112) (n := 25) (sz := 1) (k := .i64) (x := 0) (by kernel_rfl) (by kernel_rfl) (by kernel_rfl) (by decide) (by decide)) ?_
 obtain ⟨x37, hx, h⟩ := of_bind h
 refine wpG.only 8 (by kernel_rfl) (op_storeA (t := 112) (x := 0) (v := x37) (d := none) (by kernel_rfl) hs 1 rfl (by cases hx; kernel_rfl) (by kernel_rfl) (by decide) (by decide) ?_)
 intro w kp hs
 refine ⟨⟨fun hf => absurd hf (by decide), .all _ _⟩, ?_⟩
 refine wpG.fin (by kernel_rfl) rfl (kr83 _ _ ?_)
 have q0 := of_some h
 subst q0
 exact qn _ _ (post_nrm (by kernel_rfl) (run_results [] [] (by kernel_rfl) .nil) ⟨congrArg Ending.returned (by kernel_rfl), ((hs.drop (.cons _ (.cons_cons _ .slnil))).pickR pick_nil)⟩)

theorem keccak_Permute.ok {K : Nat} {a0 : Arr 25} {r0 : Arr 25} (h : keccak_Permute.f K a0 = some r0) (w0 : World) (hg0 : RowL (CA .u64 24 (by decide)) w0 (some ⟨0, 0, none⟩) 1 1 [tab_0]) (hg1 : RowL (CA .i64 24 (by decide)) w0 (some ⟨1, 0, none⟩) 1 1 [tab_1]) (hg2 : RowL (CA .i64 24 (by decide)) w0 (some ⟨2, 0, none⟩) 1 1 [tab_2]) : Ret Tryd.prog 102 #[.agg (enc .u64 a0).toArray] w0 (.agg (enc .u64 r0).toArray) := by
 refine calls_k Tryd.func102 rfl fun Q qq => ?_
 have hs := St.startR (all_cons (RowP.ent hg0) (all_cons (RowP.ent hg1) (all_cons (RowP.ent hg2) all_nil)))
 refine wp_conv (a' := ⟨#[.agg (enc .u64 a0).toArray, undef, undef, undef, undef, undef, undef, undef, undef, undef, undef, undef, undef], []⟩) (by kernel_rfl) ?_
 refine xseq_k fun KS1 ks1 => ?_
 refine xregS [0, 1] fun KR2 kr2 => ?_
 refine wpS.only 0 (op_box (t := 113) (v := .agg (enc .u64 a0).toArray) (d := (some 1)) (by kernel_rfl) hs (enc .u64 a0) (by kernel_rfl) (by kernel_rfl) ?_)
 intro b1 w gw hs
 refine ⟨fun _ => trivial, ?_⟩
 refine wpS.only 1 (op_alloc (t := 113) (d := (some 2)) (by kernel_rfl) hs (enc .u64 (zeroA 25)) (.agg (enc .u64 (zeroA 25)).toArray) (by kernel_rfl) (by kernel_rfl) (by kernel_rfl) ?_)
 intro b2 w gw hs
 refine ⟨fun _ => trivial, ?_⟩
 refine wpS.fin rfl (kr2 _ _ (then_n (ks1 _ _ (xseq_k fun KS3 ks3 => (xseq_k fun KS4 ks4 => (xregS [0, 1] fun KR5 kr5 => ?_))))))
 refine wpS.tk 0 true (some 5) (.agg (enc .u64 tab_0).toArray) (yld_loadLA (C := (CA .u64 24 (by decide))) (e := 144) (x := 0) (hs.rowR 0 rfl) (by kernel_rfl) rfl (by kernel_rfl) (by kernel_rfl) (by decide) (by decide)) ?_
 refine wpS.q 1 6 (.int .i64 0) ?_
 refine wpS.fin rfl (kr5 _ _ (then_n (ks4 _ _ ?_)))
 obtain ⟨y5, hy, hk0⟩ := of_bind h
 refine wp_exq (N := fun a w => St w0 [] [.blk b2 (enc .u64 (zeroA 25)) 113, .blk b1 (enc .u64 y5) 113] [.rowL (CA .u64 24 (by decide)) (some ⟨0, 0, none⟩) 1 1 ([tab_0]), .rowL (CA .i64 24 (by decide)) (some ⟨1, 0, none⟩) 1 1 ([tab_1]), .rowL (CA .i64 24 (by decide)) (some ⟨2, 0, none⟩) 1 1 ([tab_2])] w ∧ ∃ g7 : Nat → Value, a = ⟨#[.agg (enc .u64 a0).toArray, .pointer (some ⟨b1, 0, none⟩), .pointer (some ⟨b2, 0, none⟩), undef, (g7 4), .agg (enc .u64 tab_0).toArray, (g7 6), (g7 7), (g7 8), (g7 9), (g7 10), (g7 11), undef], []⟩) (fun N0 nn0 => ?_) ?_
 ·clear hk0
  refine xblock ?_
  refine wp_loop_k (fun n a w => ∃ z3 z4, keccak_Permute.l0 K n z3 z4 = some y5 ∧ St w0 [] [.blk b2 (enc .u64 (zeroA 25)) 113, .blk b1 (enc .u64 z4) 113] [.rowL (CA .u64 24 (by decide)) (some ⟨0, 0, none⟩) 1 1 ([tab_0]), .rowL (CA .i64 24 (by decide)) (some ⟨1, 0, none⟩) 1 1 ([tab_1]), .rowL (CA .i64 24 (by decide)) (some ⟨2, 0, none⟩) 1 1 ([tab_2])] w ∧ ∃ g6 : Nat → Value, a = ⟨#[.agg (enc .u64 a0).toArray, .pointer (some ⟨b1, 0, none⟩), .pointer (some ⟨b2, 0, none⟩), undef, (g6 4), .agg (enc .u64 tab_0).toArray, .int .i64 z3, (g6 7), (g6 8), (g6 9), (g6 10), (g6 11), undef], []⟩) K ⟨0, a0, hy, hs.conv rfl, exg (by kernel_rfl)⟩ ?_
  clear hs h hy
  rintro n a w ⟨z3, z4, h, hs, g6, rfl⟩ KL0 kl0
  cases n with
  | zero => exact nomatch (show none = some _ from h)
  | succ n =>
   refine xseq_k fun KS8 ks8 => ?_
   refine xregS [0] fun KR9 kr9 => ?_
   rcases of_if h with ⟨hc, h⟩ | ⟨hc, h⟩
   ·refine wpS.tk 0 false (some 7) (.bool true) (yld_b (dt hc) (fun _ => by kernel_rfl)) ?_
    refine wpS.fin rfl (kr9 _ _ (then_n (ks8 _ _ (xseq_k fun KS10 ks10 => (wp_cond_t (by kernel_rfl) (xskip (then_n (ks10 _ _ (xseq_k fun KS11 ks11 => (xblock (xseq_k fun KS12 ks12 => (xregS [0, 1] fun KR13 kr13 => ?_))))))))))))
    obtain ⟨h0, h⟩ := of_chk h
    obtain ⟨h1, h⟩ := of_chk h
    refine wpS.tk 0 false (some 8) (.int .u64 (rd tab_0 z3)) (yld_at (t := 144) (e := 112) (k' := .i64) (by kernel_rfl) (by kernel_rfl) (by kernel_rfl) (by kernel_rfl) h0 h1) ?_
    obtain ⟨x6, hx, h⟩ := of_bind h
    refine wpS.tk 1 false (some 4) (.int .u64 x6) (yld_int hx (fun _ => by kernel_rfl)) ?_
    refine wpS.fin rfl (kr13 _ _ (then_n (ks12 _ _ (xregS [0, 1] fun KR14 kr14 => ?_))))
    refine wpS.q 0 9 (.int .u64 x6) ?_
    obtain ⟨r7, hg, h⟩ := of_bind h
    refine wpS.only 1 (op_callX (d := (some 10)) (by kernel_rfl) hs 1 rfl (fun _ => by kernel_rfl) (keccak_round.ok hg _ (hs.rowR 1 rfl) (hs.rowR 2 rfl) (hs.blkAt 1 rfl) (hs.farR 1 1 rfl rfl) (hs.farR 1 2 rfl rfl)) ?_)
    intro w kp hs
    have hs := hs.conv (L' := [.blk b2 (enc .u64 (zeroA 25)) 113, .blk b1 (enc .u64 r7) 113]) rfl
    refine ⟨fun _ => trivial, ?_⟩
    refine wpS.fin rfl (kr14 _ _ (inBlock_n (then_n (ks11 _ _ (xregS [0, 1] fun KR15 kr15 => ?_)))))
    refine wpS.qs [(0, 11, .int .i64 (iadd .i64 z3 1)), (1, 6, .int .i64 (iadd .i64 z3 1))] ?_
    refine wpS.fin rfl (kr15 _ _ ?_)
    exact then_n (kl0 _ _ ⟨n, Nat.lt_succ_self n, (iadd .i64 z3 1), r7, h, (hs.conv rfl), exg (by kernel_rfl)⟩)
   refine wpS.tk 0 false (some 7) (.bool false) (yld_b (df hc) (fun _ => by kernel_rfl)) ?_
   refine wpS.fin rfl (kr9 _ _ (then_n (ks8 _ _ (xseq_k fun KS16 ks16 => (wp_cond_f (by kernel_rfl) (xexit (then_x (then_x (inBlock_hit ?_)))))))))
   have q0 := of_some h
   subst q0
   exact exq_n (nn0 _ _ ⟨(hs.conv rfl), exg (by kernel_rfl)⟩)
 clear hs h hy
 rintro a w ⟨hs, g7, rfl⟩
 have h := hk0
 refine then_n (ks3 _ _ (xseq_k fun KS17 ks17 => (xregS [0, 1] fun KR18 kr18 => ?_)))
 refine wpS.tk 0 true (some 12) (.agg (enc .u64 y5).toArray) (yld_loadW (e := 113) (n := 25) hs 1 rfl (by kernel_rfl) (by kernel_rfl) (by kernel_rfl) (by exact enc_len _ _) .grow) ?_
 refine wpS.only 1 (op_storeW (t := 113) (v := .agg (enc .u64 y5).toArray) (d := none) (by kernel_rfl) hs 0 rfl (vs := enc .u64 y5) (n := 25) (by kernel_rfl) (by kernel_rfl) (by kernel_rfl) (by simp [enc_len]) (by simp [enc_len]) (by intro u hu; exact enc_one _ _ u hu) ?_)
 intro w kp hs
 refine ⟨fun _ => trivial, ?_⟩
 refine wpS.fin rfl (kr18 _ _ (then_n (ks17 _ _ (xret ?_))))
 have q0 := of_some h
 subst q0
 exact qq _ _ (post_ret (by kernel_rfl) (run_results [.cell 2 113] [.agg (enc .u64 y5).toArray] (by kernel_rfl) (.cons (res_cellN (n := 25) hs 0 rfl (by kernel_rfl) (by kernel_rfl) (by kernel_rfl) (by exact enc_len _ _)) .nil)) ⟨congrArg Ending.returned (by kernel_rfl), hs.none⟩)

theorem keccak_Absorb.ok {K : Nat} {a0_0 : Int} {a0_1 : Arr 25} {a0_2 : Int} {a0_3 : Bool} {a1 : List Int} {r0_0 : Int} {r0_1 : Arr 25} {r0_2 : Int} {r0_3 : Bool} {a1_A : Option Addr} {a1_n : Nat} {a1_c : Nat} (h : keccak_Absorb.f K a0_0 a0_1 a0_2 a0_3 a1 = some (r0_0, r0_1, r0_2, r0_3)) (w0 : World) (hp1 : RowL (CI .u8) w0 a1_A a1_n a1_c a1) (hg0 : RowL (CA .u64 24 (by decide)) w0 (some ⟨0, 0, none⟩) 1 1 [tab_0]) (hg1 : RowL (CA .i64 24 (by decide)) w0 (some ⟨1, 0, none⟩) 1 1 [tab_1]) (hg2 : RowL (CA .i64 24 (by decide)) w0 (some ⟨2, 0, none⟩) 1 1 [tab_2]) : Ret Tryd.prog 78 #[.agg (([.int .i64 a0_0] : List Value) ++ enc .u64 a0_1 ++ ([.int .i64 a0_2, .bool a0_3] : List Value)).toArray, .slice a1_A a1_n a1_c] w0 (.agg (([.int .i64 r0_0] : List Value) ++ enc .u64 r0_1 ++ ([.int .i64 r0_2, .bool r0_3] : List Value)).toArray) := by
 refine calls_k Tryd.func78 rfl fun Q qq => ?_
 have hs := St.startR (all_cons (RowP.ent hp1) (all_cons (RowP.ent hg0) (all_cons (RowP.ent hg1) (all_cons (RowP.ent hg2) all_nil))))
 refine wp_conv (a' := ⟨#[.agg (([.int .i64 a0_0] : List Value) ++ enc .u64 a0_1 ++ ([.int .i64 a0_2, .bool a0_3] : List Value)).toArray, .slice a1_A a1_n a1_c, undef, undef, undef, undef, undef, undef, undef, undef, undef, undef, undef, undef, undef, undef, undef, undef, undef, undef, undef, undef, undef, undef, undef, undef, undef, undef, undef, undef, undef, undef, undef, undef, undef, undef, undef, undef, undef, undef], []⟩) (by kernel_rfl) ?_
 refine xseq_k fun KS1 ks1 => ?_
 refine xregS [0, 1] fun KR2 kr2 => ?_
 refine wpS.only 0 (op_box (t := 115) (v := .agg (([.int .i64 a0_0] : List Value) ++ enc .u64 a0_1 ++ ([.int .i64 a0_2, .bool a0_3] : List Value)).toArray) (d := (some 2)) (by kernel_rfl) hs (([.int .i64 a0_0] : List Value) ++ enc .u64 a0_1 ++ ([.int .i64 a0_2, .bool a0_3] : List Value)) (by kernel_rfl) (by kernel_rfl) ?_)
 intro b1 w gw hs
 refine ⟨fun _ => trivial, ?_⟩
 refine wpS.only 1 (op_alloc (t := 115) (d := (some 4)) (by kernel_rfl) hs (([.int .i64 0] : List Value) ++ enc .u64 (zeroA 25) ++ ([.int .i64 0, .bool false] : List Value)) (.agg (([.int .i64 0] : List Value) ++ enc .u64 (zeroA 25) ++ ([.int .i64 0, .bool false] : List Value)).toArray) (by kernel_rfl) (by kernel_rfl) (by kernel_rfl) ?_)
 intro b2 w gw hs
 refine ⟨fun _ => trivial, ?_⟩
 refine wpS.fin rfl (kr2 _ _ (then_n (ks1 _ _ (xseq_k fun KS3 ks3 => (xseq_k fun KS4 ks4 => (xregS [0, 1] fun KR5 kr5 => ?_))))))
 refine wpS.q 0 7 (.pointer (some ⟨b1, 27, none⟩)) ?_
 cases a0_3 with
 | true =>
  have h := of_if_t h
  refine wpS.tk 1 true (some 8) (.bool true) (yld_load1 (e := 4) (o := 27) hs 1 rfl (by kernel_rfl) (by kernel_rfl) (get_post 1 rfl rfl) .grow) ?_
  refine wpS.fin rfl (kr5 _ _ (then_n (ks4 _ _ (wp_cond_t (by kernel_rfl) (xseq_k fun KS6 ks6 => (xregS [0, 1] fun KR7 kr7 => ?_))))))
  refine wpS.tk 0 true (some 9) (.agg (([.int .i64 a0_0] : List Value) ++ enc .u64 a0_1 ++ ([.int .i64 a0_2, .bool true] : List Value)).toArray) (yld_loadW (e := 115) (n := 28) hs 1 rfl (by kernel_rfl) (by kernel_rfl) (by kernel_rfl) (by simp [enc_len]) .grow) ?_
  refine wpS.only 1 (op_storeW (t := 115) (v := .agg (([.int .i64 a0_0] : List Value) ++ enc .u64 a0_1 ++ ([.int .i64 a0_2, .bool true] : List Value)).toArray) (d := none) (by kernel_rfl) hs 0 rfl (vs := ([.int .i64 a0_0] : List Value) ++ enc .u64 a0_1 ++ ([.int .i64 a0_2, .bool true] : List Value)) (n := 28) (by kernel_rfl) (by kernel_rfl) (by kernel_rfl) (by simp [enc_len]) (by simp [enc_len]) (one_app (one_app (by simp [Value.oneCell']) (fun u hu => enc_one _ _ u hu)) (by simp [Value.oneCell'])) ?_)
  intro w kp hs
  refine ⟨fun _ => trivial, ?_⟩
  refine wpS.fin rfl (kr7 _ _ (then_n (ks6 _ _ (xret (then_r ?_)))))
  obtain ⟨q0, qr0⟩ := Prod.mk.inj (of_some h)
  obtain ⟨q1, qr1⟩ := Prod.mk.inj (qr0)
  obtain ⟨q2, qr2⟩ := Prod.mk.inj (qr1)
  have q3 := qr2
  subst q0
  subst q1
  subst q2
  subst q3
  exact qq _ _ (post_ret (by kernel_rfl) (run_results [.cell 4 115] [.agg (([.int .i64 a0_0] : List Value) ++ enc .u64 a0_1 ++ ([.int .i64 a0_2, .bool true] : List Value)).toArray] (by kernel_rfl) (.cons (res_cellN (n := 28) hs 0 rfl (by kernel_rfl) (by kernel_rfl) (by kernel_rfl) (by simp [enc_len])) .nil)) ⟨congrArg Ending.returned (by kernel_rfl), hs.none⟩)
 | false =>
  have h := of_if_f h
  refine wpS.tk 1 true (some 8) (.bool false) (yld_load1 (e := 4) (o := 27) hs 1 rfl (by kernel_rfl) (by kernel_rfl) (get_post 1 rfl rfl) .grow) ?_
  refine wpS.fin rfl (kr5 _ _ (then_n (ks4 _ _ (wp_cond_f (by kernel_rfl) (xskip (then_n (ks3 _ _ (xseq_k fun KS8 ks8 => (xregS [0, 1, 2, 3] fun KR9 kr9 => ?_)))))))))
  refine wpS.q 0 10 (.pointer (some ⟨b1, 0, none⟩)) ?_
  refine wpS.tk 1 true (some 11) (.int .i64 a0_0) (yld_load1 (e := 3) (o := 0) hs 1 rfl (by kernel_rfl) (by kernel_rfl) (get_pre rfl) .grow) ?_
  obtain ⟨r3, hg, h⟩ := of_bind h
  refine wpS.only 2 (op_call (d := (some 12)) (by kernel_rfl) hs (fun _ => by kernel_rfl) (keccak_rate.ok hg _) ?_)
  intro w gw hs
  refine ⟨fun _ => trivial, ?_⟩
  refine wpS.q 3 5 (.int .i64 r3) ?_
  refine wpS.fin rfl (kr9 _ _ (then_n (ks8 _ _ (xseq_k fun KS10 ks10 => (xseq_k fun KS11 ks11 => (xregS [0, 1, 2] fun KR12 kr12 => ?_))))))
  refine wpS.q 0 13 (.slice a1_A a1_n a1_c) ?_
  refine wpS.tk 1 false (some 14) (.int .i64 (a1.length : Int)) (yld_lenL (hs.rowR 0 rfl) (fun _ => by kernel_rfl)) ?_
  refine wpS.q 2 15 (.int .i64 0) ?_
  refine wpS.fin rfl (kr12 _ _ (then_n (ks11 _ _ ?_)))
  obtain ⟨⟨y6_0, y6_1, y6_2, y6_3⟩, hy, hk0⟩ := of_bind h
  refine wp_exq (N := fun a w => St w0 [] [.blk b2 (([.int .i64 0] : List Value) ++ enc .u64 (zeroA 25) ++ ([.int .i64 0, .bool false] : List Value)) 115, .blk b1 (([.int .i64 y6_0] : List Value) ++ enc .u64 y6_1 ++ ([.int .i64 y6_2, .bool y6_3] : List Value)) 115] [.rowL (CI .u8) a1_A a1_n a1_c a1, .rowL (CA .u64 24 (by decide)) (some ⟨0, 0, none⟩) 1 1 ([tab_0]), .rowL (CA .i64 24 (by decide)) (some ⟨1, 0, none⟩) 1 1 ([tab_1]), .rowL (CA .i64 24 (by decide)) (some ⟨2, 0, none⟩) 1 1 ([tab_2])] w ∧ ∃ g14 : Nat → Value, a = ⟨#[.agg (([.int .i64 a0_0] : List Value) ++ enc .u64 a0_1 ++ ([.int .i64 a0_2, .bool false] : List Value)).toArray, .slice a1_A a1_n a1_c, .pointer (some ⟨b1, 0, none⟩), undef, .pointer (some ⟨b2, 0, none⟩), .int .i64 r3, (g14 6), .pointer (some ⟨b1, 27, none⟩), .bool false, undef, .pointer (some ⟨b1, 0, none⟩), .int .i64 a0_0, .int .i64 r3, .slice a1_A a1_n a1_c, .int .i64 (a1.length : Int), (g14 15), (g14 16), (g14 17), (g14 18), (g14 19), (g14 20), (g14 21), (g14 22), (g14 23), (g14 24), (g14 25), (g14 26), (g14 27), (g14 28), (g14 29), (g14 30), (g14 31), (g14 32), (g14 33), (g14 34), (g14 35), (g14 36), (g14 37), (g14 38), undef], []⟩) (fun N0 nn0 => ?_) ?_
  ·clear hk0
   refine xblock ?_
   refine wp_loop_k (fun n a w => ∃ z4 z5_0 z5_1 z5_2 z5_3, keccak_Absorb.l0 K n a1 r3 z4 z5_0 z5_1 z5_2 z5_3 = some (y6_0, y6_1, y6_2, y6_3) ∧ St w0 [] [.blk b2 (([.int .i64 0] : List Value) ++ enc .u64 (zeroA 25) ++ ([.int .i64 0, .bool false] : List Value)) 115, .blk b1 (([.int .i64 z5_0] : List Value) ++ enc .u64 z5_1 ++ ([.int .i64 z5_2, .bool z5_3] : List Value)) 115] [.rowL (CI .u8) a1_A a1_n a1_c a1, .rowL (CA .u64 24 (by decide)) (some ⟨0, 0, none⟩) 1 1 ([tab_0]), .rowL (CA .i64 24 (by decide)) (some ⟨1, 0, none⟩) 1 1 ([tab_1]), .rowL (CA .i64 24 (by decide)) (some ⟨2, 0, none⟩) 1 1 ([tab_2])] w ∧ ∃ g13 : Nat → Value, a = ⟨#[.agg (([.int .i64 a0_0] : List Value) ++ enc .u64 a0_1 ++ ([.int .i64 a0_2, .bool false] : List Value)).toArray, .slice a1_A a1_n a1_c, .pointer (some ⟨b1, 0, none⟩), undef, .pointer (some ⟨b2, 0, none⟩), .int .i64 r3, (g13 6), .pointer (some ⟨b1, 27, none⟩), .bool false, undef, .pointer (some ⟨b1, 0, none⟩), .int .i64 a0_0, .int .i64 r3, .slice a1_A a1_n a1_c, .int .i64 (a1.length : Int), .int .i64 z4, (g13 16), (g13 17), (g13 18), (g13 19), (g13 20), (g13 21), (g13 22), (g13 23), (g13 24), (g13 25), (g13 26), (g13 27), (g13 28), (g13 29), (g13 30), (g13 31), (g13 32), (g13 33), (g13 34), (g13 35), (g13 36), (g13 37), (g13 38), undef], []⟩) K ⟨0, a0_0, a0_1, a0_2, false, hy, hs.conv rfl, exg (by kernel_rfl)⟩ ?_
   clear hs h hy
   rintro n a w ⟨z4, z5_0, z5_1, z5_2, z5_3, h, hs, g13, rfl⟩ KL0 kl0
   cases n with
   | zero => exact nomatch (show none = some _ from h)
   | succ n =>
    refine xseq_k fun KS15 ks15 => ?_
    refine xregS [0] fun KR16 kr16 => ?_
    rcases of_if h with ⟨hc, h⟩ | ⟨hc, h⟩
    ·refine wpS.tk 0 false (some 16) (.bool true) (yld_b (dt hc) (fun _ => by kernel_rfl)) ?_
     refine wpS.fin rfl (kr16 _ _ (then_n (ks15 _ _ (xseq_k fun KS17 ks17 => (wp_cond_t (by kernel_rfl) (xskip (then_n (ks17 _ _ ?_))))))))
     obtain ⟨⟨y7_0, y7_1, y7_2, y7_3⟩, hj, h⟩ := of_bind h
     refine xseq_k fun KS19 ks19 => wp_join (N := fun a w => St w0 [] [.blk b2 (([.int .i64 0] : List Value) ++ enc .u64 (zeroA 25) ++ ([.int .i64 0, .bool false] : List Value)) 115, .blk b1 (([.int .i64 y7_0] : List Value) ++ enc .u64 y7_1 ++ ([.int .i64 y7_2, .bool y7_3] : List Value)) 115] [.rowL (CI .u8) a1_A a1_n a1_c a1, .rowL (CA .u64 24 (by decide)) (some ⟨0, 0, none⟩) 1 1 ([tab_0]), .rowL (CA .i64 24 (by decide)) (some ⟨1, 0, none⟩) 1 1 ([tab_1]), .rowL (CA .i64 24 (by decide)) (some ⟨2, 0, none⟩) 1 1 ([tab_2])] w ∧ ∃ g18 : Nat → Value, a = ⟨#[.agg (([.int .i64 a0_0] : List Value) ++ enc .u64 a0_1 ++ ([.int .i64 a0_2, .bool false] : List Value)).toArray, .slice a1_A a1_n a1_c, .pointer (some ⟨b1, 0, none⟩), undef, .pointer (some ⟨b2, 0, none⟩), .int .i64 r3, (g18 6), .pointer (some ⟨b1, 27, none⟩), .bool false, undef, .pointer (some ⟨b1, 0, none⟩), .int .i64 a0_0, .int .i64 r3, .slice a1_A a1_n a1_c, .int .i64 (a1.length : Int), .int .i64 z4, .bool true, (g18 17), (g18 18), (g18 19), (g18 20), (g18 21), (g18 22), (g18 23), (g18 24), (g18 25), (g18 26), (g18 27), (g18 28), (g18 29), (g18 30), (g18 31), (g18 32), (g18 33), (g18 34), (g18 35), (g18 36), (g18 37), (g13 38), undef], []⟩) (fun N nj => ?_) ?_
     ·clear h
      have h := hj
      refine xblock (xseq_k fun KS20 ks20 => (xregS [0, 1] fun KR21 kr21 => ?_))
      refine wpS.qs [(0, 17, .int .i64 z4), (1, 6, .int .i64 z4)] ?_
      refine wpS.fin rfl (kr21 _ _ (then_n (ks20 _ _ (xseq_k fun KS22 ks22 => ?_))))
      refine wp_regG [6] (fun k => True) 7 (by kernel_rfl) (by kernel_rfl) (by kernel_rfl) fun KR23 kr23 => ?_
      have hs := hs.drawn1
      refine wpG.q 0 18 (.pointer (some ⟨b1, 26, none⟩)) ?_
      refine wpG.tD 1 true (some 19) (.int .i64 z5_2) (yld_load1 (e := 3) (o := 26) hs 1 rfl (by kernel_rfl) (by kernel_rfl) (get_post 0 rfl rfl) .grow) ?_
      refine wpG.q 2 20 (.slice a1_A a1_n a1_c) ?_
      refine wpG.q 3 21 (.int .i64 z4) ?_
      obtain ⟨h0, h⟩ := of_chk h
      obtain ⟨h1, h⟩ := of_chk h
      have i0_24 := h0
      have i1_24 := h1
      refine wpG.tD 4 false (some 22) (.pointer (adr a1_A ((z4 : Int).toNat * Cod.size (CI .u8)))) (yld_idxL (C := (CI .u8)) (t := 24) (e := 5) (k := .i64) (x := z4) (hs.rowR 0 rfl) (by kernel_rfl) (by kernel_rfl) (by kernel_rfl) h0 h1) ?_
      refine wpG.tD 5 true (some 23) (.int .u8 (rdL (CI .u8) a1 z4)) (yld_loadL (C := (CI .u8)) (e := 5) (x := z4) (hs.rowR 0 rfl) (by kernel_rfl) rfl (by kernel_rfl) i0_24 i1_24) ?_
      obtain ⟨⟨r8_0, r8_1, r8_2, r8_3⟩, hg, h⟩ := of_bind h
      refine wpG.only 6 (by kernel_rfl) (op_callX (d := (some 24)) (by kernel_rfl) hs 1 rfl (fun _ => by kernel_rfl) (keccak_xor.ok hg _ (hs.blkAt 1 rfl)) ?_)
      intro w kp hs
      have hs := hs.conv (L' := [.blk b2 (([.int .i64 0] : List Value) ++ enc .u64 (zeroA 25) ++ ([.int .i64 0, .bool false] : List Value)) 115, .blk b1 (([.int .i64 r8_0] : List Value) ++ enc .u64 r8_1 ++ ([.int .i64 r8_2, .bool r8_3] : List Value)) 115]) rfl
      refine ⟨⟨fun hf => absurd hf (by decide), .all _ _⟩, ?_⟩
      refine wpG.fin (by kernel_rfl) rfl (kr23 _ _ ?_)
      refine then_n (ks22 _ _ (xseq_k fun KS25 ks25 => (xregS [0, 1, 2, 3, 4] fun KR26 kr26 => ?_)))
      refine wpS.q 0 25 (.pointer (some ⟨b1, 26, none⟩)) ?_
      refine wpS.tk 1 true (some 26) (.int .i64 r8_2) (yld_load1 (e := 3) (o := 26) hs 1 rfl (by kernel_rfl) (by kernel_rfl) (get_post 0 rfl rfl) .grow) ?_
      refine wpS.qs [(2, 27, .int .i64 (iadd .i64 r8_2 1)), (3, 28, .pointer (some ⟨b1, 26, none⟩))] ?_
      obtain ⟨x9, hx, h⟩ := of_bind h
      refine wpS.only 4 (op_storeQ (t := 3) (o := 26) (v := .int .i64 x9) (d := none) (by kernel_rfl) hs 1 rfl (by cases hx; kernel_rfl) rfl (by kernel_rfl) (by simp [enc_len]) (set_post 0 rfl) ?_)
      intro w kp hs
      try dsimp only [List.set] at hs
      refine ⟨fun _ => trivial, ?_⟩
      refine wpS.fin rfl (kr26 _ _ (then_n (ks25 _ _ (xseq_k fun KS27 ks27 => (xregS [0, 1, 2, 3] fun KR28 kr28 => ?_)))))
      refine wpS.q 0 29 (.pointer (some ⟨b1, 26, none⟩)) ?_
      refine wpS.tk 1 true (some 30) (.int .i64 x9) (yld_load1 (e := 3) (o := 26) hs 1 rfl (by kernel_rfl) (by kernel_rfl) (get_post 0 rfl rfl) .grow) ?_
      refine wpS.q 2 31 (.int .i64 r3) ?_
      rcases of_if h with ⟨hc, h⟩ | ⟨hc, h⟩
      ·refine wpS.tk 3 false (some 32) (.bool true) (yld_b (et hc) (fun _ => by kernel_rfl)) ?_
       refine wpS.fin rfl (kr28 _ _ (then_n (ks27 _ _ (wp_cond_t (by kernel_rfl) (xregS [0, 1, 2, 3, 4, 5, 6] fun KR29 kr29 => ?_)))))
       refine wpS.q 0 33 (.pointer (some ⟨b1, 1, none⟩)) ?_
       refine wpS.tk 1 true (some 34) (.agg (enc .u64 r8_1).toArray) (yld_loadN (e := 113) (n := 25) (o := 1) hs 1 rfl (by kernel_rfl) (by kernel_rfl) (by kernel_rfl) (mid_of rfl) (enc_len _ _) .grow) ?_
       obtain ⟨r10, hg, h⟩ := of_bind h
       refine wpS.only 2 (op_call (d := (some 35)) (by kernel_rfl) hs (fun _ => by kernel_rfl) (keccak_Permute.ok hg _ (hs.rowR 1 rfl) (hs.rowR 2 rfl) (hs.rowR 3 rfl)) ?_)
       intro w gw hs
       refine ⟨fun _ => trivial, ?_⟩
       refine wpS.q 3 36 (.pointer (some ⟨b1, 1, none⟩)) ?_
       refine wpS.only 4 (op_storeM (t := 113) (o := 1) (m := 25) (v := .agg (enc .u64 r10).toArray) (vs := enc .u64 r10) (d := none) (by kernel_rfl) hs 1 rfl (by kernel_rfl) (by kernel_rfl) (by kernel_rfl) (enc_len _ _) (by simp [enc_len]) (by intro u hu; exact enc_one _ _ u hu) (splice_row rfl) ?_)
       intro w kp hs
       refine ⟨fun _ => trivial, ?_⟩
       refine wpS.q 5 37 (.pointer (some ⟨b1, 26, none⟩)) ?_
       refine wpS.only 6 (op_storeQ (t := 3) (o := 26) (v := .int .i64 0) (d := none) (by kernel_rfl) hs 1 rfl (by kernel_rfl) rfl (by kernel_rfl) (by simp [enc_len]) (set_post 0 rfl) ?_)
       intro w kp hs
       try dsimp only [List.set] at hs
       refine ⟨fun _ => trivial, ?_⟩
       refine wpS.fin rfl (kr29 _ _ (inBlock_n ?_))
       obtain ⟨q0, qr0⟩ := Prod.mk.inj (of_some h)
       obtain ⟨q1, qr1⟩ := Prod.mk.inj (qr0)
       obtain ⟨q2, qr2⟩ := Prod.mk.inj (qr1)
       have q3 := qr2
       subst q0
       subst q1
       subst q2
       subst q3
       exact nj _ _ ⟨(hs.conv rfl), exg (by kernel_rfl)⟩
      refine wpS.tk 3 false (some 32) (.bool false) (yld_b (ef hc) (fun _ => by kernel_rfl)) ?_
      refine wpS.fin rfl (kr28 _ _ (then_n (ks27 _ _ (wp_cond_f (by kernel_rfl) (xskip (inBlock_n ?_))))))
      obtain ⟨q0, qr0⟩ := Prod.mk.inj (of_some h)
      obtain ⟨q1, qr1⟩ := Prod.mk.inj (qr0)
      obtain ⟨q2, qr2⟩ := Prod.mk.inj (qr1)
      have q3 := qr2
      subst q0
      subst q1
      subst q2
      subst q3
      exact nj _ _ ⟨(hs.conv rfl), exg (by kernel_rfl)⟩
     clear hj hs
     rintro a w ⟨hs, g18, rfl⟩
     refine then_n (ks19 _ _ (xregS [0, 1] fun KR30 kr30 => ?_))
     refine wpS.qs [(0, 38, .int .i64 (iadd .i64 z4 1)), (1, 15, .int .i64 (iadd .i64 z4 1))] ?_
     refine wpS.fin rfl (kr30 _ _ ?_)
     exact then_n (kl0 _ _ ⟨n, Nat.lt_succ_self n, (iadd .i64 z4 1), y7_0, y7_1, y7_2, y7_3, h, (hs.conv rfl), exg (by kernel_rfl)⟩)
    refine wpS.tk 0 false (some 16) (.bool false) (yld_b (df hc) (fun _ => by kernel_rfl)) ?_
    refine wpS.fin rfl (kr16 _ _ (then_n (ks15 _ _ (xseq_k fun KS31 ks31 => (wp_cond_f (by kernel_rfl) (xexit (then_x (then_x (inBlock_hit ?_)))))))))
    obtain ⟨q0, qr0⟩ := Prod.mk.inj (of_some h)
    obtain ⟨q1, qr1⟩ := Prod.mk.inj (qr0)
    obtain ⟨q2, qr2⟩ := Prod.mk.inj (qr1)
    have q3 := qr2
    subst q0
    subst q1
    subst q2
    subst q3
    exact exq_n (nn0 _ _ ⟨(hs.conv rfl), exg (by kernel_rfl)⟩)
  clear hs h hy
  rintro a w ⟨hs, g14, rfl⟩
  have h := hk0
  refine then_n (ks10 _ _ (xseq_k fun KS32 ks32 => (xregS [0, 1] fun KR33 kr33 => ?_)))
  refine wpS.tk 0 true (some 39) (.agg (([.int .i64 y6_0] : List Value) ++ enc .u64 y6_1 ++ ([.int .i64 y6_2, .bool y6_3] : List Value)).toArray) (yld_loadW (e := 115) (n := 28) hs 1 rfl (by kernel_rfl) (by kernel_rfl) (by kernel_rfl) (by simp [enc_len]) .grow) ?_
  refine wpS.only 1 (op_storeW (t := 115) (v := .agg (([.int .i64 y6_0] : List Value) ++ enc .u64 y6_1 ++ ([.int .i64 y6_2, .bool y6_3] : List Value)).toArray) (d := none) (by kernel_rfl) hs 0 rfl (vs := ([.int .i64 y6_0] : List Value) ++ enc .u64 y6_1 ++ ([.int .i64 y6_2, .bool y6_3] : List Value)) (n := 28) (by kernel_rfl) (by kernel_rfl) (by kernel_rfl) (by simp [enc_len]) (by simp [enc_len]) (one_app (one_app (by simp [Value.oneCell']) (fun u hu => enc_one _ _ u hu)) (by simp [Value.oneCell'])) ?_)
  intro w kp hs
  refine ⟨fun _ => trivial, ?_⟩
  refine wpS.fin rfl (kr33 _ _ (then_n (ks32 _ _ (xret ?_))))
  obtain ⟨q0, qr0⟩ := Prod.mk.inj (of_some h)
  obtain ⟨q1, qr1⟩ := Prod.mk.inj (qr0)
  obtain ⟨q2, qr2⟩ := Prod.mk.inj (qr1)
  have q3 := qr2
  subst q0
  subst q1
  subst q2
  subst q3
  exact qq _ _ (post_ret (by kernel_rfl) (run_results [.cell 4 115] [.agg (([.int .i64 y6_0] : List Value) ++ enc .u64 y6_1 ++ ([.int .i64 y6_2, .bool y6_3] : List Value)).toArray] (by kernel_rfl) (.cons (res_cellN (n := 28) hs 0 rfl (by kernel_rfl) (by kernel_rfl) (by kernel_rfl) (by simp [enc_len])) .nil)) ⟨congrArg Ending.returned (by kernel_rfl), hs.none⟩)

theorem keccak_turned.ok {K : Nat} {a0_0 : Int} {a0_1 : Arr 25} {a0_2 : Int} {a0_3 : Bool} {r0_0 : Int} {r0_1 : Arr 25} {r0_2 : Int} {r0_3 : Bool} (h : keccak_turned.f K a0_0 a0_1 a0_2 a0_3 = some (r0_0, r0_1, r0_2, r0_3)) (w0 : World) (hg0 : RowL (CA .u64 24 (by decide)) w0 (some ⟨0, 0, none⟩) 1 1 [tab_0]) (hg1 : RowL (CA .i64 24 (by decide)) w0 (some ⟨1, 0, none⟩) 1 1 [tab_1]) (hg2 : RowL (CA .i64 24 (by decide)) w0 (some ⟨2, 0, none⟩) 1 1 [tab_2]) : Ret Tryd.prog 103 #[.agg (([.int .i64 a0_0] : List Value) ++ enc .u64 a0_1 ++ ([.int .i64 a0_2, .bool a0_3] : List Value)).toArray] w0 (.agg (([.int .i64 r0_0] : List Value) ++ enc .u64 r0_1 ++ ([.int .i64 r0_2, .bool r0_3] : List Value)).toArray) := by
 refine calls_k Tryd.func103 rfl fun Q qq => ?_
 have hs := St.startR (all_cons (RowP.ent hg0) (all_cons (RowP.ent hg1) (all_cons (RowP.ent hg2) all_nil)))
 refine wp_conv (a' := ⟨#[.agg (([.int .i64 a0_0] : List Value) ++ enc .u64 a0_1 ++ ([.int .i64 a0_2, .bool a0_3] : List Value)).toArray, undef, undef, undef, undef, undef, undef, undef, undef, undef, undef, undef, undef, undef, undef, undef, undef, undef, undef, undef, undef, undef, undef, undef, undef, undef, undef, undef], []⟩) (by kernel_rfl) ?_
 refine xseq_k fun KS1 ks1 => ?_
 refine xregS [0, 1] fun KR2 kr2 => ?_
 refine wpS.only 0 (op_box (t := 115) (v := .agg (([.int .i64 a0_0] : List Value) ++ enc .u64 a0_1 ++ ([.int .i64 a0_2, .bool a0_3] : List Value)).toArray) (d := (some 1)) (by kernel_rfl) hs (([.int .i64 a0_0] : List Value) ++ enc .u64 a0_1 ++ ([.int .i64 a0_2, .bool a0_3] : List Value)) (by kernel_rfl) (by kernel_rfl) ?_)
 intro b1 w gw hs
 refine ⟨fun _ => trivial, ?_⟩
 refine wpS.only 1 (op_alloc (t := 115) (d := (some 2)) (by kernel_rfl) hs (([.int .i64 0] : List Value) ++ enc .u64 (zeroA 25) ++ ([.int .i64 0, .bool false] : List Value)) (.agg (([.int .i64 0] : List Value) ++ enc .u64 (zeroA 25) ++ ([.int .i64 0, .bool false] : List Value)).toArray) (by kernel_rfl) (by kernel_rfl) (by kernel_rfl) ?_)
 intro b2 w gw hs
 refine ⟨fun _ => trivial, ?_⟩
 refine wpS.fin rfl (kr2 _ _ (then_n (ks1 _ _ (xseq_k fun KS3 ks3 => (xregS [0] fun KR4 kr4 => ?_)))))
 refine wpS.q 0 3 (.int .u8 31) ?_
 refine wpS.fin rfl (kr4 _ _ (then_n (ks3 _ _ ?_)))
 obtain ⟨y3, hj, h⟩ := of_bind h
 refine xseq_k fun KS6 ks6 => wp_join (N := fun a w => St w0 [] [.blk b2 (([.int .i64 0] : List Value) ++ enc .u64 (zeroA 25) ++ ([.int .i64 0, .bool false] : List Value)) 115, .blk b1 (([.int .i64 a0_0] : List Value) ++ enc .u64 a0_1 ++ ([.int .i64 a0_2, .bool a0_3] : List Value)) 115] [.rowL (CA .u64 24 (by decide)) (some ⟨0, 0, none⟩) 1 1 ([tab_0]), .rowL (CA .i64 24 (by decide)) (some ⟨1, 0, none⟩) 1 1 ([tab_1]), .rowL (CA .i64 24 (by decide)) (some ⟨2, 0, none⟩) 1 1 ([tab_2])] w ∧ ∃ g5 : Nat → Value, a = ⟨#[.agg (([.int .i64 a0_0] : List Value) ++ enc .u64 a0_1 ++ ([.int .i64 a0_2, .bool a0_3] : List Value)).toArray, .pointer (some ⟨b1, 0, none⟩), .pointer (some ⟨b2, 0, none⟩), .int .u8 y3, (g5 4), (g5 5), (g5 6), (g5 7), (g5 8), (g5 9), (g5 10), (g5 11), undef, undef, undef, undef, undef, undef, undef, undef, undef, undef, undef, undef, undef, undef, undef, undef], []⟩) (fun N nj => ?_) ?_
 ·clear h
  have h := hj
  refine xseq_k fun KS7 ks7 => ?_
  refine xregS [0, 1, 2, 3, 4, 5, 6, 7] fun KR8 kr8 => ?_
  refine wpS.q 0 4 (.pointer (some ⟨b1, 0, none⟩)) ?_
  refine wpS.tk 1 true (some 5) (.int .i64 a0_0) (yld_load1 (e := 3) (o := 0) hs 1 rfl (by kernel_rfl) (by kernel_rfl) (get_pre rfl) .grow) ?_
  rcases of_if h with ⟨hc, h⟩ | ⟨hc, h⟩
  ·refine wpS.tk 2 false (some 6) (.bool true) (yld_b (et hc) (fun _ => by kernel_rfl)) ?_
   refine wpS.qs [(3, 7, .bool true), (4, 8, undef), (5, 9, undef), (6, 10, undef), (7, 11, .bool true)] ?_
   refine wpS.fin rfl (kr8 _ _ (then_n (ks7 _ _ (wp_cond_t (by kernel_rfl) (xregS [0] fun KR9 kr9 => ?_)))))
   refine wpS.q 0 3 (.int .u8 6) ?_
   refine wpS.fin rfl (kr9 _ _ ?_)
   have q0 := of_some h
   subst q0
   exact nj _ _ ⟨(hs.conv rfl), exg (by kernel_rfl)⟩
  refine wpS.tk 2 false (some 6) (.bool false) (yld_b (ef hc) (fun _ => by kernel_rfl)) ?_
  refine wpS.qs [(3, 7, .bool false), (4, 8, .pointer (some ⟨b1, 0, none⟩))] ?_
  refine wpS.tk 5 true (some 9) (.int .i64 a0_0) (yld_load1 (e := 3) (o := 0) hs 1 rfl (by kernel_rfl) (by kernel_rfl) (get_pre rfl) .grow) ?_
  rcases of_if h with ⟨hc, h⟩ | ⟨hc, h⟩
  ·refine wpS.tk 6 false (some 10) (.bool true) (yld_b (et hc) (fun _ => by kernel_rfl)) ?_
   refine wpS.q 7 11 (.bool true) ?_
   refine wpS.fin rfl (kr8 _ _ (then_n (ks7 _ _ (wp_cond_t (by kernel_rfl) (xregS [0] fun KR10 kr10 => ?_)))))
   refine wpS.q 0 3 (.int .u8 6) ?_
   refine wpS.fin rfl (kr10 _ _ ?_)
   have q0 := of_some h
   subst q0
   exact nj _ _ ⟨(hs.conv rfl), exg (by kernel_rfl)⟩
  refine wpS.tk 6 false (some 10) (.bool false) (yld_b (ef hc) (fun _ => by kernel_rfl)) ?_
  refine wpS.q 7 11 (.bool false) ?_
  refine wpS.fin rfl (kr8 _ _ (then_n (ks7 _ _ (wp_cond_f (by kernel_rfl) (xskip ?_)))))
  have q0 := of_some h
  subst q0
  exact nj _ _ ⟨(hs.conv rfl), exg (by kernel_rfl)⟩
 clear hj hs
 rintro a w ⟨hs, g5, rfl⟩
 refine then_n (ks6 _ _ (xseq_k fun KS11 ks11 => (xregS [0, 1, 2, 3] fun KR12 kr12 => ?_)))
 refine wpS.q 0 12 (.pointer (some ⟨b1, 26, none⟩)) ?_
 refine wpS.tk 1 true (some 13) (.int .i64 a0_2) (yld_load1 (e := 3) (o := 26) hs 1 rfl (by kernel_rfl) (by kernel_rfl) (get_post 0 rfl rfl) .grow) ?_
 refine wpS.q 2 14 (.int .u8 y3) ?_
 obtain ⟨⟨r4_0, r4_1, r4_2, r4_3⟩, hg, h⟩ := of_bind h
 refine wpS.only 3 (op_callX (d := (some 15)) (by kernel_rfl) hs 1 rfl (fun _ => by kernel_rfl) (keccak_xor.ok hg _ (hs.blkAt 1 rfl)) ?_)
 intro w kp hs
 have hs := hs.conv (L' := [.blk b2 (([.int .i64 0] : List Value) ++ enc .u64 (zeroA 25) ++ ([.int .i64 0, .bool false] : List Value)) 115, .blk b1 (([.int .i64 r4_0] : List Value) ++ enc .u64 r4_1 ++ ([.int .i64 r4_2, .bool r4_3] : List Value)) 115]) rfl
 refine ⟨fun _ => trivial, ?_⟩
 refine wpS.fin rfl (kr12 _ _ (then_n (ks11 _ _ (xseq_k fun KS13 ks13 => (xregS [0, 1, 2, 3, 4] fun KR14 kr14 => ?_)))))
 refine wpS.q 0 16 (.pointer (some ⟨b1, 0, none⟩)) ?_
 refine wpS.tk 1 true (some 17) (.int .i64 r4_0) (yld_load1 (e := 3) (o := 0) hs 1 rfl (by kernel_rfl) (by kernel_rfl) (get_pre rfl) .grow) ?_
 obtain ⟨r5, hg, h⟩ := of_bind h
 refine wpS.only 2 (op_call (d := (some 18)) (by kernel_rfl) hs (fun _ => by kernel_rfl) (keccak_rate.ok hg _) ?_)
 intro w gw hs
 refine ⟨fun _ => trivial, ?_⟩
 refine wpS.q 3 19 (.int .i64 (isub .i64 r5 1)) ?_
 obtain ⟨⟨r6_0, r6_1, r6_2, r6_3⟩, hg, h⟩ := of_bind h
 refine wpS.only 4 (op_callX (d := (some 20)) (by kernel_rfl) hs 1 rfl (fun _ => by kernel_rfl) (keccak_xor.ok hg _ (hs.blkAt 1 rfl)) ?_)
 intro w kp hs
 have hs := hs.conv (L' := [.blk b2 (([.int .i64 0] : List Value) ++ enc .u64 (zeroA 25) ++ ([.int .i64 0, .bool false] : List Value)) 115, .blk b1 (([.int .i64 r6_0] : List Value) ++ enc .u64 r6_1 ++ ([.int .i64 r6_2, .bool r6_3] : List Value)) 115]) rfl
 refine ⟨fun _ => trivial, ?_⟩
 refine wpS.fin rfl (kr14 _ _ (then_n (ks13 _ _ (xseq_k fun KS15 ks15 => (xregS [0, 1, 2, 3, 4, 5, 6, 7, 8] fun KR16 kr16 => ?_)))))
 refine wpS.q 0 21 (.pointer (some ⟨b1, 1, none⟩)) ?_
 refine wpS.tk 1 true (some 22) (.agg (enc .u64 r6_1).toArray) (yld_loadN (e := 113) (n := 25) (o := 1) hs 1 rfl (by kernel_rfl) (by kernel_rfl) (by kernel_rfl) (mid_of rfl) (enc_len _ _) .grow) ?_
 obtain ⟨r7, hg, h⟩ := of_bind h
 refine wpS.only 2 (op_call (d := (some 23)) (by kernel_rfl) hs (fun _ => by kernel_rfl) (keccak_Permute.ok hg _ (hs.rowR 0 rfl) (hs.rowR 1 rfl) (hs.rowR 2 rfl)) ?_)
 intro w gw hs
 refine ⟨fun _ => trivial, ?_⟩
 refine wpS.q 3 24 (.pointer (some ⟨b1, 1, none⟩)) ?_
 refine wpS.only 4 (op_storeM (t := 113) (o := 1) (m := 25) (v := .agg (enc .u64 r7).toArray) (vs := enc .u64 r7) (d := none) (by kernel_rfl) hs 1 rfl (by kernel_rfl) (by kernel_rfl) (by kernel_rfl) (enc_len _ _) (by simp [enc_len]) (by intro u hu; exact enc_one _ _ u hu) (splice_row rfl) ?_)
 intro w kp hs
 refine ⟨fun _ => trivial, ?_⟩
 refine wpS.q 5 25 (.pointer (some ⟨b1, 26, none⟩)) ?_
 refine wpS.only 6 (op_storeQ (t := 3) (o := 26) (v := .int .i64 0) (d := none) (by kernel_rfl) hs 1 rfl (by kernel_rfl) rfl (by kernel_rfl) (by simp [enc_len]) (set_post 0 rfl) ?_)
 intro w kp hs
 try dsimp only [List.set] at hs
 refine ⟨fun _ => trivial, ?_⟩
 refine wpS.q 7 26 (.pointer (some ⟨b1, 27, none⟩)) ?_
 refine wpS.only 8 (op_storeQ (t := 4) (o := 27) (v := .bool true) (d := none) (by kernel_rfl) hs 1 rfl (by kernel_rfl) rfl (by kernel_rfl) (by simp [enc_len]) (set_post 1 rfl) ?_)
 intro w kp hs
 try dsimp only [List.set] at hs
 refine ⟨fun _ => trivial, ?_⟩
 refine wpS.fin rfl (kr16 _ _ (then_n (ks15 _ _ (xseq_k fun KS17 ks17 => (xregS [0, 1] fun KR18 kr18 => ?_)))))
 refine wpS.tk 0 true (some 27) (.agg (([.int .i64 r6_0] : List Value) ++ enc .u64 r7 ++ ([.int .i64 0, .bool true] : List Value)).toArray) (yld_loadW (e := 115) (n := 28) hs 1 rfl (by kernel_rfl) (by kernel_rfl) (by kernel_rfl) (by simp [enc_len]) .grow) ?_
 refine wpS.only 1 (op_storeW (t := 115) (v := .agg (([.int .i64 r6_0] : List Value) ++ enc .u64 r7 ++ ([.int .i64 0, .bool true] : List Value)).toArray) (d := none) (by kernel_rfl) hs 0 rfl (vs := ([.int .i64 r6_0] : List Value) ++ enc .u64 r7 ++ ([.int .i64 0, .bool true] : List Value)) (n := 28) (by kernel_rfl) (by kernel_rfl) (by kernel_rfl) (by simp [enc_len]) (by simp [enc_len]) (one_app (one_app (by simp [Value.oneCell']) (fun u hu => enc_one _ _ u hu)) (by simp [Value.oneCell'])) ?_)
 intro w kp hs
 refine ⟨fun _ => trivial, ?_⟩
 refine wpS.fin rfl (kr18 _ _ (then_n (ks17 _ _ (xret ?_))))
 obtain ⟨q0, qr0⟩ := Prod.mk.inj (of_some h)
 obtain ⟨q1, qr1⟩ := Prod.mk.inj (qr0)
 obtain ⟨q2, qr2⟩ := Prod.mk.inj (qr1)
 have q3 := qr2
 subst q0
 subst q1
 subst q2
 subst q3
 exact qq _ _ (post_ret (by kernel_rfl) (run_results [.cell 2 115] [.agg (([.int .i64 r6_0] : List Value) ++ enc .u64 r7 ++ ([.int .i64 0, .bool true] : List Value)).toArray] (by kernel_rfl) (.cons (res_cellN (n := 28) hs 0 rfl (by kernel_rfl) (by kernel_rfl) (by kernel_rfl) (by simp [enc_len])) .nil)) ⟨congrArg Ending.returned (by kernel_rfl), hs.none⟩)
end Go.Proofs.YtemdbgmldljbpaaDoor
