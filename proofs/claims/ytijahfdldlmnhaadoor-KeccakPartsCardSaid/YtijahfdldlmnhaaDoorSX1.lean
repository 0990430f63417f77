/- Printed by this work's own program: the code of each function below comes to the answer that its plain form tells. -/
import Derived.Test.YtijahfdldlmnhaaDoorMr
import Derived.Test.YtijahfdldlmnhaaDoorProg
import Derived.Test.YtijahfdldlmnhaaDoorSF0
import Derived.Test.YtijahfdldlmnhaaDoorSX0
set_option linter.unusedVariables false
set_option linter.unusedSimpArgs false
set_option maxRecDepth 100000
set_option maxHeartbeats 4000000
namespace Go.Proofs.YtijahfdldlmnhaaDoor
open Go.Mx
attribute [local irreducible] wpOp

theorem keccak_round.ok {K : Nat} {a0 : Arr 25} {a1 : Int} {rp : Arr 25} {p0 : Nat} (h : keccak_round.f K a0 a1 = some rp) (w0 : World) (hg1 : RowL (CA .i64 24 (by decide)) w0 (some ⟨1, 0, none⟩) 1 1 [tab_1]) (hg2 : RowL (CA .i64 24 (by decide)) w0 (some ⟨2, 0, none⟩) 1 1 [tab_2]) (hb : w0.heap[p0]? = some (.cells (enc .u64 a0).toArray 23 (0, 0))) (fhg1 : ¬ (Ent.rowL (CA .i64 24 (by decide)) (some ⟨1, 0, none⟩) 1 1 ([tab_1])).foot p0) (fhg2 : ¬ (Ent.rowL (CA .i64 24 (by decide)) (some ⟨2, 0, none⟩) 1 1 ([tab_2])).foot p0) : Calls Tryd.prog 27 #[.pointer (some ⟨p0, 0, none⟩), .int .u64 a1] w0 fun e w' => e = .returned (.tuple #[]) ∧ St w0 [p0] [.blk p0 (enc .u64 rp) 23] [] w' := by
  refine calls_kn Tryd.func27 rfl fun Q qq qn => ?_
  have hs := St.startX hb (allX_cons (RowP.ent hg1) fhg1 (allX_cons (RowP.ent hg2) fhg2 allX_nil))
  refine wp_conv (a' := ⟨#[.pointer (some ⟨p0, 0, none⟩), .int .u64 a1, undef, undef, undef, undef, undef, undef, undef, undef, undef, undef, undef, undef, undef, undef, undef, undef, undef, undef, undef, undef, undef, undef, undef, undef, undef, undef, undef, undef, undef, undef, undef, undef, undef, undef, undef, undef, undef, undef, undef, undef, undef, undef, undef, undef, undef, undef, undef, undef, undef, undef, undef, undef, undef, undef, undef, undef, undef, undef, undef, undef, undef, undef, undef, undef, undef, undef, undef, undef, undef, undef, undef, undef, undef, undef, undef, undef, undef, undef, undef, undef, undef, undef, undef, undef, undef, undef, undef, undef, undef, undef, undef, undef, undef, undef, undef, undef, undef, undef, undef, undef, undef, undef, undef, undef, undef, undef, undef, undef, undef, undef, undef, undef, undef, undef], []⟩) (by kernel_rfl) ?_
  refine wp_seq_k fun KS501 ks501 => ?_
  refine wp_regS (l := [0, 1, 2, 3]) (by kernel_rfl) fun KR kr => ?_
  refine wpS.take 0 false (some 14) (.pointer (some ⟨p0, 0, none⟩)) (by kernel_rfl) (yld fun _ => by kernel_rfl) ?_
  obtain ⟨r1, hg, h⟩ := of_bind h
  refine wpS.only 1 (op_callX (d := (some 15)) (by kernel_rfl) hs 0 rfl (fun _ => by kernel_rfl) (keccak_columns.ok hg _ (hs.blkAt 0 rfl)) ?_)
  intro w kp hs
  have hs := hs.conv (L' := [.blk p0 (enc .u64 a0) 23]) rfl
  refine ⟨fun _ => trivial, ?_⟩
  refine wpS.only 2 (op_alloc (t := 58) (d := (some 4)) (by kernel_rfl) hs (enc .u64 (zeroA 5)) (.agg (enc .u64 (zeroA 5)).toArray) (by kernel_rfl) (by kernel_rfl) (by kernel_rfl) ?_)
  intro b2 w gw hs
  refine ⟨fun _ => trivial, ?_⟩
  refine wpS.only 3 (op_storeW (t := 58) (v := .agg (enc .u64 r1).toArray) (d := none) (by kernel_rfl) hs 0 rfl (vs := enc .u64 r1) (n := 5) (by kernel_rfl) (by kernel_rfl) (by kernel_rfl) (by simp [enc_len]) (by simp [enc_len]) (by intro u hu; exact enc_one _ _ u hu) ?_)
  intro w kp hs
  refine ⟨fun _ => trivial, ?_⟩
  refine wpS.fin rfl (kr _ _ ?_)
  refine then_n (ks501 _ _ ?_)
  refine wp_seq_k fun KS595 ks595 => ?_
  refine wp_seq_k fun KS596 ks596 => ?_
  refine wp_regS (l := [0]) (by kernel_rfl) fun KR kr => ?_
  refine wpS.take 0 false (some 16) (.int .i64 0) (by kernel_rfl) (yld fun _ => by kernel_rfl) ?_
  refine wpS.fin rfl (kr _ _ ?_)
  refine then_n (ks596 _ _ ?_)
  obtain ⟨y5, hy, hk0⟩ := of_bind h
  refine wp_exq (N := fun a w => St w0 [p0] [.blk b2 (enc .u64 r1) 58, .blk p0 (enc .u64 y5) 23] [.rowL (CA .i64 24 (by decide)) (some ⟨1, 0, none⟩) 1 1 ([tab_1]), .rowL (CA .i64 24 (by decide)) (some ⟨2, 0, none⟩) 1 1 ([tab_2])] w ∧ ∃ g : Nat → Value, a = ⟨#[.pointer (some ⟨p0, 0, none⟩), .int .u64 a1, undef, undef, .pointer (some ⟨b2, 0, none⟩), (g 5), (g 6), (g 7), undef, undef, undef, undef, undef, undef, .pointer (some ⟨p0, 0, none⟩), .agg (enc .u64 r1).toArray, (g 16), (g 17), (g 18), (g 19), (g 20), (g 21), (g 22), (g 23), (g 24), (g 25), (g 26), (g 27), (g 28), (g 29), (g 30), (g 31), (g 32), (g 33), (g 34), (g 35), (g 36), (g 37), (g 38), (g 39), (g 40), (g 41), (g 42), (g 43), (g 44), (g 45), (g 46), undef, undef, undef, undef, undef, undef, undef, undef, undef, undef, undef, undef, undef, undef, undef, undef, undef, undef, undef, undef, undef, undef, undef, undef, undef, undef, undef, undef, undef, undef, undef, undef, undef, undef, undef, undef, undef, undef, undef, undef, undef, undef, undef, undef, undef, undef, undef, undef, undef, undef, undef, undef, undef, undef, undef, undef, undef, undef, undef, undef, undef, undef, undef, undef, undef, undef, undef, undef, undef], []⟩) (fun N0 nn0 => ?_) ?_
  · clear hk0
    refine wp_block ?_
    refine wp_loop_k (fun n a w => ∃ z3 z4, keccak_round.l0 K n r1 z3 z4 = some y5 ∧ St w0 [p0] [.blk b2 (enc .u64 r1) 58, .blk p0 (enc .u64 z4) 23] [.rowL (CA .i64 24 (by decide)) (some ⟨1, 0, none⟩) 1 1 ([tab_1]), .rowL (CA .i64 24 (by decide)) (some ⟨2, 0, none⟩) 1 1 ([tab_2])] w ∧ ∃ g : Nat → Value, a = ⟨#[.pointer (some ⟨p0, 0, none⟩), .int .u64 a1, undef, undef, .pointer (some ⟨b2, 0, none⟩), (g 5), (g 6), (g 7), undef, undef, undef, undef, undef, undef, .pointer (some ⟨p0, 0, none⟩), .agg (enc .u64 r1).toArray, .int .i64 z3, (g 17), (g 18), (g 19), (g 20), (g 21), (g 22), (g 23), (g 24), (g 25), (g 26), (g 27), (g 28), (g 29), (g 30), (g 31), (g 32), (g 33), (g 34), (g 35), (g 36), (g 37), (g 38), (g 39), (g 40), (g 41), (g 42), (g 43), (g 44), (g 45), (g 46), undef, undef, undef, undef, undef, undef, undef, undef, undef, undef, undef, undef, undef, undef, undef, undef, undef, undef, undef, undef, undef, undef, undef, undef, undef, undef, undef, undef, undef, undef, undef, undef, undef, undef, undef, undef, undef, undef, undef, undef, undef, undef, undef, undef, undef, undef, undef, undef, undef, undef, undef, undef, undef, undef, undef, undef, undef, undef, undef, undef, undef, undef, undef, undef, undef, undef, undef, undef, undef], []⟩) K ⟨0, a0, hy, hs.conv rfl, exg (by kernel_rfl)⟩ ?_
    clear hs h hy
    rintro n a w ⟨z3, z4, h, hs, g, rfl⟩ KL0 kl0
    cases n with
    | zero => exact nomatch (show none = some _ from h)
    | succ n =>
      refine wp_seq_k fun KS643 ks643 => ?_
      refine wp_regS (l := [0]) (by kernel_rfl) fun KR kr => ?_
      rcases of_if h with ⟨hc, h⟩ | ⟨hc, h⟩
      · refine wpS.take 0 false (some 17) (.bool true) (by kernel_rfl) (yld_b (dt hc) (fun _ => by kernel_rfl)) ?_
        refine wpS.fin rfl (kr _ _ ?_)
        refine then_n (ks643 _ _ ?_)
        refine wp_seq_k fun KS644 ks644 => ?_
        refine wp_cond_t (by kernel_rfl) ?_
        refine wp_skip ?_
        refine then_n (ks644 _ _ ?_)
        refine wp_seq_k fun KS666 ks666 => ?_
        refine wp_block ?_
        refine wp_seq_k fun KS667 ks667 => ?_
        refine wp_regS (l := [0, 1]) (by kernel_rfl) fun KR kr => ?_
        refine wpS.take 0 false (some 18) (.int .i64 z3) (by kernel_rfl) (yld fun _ => by kernel_rfl) ?_
        refine wpS.take 1 false (some 5) (.int .i64 z3) (by kernel_rfl) (yld fun _ => by kernel_rfl) ?_
        refine wpS.fin rfl (kr _ _ ?_)
        refine then_n (ks667 _ _ ?_)
        refine wp_seq_k fun KS668 ks668 => ?_
        refine wp_regG [] (fun k => True) 13 (by kernel_rfl) (by kernel_rfl) fun KR kr => ?_
        have hs := hs.drawn1
        refine wpG.takeD 0 false (some 19) (.int .i64 z3) (by kernel_rfl) (by kernel_rfl) (yld fun _ => by kernel_rfl) ?_
        refine wpG.takeD 1 false (some 20) (.int .i64 (iadd .i64 z3 4)) (by kernel_rfl) (by kernel_rfl) (yld fun _ => by kernel_rfl) ?_
        refine wpG.takeD 2 false (some 21) (.int .i64 (irem .i64 (iadd .i64 z3 4) 5)) (by kernel_rfl) (by kernel_rfl) (yld fun _ => by kernel_rfl) ?_
        obtain ⟨x6, hx, h⟩ := of_bind h
        have hx := of_some hx
        subst hx
        obtain ⟨i0_669, h⟩ := of_chk h
        obtain ⟨i1_669, h⟩ := of_chk h
        refine wpG.takeD 3 false (some 22) (.pointer (some ⟨b2, 0 + ((irem .i64 (iadd .i64 z3 4) 5) : Int).toNat * 1, none⟩)) (by kernel_rfl) (by kernel_rfl) (yld_idx (t := 58) (e := 22) (n := 5) (sz := 1) (k := .i64) (x := (irem .i64 (iadd .i64 z3 4) 5)) (by kernel_rfl) (by kernel_rfl) (by kernel_rfl) i0_669 i1_669) ?_
        refine wpG.takeD 4 true (some 23) (.int .u64 (rd r1 (irem .i64 (iadd .i64 z3 4) 5))) (by kernel_rfl) (by kernel_rfl) (yld_loadA (e := 22) (x := (irem .i64 (iadd .i64 z3 4) 5)) hs 0 rfl (by kernel_rfl) (by kernel_rfl) i0_669 i1_669 .grow) ?_
        refine wpG.takeD 5 false (some 24) (.int .i64 z3) (by kernel_rfl) (by kernel_rfl) (yld fun _ => by kernel_rfl) ?_
        refine wpG.takeD 6 false (some 25) (.int .i64 (iadd .i64 z3 1)) (by kernel_rfl) (by kernel_rfl) (yld fun _ => by kernel_rfl) ?_
        refine wpG.takeD 7 false (some 26) (.int .i64 (irem .i64 (iadd .i64 z3 1) 5)) (by kernel_rfl) (by kernel_rfl) (yld fun _ => by kernel_rfl) ?_
        obtain ⟨x7, hx, h⟩ := of_bind h
        have hx := of_some hx
        subst hx
        obtain ⟨i0_670, h⟩ := of_chk h
        obtain ⟨i1_670, h⟩ := of_chk h
        refine wpG.takeD 8 false (some 27) (.pointer (some ⟨b2, 0 + ((irem .i64 (iadd .i64 z3 1) 5) : Int).toNat * 1, none⟩)) (by kernel_rfl) (by kernel_rfl) (yld_idx (t := 58) (e := 22) (n := 5) (sz := 1) (k := .i64) (x := (irem .i64 (iadd .i64 z3 1) 5)) (by kernel_rfl) (by kernel_rfl) (by kernel_rfl) i0_670 i1_670) ?_
        refine wpG.takeD 9 true (some 28) (.int .u64 (rd r1 (irem .i64 (iadd .i64 z3 1) 5))) (by kernel_rfl) (by kernel_rfl) (yld_loadA (e := 22) (x := (irem .i64 (iadd .i64 z3 1) 5)) hs 0 rfl (by kernel_rfl) (by kernel_rfl) i0_670 i1_670 .grow) ?_
        obtain ⟨r8, hg, h⟩ := of_bind h
        refine wpG.only 10 (by kernel_rfl) (op_call (d := (some 29)) (by kernel_rfl) hs (fun _ => by kernel_rfl) (math_bits_RotateLeft64.ok hg _) ?_)
        intro w gw hs
        refine ⟨.of gw, ?_⟩
        refine wpG.takeD 11 false (some 30) (.int .u64 (ixor .u64 (rd r1 (irem .i64 (iadd .i64 z3 4) 5)) r8)) (by kernel_rfl) (by kernel_rfl) (yld fun _ => by kernel_rfl) ?_
        obtain ⟨x9, hx, h⟩ := of_bind h
        refine wpG.takeD 12 false (some 6) (.int .u64 x9) (by kernel_rfl) (by kernel_rfl) (yld_int hx (fun _ => by kernel_rfl)) ?_
        refine wpG.fin (by kernel_rfl) rfl (kr _ _ ?_)
        refine then_n (ks668 _ _ ?_)
        refine wp_seq_k fun KS671 ks671 => ?_
        refine wp_regS (l := [0]) (by kernel_rfl) fun KR kr => ?_
        refine wpS.take 0 false (some 7) (.int .i64 0) (by kernel_rfl) (yld fun _ => by kernel_rfl) ?_
        refine wpS.fin rfl (kr _ _ ?_)
        refine then_n (ks671 _ _ ?_)
        obtain ⟨y12, hy, hk1⟩ := of_bind h
        refine wp_exq (N := fun a w => St w0 [p0] [.blk b2 (enc .u64 r1) 58, .blk p0 (enc .u64 y12) 23] [.rowL (CA .i64 24 (by decide)) (some ⟨1, 0, none⟩) 1 1 ([tab_1]), .rowL (CA .i64 24 (by decide)) (some ⟨2, 0, none⟩) 1 1 ([tab_2])] w ∧ ∃ g : Nat → Value, a = ⟨#[.pointer (some ⟨p0, 0, none⟩), .int .u64 a1, undef, undef, .pointer (some ⟨b2, 0, none⟩), .int .i64 z3, .int .u64 x9, (g 7), undef, undef, undef, undef, undef, undef, .pointer (some ⟨p0, 0, none⟩), .agg (enc .u64 r1).toArray, .int .i64 z3, .bool true, .int .i64 z3, .int .i64 z3, .int .i64 (iadd .i64 z3 4), .int .i64 (irem .i64 (iadd .i64 z3 4) 5), .pointer (some ⟨b2, 0 + ((irem .i64 (iadd .i64 z3 4) 5) : Int).toNat * 1, none⟩), .int .u64 (rd r1 (irem .i64 (iadd .i64 z3 4) 5)), .int .i64 z3, .int .i64 (iadd .i64 z3 1), .int .i64 (irem .i64 (iadd .i64 z3 1) 5), .pointer (some ⟨b2, 0 + ((irem .i64 (iadd .i64 z3 1) 5) : Int).toNat * 1, none⟩), .int .u64 (rd r1 (irem .i64 (iadd .i64 z3 1) 5)), .int .u64 r8, .int .u64 (ixor .u64 (rd r1 (irem .i64 (iadd .i64 z3 4) 5)) r8), (g 31), (g 32), (g 33), (g 34), (g 35), (g 36), (g 37), (g 38), (g 39), (g 40), (g 41), (g 42), (g 43), (g 44), (g 45), (g 46), undef, undef, undef, undef, undef, undef, undef, undef, undef, undef, undef, undef, undef, undef, undef, undef, undef, undef, undef, undef, undef, undef, undef, undef, undef, undef, undef, undef, undef, undef, undef, undef, undef, undef, undef, undef, undef, undef, undef, undef, undef, undef, undef, undef, undef, undef, undef, undef, undef, undef, undef, undef, undef, undef, undef, undef, undef, undef, undef, undef, undef, undef, undef, undef, undef, undef, undef, undef, undef], []⟩) (fun N1 nn1 => ?_) ?_
        · clear hk1
          refine wp_block ?_
          refine wp_loop_k (fun n a w => ∃ z10 z11, keccak_round.l1 K n z3 x9 z10 z11 = some y12 ∧ St w0 [p0] [.blk b2 (enc .u64 r1) 58, .blk p0 (enc .u64 z11) 23] [.rowL (CA .i64 24 (by decide)) (some ⟨1, 0, none⟩) 1 1 ([tab_1]), .rowL (CA .i64 24 (by decide)) (some ⟨2, 0, none⟩) 1 1 ([tab_2])] w ∧ ∃ g : Nat → Value, a = ⟨#[.pointer (some ⟨p0, 0, none⟩), .int .u64 a1, undef, undef, .pointer (some ⟨b2, 0, none⟩), .int .i64 z3, .int .u64 x9, .int .i64 z10, undef, undef, undef, undef, undef, undef, .pointer (some ⟨p0, 0, none⟩), .agg (enc .u64 r1).toArray, .int .i64 z3, .bool true, .int .i64 z3, .int .i64 z3, .int .i64 (iadd .i64 z3 4), .int .i64 (irem .i64 (iadd .i64 z3 4) 5), .pointer (some ⟨b2, 0 + ((irem .i64 (iadd .i64 z3 4) 5) : Int).toNat * 1, none⟩), .int .u64 (rd r1 (irem .i64 (iadd .i64 z3 4) 5)), .int .i64 z3, .int .i64 (iadd .i64 z3 1), .int .i64 (irem .i64 (iadd .i64 z3 1) 5), .pointer (some ⟨b2, 0 + ((irem .i64 (iadd .i64 z3 1) 5) : Int).toNat * 1, none⟩), .int .u64 (rd r1 (irem .i64 (iadd .i64 z3 1) 5)), .int .u64 r8, .int .u64 (ixor .u64 (rd r1 (irem .i64 (iadd .i64 z3 4) 5)) r8), (g 31), (g 32), (g 33), (g 34), (g 35), (g 36), (g 37), (g 38), (g 39), (g 40), (g 41), (g 42), (g 43), (g 44), (g 45), (g 46), undef, undef, undef, undef, undef, undef, undef, undef, undef, undef, undef, undef, undef, undef, undef, undef, undef, undef, undef, undef, undef, undef, undef, undef, undef, undef, undef, undef, undef, undef, undef, undef, undef, undef, undef, undef, undef, undef, undef, undef, undef, undef, undef, undef, undef, undef, undef, undef, undef, undef, undef, undef, undef, undef, undef, undef, undef, undef, undef, undef, undef, undef, undef, undef, undef, undef, undef, undef, undef], []⟩) K ⟨0, z4, hy, hs.conv rfl, exg (by kernel_rfl)⟩ ?_
          clear hs h hy
          rintro n a w ⟨z10, z11, h, hs, g, rfl⟩ KL1 kl1
          cases n with
          | zero => exact nomatch (show none = some _ from h)
          | succ n =>
            refine wp_seq_k fun KS681 ks681 => ?_
            refine wp_seq_k fun KS682 ks682 => ?_
            refine wp_regS (l := [0, 1]) (by kernel_rfl) fun KR kr => ?_
            refine wpS.take 0 false (some 31) (.int .i64 z10) (by kernel_rfl) (yld fun _ => by kernel_rfl) ?_
            rcases of_if h with ⟨hc, h⟩ | ⟨hc, h⟩
            · refine wpS.take 1 false (some 32) (.bool true) (by kernel_rfl) (yld_b (dt hc) (fun _ => by kernel_rfl)) ?_
              refine wpS.fin rfl (kr _ _ ?_)
              refine then_n (ks682 _ _ ?_)
              refine wp_cond_t (by kernel_rfl) ?_
              refine wp_skip ?_
              refine then_n (ks681 _ _ ?_)
              refine wp_seq_k fun KS683 ks683 => ?_
              refine wp_block ?_
              refine wp_regG [11] (fun k => k = p0) 12 (by kernel_rfl) (by kernel_rfl) fun KR kr => ?_
              have hs := hs.drawn1
              refine wpG.takeD 0 false (some 35) (.pointer (some ⟨p0, 0, none⟩)) (by kernel_rfl) (by kernel_rfl) (yld fun _ => by kernel_rfl) ?_
              refine wpG.takeD 1 false (some 36) (.int .i64 z3) (by kernel_rfl) (by kernel_rfl) (yld fun _ => by kernel_rfl) ?_
              refine wpG.takeD 2 false (some 37) (.int .i64 z10) (by kernel_rfl) (by kernel_rfl) (yld fun _ => by kernel_rfl) ?_
              refine wpG.takeD 3 false (some 38) (.int .i64 (iadd .i64 z3 z10)) (by kernel_rfl) (by kernel_rfl) (yld fun _ => by kernel_rfl) ?_
              refine wpG.takeD 4 false (some 39) (.pointer (some ⟨p0, 0, none⟩)) (by kernel_rfl) (by kernel_rfl) (yld fun _ => by kernel_rfl) ?_
              obtain ⟨x13, hx, h⟩ := of_bind h
              have hx := of_some hx
              subst hx
              obtain ⟨i0_686, h⟩ := of_chk h
              obtain ⟨i1_686, h⟩ := of_chk h
              refine wpG.takeD 5 false (some 40) (.pointer (some ⟨p0, 0 + ((iadd .i64 z3 z10) : Int).toNat * 1, none⟩)) (by kernel_rfl) (by kernel_rfl) (yld_idx (t := 23) (e := 22) (n := 25) (sz := 1) (k := .i64) (x := (iadd .i64 z3 z10)) (by kernel_rfl) (by kernel_rfl) (by kernel_rfl) i0_686 i1_686) ?_
              refine wpG.takeD 6 true (some 41) (.int .u64 (rd z11 (iadd .i64 z3 z10))) (by kernel_rfl) (by kernel_rfl) (yld_loadA (e := 22) (x := (iadd .i64 z3 z10)) hs 1 rfl (by kernel_rfl) (by kernel_rfl) i0_686 i1_686 .grow) ?_
              refine wpG.takeD 7 false (some 42) (.int .u64 x9) (by kernel_rfl) (by kernel_rfl) (yld fun _ => by kernel_rfl) ?_
              refine wpG.takeD 8 false (some 43) (.int .u64 (ixor .u64 (rd z11 (iadd .i64 z3 z10)) x9)) (by kernel_rfl) (by kernel_rfl) (yld fun _ => by kernel_rfl) ?_
              refine wpG.takeD 9 false (some 44) (.pointer (some ⟨p0, 0, none⟩)) (by kernel_rfl) (by kernel_rfl) (yld fun _ => by kernel_rfl) ?_
              obtain ⟨x14, hx, h⟩ := of_bind h
              have hx := of_some hx
              subst hx
              obtain ⟨i0_687, h⟩ := of_chk h
              obtain ⟨i1_687, h⟩ := of_chk h
              refine wpG.takeD 10 false (some 45) (.pointer (some ⟨p0, 0 + ((iadd .i64 z3 z10) : Int).toNat * 1, none⟩)) (by kernel_rfl) (by kernel_rfl) (yld_idx (t := 23) (e := 22) (n := 25) (sz := 1) (k := .i64) (x := (iadd .i64 z3 z10)) (by kernel_rfl) (by kernel_rfl) (by kernel_rfl) i0_687 i1_687) ?_
              obtain ⟨x15, hx, h⟩ := of_bind h
              refine wpG.only 11 (by kernel_rfl) (op_storeA (t := 22) (x := (iadd .i64 z3 z10)) (v := x15) (d := none) (by kernel_rfl) hs 1 rfl (by cases hx; kernel_rfl) (by kernel_rfl) i0_687 i1_687 ?_)
              intro w kp hs
              refine ⟨⟨fun hf => absurd hf (by decide), kp.mono fun _ h => h⟩, ?_⟩
              refine wpG.fin (by kernel_rfl) rfl (kr _ _ ?_)
              refine inBlock_n ?_
              refine then_n (ks683 _ _ ?_)
              refine wp_regS (l := [0, 1, 2]) (by kernel_rfl) fun KR kr => ?_
              refine wpS.take 0 false (some 33) (.int .i64 z10) (by kernel_rfl) (yld fun _ => by kernel_rfl) ?_
              refine wpS.take 1 false (some 34) (.int .i64 (iadd .i64 z10 5)) (by kernel_rfl) (yld fun _ => by kernel_rfl) ?_
              obtain ⟨x16, hx, h⟩ := of_bind h
              refine wpS.take 2 false (some 7) (.int .i64 x16) (by kernel_rfl) (yld_int hx (fun _ => by kernel_rfl)) ?_
              refine wpS.fin rfl (kr _ _ ?_)
              exact then_n (kl1 _ _ ⟨n, Nat.lt_succ_self n, x16, (wr z11 (iadd .i64 z3 z10) x15), h, (hs.conv rfl), exg (by kernel_rfl)⟩)
            · refine wpS.take 1 false (some 32) (.bool false) (by kernel_rfl) (yld_b (df hc) (fun _ => by kernel_rfl)) ?_
              refine wpS.fin rfl (kr _ _ ?_)
              refine then_n (ks682 _ _ ?_)
              refine wp_cond_f (by kernel_rfl) ?_
              refine wp_exit ?_
              refine then_x ?_
              refine then_x ?_
              refine inBlock_hit ?_
              have q0 := of_some h
              subst q0
              exact exq_n (nn1 _ _ ⟨(hs.conv rfl), exg (by kernel_rfl)⟩)
        · clear hs h hy
          rintro a w ⟨hs, g, rfl⟩
          have h := hk1
          refine inBlock_n ?_
          refine then_n (ks666 _ _ ?_)
          refine wp_regS (l := [0, 1]) (by kernel_rfl) fun KR kr => ?_
          refine wpS.take 0 false (some 46) (.int .i64 (iadd .i64 z3 1)) (by kernel_rfl) (yld fun _ => by kernel_rfl) ?_
          refine wpS.take 1 false (some 16) (.int .i64 (iadd .i64 z3 1)) (by kernel_rfl) (yld fun _ => by kernel_rfl) ?_
          refine wpS.fin rfl (kr _ _ ?_)
          exact then_n (kl0 _ _ ⟨n, Nat.lt_succ_self n, (iadd .i64 z3 1), y12, h, (hs.conv rfl), exg (by kernel_rfl)⟩)
      · refine wpS.take 0 false (some 17) (.bool false) (by kernel_rfl) (yld_b (df hc) (fun _ => by kernel_rfl)) ?_
        refine wpS.fin rfl (kr _ _ ?_)
        refine then_n (ks643 _ _ ?_)
        refine wp_seq_k fun KS688 ks688 => ?_
        refine wp_cond_f (by kernel_rfl) ?_
        refine wp_exit ?_
        refine then_x ?_
        refine then_x ?_
        refine inBlock_hit ?_
        have q0 := of_some h
        subst q0
        exact exq_n (nn0 _ _ ⟨(hs.conv rfl), exg (by kernel_rfl)⟩)
  · clear hs h hy
    rintro a w ⟨hs, g, rfl⟩
    have h := hk0
    refine then_n (ks595 _ _ ?_)
    refine wp_seq_k fun KS689 ks689 => ?_
    refine wp_regS (l := [0, 1, 2, 3, 4]) (by kernel_rfl) fun KR kr => ?_
    refine wpS.take 0 false (some 47) (.pointer (some ⟨p0, 0, none⟩)) (by kernel_rfl) (yld fun _ => by kernel_rfl) ?_
    refine wpS.take 1 false (some 48) (.pointer (some ⟨p0, 0, none⟩)) (by kernel_rfl) (yld fun _ => by kernel_rfl) ?_
    refine wpS.take 2 false (some 49) (.pointer (some ⟨p0, 0 + (1 : Int).toNat * 1, none⟩)) (by kernel_rfl) (yld_idx (t := 23) (e := 22) (n := 25) (sz := 1) (k := .i64) (x := 1) (by kernel_rfl) (by kernel_rfl) (by kernel_rfl) (by decide) (by decide)) ?_
    refine wpS.take 3 true (some 50) (.int .u64 (rd y5 1)) (by kernel_rfl) (yld_loadA (e := 22) (x := 1) hs 1 rfl (by kernel_rfl) (by kernel_rfl) (by decide) (by decide) .grow) ?_
    obtain ⟨x17, hx, h⟩ := of_bind h
    refine wpS.take 4 false (some 8) (.int .u64 x17) (by kernel_rfl) (yld_int hx (fun _ => by kernel_rfl)) ?_
    refine wpS.fin rfl (kr _ _ ?_)
    refine then_n (ks689 _ _ ?_)
    refine wp_seq_k fun KS714 ks714 => ?_
    refine wp_seq_k fun KS715 ks715 => ?_
    refine wp_regS (l := [0, 1]) (by kernel_rfl) fun KR kr => ?_
    refine wpS.take 0 true (some 51) (.agg (enc .i64 tab_1).toArray) (by kernel_rfl) (yld_loadLA (C := (CA .i64 24 (by decide))) (e := 61) (x := 0) (hs.rowR 0 rfl) (by kernel_rfl) rfl (by kernel_rfl) (by kernel_rfl) (by decide) (by decide)) ?_
    refine wpS.take 1 false (some 52) (.int .i64 0) (by kernel_rfl) (yld fun _ => by kernel_rfl) ?_
    refine wpS.fin rfl (kr _ _ ?_)
    refine then_n (ks715 _ _ ?_)
    obtain ⟨y21, hy, hk2⟩ := of_bind h
    refine wp_exq (N := fun a w => St w0 [p0] [.blk b2 (enc .u64 r1) 58, .blk p0 (enc .u64 y21) 23] [.rowL (CA .i64 24 (by decide)) (some ⟨1, 0, none⟩) 1 1 ([tab_1]), .rowL (CA .i64 24 (by decide)) (some ⟨2, 0, none⟩) 1 1 ([tab_2])] w ∧ ∃ g : Nat → Value, a = ⟨#[.pointer (some ⟨p0, 0, none⟩), .int .u64 a1, undef, undef, .pointer (some ⟨b2, 0, none⟩), (g 5), (g 6), (g 7), (g 8), (g 9), (g 10), undef, undef, undef, .pointer (some ⟨p0, 0, none⟩), .agg (enc .u64 r1).toArray, (g 16), (g 17), (g 18), (g 19), (g 20), (g 21), (g 22), (g 23), (g 24), (g 25), (g 26), (g 27), (g 28), (g 29), (g 30), (g 31), (g 32), (g 33), (g 34), (g 35), (g 36), (g 37), (g 38), (g 39), (g 40), (g 41), (g 42), (g 43), (g 44), (g 45), (g 46), .pointer (some ⟨p0, 0, none⟩), .pointer (some ⟨p0, 0, none⟩), .pointer (some ⟨p0, 0 + (1 : Int).toNat * 1, none⟩), .int .u64 (rd y5 1), .agg (enc .i64 tab_1).toArray, (g 52), (g 53), (g 54), (g 55), (g 56), (g 57), (g 58), (g 59), (g 60), (g 61), (g 62), (g 63), (g 64), (g 65), (g 66), (g 67), (g 68), (g 69), (g 70), undef, undef, undef, undef, undef, undef, undef, undef, undef, undef, undef, undef, undef, undef, undef, undef, undef, undef, undef, undef, undef, undef, undef, undef, undef, undef, undef, undef, undef, undef, undef, undef, undef, undef, undef, undef, undef, undef, undef, undef, undef, undef, undef, undef, undef], []⟩) (fun N2 nn2 => ?_) ?_
    · clear hk2
      refine wp_block ?_
      refine wp_loop_k (fun n a w => ∃ z18 z19 z20, keccak_round.l2 K n z18 z19 z20 = some y21 ∧ St w0 [p0] [.blk b2 (enc .u64 r1) 58, .blk p0 (enc .u64 z20) 23] [.rowL (CA .i64 24 (by decide)) (some ⟨1, 0, none⟩) 1 1 ([tab_1]), .rowL (CA .i64 24 (by decide)) (some ⟨2, 0, none⟩) 1 1 ([tab_2])] w ∧ ∃ g : Nat → Value, a = ⟨#[.pointer (some ⟨p0, 0, none⟩), .int .u64 a1, undef, undef, .pointer (some ⟨b2, 0, none⟩), (g 5), (g 6), (g 7), .int .u64 z18, (g 9), (g 10), undef, undef, undef, .pointer (some ⟨p0, 0, none⟩), .agg (enc .u64 r1).toArray, (g 16), (g 17), (g 18), (g 19), (g 20), (g 21), (g 22), (g 23), (g 24), (g 25), (g 26), (g 27), (g 28), (g 29), (g 30), (g 31), (g 32), (g 33), (g 34), (g 35), (g 36), (g 37), (g 38), (g 39), (g 40), (g 41), (g 42), (g 43), (g 44), (g 45), (g 46), .pointer (some ⟨p0, 0, none⟩), .pointer (some ⟨p0, 0, none⟩), .pointer (some ⟨p0, 0 + (1 : Int).toNat * 1, none⟩), .int .u64 (rd y5 1), .agg (enc .i64 tab_1).toArray, .int .i64 z19, (g 53), (g 54), (g 55), (g 56), (g 57), (g 58), (g 59), (g 60), (g 61), (g 62), (g 63), (g 64), (g 65), (g 66), (g 67), (g 68), (g 69), (g 70), undef, undef, undef, undef, undef, undef, undef, undef, undef, undef, undef, undef, undef, undef, undef, undef, undef, undef, undef, undef, undef, undef, undef, undef, undef, undef, undef, undef, undef, undef, undef, undef, undef, undef, undef, undef, undef, undef, undef, undef, undef, undef, undef, undef, undef], []⟩) K ⟨x17, 0, y5, hy, hs.conv rfl, exg (by kernel_rfl)⟩ ?_
      clear hs h hy
      rintro n a w ⟨z18, z19, z20, h, hs, g, rfl⟩ KL2 kl2
      cases n with
      | zero => exact nomatch (show none = some _ from h)
      | succ n =>
        refine wp_seq_k fun KS727 ks727 => ?_
        refine wp_regS (l := [0]) (by kernel_rfl) fun KR kr => ?_
        rcases of_if h with ⟨hc, h⟩ | ⟨hc, h⟩
        · refine wpS.take 0 false (some 53) (.bool true) (by kernel_rfl) (yld_b (dt hc) (fun _ => by kernel_rfl)) ?_
          refine wpS.fin rfl (kr _ _ ?_)
          refine then_n (ks727 _ _ ?_)
          refine wp_seq_k fun KS728 ks728 => ?_
          refine wp_cond_t (by kernel_rfl) ?_
          refine wp_skip ?_
          refine then_n (ks728 _ _ ?_)
          refine wp_seq_k fun KS729 ks729 => ?_
          refine wp_block ?_
          refine wp_seq_k fun KS730 ks730 => ?_
          refine wp_regS (l := [0, 1, 2, 3]) (by kernel_rfl) fun KR kr => ?_
          refine wpS.take 0 false (some 54) (.int .i64 z19) (by kernel_rfl) (yld fun _ => by kernel_rfl) ?_
          obtain ⟨h0, h⟩ := of_chk h
          obtain ⟨h1, h⟩ := of_chk h
          refine wpS.take 1 false (some 55) (.int .i64 (rd tab_1 z19)) (by kernel_rfl) (yld_at (t := 61) (e := 3) (k' := .i64) (by kernel_rfl) (by kernel_rfl) (by kernel_rfl) (by kernel_rfl) h0 h1) ?_
          refine wpS.take 2 false (some 9) (.int .i64 z19) (by kernel_rfl) (yld fun _ => by kernel_rfl) ?_
          obtain ⟨x22, hx, h⟩ := of_bind h
          refine wpS.take 3 false (some 10) (.int .i64 x22) (by kernel_rfl) (yld_int hx (fun _ => by kernel_rfl)) ?_
          refine wpS.fin rfl (kr _ _ ?_)
          refine then_n (ks730 _ _ ?_)
          refine wp_regG [14] (fun k => k = p0) 16 (by kernel_rfl) (by kernel_rfl) fun KR kr => ?_
          have hs := hs.drawn1
          refine wpG.takeD 0 false (some 56) (.pointer (some ⟨p0, 0, none⟩)) (by kernel_rfl) (by kernel_rfl) (yld fun _ => by kernel_rfl) ?_
          refine wpG.takeD 1 false (some 57) (.int .i64 x22) (by kernel_rfl) (by kernel_rfl) (yld fun _ => by kernel_rfl) ?_
          refine wpG.takeD 2 false (some 58) (.int .u64 z18) (by kernel_rfl) (by kernel_rfl) (yld fun _ => by kernel_rfl) ?_
          refine wpG.takeD 3 false (some 59) (.int .i64 z19) (by kernel_rfl) (by kernel_rfl) (yld fun _ => by kernel_rfl) ?_
          obtain ⟨i0_734, h⟩ := of_chk h
          obtain ⟨i1_734, h⟩ := of_chk h
          refine wpG.takeD 4 false (some 60) (.pointer (some ⟨2, 0 + (z19 : Int).toNat * 1, none⟩)) (by kernel_rfl) (by kernel_rfl) (yld_idx (t := 61) (e := 3) (n := 24) (sz := 1) (k := .i64) (x := z19) (by kernel_rfl) (by kernel_rfl) (by kernel_rfl) i0_734 i1_734) ?_
          refine wpG.takeD 5 true (some 61) (.int .i64 (rd tab_2 z19)) (by kernel_rfl) (by kernel_rfl) (yld_loadG (e := 3) (x := z19) (hs.rowR 1 rfl) (by kernel_rfl) (by kernel_rfl) i0_734 i1_734) ?_
          refine wpG.takeD 7 false (some 63) (.pointer (some ⟨p0, 0, none⟩)) (by kernel_rfl) (by kernel_rfl) (yld fun _ => by kernel_rfl) ?_
          refine wpG.takeD 8 false (some 64) (.int .i64 x22) (by kernel_rfl) (by kernel_rfl) (yld fun _ => by kernel_rfl) ?_
          refine wpG.takeD 9 false (some 65) (.pointer (some ⟨p0, 0, none⟩)) (by kernel_rfl) (by kernel_rfl) (yld fun _ => by kernel_rfl) ?_
          obtain ⟨i0_735, h⟩ := of_chk h
          obtain ⟨i1_735, h⟩ := of_chk h
          refine wpG.takeD 10 false (some 66) (.pointer (some ⟨p0, 0 + (x22 : Int).toNat * 1, none⟩)) (by kernel_rfl) (by kernel_rfl) (yld_idx (t := 23) (e := 22) (n := 25) (sz := 1) (k := .i64) (x := x22) (by kernel_rfl) (by kernel_rfl) (by kernel_rfl) i0_735 i1_735) ?_
          refine wpG.takeD 11 true (some 67) (.int .u64 (rd z20 x22)) (by kernel_rfl) (by kernel_rfl) (yld_loadA (e := 22) (x := x22) hs 1 rfl (by kernel_rfl) (by kernel_rfl) i0_735 i1_735 .grow) ?_
          refine wpG.takeD 12 false (some 68) (.pointer (some ⟨p0, 0, none⟩)) (by kernel_rfl) (by kernel_rfl) (yld fun _ => by kernel_rfl) ?_
          obtain ⟨r23, hg, h⟩ := of_bind h
          refine wpG.only 6 (by kernel_rfl) (op_call (d := (some 62)) (by kernel_rfl) hs (fun _ => by kernel_rfl) (math_bits_RotateLeft64.ok hg _) ?_)
          intro w gw hs
          refine ⟨.of gw, ?_⟩
          obtain ⟨i0_736, h⟩ := of_chk h
          obtain ⟨i1_736, h⟩ := of_chk h
          refine wpG.takeD 13 false (some 69) (.pointer (some ⟨p0, 0 + (x22 : Int).toNat * 1, none⟩)) (by kernel_rfl) (by kernel_rfl) (yld_idx (t := 23) (e := 22) (n := 25) (sz := 1) (k := .i64) (x := x22) (by kernel_rfl) (by kernel_rfl) (by kernel_rfl) i0_736 i1_736) ?_
          refine wpG.only 14 (by kernel_rfl) (op_storeA (t := 22) (x := x22) (v := r23) (d := none) (by kernel_rfl) hs 1 rfl (by kernel_rfl /-v-/) (by kernel_rfl) i0_736 i1_736 ?_)
          intro w kp hs
          refine ⟨⟨fun hf => absurd hf (by decide), kp.mono fun _ h => h⟩, ?_⟩
          obtain ⟨x24, hx, h⟩ := of_bind h
          refine wpG.takeD 15 false (some 8) (.int .u64 x24) (by kernel_rfl) (by kernel_rfl) (yld_int hx (fun _ => by kernel_rfl)) ?_
          refine wpG.fin (by kernel_rfl) rfl (kr _ _ ?_)
          refine inBlock_n ?_
          refine then_n (ks729 _ _ ?_)
          refine wp_regS (l := [0, 1]) (by kernel_rfl) fun KR kr => ?_
          refine wpS.take 0 false (some 70) (.int .i64 (iadd .i64 z19 1)) (by kernel_rfl) (yld fun _ => by kernel_rfl) ?_
          refine wpS.take 1 false (some 52) (.int .i64 (iadd .i64 z19 1)) (by kernel_rfl) (yld fun _ => by kernel_rfl) ?_
          refine wpS.fin rfl (kr _ _ ?_)
          exact then_n (kl2 _ _ ⟨n, Nat.lt_succ_self n, x24, (iadd .i64 z19 1), (wr z20 x22 r23), h, (hs.conv rfl), exg (by kernel_rfl)⟩)
        · refine wpS.take 0 false (some 53) (.bool false) (by kernel_rfl) (yld_b (df hc) (fun _ => by kernel_rfl)) ?_
          refine wpS.fin rfl (kr _ _ ?_)
          refine then_n (ks727 _ _ ?_)
          refine wp_seq_k fun KS737 ks737 => ?_
          refine wp_cond_f (by kernel_rfl) ?_
          refine wp_exit ?_
          refine then_x ?_
          refine then_x ?_
          refine inBlock_hit ?_
          have q0 := of_some h
          subst q0
          exact exq_n (nn2 _ _ ⟨(hs.conv rfl), exg (by kernel_rfl)⟩)
    · clear hs h hy
      rintro a w ⟨hs, g, rfl⟩
      have h := hk2
      refine then_n (ks714 _ _ ?_)
      refine wp_seq_k fun KS867 ks867 => ?_
      refine wp_seq_k fun KS868 ks868 => ?_
      refine wp_regS (l := [0]) (by kernel_rfl) fun KR kr => ?_
      refine wpS.take 0 false (some 11) (.int .i64 0) (by kernel_rfl) (yld fun _ => by kernel_rfl) ?_
      refine wpS.fin rfl (kr _ _ ?_)
      refine then_n (ks868 _ _ ?_)
      obtain ⟨y27, hy, hk3⟩ := of_bind h
      refine wp_exq (N := fun a w => St w0 [p0] [.blk b2 (enc .u64 r1) 58, .blk p0 (enc .u64 y27) 23] [.rowL (CA .i64 24 (by decide)) (some ⟨1, 0, none⟩) 1 1 ([tab_1]), .rowL (CA .i64 24 (by decide)) (some ⟨2, 0, none⟩) 1 1 ([tab_2])] w ∧ ∃ g : Nat → Value, a = ⟨#[.pointer (some ⟨p0, 0, none⟩), .int .u64 a1, undef, undef, .pointer (some ⟨b2, 0, none⟩), (g 5), (g 6), (g 7), (g 8), (g 9), (g 10), (g 11), (g 12), (g 13), .pointer (some ⟨p0, 0, none⟩), .agg (enc .u64 r1).toArray, (g 16), (g 17), (g 18), (g 19), (g 20), (g 21), (g 22), (g 23), (g 24), (g 25), (g 26), (g 27), (g 28), (g 29), (g 30), (g 31), (g 32), (g 33), (g 34), (g 35), (g 36), (g 37), (g 38), (g 39), (g 40), (g 41), (g 42), (g 43), (g 44), (g 45), (g 46), .pointer (some ⟨p0, 0, none⟩), .pointer (some ⟨p0, 0, none⟩), .pointer (some ⟨p0, 0 + (1 : Int).toNat * 1, none⟩), .int .u64 (rd y5 1), .agg (enc .i64 tab_1).toArray, (g 52), (g 53), (g 54), (g 55), (g 56), (g 57), (g 58), (g 59), (g 60), (g 61), (g 62), (g 63), (g 64), (g 65), (g 66), (g 67), (g 68), (g 69), (g 70), (g 71), (g 72), (g 73), (g 74), (g 75), (g 76), (g 77), (g 78), (g 79), (g 80), (g 81), (g 82), (g 83), (g 84), (g 85), (g 86), (g 87), (g 88), (g 89), (g 90), (g 91), (g 92), (g 93), (g 94), (g 95), (g 96), (g 97), (g 98), (g 99), (g 100), (g 101), (g 102), (g 103), (g 104), (g 105), (g 106), (g 107), undef, undef, undef, undef, undef, undef, undef, undef], []⟩) (fun N3 nn3 => ?_) ?_
      · clear hk3
        refine wp_block ?_
        refine wp_loop_k (fun n a w => ∃ z25 z26, keccak_round.l3 K n z25 z26 = some y27 ∧ St w0 [p0] [.blk b2 (enc .u64 r1) 58, .blk p0 (enc .u64 z26) 23] [.rowL (CA .i64 24 (by decide)) (some ⟨1, 0, none⟩) 1 1 ([tab_1]), .rowL (CA .i64 24 (by decide)) (some ⟨2, 0, none⟩) 1 1 ([tab_2])] w ∧ ∃ g : Nat → Value, a = ⟨#[.pointer (some ⟨p0, 0, none⟩), .int .u64 a1, undef, undef, .pointer (some ⟨b2, 0, none⟩), (g 5), (g 6), (g 7), (g 8), (g 9), (g 10), .int .i64 z25, (g 12), (g 13), .pointer (some ⟨p0, 0, none⟩), .agg (enc .u64 r1).toArray, (g 16), (g 17), (g 18), (g 19), (g 20), (g 21), (g 22), (g 23), (g 24), (g 25), (g 26), (g 27), (g 28), (g 29), (g 30), (g 31), (g 32), (g 33), (g 34), (g 35), (g 36), (g 37), (g 38), (g 39), (g 40), (g 41), (g 42), (g 43), (g 44), (g 45), (g 46), .pointer (some ⟨p0, 0, none⟩), .pointer (some ⟨p0, 0, none⟩), .pointer (some ⟨p0, 0 + (1 : Int).toNat * 1, none⟩), .int .u64 (rd y5 1), .agg (enc .i64 tab_1).toArray, (g 52), (g 53), (g 54), (g 55), (g 56), (g 57), (g 58), (g 59), (g 60), (g 61), (g 62), (g 63), (g 64), (g 65), (g 66), (g 67), (g 68), (g 69), (g 70), (g 71), (g 72), (g 73), (g 74), (g 75), (g 76), (g 77), (g 78), (g 79), (g 80), (g 81), (g 82), (g 83), (g 84), (g 85), (g 86), (g 87), (g 88), (g 89), (g 90), (g 91), (g 92), (g 93), (g 94), (g 95), (g 96), (g 97), (g 98), (g 99), (g 100), (g 101), (g 102), (g 103), (g 104), (g 105), (g 106), (g 107), undef, undef, undef, undef, undef, undef, undef, undef], []⟩) K ⟨0, y21, hy, hs.conv rfl, exg (by kernel_rfl)⟩ ?_
        clear hs h hy
        rintro n a w ⟨z25, z26, h, hs, g, rfl⟩ KL3 kl3
        cases n with
        | zero => exact nomatch (show none = some _ from h)
        | succ n =>
          refine wp_seq_k fun KS934 ks934 => ?_
          refine wp_seq_k fun KS935 ks935 => ?_
          refine wp_regS (l := [0, 1]) (by kernel_rfl) fun KR kr => ?_
          refine wpS.take 0 false (some 71) (.int .i64 z25) (by kernel_rfl) (yld fun _ => by kernel_rfl) ?_
          rcases of_if h with ⟨hc, h⟩ | ⟨hc, h⟩
          · refine wpS.take 1 false (some 72) (.bool true) (by kernel_rfl) (yld_b (dt hc) (fun _ => by kernel_rfl)) ?_
            refine wpS.fin rfl (kr _ _ ?_)
            refine then_n (ks935 _ _ ?_)
            refine wp_cond_t (by kernel_rfl) ?_
            refine wp_skip ?_
            refine then_n (ks934 _ _ ?_)
            refine wp_seq_k fun KS966 ks966 => ?_
            refine wp_block ?_
            refine wp_seq_k fun KS967 ks967 => ?_
            refine wp_regS (l := [0, 1, 2, 3, 4, 5, 6, 7, 8, 9]) (by kernel_rfl) fun KR kr => ?_
            refine wpS.take 0 false (some 75) (.pointer (some ⟨p0, 0, none⟩)) (by kernel_rfl) (yld fun _ => by kernel_rfl) ?_
            refine wpS.take 1 false (some 76) (.pointer (some ⟨p0, 0, none⟩)) (by kernel_rfl) (yld fun _ => by kernel_rfl) ?_
            refine wpS.take 2 false (some 77) (.int .i64 z25) (by kernel_rfl) (yld fun _ => by kernel_rfl) ?_
            refine wpS.take 3 false (some 78) (.int .i64 z25) (by kernel_rfl) (yld fun _ => by kernel_rfl) ?_
            refine wpS.take 4 false (some 79) (.int .i64 (iadd .i64 z25 5)) (by kernel_rfl) (yld fun _ => by kernel_rfl) ?_
            obtain ⟨b0_968, h⟩ := of_chk h
            obtain ⟨b1_968, h⟩ := of_chk h
            obtain ⟨b2_968, h⟩ := of_chk h
            obtain ⟨b3_968, h⟩ := of_chk h
            refine wpS.take 5 false (some 80) (.slice (some ⟨p0, 0 + (z25 : Int).toNat * 1, none⟩) (((iadd .i64 z25 5) : Int).toNat - (z25 : Int).toNat) (25 - (z25 : Int).toNat)) (by kernel_rfl) (yld_slA (t := 23) (e := 22) (n := 25) (k1 := .i64) (k2 := .i64) (lo := z25) (hi := (iadd .i64 z25 5)) (by kernel_rfl) (by kernel_rfl) (by kernel_rfl) b0_968 b1_968 b2_968 b3_968) ?_
            obtain ⟨h0, h⟩ := of_chk h
            have i0_969 := b0_968
            have i1_969 : (z25 : Int) + ((5 : Nat) : Int) ≤ ((25 : Nat) : Int) := by have := b2_968; omega
            refine wpS.take 6 false (some 81) (.pointer (some ⟨p0, 0 + (z25 : Int).toNat * 1, none⟩)) (by kernel_rfl) (yld_toArr (t := 58) (e := 22) (n := 5) (len := ((iadd .i64 z25 5) : Int).toNat - (z25 : Int).toNat) (c := 25 - (z25 : Int).toNat) (by kernel_rfl) (by kernel_rfl) h0) ?_
            refine wpS.take 7 true (some 82) (.agg (enc .u64 (subA 5 z26 z25)).toArray) (by kernel_rfl) (yld_loadSub (e := 58) (m := 5) (x := z25) hs 1 rfl (by kernel_rfl) (by kernel_rfl) (by kernel_rfl) i0_969 i1_969 .grow) ?_
            refine wpS.only 8 (op_alloc (t := 58) (d := (some 12)) (by kernel_rfl) hs (enc .u64 (zeroA 5)) (.agg (enc .u64 (zeroA 5)).toArray) (by kernel_rfl) (by kernel_rfl) (by kernel_rfl) ?_)
            intro b28 w gw hs
            refine ⟨fun _ => trivial, ?_⟩
            refine wpS.only 9 (op_storeW (t := 58) (v := .agg (enc .u64 (subA 5 z26 z25)).toArray) (d := none) (by kernel_rfl) hs 0 rfl (vs := enc .u64 (subA 5 z26 z25)) (n := 5) (by kernel_rfl) (by kernel_rfl) (by kernel_rfl) (by simp [enc_len]) (by simp [enc_len]) (by intro u hu; exact enc_one _ _ u hu) ?_)
            intro w kp hs
            refine ⟨fun _ => trivial, ?_⟩
            refine wpS.fin rfl (kr _ _ ?_)
            refine then_n (ks967 _ _ ?_)
            refine wp_seq_k fun KS970 ks970 => ?_
            refine wp_regS (l := [0]) (by kernel_rfl) fun KR kr => ?_
            refine wpS.take 0 false (some 83) (.int .i64 0) (by kernel_rfl) (yld fun _ => by kernel_rfl) ?_
            refine wpS.fin rfl (kr _ _ ?_)
            refine then_n (ks970 _ _ ?_)
            obtain ⟨y31, hy, hk4⟩ := of_bind h
            refine wp_exq (N := fun a w => St w0 [p0] [.blk b28 (enc .u64 (subA 5 z26 z25)) 58, .blk b2 (enc .u64 r1) 58, .blk p0 (enc .u64 y31) 23] [.rowL (CA .i64 24 (by decide)) (some ⟨1, 0, none⟩) 1 1 ([tab_1]), .rowL (CA .i64 24 (by decide)) (some ⟨2, 0, none⟩) 1 1 ([tab_2])] w ∧ ∃ g : Nat → Value, a = ⟨#[.pointer (some ⟨p0, 0, none⟩), .int .u64 a1, undef, undef, .pointer (some ⟨b2, 0, none⟩), (g 5), (g 6), (g 7), (g 8), (g 9), (g 10), .int .i64 z25, .pointer (some ⟨b28, 0, none⟩), (g 13), .pointer (some ⟨p0, 0, none⟩), .agg (enc .u64 r1).toArray, (g 16), (g 17), (g 18), (g 19), (g 20), (g 21), (g 22), (g 23), (g 24), (g 25), (g 26), (g 27), (g 28), (g 29), (g 30), (g 31), (g 32), (g 33), (g 34), (g 35), (g 36), (g 37), (g 38), (g 39), (g 40), (g 41), (g 42), (g 43), (g 44), (g 45), (g 46), .pointer (some ⟨p0, 0, none⟩), .pointer (some ⟨p0, 0, none⟩), .pointer (some ⟨p0, 0 + (1 : Int).toNat * 1, none⟩), .int .u64 (rd y5 1), .agg (enc .i64 tab_1).toArray, (g 52), (g 53), (g 54), (g 55), (g 56), (g 57), (g 58), (g 59), (g 60), (g 61), (g 62), (g 63), (g 64), (g 65), (g 66), (g 67), (g 68), (g 69), (g 70), .int .i64 z25, .bool true, (g 73), (g 74), .pointer (some ⟨p0, 0, none⟩), .pointer (some ⟨p0, 0, none⟩), .int .i64 z25, .int .i64 z25, .int .i64 (iadd .i64 z25 5), .slice (some ⟨p0, 0 + (z25 : Int).toNat * 1, none⟩) (((iadd .i64 z25 5) : Int).toNat - (z25 : Int).toNat) (25 - (z25 : Int).toNat), .pointer (some ⟨p0, 0 + (z25 : Int).toNat * 1, none⟩), .agg (enc .u64 (subA 5 z26 z25)).toArray, (g 83), (g 84), (g 85), (g 86), (g 87), (g 88), (g 89), (g 90), (g 91), (g 92), (g 93), (g 94), (g 95), (g 96), (g 97), (g 98), (g 99), (g 100), (g 101), (g 102), (g 103), (g 104), (g 105), (g 106), (g 107), undef, undef, undef, undef, undef, undef, undef, undef], []⟩) (fun N4 nn4 => ?_) ?_
            · clear hk4
              refine wp_block ?_
              refine wp_loop_k (fun n a w => ∃ z29 z30, keccak_round.l4 K n z25 z26 z29 z30 = some y31 ∧ St w0 [p0] [.blk b28 (enc .u64 (subA 5 z26 z25)) 58, .blk b2 (enc .u64 r1) 58, .blk p0 (enc .u64 z30) 23] [.rowL (CA .i64 24 (by decide)) (some ⟨1, 0, none⟩) 1 1 ([tab_1]), .rowL (CA .i64 24 (by decide)) (some ⟨2, 0, none⟩) 1 1 ([tab_2])] w ∧ ∃ g : Nat → Value, a = ⟨#[.pointer (some ⟨p0, 0, none⟩), .int .u64 a1, undef, undef, .pointer (some ⟨b2, 0, none⟩), (g 5), (g 6), (g 7), (g 8), (g 9), (g 10), .int .i64 z25, .pointer (some ⟨b28, 0, none⟩), (g 13), .pointer (some ⟨p0, 0, none⟩), .agg (enc .u64 r1).toArray, (g 16), (g 17), (g 18), (g 19), (g 20), (g 21), (g 22), (g 23), (g 24), (g 25), (g 26), (g 27), (g 28), (g 29), (g 30), (g 31), (g 32), (g 33), (g 34), (g 35), (g 36), (g 37), (g 38), (g 39), (g 40), (g 41), (g 42), (g 43), (g 44), (g 45), (g 46), .pointer (some ⟨p0, 0, none⟩), .pointer (some ⟨p0, 0, none⟩), .pointer (some ⟨p0, 0 + (1 : Int).toNat * 1, none⟩), .int .u64 (rd y5 1), .agg (enc .i64 tab_1).toArray, (g 52), (g 53), (g 54), (g 55), (g 56), (g 57), (g 58), (g 59), (g 60), (g 61), (g 62), (g 63), (g 64), (g 65), (g 66), (g 67), (g 68), (g 69), (g 70), .int .i64 z25, .bool true, (g 73), (g 74), .pointer (some ⟨p0, 0, none⟩), .pointer (some ⟨p0, 0, none⟩), .int .i64 z25, .int .i64 z25, .int .i64 (iadd .i64 z25 5), .slice (some ⟨p0, 0 + (z25 : Int).toNat * 1, none⟩) (((iadd .i64 z25 5) : Int).toNat - (z25 : Int).toNat) (25 - (z25 : Int).toNat), .pointer (some ⟨p0, 0 + (z25 : Int).toNat * 1, none⟩), .agg (enc .u64 (subA 5 z26 z25)).toArray, .int .i64 z29, (g 84), (g 85), (g 86), (g 87), (g 88), (g 89), (g 90), (g 91), (g 92), (g 93), (g 94), (g 95), (g 96), (g 97), (g 98), (g 99), (g 100), (g 101), (g 102), (g 103), (g 104), (g 105), (g 106), (g 107), undef, undef, undef, undef, undef, undef, undef, undef], []⟩) K ⟨0, z26, hy, hs.conv rfl, exg (by kernel_rfl)⟩ ?_
              clear hs h hy
              rintro n a w ⟨z29, z30, h, hs, g, rfl⟩ KL4 kl4
              cases n with
              | zero => exact nomatch (show none = some _ from h)
              | succ n =>
                refine wp_seq_k fun KS984 ks984 => ?_
                refine wp_regS (l := [0]) (by kernel_rfl) fun KR kr => ?_
                rcases of_if h with ⟨hc, h⟩ | ⟨hc, h⟩
                · refine wpS.take 0 false (some 84) (.bool true) (by kernel_rfl) (yld_b (dt hc) (fun _ => by kernel_rfl)) ?_
                  refine wpS.fin rfl (kr _ _ ?_)
                  refine then_n (ks984 _ _ ?_)
                  refine wp_seq_k fun KS985 ks985 => ?_
                  refine wp_cond_t (by kernel_rfl) ?_
                  refine wp_skip ?_
                  refine then_n (ks985 _ _ ?_)
                  refine wp_seq_k fun KS986 ks986 => ?_
                  refine wp_block ?_
                  refine wp_seq_k fun KS987 ks987 => ?_
                  refine wp_regS (l := [0, 1]) (by kernel_rfl) fun KR kr => ?_
                  refine wpS.take 0 false (some 85) (.int .i64 z29) (by kernel_rfl) (yld fun _ => by kernel_rfl) ?_
                  refine wpS.take 1 false (some 13) (.int .i64 z29) (by kernel_rfl) (yld fun _ => by kernel_rfl) ?_
                  refine wpS.fin rfl (kr _ _ ?_)
                  refine then_n (ks987 _ _ ?_)
                  refine wp_regG [21] (fun k => k = p0) 22 (by kernel_rfl) (by kernel_rfl) fun KR kr => ?_
                  have hs := hs.drawn1
                  refine wpG.takeD 0 false (some 86) (.pointer (some ⟨p0, 0, none⟩)) (by kernel_rfl) (by kernel_rfl) (yld fun _ => by kernel_rfl) ?_
                  refine wpG.takeD 1 false (some 87) (.int .i64 z25) (by kernel_rfl) (by kernel_rfl) (yld fun _ => by kernel_rfl) ?_
                  refine wpG.takeD 2 false (some 88) (.int .i64 z29) (by kernel_rfl) (by kernel_rfl) (yld fun _ => by kernel_rfl) ?_
                  refine wpG.takeD 3 false (some 89) (.int .i64 (iadd .i64 z25 z29)) (by kernel_rfl) (by kernel_rfl) (yld fun _ => by kernel_rfl) ?_
                  refine wpG.takeD 4 false (some 90) (.int .i64 z29) (by kernel_rfl) (by kernel_rfl) (yld fun _ => by kernel_rfl) ?_
                  obtain ⟨i0_992, h⟩ := of_chk h
                  obtain ⟨i1_992, h⟩ := of_chk h
                  refine wpG.takeD 5 false (some 91) (.pointer (some ⟨b28, 0 + (z29 : Int).toNat * 1, none⟩)) (by kernel_rfl) (by kernel_rfl) (yld_idx (t := 58) (e := 22) (n := 5) (sz := 1) (k := .i64) (x := z29) (by kernel_rfl) (by kernel_rfl) (by kernel_rfl) i0_992 i1_992) ?_
                  refine wpG.takeD 6 true (some 92) (.int .u64 (rd (subA 5 z26 z25) z29)) (by kernel_rfl) (by kernel_rfl) (yld_loadA (e := 22) (x := z29) hs 0 rfl (by kernel_rfl) (by kernel_rfl) i0_992 i1_992 .grow) ?_
                  refine wpG.takeD 7 false (some 93) (.int .i64 z29) (by kernel_rfl) (by kernel_rfl) (yld fun _ => by kernel_rfl) ?_
                  refine wpG.takeD 8 false (some 94) (.int .i64 (iadd .i64 z29 2)) (by kernel_rfl) (by kernel_rfl) (yld fun _ => by kernel_rfl) ?_
                  refine wpG.takeD 9 false (some 95) (.int .i64 (irem .i64 (iadd .i64 z29 2) 5)) (by kernel_rfl) (by kernel_rfl) (yld fun _ => by kernel_rfl) ?_
                  obtain ⟨x32, hx, h⟩ := of_bind h
                  have hx := of_some hx
                  subst hx
                  obtain ⟨i0_993, h⟩ := of_chk h
                  obtain ⟨i1_993, h⟩ := of_chk h
                  refine wpG.takeD 10 false (some 96) (.pointer (some ⟨b28, 0 + ((irem .i64 (iadd .i64 z29 2) 5) : Int).toNat * 1, none⟩)) (by kernel_rfl) (by kernel_rfl) (yld_idx (t := 58) (e := 22) (n := 5) (sz := 1) (k := .i64) (x := (irem .i64 (iadd .i64 z29 2) 5)) (by kernel_rfl) (by kernel_rfl) (by kernel_rfl) i0_993 i1_993) ?_
                  refine wpG.takeD 11 true (some 97) (.int .u64 (rd (subA 5 z26 z25) (irem .i64 (iadd .i64 z29 2) 5))) (by kernel_rfl) (by kernel_rfl) (yld_loadA (e := 22) (x := (irem .i64 (iadd .i64 z29 2) 5)) hs 0 rfl (by kernel_rfl) (by kernel_rfl) i0_993 i1_993 .grow) ?_
                  refine wpG.takeD 12 false (some 98) (.int .i64 z29) (by kernel_rfl) (by kernel_rfl) (yld fun _ => by kernel_rfl) ?_
                  refine wpG.takeD 13 false (some 99) (.int .i64 (iadd .i64 z29 1)) (by kernel_rfl) (by kernel_rfl) (yld fun _ => by kernel_rfl) ?_
                  refine wpG.takeD 14 false (some 100) (.int .i64 (irem .i64 (iadd .i64 z29 1) 5)) (by kernel_rfl) (by kernel_rfl) (yld fun _ => by kernel_rfl) ?_
                  obtain ⟨x33, hx, h⟩ := of_bind h
                  have hx := of_some hx
                  subst hx
                  obtain ⟨i0_994, h⟩ := of_chk h
                  obtain ⟨i1_994, h⟩ := of_chk h
                  refine wpG.takeD 15 false (some 101) (.pointer (some ⟨b28, 0 + ((irem .i64 (iadd .i64 z29 1) 5) : Int).toNat * 1, none⟩)) (by kernel_rfl) (by kernel_rfl) (yld_idx (t := 58) (e := 22) (n := 5) (sz := 1) (k := .i64) (x := (irem .i64 (iadd .i64 z29 1) 5)) (by kernel_rfl) (by kernel_rfl) (by kernel_rfl) i0_994 i1_994) ?_
                  refine wpG.takeD 16 true (some 102) (.int .u64 (rd (subA 5 z26 z25) (irem .i64 (iadd .i64 z29 1) 5))) (by kernel_rfl) (by kernel_rfl) (yld_loadA (e := 22) (x := (irem .i64 (iadd .i64 z29 1) 5)) hs 0 rfl (by kernel_rfl) (by kernel_rfl) i0_994 i1_994 .grow) ?_
                  refine wpG.takeD 17 false (some 103) (.int .u64 (iandn .u64 (rd (subA 5 z26 z25) (irem .i64 (iadd .i64 z29 2) 5)) (rd (subA 5 z26 z25) (irem .i64 (iadd .i64 z29 1) 5)))) (by kernel_rfl) (by kernel_rfl) (yld fun _ => by kernel_rfl) ?_
                  refine wpG.takeD 18 false (some 104) (.int .u64 (ixor .u64 (rd (subA 5 z26 z25) z29) (iandn .u64 (rd (subA 5 z26 z25) (irem .i64 (iadd .i64 z29 2) 5)) (rd (subA 5 z26 z25) (irem .i64 (iadd .i64 z29 1) 5))))) (by kernel_rfl) (by kernel_rfl) (yld fun _ => by kernel_rfl) ?_
                  refine wpG.takeD 19 false (some 105) (.pointer (some ⟨p0, 0, none⟩)) (by kernel_rfl) (by kernel_rfl) (yld fun _ => by kernel_rfl) ?_
                  obtain ⟨x34, hx, h⟩ := of_bind h
                  have hx := of_some hx
                  subst hx
                  obtain ⟨i0_995, h⟩ := of_chk h
                  obtain ⟨i1_995, h⟩ := of_chk h
                  refine wpG.takeD 20 false (some 106) (.pointer (some ⟨p0, 0 + ((iadd .i64 z25 z29) : Int).toNat * 1, none⟩)) (by kernel_rfl) (by kernel_rfl) (yld_idx (t := 23) (e := 22) (n := 25) (sz := 1) (k := .i64) (x := (iadd .i64 z25 z29)) (by kernel_rfl) (by kernel_rfl) (by kernel_rfl) i0_995 i1_995) ?_
                  obtain ⟨x35, hx, h⟩ := of_bind h
                  refine wpG.only 21 (by kernel_rfl) (op_storeA (t := 22) (x := (iadd .i64 z25 z29)) (v := x35) (d := none) (by kernel_rfl) hs 2 rfl (by cases hx; kernel_rfl) (by kernel_rfl) i0_995 i1_995 ?_)
                  intro w kp hs
                  refine ⟨⟨fun hf => absurd hf (by decide), kp.mono fun _ h => h⟩, ?_⟩
                  refine wpG.fin (by kernel_rfl) rfl (kr _ _ ?_)
                  refine inBlock_n ?_
                  refine then_n (ks986 _ _ ?_)
                  refine wp_regS (l := [0, 1]) (by kernel_rfl) fun KR kr => ?_
                  refine wpS.take 0 false (some 107) (.int .i64 (iadd .i64 z29 1)) (by kernel_rfl) (yld fun _ => by kernel_rfl) ?_
                  refine wpS.take 1 false (some 83) (.int .i64 (iadd .i64 z29 1)) (by kernel_rfl) (yld fun _ => by kernel_rfl) ?_
                  refine wpS.fin rfl (kr _ _ ?_)
                  exact then_n (kl4 _ _ ⟨n, Nat.lt_succ_self n, (iadd .i64 z29 1), (wr z30 (iadd .i64 z25 z29) x35), h, (hs.conv rfl), exg (by kernel_rfl)⟩)
                · refine wpS.take 0 false (some 84) (.bool false) (by kernel_rfl) (yld_b (df hc) (fun _ => by kernel_rfl)) ?_
                  refine wpS.fin rfl (kr _ _ ?_)
                  refine then_n (ks984 _ _ ?_)
                  refine wp_seq_k fun KS996 ks996 => ?_
                  refine wp_cond_f (by kernel_rfl) ?_
                  refine wp_exit ?_
                  refine then_x ?_
                  refine then_x ?_
                  refine inBlock_hit ?_
                  have q0 := of_some h
                  subst q0
                  exact exq_n (nn4 _ _ ⟨(hs.conv rfl), exg (by kernel_rfl)⟩)
            · clear hs h hy
              rintro a w ⟨hs, g, rfl⟩
              have h := hk4
              refine inBlock_n ?_
              refine then_n (ks966 _ _ ?_)
              refine wp_regS (l := [0, 1, 2]) (by kernel_rfl) fun KR kr => ?_
              refine wpS.take 0 false (some 73) (.int .i64 z25) (by kernel_rfl) (yld fun _ => by kernel_rfl) ?_
              refine wpS.take 1 false (some 74) (.int .i64 (iadd .i64 z25 5)) (by kernel_rfl) (yld fun _ => by kernel_rfl) ?_
              obtain ⟨x36, hx, h⟩ := of_bind h
              refine wpS.take 2 false (some 11) (.int .i64 x36) (by kernel_rfl) (yld_int hx (fun _ => by kernel_rfl)) ?_
              refine wpS.fin rfl (kr _ _ ?_)
              exact then_n (kl3 _ _ ⟨n, Nat.lt_succ_self n, x36, y31, h, ((hs.conv (L' := [.blk b28 (enc .u64 (subA 5 z26 z25)) 58, .blk b2 (enc .u64 r1) 58, .blk p0 (enc .u64 y31) 23]) rfl).drop (.cons _ (.cons_cons _ (.cons_cons _ .slnil)))), exg (by kernel_rfl)⟩)
          · refine wpS.take 1 false (some 72) (.bool false) (by kernel_rfl) (yld_b (df hc) (fun _ => by kernel_rfl)) ?_
            refine wpS.fin rfl (kr _ _ ?_)
            refine then_n (ks935 _ _ ?_)
            refine wp_cond_f (by kernel_rfl) ?_
            refine wp_exit ?_
            refine then_x ?_
            refine then_x ?_
            refine inBlock_hit ?_
            have q0 := of_some h
            subst q0
            exact exq_n (nn3 _ _ ⟨(hs.conv rfl), exg (by kernel_rfl)⟩)
      · clear hs h hy
        rintro a w ⟨hs, g, rfl⟩
        have h := hk3
        refine then_n (ks867 _ _ ?_)
        refine wp_regG [8] (fun k => k = p0) 9 (by kernel_rfl) (by kernel_rfl) fun KR kr => ?_
        have hs := hs.drawn1
        refine wpG.takeD 0 false (some 108) (.pointer (some ⟨p0, 0, none⟩)) (by kernel_rfl) (by kernel_rfl) (yld fun _ => by kernel_rfl) ?_
        refine wpG.takeD 1 false (some 109) (.pointer (some ⟨p0, 0, none⟩)) (by kernel_rfl) (by kernel_rfl) (yld fun _ => by kernel_rfl) ?_
        refine wpG.takeD 2 false (some 110) (.pointer (some ⟨p0, 0 + (0 : Int).toNat * 1, none⟩)) (by kernel_rfl) (by kernel_rfl) (yld_idx (t := 23) (e := 22) (n := 25) (sz := 1) (k := .i64) (x := 0) (by kernel_rfl) (by kernel_rfl) (by kernel_rfl) (by decide) (by decide)) ?_
        refine wpG.takeD 3 true (some 111) (.int .u64 (rd y27 0)) (by kernel_rfl) (by kernel_rfl) (yld_loadA (e := 22) (x := 0) hs 1 rfl (by kernel_rfl) (by kernel_rfl) (by decide) (by decide) .grow) ?_
        refine wpG.takeD 4 false (some 112) (.int .u64 a1) (by kernel_rfl) (by kernel_rfl) (yld fun _ => by kernel_rfl) ?_
        refine wpG.takeD 5 false (some 113) (.int .u64 (ixor .u64 (rd y27 0) a1)) (by kernel_rfl) (by kernel_rfl) (yld fun _ => by kernel_rfl) ?_
        refine wpG.takeD 6 false (some 114) (.pointer (some ⟨p0, 0, none⟩)) (by kernel_rfl) (by kernel_rfl) (yld fun _ => by kernel_rfl) ?_
        refine wpG.takeD 7 false (some 115) (.pointer (some ⟨p0, 0 + (0 : Int).toNat * 1, none⟩)) (by kernel_rfl) (by kernel_rfl) (yld_idx (t := 23) (e := 22) (n := 25) (sz := 1) (k := .i64) (x := 0) (by kernel_rfl) (by kernel_rfl) (by kernel_rfl) (by decide) (by decide)) ?_
        obtain ⟨x37, hx, h⟩ := of_bind h
        refine wpG.only 8 (by kernel_rfl) (op_storeA (t := 22) (x := 0) (v := x37) (d := none) (by kernel_rfl) hs 1 rfl (by cases hx; kernel_rfl) (by kernel_rfl) (by decide) (by decide) ?_)
        intro w kp hs
        refine ⟨⟨fun hf => absurd hf (by decide), kp.mono fun _ h => h⟩, ?_⟩
        refine wpG.fin (by kernel_rfl) rfl (kr _ _ ?_)
        have q0 := of_some h
        subst q0
        exact qn _ _ (post_nrm (by kernel_rfl) (run_results [] [] (by kernel_rfl) .nil) ⟨congrArg Ending.returned (by kernel_rfl), (((hs.conv (L' := [.blk b2 (enc .u64 r1) 58, .blk p0 (enc .u64 (wr y27 0 x37)) 23]) rfl).drop (.cons _ (.cons_cons _ .slnil))).pickR pick_nil)⟩)

theorem keccak_Permute.ok {K : Nat} {a0 : Arr 25} {r0 : Arr 25} (h : keccak_Permute.f K a0 = some r0) (w0 : World) (hg0 : RowL (CA .u64 24 (by decide)) w0 (some ⟨0, 0, none⟩) 1 1 [tab_0]) (hg1 : RowL (CA .i64 24 (by decide)) w0 (some ⟨1, 0, none⟩) 1 1 [tab_1]) (hg2 : RowL (CA .i64 24 (by decide)) w0 (some ⟨2, 0, none⟩) 1 1 [tab_2]) : Ret Tryd.prog 19 #[.agg (enc .u64 a0).toArray] w0 (.agg (enc .u64 r0).toArray) := by
  refine calls_k Tryd.func19 rfl fun Q qq => ?_
  have hs := St.startR (all_cons (RowP.ent hg0) (all_cons (RowP.ent hg1) (all_cons (RowP.ent hg2) all_nil)))
  refine wp_conv (a' := ⟨#[.agg (enc .u64 a0).toArray, undef, undef, undef, undef, undef, undef, undef, undef, undef, undef, undef, undef], []⟩) (by kernel_rfl) ?_
  refine wp_seq_k fun KS1 ks1 => ?_
  refine wp_regS (l := [0, 1]) (by kernel_rfl) fun KR kr => ?_
  refine wpS.only 0 (op_box (t := 23) (v := .agg (enc .u64 a0).toArray) (d := (some 1)) (by kernel_rfl) hs (enc .u64 a0) (by kernel_rfl) (by kernel_rfl) ?_)
  intro b1 w gw hs
  refine ⟨fun _ => trivial, ?_⟩
  refine wpS.only 1 (op_alloc (t := 23) (d := (some 2)) (by kernel_rfl) hs (enc .u64 (zeroA 25)) (.agg (enc .u64 (zeroA 25)).toArray) (by kernel_rfl) (by kernel_rfl) (by kernel_rfl) ?_)
  intro b2 w gw hs
  refine ⟨fun _ => trivial, ?_⟩
  refine wpS.fin rfl (kr _ _ ?_)
  refine then_n (ks1 _ _ ?_)
  refine wp_seq_k fun KS13 ks13 => ?_
  refine wp_seq_k fun KS14 ks14 => ?_
  refine wp_regS (l := [0, 1]) (by kernel_rfl) fun KR kr => ?_
  refine wpS.take 0 true (some 5) (.agg (enc .u64 tab_0).toArray) (by kernel_rfl) (yld_loadLA (C := (CA .u64 24 (by decide))) (e := 54) (x := 0) (hs.rowR 0 rfl) (by kernel_rfl) rfl (by kernel_rfl) (by kernel_rfl) (by decide) (by decide)) ?_
  refine wpS.take 1 false (some 6) (.int .i64 0) (by kernel_rfl) (yld fun _ => by kernel_rfl) ?_
  refine wpS.fin rfl (kr _ _ ?_)
  refine then_n (ks14 _ _ ?_)
  obtain ⟨y5, hy, hk0⟩ := of_bind h
  refine wp_exq (N := fun a w => St w0 [] [.blk b2 (enc .u64 (zeroA 25)) 23, .blk b1 (enc .u64 y5) 23] [.rowL (CA .u64 24 (by decide)) (some ⟨0, 0, none⟩) 1 1 ([tab_0]), .rowL (CA .i64 24 (by decide)) (some ⟨1, 0, none⟩) 1 1 ([tab_1]), .rowL (CA .i64 24 (by decide)) (some ⟨2, 0, none⟩) 1 1 ([tab_2])] w ∧ ∃ g : Nat → Value, a = ⟨#[.agg (enc .u64 a0).toArray, .pointer (some ⟨b1, 0, none⟩), .pointer (some ⟨b2, 0, none⟩), undef, (g 4), .agg (enc .u64 tab_0).toArray, (g 6), (g 7), (g 8), (g 9), (g 10), (g 11), undef], []⟩) (fun N0 nn0 => ?_) ?_
  · clear hk0
    refine wp_block ?_
    refine wp_loop_k (fun n a w => ∃ z3 z4, keccak_Permute.l0 K n z3 z4 = some y5 ∧ St w0 [] [.blk b2 (enc .u64 (zeroA 25)) 23, .blk b1 (enc .u64 z4) 23] [.rowL (CA .u64 24 (by decide)) (some ⟨0, 0, none⟩) 1 1 ([tab_0]), .rowL (CA .i64 24 (by decide)) (some ⟨1, 0, none⟩) 1 1 ([tab_1]), .rowL (CA .i64 24 (by decide)) (some ⟨2, 0, none⟩) 1 1 ([tab_2])] w ∧ ∃ g : Nat → Value, a = ⟨#[.agg (enc .u64 a0).toArray, .pointer (some ⟨b1, 0, none⟩), .pointer (some ⟨b2, 0, none⟩), undef, (g 4), .agg (enc .u64 tab_0).toArray, .int .i64 z3, (g 7), (g 8), (g 9), (g 10), (g 11), undef], []⟩) K ⟨0, a0, hy, hs.conv rfl, exg (by kernel_rfl)⟩ ?_
    clear hs h hy
    rintro n a w ⟨z3, z4, h, hs, g, rfl⟩ KL0 kl0
    cases n with
    | zero => exact nomatch (show none = some _ from h)
    | succ n =>
      refine wp_seq_k fun KS20 ks20 => ?_
      refine wp_regS (l := [0]) (by kernel_rfl) fun KR kr => ?_
      rcases of_if h with ⟨hc, h⟩ | ⟨hc, h⟩
      · refine wpS.take 0 false (some 7) (.bool true) (by kernel_rfl) (yld_b (dt hc) (fun _ => by kernel_rfl)) ?_
        refine wpS.fin rfl (kr _ _ ?_)
        refine then_n (ks20 _ _ ?_)
        refine wp_seq_k fun KS21 ks21 => ?_
        refine wp_cond_t (by kernel_rfl) ?_
        refine wp_skip ?_
        refine then_n (ks21 _ _ ?_)
        refine wp_seq_k fun KS22 ks22 => ?_
        refine wp_block ?_
        refine wp_seq_k fun KS23 ks23 => ?_
        refine wp_regS (l := [0, 1]) (by kernel_rfl) fun KR kr => ?_
        obtain ⟨h0, h⟩ := of_chk h
        obtain ⟨h1, h⟩ := of_chk h
        refine wpS.take 0 false (some 8) (.int .u64 (rd tab_0 z3)) (by kernel_rfl) (yld_at (t := 54) (e := 22) (k' := .i64) (by kernel_rfl) (by kernel_rfl) (by kernel_rfl) (by kernel_rfl) h0 h1) ?_
        obtain ⟨x6, hx, h⟩ := of_bind h
        refine wpS.take 1 false (some 4) (.int .u64 x6) (by kernel_rfl) (yld_int hx (fun _ => by kernel_rfl)) ?_
        refine wpS.fin rfl (kr _ _ ?_)
        refine then_n (ks23 _ _ ?_)
        refine wp_regS (l := [0, 1]) (by kernel_rfl) fun KR kr => ?_
        refine wpS.take 0 false (some 9) (.int .u64 x6) (by kernel_rfl) (yld fun _ => by kernel_rfl) ?_
        obtain ⟨r7, hg, h⟩ := of_bind h
        refine wpS.only 1 (op_callX (d := (some 10)) (by kernel_rfl) hs 1 rfl (fun _ => by kernel_rfl) (keccak_round.ok hg _ (hs.rowR 1 rfl) (hs.rowR 2 rfl) (hs.blkAt 1 rfl) (hs.farR 1 1 rfl rfl) (hs.farR 1 2 rfl rfl)) ?_)
        intro w kp hs
        have hs := hs.conv (L' := [.blk b2 (enc .u64 (zeroA 25)) 23, .blk b1 (enc .u64 r7) 23]) rfl
        refine ⟨fun _ => trivial, ?_⟩
        refine wpS.fin rfl (kr _ _ ?_)
        refine inBlock_n ?_
        refine then_n (ks22 _ _ ?_)
        refine wp_regS (l := [0, 1]) (by kernel_rfl) fun KR kr => ?_
        refine wpS.take 0 false (some 11) (.int .i64 (iadd .i64 z3 1)) (by kernel_rfl) (yld fun _ => by kernel_rfl) ?_
        refine wpS.take 1 false (some 6) (.int .i64 (iadd .i64 z3 1)) (by kernel_rfl) (yld fun _ => by kernel_rfl) ?_
        refine wpS.fin rfl (kr _ _ ?_)
        exact then_n (kl0 _ _ ⟨n, Nat.lt_succ_self n, (iadd .i64 z3 1), r7, h, (hs.conv rfl), exg (by kernel_rfl)⟩)
      · refine wpS.take 0 false (some 7) (.bool false) (by kernel_rfl) (yld_b (df hc) (fun _ => by kernel_rfl)) ?_
        refine wpS.fin rfl (kr _ _ ?_)
        refine then_n (ks20 _ _ ?_)
        refine wp_seq_k fun KS24 ks24 => ?_
        refine wp_cond_f (by kernel_rfl) ?_
        refine wp_exit ?_
        refine then_x ?_
        refine then_x ?_
        refine inBlock_hit ?_
        have q0 := of_some h
        subst q0
        exact exq_n (nn0 _ _ ⟨(hs.conv rfl), exg (by kernel_rfl)⟩)
  · clear hs h hy
    rintro a w ⟨hs, g, rfl⟩
    have h := hk0
    refine then_n (ks13 _ _ ?_)
    refine wp_seq_k fun KS25 ks25 => ?_
    refine wp_regS (l := [0, 1]) (by kernel_rfl) fun KR kr => ?_
    refine wpS.take 0 true (some 12) (.agg (enc .u64 y5).toArray) (by kernel_rfl) (yld_loadW (e := 23) (n := 25) hs 1 rfl (by kernel_rfl) (by kernel_rfl) (by kernel_rfl) (by exact enc_len _ _) .grow) ?_
    refine wpS.only 1 (op_storeW (t := 23) (v := .agg (enc .u64 y5).toArray) (d := none) (by kernel_rfl) hs 0 rfl (vs := enc .u64 y5) (n := 25) (by kernel_rfl) (by kernel_rfl) (by kernel_rfl) (by simp [enc_len]) (by simp [enc_len]) (by intro u hu; exact enc_one _ _ u hu) ?_)
    intro w kp hs
    refine ⟨fun _ => trivial, ?_⟩
    refine wpS.fin rfl (kr _ _ ?_)
    refine then_n (ks25 _ _ ?_)
    refine wp_ret ?_
    have q0 := of_some h
    subst q0
    exact qq _ _ (post_ret (by kernel_rfl) (run_results [.cell 2 23] [.agg (enc .u64 y5).toArray] (by kernel_rfl) (.cons (res_cellN (n := 25) hs 0 rfl (by kernel_rfl) (by kernel_rfl) (by kernel_rfl) (by exact enc_len _ _)) .nil)) ⟨congrArg Ending.returned (by kernel_rfl), hs.none⟩)

theorem keccak_rate.ok {K : Nat} {a0 : Int} {r0 : Int} (h : keccak_rate.f K a0 = some r0) (w0 : World) : Ret Tryd.prog 23 #[.int .i64 a0] w0 (.int .i64 r0) := by
  refine calls_k Tryd.func23 rfl fun Q qq => ?_
  have hs := St.start w0
  refine wp_conv (a' := ⟨#[.int .i64 a0, undef, undef, undef, undef, undef, undef, undef, undef, undef, undef], []⟩) (by kernel_rfl) ?_
  refine wp_seq_k fun KS1 ks1 => ?_
  refine wp_regS (l := [0]) (by kernel_rfl) fun KR kr => ?_
  refine wpS.take 0 false (some 2) (.int .i64 0) (by kernel_rfl) (yld fun _ => by kernel_rfl) ?_
  refine wpS.fin rfl (kr _ _ ?_)
  refine then_n (ks1 _ _ ?_)
  refine wp_seq_k fun KS11 ks11 => ?_
  refine wp_seq_k fun KS12 ks12 => ?_
  refine wp_regS (l := [0]) (by kernel_rfl) fun KR kr => ?_
  refine wpS.take 0 false (some 3) (.int .i64 a0) (by kernel_rfl) (yld fun _ => by kernel_rfl) ?_
  refine wpS.fin rfl (kr _ _ ?_)
  refine then_n (ks12 _ _ ?_)
  refine wp_block ?_
  refine wp_seq_k fun KS13 ks13 => ?_
  refine wp_seq_k fun KS14 ks14 => ?_
  refine wp_regS (l := [0, 1]) (by kernel_rfl) fun KR kr => ?_
  rcases of_if h with ⟨hc, h⟩ | ⟨hc, h⟩
  · refine wpS.take 0 false (some 5) (.bool true) (by kernel_rfl) (yld_b (et hc) (fun _ => by kernel_rfl)) ?_
    refine wpS.take 1 false (some 4) (.bool true) (by kernel_rfl) (yld fun _ => by kernel_rfl) ?_
    refine wpS.fin rfl (kr _ _ ?_)
    refine then_n (ks14 _ _ ?_)
    refine wp_cond_t (by kernel_rfl) ?_
    refine wp_skip ?_
    refine then_n (ks13 _ _ ?_)
    refine wp_cond_t (by kernel_rfl) ?_
    refine wp_seq_k fun KS15 ks15 => ?_
    refine wp_regS (l := [0]) (by kernel_rfl) fun KR kr => ?_
    refine wpS.take 0 false (some 2) (.int .i64 136) (by kernel_rfl) (yld fun _ => by kernel_rfl) ?_
    refine wpS.fin rfl (kr _ _ ?_)
    refine then_n (ks15 _ _ ?_)
    refine wp_ret ?_
    refine inBlock_r ?_
    refine then_r ?_
    have q0 := of_some h
    subst q0
    exact qq _ _ (post_ret (by kernel_rfl) (run_results [.tmp 2] [.int .i64 136] (by kernel_rfl) (.cons (res_tmp (by kernel_rfl)) .nil)) ⟨congrArg Ending.returned (by kernel_rfl), hs.none⟩)
  · refine wpS.take 0 false (some 5) (.bool false) (by kernel_rfl) (yld_b (ef hc) (fun _ => by kernel_rfl)) ?_
    refine wpS.take 1 false (some 4) (.bool false) (by kernel_rfl) (yld fun _ => by kernel_rfl) ?_
    refine wpS.fin rfl (kr _ _ ?_)
    refine then_n (ks14 _ _ ?_)
    refine wp_cond_f (by kernel_rfl) ?_
    refine wp_regS (l := [0, 1]) (by kernel_rfl) fun KR kr => ?_
    rcases of_if h with ⟨hc, h⟩ | ⟨hc, h⟩
    · refine wpS.take 0 false (some 6) (.bool true) (by kernel_rfl) (yld_b (et hc) (fun _ => by kernel_rfl)) ?_
      refine wpS.take 1 false (some 4) (.bool true) (by kernel_rfl) (yld fun _ => by kernel_rfl) ?_
      refine wpS.fin rfl (kr _ _ ?_)
      refine then_n (ks13 _ _ ?_)
      refine wp_cond_t (by kernel_rfl) ?_
      refine wp_seq_k fun KS16 ks16 => ?_
      refine wp_regS (l := [0]) (by kernel_rfl) fun KR kr => ?_
      refine wpS.take 0 false (some 2) (.int .i64 136) (by kernel_rfl) (yld fun _ => by kernel_rfl) ?_
      refine wpS.fin rfl (kr _ _ ?_)
      refine then_n (ks16 _ _ ?_)
      refine wp_ret ?_
      refine inBlock_r ?_
      refine then_r ?_
      have q0 := of_some h
      subst q0
      exact qq _ _ (post_ret (by kernel_rfl) (run_results [.tmp 2] [.int .i64 136] (by kernel_rfl) (.cons (res_tmp (by kernel_rfl)) .nil)) ⟨congrArg Ending.returned (by kernel_rfl), hs.none⟩)
    · refine wpS.take 0 false (some 6) (.bool false) (by kernel_rfl) (yld_b (ef hc) (fun _ => by kernel_rfl)) ?_
      refine wpS.take 1 false (some 4) (.bool false) (by kernel_rfl) (yld fun _ => by kernel_rfl) ?_
      refine wpS.fin rfl (kr _ _ ?_)
      refine then_n (ks13 _ _ ?_)
      refine wp_cond_f (by kernel_rfl) ?_
      refine wp_seq_k fun KS17 ks17 => ?_
      refine wp_regS (l := [0, 1]) (by kernel_rfl) fun KR kr => ?_
      rcases of_if h with ⟨hc, h⟩ | ⟨hc, h⟩
      · refine wpS.take 0 false (some 8) (.bool true) (by kernel_rfl) (yld_b (et hc) (fun _ => by kernel_rfl)) ?_
        refine wpS.take 1 false (some 7) (.bool true) (by kernel_rfl) (yld fun _ => by kernel_rfl) ?_
        refine wpS.fin rfl (kr _ _ ?_)
        refine then_n (ks17 _ _ ?_)
        refine wp_cond_t (by kernel_rfl) ?_
        refine wp_seq_k fun KS18 ks18 => ?_
        refine wp_regS (l := [0]) (by kernel_rfl) fun KR kr => ?_
        refine wpS.take 0 false (some 2) (.int .i64 72) (by kernel_rfl) (yld fun _ => by kernel_rfl) ?_
        refine wpS.fin rfl (kr _ _ ?_)
        refine then_n (ks18 _ _ ?_)
        refine wp_ret ?_
        refine inBlock_r ?_
        refine then_r ?_
        have q0 := of_some h
        subst q0
        exact qq _ _ (post_ret (by kernel_rfl) (run_results [.tmp 2] [.int .i64 72] (by kernel_rfl) (.cons (res_tmp (by kernel_rfl)) .nil)) ⟨congrArg Ending.returned (by kernel_rfl), hs.none⟩)
      · refine wpS.take 0 false (some 8) (.bool false) (by kernel_rfl) (yld_b (ef hc) (fun _ => by kernel_rfl)) ?_
        refine wpS.take 1 false (some 7) (.bool false) (by kernel_rfl) (yld fun _ => by kernel_rfl) ?_
        refine wpS.fin rfl (kr _ _ ?_)
        refine then_n (ks17 _ _ ?_)
        refine wp_cond_f (by kernel_rfl) ?_
        refine wp_seq_k fun KS19 ks19 => ?_
        refine wp_regS (l := [0, 1]) (by kernel_rfl) fun KR kr => ?_
        rcases of_if h with ⟨hc, h⟩ | ⟨hc, h⟩
        · refine wpS.take 0 false (some 10) (.bool true) (by kernel_rfl) (yld_b (et hc) (fun _ => by kernel_rfl)) ?_
          refine wpS.take 1 false (some 9) (.bool true) (by kernel_rfl) (yld fun _ => by kernel_rfl) ?_
          refine wpS.fin rfl (kr _ _ ?_)
          refine then_n (ks19 _ _ ?_)
          refine wp_cond_t (by kernel_rfl) ?_
          refine wp_seq_k fun KS20 ks20 => ?_
          refine wp_regS (l := [0]) (by kernel_rfl) fun KR kr => ?_
          refine wpS.take 0 false (some 2) (.int .i64 168) (by kernel_rfl) (yld fun _ => by kernel_rfl) ?_
          refine wpS.fin rfl (kr _ _ ?_)
          refine then_n (ks20 _ _ ?_)
          refine wp_ret ?_
          refine inBlock_r ?_
          refine then_r ?_
          have q0 := of_some h
          subst q0
          exact qq _ _ (post_ret (by kernel_rfl) (run_results [.tmp 2] [.int .i64 168] (by kernel_rfl) (.cons (res_tmp (by kernel_rfl)) .nil)) ⟨congrArg Ending.returned (by kernel_rfl), hs.none⟩)
        · refine wpS.take 0 false (some 10) (.bool false) (by kernel_rfl) (yld_b (ef hc) (fun _ => by kernel_rfl)) ?_
          refine wpS.take 1 false (some 9) (.bool false) (by kernel_rfl) (yld fun _ => by kernel_rfl) ?_
          refine wpS.fin rfl (kr _ _ ?_)
          refine then_n (ks19 _ _ ?_)
          refine wp_cond_f (by kernel_rfl) ?_
          refine wp_skip ?_
          refine inBlock_n ?_
          refine then_n (ks11 _ _ ?_)
          refine wp_seq_k fun KS21 ks21 => ?_
          refine wp_regS (l := [0]) (by kernel_rfl) fun KR kr => ?_
          refine wpS.take 0 false (some 2) (.int .i64 0) (by kernel_rfl) (yld fun _ => by kernel_rfl) ?_
          refine wpS.fin rfl (kr _ _ ?_)
          refine then_n (ks21 _ _ ?_)
          refine wp_ret ?_
          have q0 := of_some h
          subst q0
          exact qq _ _ (post_ret (by kernel_rfl) (run_results [.tmp 2] [.int .i64 0] (by kernel_rfl) (.cons (res_tmp (by kernel_rfl)) .nil)) ⟨congrArg Ending.returned (by kernel_rfl), hs.none⟩)

theorem keccak_xor.ok {K : Nat} {a0_0 : Int} {a0_1 : Arr 25} {a0_2 : Int} {a0_3 : Bool} {a1 : Int} {a2 : Int} {rp_0 : Int} {rp_1 : Arr 25} {rp_2 : Int} {rp_3 : Bool} {p0 : Nat} (h : keccak_xor.f K a0_0 a0_1 a0_2 a0_3 a1 a2 = some (rp_0, rp_1, rp_2, rp_3)) (w0 : World) (hb : w0.heap[p0]? = some (.cells (([.int .i64 a0_0] : List Value) ++ enc .u64 a0_1 ++ ([.int .i64 a0_2, .bool a0_3] : List Value)).toArray 25 (0, 0))) : Calls Tryd.prog 24 #[.pointer (some ⟨p0, 0, none⟩), .int .i64 a1, .int .u8 a2] w0 fun e w' => e = .returned (.tuple #[]) ∧ St w0 [p0] [.blk p0 (([.int .i64 rp_0] : List Value) ++ enc .u64 rp_1 ++ ([.int .i64 rp_2, .bool rp_3] : List Value)) 25] [] w' := by
  refine calls_kn Tryd.func24 rfl fun Q qq qn => ?_
  have hs := St.startX hb allX_nil
  refine wp_conv (a' := ⟨#[.pointer (some ⟨p0, 0, none⟩), .int .i64 a1, .int .u8 a2, undef, undef, undef, undef, undef, undef, undef, undef, undef, undef, undef, undef, undef, undef, undef, undef, undef, undef, undef, undef], []⟩) (by kernel_rfl) ?_
  refine wp_regG [17] (fun k => k = p0) 18 (by kernel_rfl) (by kernel_rfl) fun KR kr => ?_
  have hs := hs.drawn1
  refine wpG.takeD 0 false (some 6) (.pointer (some ⟨p0, 0, none⟩)) (by kernel_rfl) (by kernel_rfl) (yld fun _ => by kernel_rfl) ?_
  refine wpG.takeD 1 false (some 7) (.int .i64 a1) (by kernel_rfl) (by kernel_rfl) (yld fun _ => by kernel_rfl) ?_
  refine wpG.takeD 2 false (some 8) (.int .i64 (iquo .i64 a1 8)) (by kernel_rfl) (by kernel_rfl) (yld fun _ => by kernel_rfl) ?_
  refine wpG.takeD 3 false (some 9) (.pointer (some ⟨p0, 0, none⟩)) (by kernel_rfl) (by kernel_rfl) (yld fun _ => by kernel_rfl) ?_
  refine wpG.takeD 4 false (some 10) (.pointer (some ⟨p0, 1, none⟩)) (by kernel_rfl) (by kernel_rfl) (yld fun _ => by kernel_rfl) ?_
  obtain ⟨x1, hx, h⟩ := of_bind h
  have hx := of_some hx
  subst hx
  obtain ⟨i0_7, h⟩ := of_chk h
  obtain ⟨i1_7, h⟩ := of_chk h
  refine wpG.takeD 5 false (some 11) (.pointer (some ⟨p0, 1 + ((iquo .i64 a1 8) : Int).toNat * 1, none⟩)) (by kernel_rfl) (by kernel_rfl) (yld_idx (t := 23) (e := 22) (n := 25) (sz := 1) (k := .i64) (x := (iquo .i64 a1 8)) (by kernel_rfl) (by kernel_rfl) (by kernel_rfl) i0_7 i1_7) ?_
  refine wpG.takeD 6 true (some 12) (.int .u64 (rd a0_1 (iquo .i64 a1 8))) (by kernel_rfl) (by kernel_rfl) (yld_loadP (m := 1) (e := 22) (x := (iquo .i64 a1 8)) hs 0 rfl (by kernel_rfl) (by kernel_rfl) i0_7 i1_7 (by simp [enc_len]) .grow) ?_
  refine wpG.takeD 7 false (some 13) (.int .u8 a2) (by kernel_rfl) (by kernel_rfl) (yld fun _ => by kernel_rfl) ?_
  refine wpG.takeD 8 false (some 14) (.int .u64 (iconv .u64 a2)) (by kernel_rfl) (by kernel_rfl) (yld fun _ => by kernel_rfl) ?_
  refine wpG.takeD 9 false (some 15) (.int .i64 a1) (by kernel_rfl) (by kernel_rfl) (yld fun _ => by kernel_rfl) ?_
  refine wpG.takeD 10 false (some 16) (.int .i64 (irem .i64 a1 8)) (by kernel_rfl) (by kernel_rfl) (yld fun _ => by kernel_rfl) ?_
  refine wpG.takeD 11 false (some 17) (.int .i64 (imul .i64 8 (irem .i64 a1 8))) (by kernel_rfl) (by kernel_rfl) (yld fun _ => by kernel_rfl) ?_
  obtain ⟨h0, h⟩ := of_chk h
  refine wpG.takeD 12 false (some 18) (.int .u64 (ishl .u64 (iconv .u64 a2) (imul .i64 8 (irem .i64 a1 8)))) (by kernel_rfl) (by kernel_rfl) (yld_shl (t := 22) (k' := .i64) (by kernel_rfl) h0) ?_
  refine wpG.takeD 13 false (some 19) (.int .u64 (ixor .u64 (rd a0_1 (iquo .i64 a1 8)) (ishl .u64 (iconv .u64 a2) (imul .i64 8 (irem .i64 a1 8))))) (by kernel_rfl) (by kernel_rfl) (yld fun _ => by kernel_rfl) ?_
  refine wpG.takeD 14 false (some 20) (.pointer (some ⟨p0, 0, none⟩)) (by kernel_rfl) (by kernel_rfl) (yld fun _ => by kernel_rfl) ?_
  refine wpG.takeD 15 false (some 21) (.pointer (some ⟨p0, 1, none⟩)) (by kernel_rfl) (by kernel_rfl) (yld fun _ => by kernel_rfl) ?_
  obtain ⟨x2, hx, h⟩ := of_bind h
  have hx := of_some hx
  subst hx
  obtain ⟨i0_8, h⟩ := of_chk h
  obtain ⟨i1_8, h⟩ := of_chk h
  refine wpG.takeD 16 false (some 22) (.pointer (some ⟨p0, 1 + ((iquo .i64 a1 8) : Int).toNat * 1, none⟩)) (by kernel_rfl) (by kernel_rfl) (yld_idx (t := 23) (e := 22) (n := 25) (sz := 1) (k := .i64) (x := (iquo .i64 a1 8)) (by kernel_rfl) (by kernel_rfl) (by kernel_rfl) i0_8 i1_8) ?_
  obtain ⟨x3, hx, h⟩ := of_bind h
  refine wpG.only 17 (by kernel_rfl) (op_storeP (m := 1) (t := 22) (x := (iquo .i64 a1 8)) (v := x3) (d := none) (by kernel_rfl) hs 0 rfl (by cases hx; kernel_rfl) (by kernel_rfl) i0_8 i1_8 (by simp [enc_len]) ?_)
  intro w kp hs
  refine ⟨⟨fun hf => absurd hf (by decide), kp.mono fun _ h => h⟩, ?_⟩
  refine wpG.fin (by kernel_rfl) rfl (kr _ _ ?_)
  obtain ⟨q0, qr0⟩ := Prod.mk.inj (of_some h)
  obtain ⟨q1, qr1⟩ := Prod.mk.inj (qr0)
  obtain ⟨q2, qr2⟩ := Prod.mk.inj (qr1)
  have q3 := qr2
  subst q0
  subst q1
  subst q2
  subst q3
  exact qn _ _ (post_nrm (by kernel_rfl) (run_results [] [] (by kernel_rfl) .nil) ⟨congrArg Ending.returned (by kernel_rfl), (hs.conv rfl)⟩)
end Go.Proofs.YtijahfdldlmnhaaDoor
