/- Printed by this work's own program: the code of each function below comes to the answer that its plain form tells. -/
import Derived.Test.YtmpagpbnpgcecaaMa
import Derived.Test.YtmpagpbnpgcecaaProg
import Derived.Test.YtmpagpbnpgcecaaQF0
import Derived.Test.YtmpagpbnpgcecaaQX0
set_option linter.unusedVariables false
set_option linter.unusedSimpArgs false
set_option maxRecDepth 100000
set_option maxHeartbeats 4000000
namespace Go.Proofs.Ytmpagpbnpgcecaa
open Go.Mx
attribute [local irreducible] wpOp

theorem aes_mix.ok {K : Nat} {a0 : Arr 16} {rp : Arr 16} {p0 : Nat} (h : aes_mix.f K a0 = some rp) (w0 : World) (hb : w0.heap[p0]? = some (.cells (enc .u8 a0).toArray 42 (0, 0))) : Calls Try.prog 87 #[.pointer (some ⟨p0, 0, none⟩)] w0 fun e w' => e = .returned (.tuple #[]) ∧ St w0 [p0] [.blk p0 (enc .u8 rp) 42] [] w' := by
 refine calls_kn Try.func87 rfl fun Q qq qn => ?_
 have hs := St.startX hb allX_nil
 refine wp_conv (a' := ⟨#[.pointer (some ⟨p0, 0, none⟩), undef, undef, undef, undef, undef, undef, undef, undef, undef, undef, undef, undef, undef, undef, undef, undef, undef, undef, undef, undef, undef, undef, undef, undef, undef, undef, undef, undef, undef, undef, undef, undef, undef, undef, undef, undef, undef, undef, undef, undef, undef, undef, undef, undef, undef, undef, undef, undef, undef, undef, undef, undef, undef, undef], []⟩) (by kernel_rfl) ?_
 refine xseq_k fun KS1 ks1 => ?_
 refine xregS [0] fun KR2 kr2 => ?_
 refine wpS.q 0 2 (.int .i64 0) ?_
 refine wpS.fin rfl (kr2 _ _ (then_n (ks1 _ _ ?_)))
 obtain ⟨y3, hy, hk0⟩ := of_bind h
 refine wp_exq (N := fun a w => St w0 [p0] [.blk p0 (enc .u8 y3) 42] [] w ∧ ∃ g4 : Nat → Value, a = ⟨#[.pointer (some ⟨p0, 0, none⟩), undef, (g4 2), (g4 3), (g4 4), (g4 5), (g4 6), (g4 7), (g4 8), (g4 9), (g4 10), (g4 11), (g4 12), (g4 13), (g4 14), (g4 15), (g4 16), (g4 17), (g4 18), (g4 19), (g4 20), (g4 21), (g4 22), (g4 23), (g4 24), (g4 25), (g4 26), (g4 27), (g4 28), (g4 29), (g4 30), (g4 31), (g4 32), (g4 33), (g4 34), (g4 35), (g4 36), (g4 37), (g4 38), (g4 39), (g4 40), (g4 41), (g4 42), (g4 43), (g4 44), (g4 45), (g4 46), (g4 47), (g4 48), (g4 49), (g4 50), (g4 51), (g4 52), (g4 53), (g4 54)], []⟩) (fun N0 nn0 => ?_) ?_
 ·clear hk0
  refine xblock ?_
  refine wp_loop_k (fun n a w => ∃ z1 z2, aes_mix.l0 K n z1 z2 = some y3 ∧ St w0 [p0] [.blk p0 (enc .u8 z2) 42] [] w ∧ ∃ g3 : Nat → Value, a = ⟨#[.pointer (some ⟨p0, 0, none⟩), undef, .int .i64 z1, (g3 3), (g3 4), (g3 5), (g3 6), (g3 7), (g3 8), (g3 9), (g3 10), (g3 11), (g3 12), (g3 13), (g3 14), (g3 15), (g3 16), (g3 17), (g3 18), (g3 19), (g3 20), (g3 21), (g3 22), (g3 23), (g3 24), (g3 25), (g3 26), (g3 27), (g3 28), (g3 29), (g3 30), (g3 31), (g3 32), (g3 33), (g3 34), (g3 35), (g3 36), (g3 37), (g3 38), (g3 39), (g3 40), (g3 41), (g3 42), (g3 43), (g3 44), (g3 45), (g3 46), (g3 47), (g3 48), (g3 49), (g3 50), (g3 51), (g3 52), (g3 53), (g3 54)], []⟩) K ⟨0, a0, hy, hs.conv rfl, exg (by kernel_rfl)⟩ ?_
  clear hs h hy
  rintro n a w ⟨z1, z2, h, hs, g3, rfl⟩ KL0 kl0
  cases n with
  | zero => exact nomatch (show none = some _ from h)
  | succ n =>
   refine xseq_k fun KS5 ks5 => ?_
   refine xseq_k fun KS6 ks6 => ?_
   refine xregS [0, 1] fun KR7 kr7 => ?_
   refine wpS.q 0 6 (.int .i64 z1) ?_
   rcases of_if h with ⟨hc, h⟩ | ⟨hc, h⟩
   ·refine wpS.tk 1 false (some 7) (.bool true) (yld_b (dt hc) (fun _ => by kernel_rfl)) ?_
    refine wpS.fin rfl (kr7 _ _ (then_n (ks6 _ _ (wp_cond_t (by kernel_rfl) (xskip (then_n (ks5 _ _ (xseq_k fun KS8 ks8 => (xblock (xseq_k fun KS9 ks9 => (xregS [0, 1, 2, 3, 4, 5, 6, 7, 8, 9] fun KR10 kr10 => ?_)))))))))))
    refine wpS.qs [(0, 10, .pointer (some ⟨p0, 0, none⟩)), (1, 11, .pointer (some ⟨p0, 0, none⟩)), (2, 12, .int .i64 z1), (3, 13, .int .i64 z1), (4, 14, .int .i64 (iadd .i64 z1 4))] ?_
    obtain ⟨b0_11, h⟩ := of_chk h
    obtain ⟨b1_11, h⟩ := of_chk h
    obtain ⟨b2_11, h⟩ := of_chk h
    obtain ⟨b3_11, h⟩ := of_chk h
    refine wpS.tk 5 false (some 15) (.slice (some ⟨p0, 0 + (z1 : Int).toNat * 1, none⟩) (((iadd .i64 z1 4) : Int).toNat - (z1 : Int).toNat) (16 - (z1 : Int).toNat)) (yld_slA (t := 42) (e := 5) (n := 16) (k1 := .i64) (k2 := .i64) (lo := z1) (hi := (iadd .i64 z1 4)) (by kernel_rfl) (by kernel_rfl) (by kernel_rfl) b0_11 b1_11 b2_11 b3_11) ?_
    obtain ⟨h0, h⟩ := of_chk h
    have i0_12 := b0_11
    have i1_12 : (z1 : Int) + ((4 : Nat) : Int) ≤ ((16 : Nat) : Int) := by have := b2_11; omega
    refine wpS.tk 6 false (some 16) (.pointer (some ⟨p0, 0 + (z1 : Int).toNat * 1, none⟩)) (yld_toArr (t := 101) (e := 5) (n := 4) (len := ((iadd .i64 z1 4) : Int).toNat - (z1 : Int).toNat) (c := 16 - (z1 : Int).toNat) (by kernel_rfl) (by kernel_rfl) h0) ?_
    refine wpS.tk 7 true (some 17) (.agg (enc .u8 (subA 4 z2 z1)).toArray) (yld_loadSub (e := 101) (m := 4) (x := z1) hs 0 rfl (by kernel_rfl) (by kernel_rfl) (by kernel_rfl) i0_12 i1_12 .grow) ?_
    refine wpS.only 8 (op_alloc (t := 101) (d := (some 3)) (by kernel_rfl) hs (enc .u8 (zeroA 4)) (.agg (enc .u8 (zeroA 4)).toArray) (by kernel_rfl) (by kernel_rfl) (by kernel_rfl) ?_)
    intro b4 w gw hs
    refine ⟨fun _ => trivial, ?_⟩
    refine wpS.only 9 (op_storeW (t := 101) (v := .agg (enc .u8 (subA 4 z2 z1)).toArray) (d := none) (by kernel_rfl) hs 0 rfl (vs := enc .u8 (subA 4 z2 z1)) (n := 4) (by kernel_rfl) (by kernel_rfl) (by kernel_rfl) (by simp [enc_len]) (by simp [enc_len]) (by intro u hu; exact enc_one _ _ u hu) ?_)
    intro w kp hs
    refine ⟨fun _ => trivial, ?_⟩
    refine wpS.fin rfl (kr10 _ _ (then_n (ks9 _ _ (xseq_k fun KS13 ks13 => (xregS [0, 1, 2, 3, 4, 5, 6, 7, 8, 9, 10, 11] fun KR14 kr14 => ?_)))))
    refine wpS.tk 0 false (some 18) (.pointer (some ⟨b4, 0 + (0 : Int).toNat * 1, none⟩)) (yld_idx (t := 101) (e := 5) (n := 4) (sz := 1) (k := .i64) (x := 0) (by kernel_rfl) (by kernel_rfl) (by kernel_rfl) (by decide) (by decide)) ?_
    refine wpS.tk 1 true (some 19) (.int .u8 (rd (subA 4 z2 z1) 0)) (yld_loadA (e := 5) (x := 0) hs 0 rfl (by kernel_rfl) (by kernel_rfl) (by decide) (by decide) .grow) ?_
    refine wpS.tk 2 false (some 20) (.pointer (some ⟨b4, 0 + (1 : Int).toNat * 1, none⟩)) (yld_idx (t := 101) (e := 5) (n := 4) (sz := 1) (k := .i64) (x := 1) (by kernel_rfl) (by kernel_rfl) (by kernel_rfl) (by decide) (by decide)) ?_
    refine wpS.tk 3 true (some 21) (.int .u8 (rd (subA 4 z2 z1) 1)) (yld_loadA (e := 5) (x := 1) hs 0 rfl (by kernel_rfl) (by kernel_rfl) (by decide) (by decide) .grow) ?_
    refine wpS.q 4 22 (.int .u8 (ixor .u8 (rd (subA 4 z2 z1) 0) (rd (subA 4 z2 z1) 1))) ?_
    refine wpS.tk 5 false (some 23) (.pointer (some ⟨b4, 0 + (2 : Int).toNat * 1, none⟩)) (yld_idx (t := 101) (e := 5) (n := 4) (sz := 1) (k := .i64) (x := 2) (by kernel_rfl) (by kernel_rfl) (by kernel_rfl) (by decide) (by decide)) ?_
    refine wpS.tk 6 true (some 24) (.int .u8 (rd (subA 4 z2 z1) 2)) (yld_loadA (e := 5) (x := 2) hs 0 rfl (by kernel_rfl) (by kernel_rfl) (by decide) (by decide) .grow) ?_
    refine wpS.q 7 25 (.int .u8 (ixor .u8 (ixor .u8 (rd (subA 4 z2 z1) 0) (rd (subA 4 z2 z1) 1)) (rd (subA 4 z2 z1) 2))) ?_
    refine wpS.tk 8 false (some 26) (.pointer (some ⟨b4, 0 + (3 : Int).toNat * 1, none⟩)) (yld_idx (t := 101) (e := 5) (n := 4) (sz := 1) (k := .i64) (x := 3) (by kernel_rfl) (by kernel_rfl) (by kernel_rfl) (by decide) (by decide)) ?_
    refine wpS.tk 9 true (some 27) (.int .u8 (rd (subA 4 z2 z1) 3)) (yld_loadA (e := 5) (x := 3) hs 0 rfl (by kernel_rfl) (by kernel_rfl) (by decide) (by decide) .grow) ?_
    refine wpS.q 10 28 (.int .u8 (ixor .u8 (ixor .u8 (ixor .u8 (rd (subA 4 z2 z1) 0) (rd (subA 4 z2 z1) 1)) (rd (subA 4 z2 z1) 2)) (rd (subA 4 z2 z1) 3))) ?_
    obtain ⟨x5, hx, h⟩ := of_bind h
    refine wpS.tk 11 false (some 4) (.int .u8 x5) (yld_int hx (fun _ => by kernel_rfl)) ?_
    refine wpS.fin rfl (kr14 _ _ (then_n (ks13 _ _ (xseq_k fun KS19 ks19 => (xregS [0] fun KR20 kr20 => ?_)))))
    refine wpS.q 0 29 (.int .i64 0) ?_
    refine wpS.fin rfl (kr20 _ _ (then_n (ks19 _ _ ?_)))
    obtain ⟨y8, hy, hk1⟩ := of_bind h
    refine wp_exq (N := fun a w => St w0 [p0] [.blk b4 (enc .u8 (subA 4 z2 z1)) 101, .blk p0 (enc .u8 y8) 42] [] w ∧ ∃ g22 : Nat → Value, a = ⟨#[.pointer (some ⟨p0, 0, none⟩), undef, .int .i64 z1, .pointer (some ⟨b4, 0, none⟩), .int .u8 x5, (g22 5), .int .i64 z1, .bool true, (g3 8), (g3 9), .pointer (some ⟨p0, 0, none⟩), .pointer (some ⟨p0, 0, none⟩), .int .i64 z1, .int .i64 z1, .int .i64 (iadd .i64 z1 4), .slice (some ⟨p0, 0 + (z1 : Int).toNat * 1, none⟩) (((iadd .i64 z1 4) : Int).toNat - (z1 : Int).toNat) (16 - (z1 : Int).toNat), .pointer (some ⟨p0, 0 + (z1 : Int).toNat * 1, none⟩), .agg (enc .u8 (subA 4 z2 z1)).toArray, .pointer (some ⟨b4, 0 + (0 : Int).toNat * 1, none⟩), .int .u8 (rd (subA 4 z2 z1) 0), .pointer (some ⟨b4, 0 + (1 : Int).toNat * 1, none⟩), .int .u8 (rd (subA 4 z2 z1) 1), .int .u8 (ixor .u8 (rd (subA 4 z2 z1) 0) (rd (subA 4 z2 z1) 1)), .pointer (some ⟨b4, 0 + (2 : Int).toNat * 1, none⟩), .int .u8 (rd (subA 4 z2 z1) 2), .int .u8 (ixor .u8 (ixor .u8 (rd (subA 4 z2 z1) 0) (rd (subA 4 z2 z1) 1)) (rd (subA 4 z2 z1) 2)), .pointer (some ⟨b4, 0 + (3 : Int).toNat * 1, none⟩), .int .u8 (rd (subA 4 z2 z1) 3), .int .u8 (ixor .u8 (ixor .u8 (ixor .u8 (rd (subA 4 z2 z1) 0) (rd (subA 4 z2 z1) 1)) (rd (subA 4 z2 z1) 2)) (rd (subA 4 z2 z1) 3)), (g22 29), (g22 30), (g22 31), (g22 32), (g22 33), (g22 34), (g22 35), (g22 36), (g22 37), (g22 38), (g22 39), (g22 40), (g22 41), (g22 42), (g22 43), (g22 44), (g22 45), (g22 46), (g22 47), (g22 48), (g22 49), (g22 50), (g22 51), (g22 52), (g22 53), (g22 54)], []⟩) (fun N1 nn1 => ?_) ?_
    ·clear hk1
     refine xblock ?_
     refine wp_loop_k (fun n a w => ∃ z6 z7, aes_mix.l1 K n z1 z2 x5 z6 z7 = some y8 ∧ St w0 [p0] [.blk b4 (enc .u8 (subA 4 z2 z1)) 101, .blk p0 (enc .u8 z7) 42] [] w ∧ ∃ g21 : Nat → Value, a = ⟨#[.pointer (some ⟨p0, 0, none⟩), undef, .int .i64 z1, .pointer (some ⟨b4, 0, none⟩), .int .u8 x5, (g21 5), .int .i64 z1, .bool true, (g3 8), (g3 9), .pointer (some ⟨p0, 0, none⟩), .pointer (some ⟨p0, 0, none⟩), .int .i64 z1, .int .i64 z1, .int .i64 (iadd .i64 z1 4), .slice (some ⟨p0, 0 + (z1 : Int).toNat * 1, none⟩) (((iadd .i64 z1 4) : Int).toNat - (z1 : Int).toNat) (16 - (z1 : Int).toNat), .pointer (some ⟨p0, 0 + (z1 : Int).toNat * 1, none⟩), .agg (enc .u8 (subA 4 z2 z1)).toArray, .pointer (some ⟨b4, 0 + (0 : Int).toNat * 1, none⟩), .int .u8 (rd (subA 4 z2 z1) 0), .pointer (some ⟨b4, 0 + (1 : Int).toNat * 1, none⟩), .int .u8 (rd (subA 4 z2 z1) 1), .int .u8 (ixor .u8 (rd (subA 4 z2 z1) 0) (rd (subA 4 z2 z1) 1)), .pointer (some ⟨b4, 0 + (2 : Int).toNat * 1, none⟩), .int .u8 (rd (subA 4 z2 z1) 2), .int .u8 (ixor .u8 (ixor .u8 (rd (subA 4 z2 z1) 0) (rd (subA 4 z2 z1) 1)) (rd (subA 4 z2 z1) 2)), .pointer (some ⟨b4, 0 + (3 : Int).toNat * 1, none⟩), .int .u8 (rd (subA 4 z2 z1) 3), .int .u8 (ixor .u8 (ixor .u8 (ixor .u8 (rd (subA 4 z2 z1) 0) (rd (subA 4 z2 z1) 1)) (rd (subA 4 z2 z1) 2)) (rd (subA 4 z2 z1) 3)), .int .i64 z6, (g21 30), (g21 31), (g21 32), (g21 33), (g21 34), (g21 35), (g21 36), (g21 37), (g21 38), (g21 39), (g21 40), (g21 41), (g21 42), (g21 43), (g21 44), (g21 45), (g21 46), (g21 47), (g21 48), (g21 49), (g21 50), (g21 51), (g21 52), (g21 53), (g21 54)], []⟩) K ⟨0, z2, hy, hs.conv rfl, exg (by kernel_rfl)⟩ ?_
     clear hs h hy
     rintro n a w ⟨z6, z7, h, hs, g21, rfl⟩ KL1 kl1
     cases n with
     | zero => exact nomatch (show none = some _ from h)
     | succ n =>
      refine xseq_k fun KS23 ks23 => ?_
      refine xregS [0] fun KR24 kr24 => ?_
      rcases of_if h with ⟨hc, h⟩ | ⟨hc, h⟩
      ·refine wpS.tk 0 false (some 30) (.bool true) (yld_b (dt hc) (fun _ => by kernel_rfl)) ?_
       refine wpS.fin rfl (kr24 _ _ (then_n (ks23 _ _ (xseq_k fun KS25 ks25 => (wp_cond_t (by kernel_rfl) (xskip (then_n (ks25 _ _ (xseq_k fun KS26 ks26 => (xblock (xseq_k fun KS27 ks27 => (xregS [0, 1] fun KR28 kr28 => ?_))))))))))))
       refine wpS.qs [(0, 31, .int .i64 z6), (1, 5, .int .i64 z6)] ?_
       refine wpS.fin rfl (kr28 _ _ (then_n (ks27 _ _ ?_)))
       refine wp_regG [22] (fun k => True) 23 (by kernel_rfl) (by kernel_rfl) (by kernel_rfl) fun KR29 kr29 => ?_
       have hs := hs.drawn1
       refine wpG.q 0 32 (.pointer (some ⟨p0, 0, none⟩)) ?_
       refine wpG.q 1 33 (.int .i64 z1) ?_
       refine wpG.q 2 34 (.int .i64 z6) ?_
       refine wpG.q 3 35 (.int .i64 (iadd .i64 z1 z6)) ?_
       refine wpG.q 4 36 (.int .i64 z6) ?_
       obtain ⟨i0_30, h⟩ := of_chk h
       obtain ⟨i1_30, h⟩ := of_chk h
       refine wpG.tD 5 false (some 37) (.pointer (some ⟨b4, 0 + (z6 : Int).toNat * 1, none⟩)) (yld_idx (t := 101) (e := 5) (n := 4) (sz := 1) (k := .i64) (x := z6) (by kernel_rfl) (by kernel_rfl) (by kernel_rfl) i0_30 i1_30) ?_
       refine wpG.tD 6 true (some 38) (.int .u8 (rd (subA 4 z2 z1) z6)) (yld_loadA (e := 5) (x := z6) hs 0 rfl (by kernel_rfl) (by kernel_rfl) i0_30 i1_30 .grow) ?_
       refine wpG.q 7 39 (.int .u8 x5) ?_
       refine wpG.q 8 40 (.int .u8 (ixor .u8 (rd (subA 4 z2 z1) z6) x5)) ?_
       refine wpG.q 9 41 (.int .i64 z6) ?_
       obtain ⟨i0_31, h⟩ := of_chk h
       obtain ⟨i1_31, h⟩ := of_chk h
       refine wpG.tD 10 false (some 42) (.pointer (some ⟨b4, 0 + (z6 : Int).toNat * 1, none⟩)) (yld_idx (t := 101) (e := 5) (n := 4) (sz := 1) (k := .i64) (x := z6) (by kernel_rfl) (by kernel_rfl) (by kernel_rfl) i0_31 i1_31) ?_
       refine wpG.tD 11 true (some 43) (.int .u8 (rd (subA 4 z2 z1) z6)) (yld_loadA (e := 5) (x := z6) hs 0 rfl (by kernel_rfl) (by kernel_rfl) i0_31 i1_31 .grow) ?_
       refine wpG.q 12 44 (.int .i64 z6) ?_
       refine wpG.q 13 45 (.int .i64 (iadd .i64 z6 1)) ?_
       refine wpG.q 14 46 (.int .i64 (irem .i64 (iadd .i64 z6 1) 4)) ?_
       obtain ⟨x9, hx, h⟩ := of_bind h
       have hx := of_some hx
       subst hx
       obtain ⟨i0_32, h⟩ := of_chk h
       obtain ⟨i1_32, h⟩ := of_chk h
       refine wpG.tD 15 false (some 47) (.pointer (some ⟨b4, 0 + ((irem .i64 (iadd .i64 z6 1) 4) : Int).toNat * 1, none⟩)) (yld_idx (t := 101) (e := 5) (n := 4) (sz := 1) (k := .i64) (x := (irem .i64 (iadd .i64 z6 1) 4)) (by kernel_rfl) (by kernel_rfl) (by kernel_rfl) i0_32 i1_32) ?_
       refine wpG.tD 16 true (some 48) (.int .u8 (rd (subA 4 z2 z1) (irem .i64 (iadd .i64 z6 1) 4))) (yld_loadA (e := 5) (x := (irem .i64 (iadd .i64 z6 1) 4)) hs 0 rfl (by kernel_rfl) (by kernel_rfl) i0_32 i1_32 .grow) ?_
       refine wpG.q 17 49 (.int .u8 (ixor .u8 (rd (subA 4 z2 z1) z6) (rd (subA 4 z2 z1) (irem .i64 (iadd .i64 z6 1) 4)))) ?_
       refine wpG.q 20 52 (.pointer (some ⟨p0, 0, none⟩)) ?_
       obtain ⟨r10, hg, h⟩ := of_bind h
       refine wpG.only 18 (by kernel_rfl) (op_call (d := (some 50)) (by kernel_rfl) hs (fun _ => by kernel_rfl) (aes_double.ok hg _) ?_)
       intro w gw hs
       refine ⟨.of gw, ?_⟩
       refine wpG.q 19 51 (.int .u8 (ixor .u8 (ixor .u8 (rd (subA 4 z2 z1) z6) x5) r10)) ?_
       obtain ⟨x11, hx, h⟩ := of_bind h
       have hx := of_some hx
       subst hx
       obtain ⟨i0_33, h⟩ := of_chk h
       obtain ⟨i1_33, h⟩ := of_chk h
       refine wpG.tD 21 false (some 53) (.pointer (some ⟨p0, 0 + ((iadd .i64 z1 z6) : Int).toNat * 1, none⟩)) (yld_idx (t := 42) (e := 5) (n := 16) (sz := 1) (k := .i64) (x := (iadd .i64 z1 z6)) (by kernel_rfl) (by kernel_rfl) (by kernel_rfl) i0_33 i1_33) ?_
       obtain ⟨x12, hx, h⟩ := of_bind h
       refine wpG.only 22 (by kernel_rfl) (op_storeA (t := 5) (x := (iadd .i64 z1 z6)) (v := x12) (d := none) (by kernel_rfl) hs 1 rfl (by cases hx; kernel_rfl) (by kernel_rfl) i0_33 i1_33 ?_)
       intro w kp hs
       refine ⟨⟨fun hf => absurd hf (by decide), .all _ _⟩, ?_⟩
       refine wpG.fin (by kernel_rfl) rfl (kr29 _ _ ?_)
       refine inBlock_n (then_n (ks26 _ _ (xregS [0, 1] fun KR34 kr34 => ?_)))
       refine wpS.qs [(0, 54, .int .i64 (iadd .i64 z6 1)), (1, 29, .int .i64 (iadd .i64 z6 1))] ?_
       refine wpS.fin rfl (kr34 _ _ ?_)
       exact then_n (kl1 _ _ ⟨n, Nat.lt_succ_self n, (iadd .i64 z6 1), (wr z7 (iadd .i64 z1 z6) x12), h, (hs.conv rfl), exg (by kernel_rfl)⟩)
      refine wpS.tk 0 false (some 30) (.bool false) (yld_b (df hc) (fun _ => by kernel_rfl)) ?_
      refine wpS.fin rfl (kr24 _ _ (then_n (ks23 _ _ (xseq_k fun KS35 ks35 => (wp_cond_f (by kernel_rfl) (xexit (then_x (then_x (inBlock_hit ?_)))))))))
      have q0 := of_some h
      subst q0
      exact exq_n (nn1 _ _ ⟨(hs.conv rfl), exg (by kernel_rfl)⟩)
    clear hs h hy
    rintro a w ⟨hs, g22, rfl⟩
    have h := hk1
    refine inBlock_n (then_n (ks8 _ _ (xregS [0, 1, 2] fun KR36 kr36 => ?_)))
    refine wpS.qs [(0, 8, .int .i64 z1), (1, 9, .int .i64 (iadd .i64 z1 4))] ?_
    obtain ⟨x13, hx, h⟩ := of_bind h
    refine wpS.tk 2 false (some 2) (.int .i64 x13) (yld_int hx (fun _ => by kernel_rfl)) ?_
    refine wpS.fin rfl (kr36 _ _ ?_)
    exact then_n (kl0 _ _ ⟨n, Nat.lt_succ_self n, x13, y8, h, (hs.drop (.cons _ (.cons_cons _ .slnil))), exg (by kernel_rfl)⟩)
   refine wpS.tk 1 false (some 7) (.bool false) (yld_b (df hc) (fun _ => by kernel_rfl)) ?_
   refine wpS.fin rfl (kr7 _ _ (then_n (ks6 _ _ (wp_cond_f (by kernel_rfl) (xexit (then_x (then_x (inBlock_hit ?_))))))))
   have q0 := of_some h
   subst q0
   exact exq_n (nn0 _ _ ⟨(hs.conv rfl), exg (by kernel_rfl)⟩)
 clear hs h hy
 rintro a w ⟨hs, g4, rfl⟩
 have h := hk0
 have q0 := of_some h
 subst q0
 exact qn _ _ (post_nrm (by kernel_rfl) (run_results [] [] (by kernel_rfl) .nil) ⟨congrArg Ending.returned (by kernel_rfl), (hs.conv rfl)⟩)
end Go.Proofs.Ytmpagpbnpgcecaa
