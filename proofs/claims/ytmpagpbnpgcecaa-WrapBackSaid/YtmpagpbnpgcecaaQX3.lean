/- Printed by this work's own program: the code of each function below comes to the answer that its plain form tells. -/
import Derived.Test.YtmpagpbnpgcecaaMa
import Derived.Test.YtmpagpbnpgcecaaProg
import Derived.Test.YtmpagpbnpgcecaaQF0
import Derived.Test.YtmpagpbnpgcecaaQX0
import Derived.Test.YtmpagpbnpgcecaaQX1
import Derived.Test.YtmpagpbnpgcecaaQX2
set_option linter.unusedVariables false
set_option linter.unusedSimpArgs false
set_option maxRecDepth 100000
set_option maxHeartbeats 4000000
namespace Go.Proofs.Ytmpagpbnpgcecaa
open Go.Mx
attribute [local irreducible] wpOp

theorem aes_cipher_there_s.ok {K : Nat} {ca0 : Arr 256} {ca1 : Arr 256} {ca2 : List (Arr 16)} {ca3 : Arr 16} {y1 : Arr 16} {cb0 : Nat} {cb1 : Nat} {ca2_A : Option Addr} {ca2_n : Nat} {ca2_c : Nat} (h : aes_cipher_there_s.f K ca0 ca1 ca2 ca3 = some y1) {w0 w : World} {X : List Nat} {Lt Rt : List Ent} (hs : St w0 X (.blk cb0 ([.pointer (some ⟨cb1, 0, none⟩), .slice ca2_A ca2_n ca2_c]) 98 :: .blk cb1 (([] : List Value) ++ enc .u8 ca0 ++ enc .u8 ca1 ++ ([] : List Value)) 48 :: .ownL (CA .u8 16 (by decide)) ca2_A ca2_n ca2_c ca2 42 :: Lt) Rt w) : Calls Try.prog 48 #[.pointer (some ⟨cb0, 0, none⟩), .agg (enc .u8 ca3).toArray] w fun e w' => e = .returned (.agg (enc .u8 y1).toArray) ∧ St w0 X (.blk cb0 ([.pointer (some ⟨cb1, 0, none⟩), .slice ca2_A ca2_n ca2_c]) 98 :: .blk cb1 (([] : List Value) ++ enc .u8 ca0 ++ enc .u8 ca1 ++ ([] : List Value)) 48 :: .ownL (CA .u8 16 (by decide)) ca2_A ca2_n ca2_c ca2 42 :: Lt) Rt w' := by
 refine calls_k Try.func48 rfl fun Q qq => ?_
 refine wp_conv (a' := ⟨#[.pointer (some ⟨cb0, 0, none⟩), .agg (enc .u8 ca3).toArray, undef, undef, undef, undef, undef, undef, undef, undef, undef, undef, undef, undef, undef, undef, undef, undef, undef, undef, undef, undef, undef, undef, undef, undef, undef, undef, undef, undef, undef, undef, undef, undef, undef, undef, undef, undef, undef, undef, undef, undef, undef, undef, undef, undef, undef, undef, undef, undef, undef, undef, undef], []⟩) (by kernel_rfl) ?_
 refine xseq_k fun KS1 ks1 => ?_
 refine xregS [0, 1] fun KR2 kr2 => ?_
 refine wpS.only 0 (op_box (t := 42) (v := .agg (enc .u8 ca3).toArray) (d := (some 3)) (by kernel_rfl) hs (enc .u8 ca3) (by kernel_rfl) (by kernel_rfl) ?_)
 intro b2 w gw hs
 refine ⟨fun _ => trivial, ?_⟩
 refine wpS.only 1 (op_alloc (t := 42) (d := (some 4)) (by kernel_rfl) hs (enc .u8 (zeroA 16)) (.agg (enc .u8 (zeroA 16)).toArray) (by kernel_rfl) (by kernel_rfl) (by kernel_rfl) ?_)
 intro b3 w gw hs
 refine ⟨fun _ => trivial, ?_⟩
 refine wpS.fin rfl (kr2 _ _ (then_n (ks1 _ _ (xseq_k fun KS3 ks3 => (xregS [0, 1, 2, 3, 4, 5, 6] fun KR4 kr4 => ?_)))))
 refine wpS.qs [(0, 9, .pointer (some ⟨cb0, 0, none⟩)), (1, 10, .pointer (some ⟨cb0, 0, none⟩)), (2, 11, .pointer (some ⟨cb0, 1, none⟩))] ?_
 refine wpS.tk 3 true (some 12) (.slice ca2_A ca2_n ca2_c) (yld_load1 (e := 96) (o := 1) hs 2 rfl (by kernel_rfl) (by kernel_rfl) (by rfl) .grow) ?_
 refine wpS.tk 4 false (some 13) (.int .i64 (ca2.length : Int)) (yld_lenL (hs.rowL 4 rfl) (fun _ => by kernel_rfl)) ?_
 refine wpS.q 5 14 (.int .i64 (isub .i64 (ca2.length : Int) 1)) ?_
 obtain ⟨x4, hx, h⟩ := of_bind h
 refine wpS.tk 6 false (some 5) (.int .i64 x4) (yld_int hx (fun _ => by kernel_rfl)) ?_
 refine wpS.fin rfl (kr4 _ _ (then_n (ks3 _ _ (xseq_k fun KS5 ks5 => (xregS [0, 1] fun KR6 kr6 => ?_)))))
 refine wpS.q 0 15 (.pointer (some ⟨cb0, 0, none⟩)) ?_
 have hs := hs.front 1 rfl
 have hs := hs.front 4 rfl
 have hs := hs.front 4 rfl
 have hs := hs.front 4 rfl
 try dsimp only [List.eraseIdx] at hs
 obtain ⟨r5, hg, h⟩ := of_bind h
 refine wpS.only 1 (wpOp_call (d := (some 16)) (by kernel_rfl) (fun _ => by kernel_rfl) (aes_cipher_add_s.ok hg hs) ?_)
 rintro e w ⟨rfl, hs⟩
 refine ⟨_, rfl, ?_⟩
 refine ⟨fun _ => trivial, ?_⟩
 refine wpS.fin rfl (kr6 _ _ (then_n (ks5 _ _ (xseq_k fun KS7 ks7 => (xseq_k fun KS8 ks8 => (xregS [0] fun KR9 kr9 => ?_))))))
 refine wpS.q 0 6 (.int .i64 1) ?_
 refine wpS.fin rfl (kr9 _ _ (then_n (ks8 _ _ ?_)))
 obtain ⟨y8, hy, hk0⟩ := of_bind h
 refine wp_exq (N := fun a w => St w0 X (.blk cb0 ([.pointer (some ⟨cb1, 0, none⟩), .slice ca2_A ca2_n ca2_c]) 98 :: .blk cb1 (([] : List Value) ++ enc .u8 ca0 ++ enc .u8 ca1 ++ ([] : List Value)) 48 :: .ownL (CA .u8 16 (by decide)) ca2_A ca2_n ca2_c ca2 42 :: .blk b2 (enc .u8 y8) 42 :: .blk b3 (enc .u8 (zeroA 16)) 42 :: Lt) Rt w ∧ ∃ g11 : Nat → Value, a = ⟨#[.pointer (some ⟨cb0, 0, none⟩), .agg (enc .u8 ca3).toArray, undef, .pointer (some ⟨b2, 0, none⟩), .pointer (some ⟨b3, 0, none⟩), .int .i64 x4, (g11 6), (g11 7), (g11 8), .pointer (some ⟨cb0, 0, none⟩), .pointer (some ⟨cb0, 0, none⟩), .pointer (some ⟨cb0, 1, none⟩), .slice ca2_A ca2_n ca2_c, .int .i64 (ca2.length : Int), .int .i64 (isub .i64 (ca2.length : Int) 1), .pointer (some ⟨cb0, 0, none⟩), .tuple #[], (g11 17), (g11 18), (g11 19), (g11 20), (g11 21), (g11 22), (g11 23), (g11 24), (g11 25), (g11 26), (g11 27), (g11 28), (g11 29), (g11 30), (g11 31), (g11 32), (g11 33), (g11 34), (g11 35), (g11 36), (g11 37), (g11 38), (g11 39), (g11 40), (g11 41), (g11 42), (g11 43), (g11 44), (g11 45), (g11 46), (g11 47), (g11 48), (g11 49), (g11 50), (g11 51), undef], []⟩) (fun N0 nn0 => ?_) ?_
 ·clear hk0
  refine xblock ?_
  refine wp_loop_k (fun n a w => ∃ z6 z7, aes_cipher_there_s.l0 K n ca0 ca1 ca2 x4 z6 z7 = some y8 ∧ St w0 X (.blk cb0 ([.pointer (some ⟨cb1, 0, none⟩), .slice ca2_A ca2_n ca2_c]) 98 :: .blk cb1 (([] : List Value) ++ enc .u8 ca0 ++ enc .u8 ca1 ++ ([] : List Value)) 48 :: .ownL (CA .u8 16 (by decide)) ca2_A ca2_n ca2_c ca2 42 :: .blk b2 (enc .u8 z7) 42 :: .blk b3 (enc .u8 (zeroA 16)) 42 :: Lt) Rt w ∧ ∃ g10 : Nat → Value, a = ⟨#[.pointer (some ⟨cb0, 0, none⟩), .agg (enc .u8 ca3).toArray, undef, .pointer (some ⟨b2, 0, none⟩), .pointer (some ⟨b3, 0, none⟩), .int .i64 x4, .int .i64 z6, (g10 7), (g10 8), .pointer (some ⟨cb0, 0, none⟩), .pointer (some ⟨cb0, 0, none⟩), .pointer (some ⟨cb0, 1, none⟩), .slice ca2_A ca2_n ca2_c, .int .i64 (ca2.length : Int), .int .i64 (isub .i64 (ca2.length : Int) 1), .pointer (some ⟨cb0, 0, none⟩), .tuple #[], (g10 17), (g10 18), (g10 19), (g10 20), (g10 21), (g10 22), (g10 23), (g10 24), (g10 25), (g10 26), (g10 27), (g10 28), (g10 29), (g10 30), (g10 31), (g10 32), (g10 33), (g10 34), (g10 35), (g10 36), (g10 37), (g10 38), (g10 39), (g10 40), (g10 41), (g10 42), (g10 43), (g10 44), (g10 45), (g10 46), (g10 47), (g10 48), (g10 49), (g10 50), (g10 51), undef], []⟩) K ⟨1, r5, hy, hs.conv rfl, exg (by kernel_rfl)⟩ ?_
  clear hs h hy
  rintro n a w ⟨z6, z7, h, hs, g10, rfl⟩ KL0 kl0
  cases n with
  | zero => exact nomatch (show none = some _ from h)
  | succ n =>
   refine xseq_k fun KS12 ks12 => ?_
   refine xseq_k fun KS13 ks13 => ?_
   refine xregS [0, 1, 2] fun KR14 kr14 => ?_
   refine wpS.qs [(0, 17, .int .i64 z6), (1, 18, .int .i64 x4)] ?_
   rcases of_if h with ⟨hc, h⟩ | ⟨hc, h⟩
   ·refine wpS.tk 2 false (some 19) (.bool true) (yld_b (dt hc) (fun _ => by kernel_rfl)) ?_
    refine wpS.fin rfl (kr14 _ _ (then_n (ks13 _ _ (wp_cond_t (by kernel_rfl) (xskip (then_n (ks12 _ _ (xseq_k fun KS15 ks15 => (xblock (xseq_k fun KS16 ks16 => (xregS [0] fun KR17 kr17 => ?_)))))))))))
    refine wpS.only 0 (op_alloc (t := 42) (d := (some 7)) (by kernel_rfl) hs (enc .u8 (zeroA 16)) (.agg (enc .u8 (zeroA 16)).toArray) (by kernel_rfl) (by kernel_rfl) (by kernel_rfl) ?_)
    intro b9 w gw hs
    refine ⟨fun _ => trivial, ?_⟩
    refine wpS.fin rfl (kr17 _ _ (then_n (ks16 _ _ (xseq_k fun KS18 ks18 => (xseq_k fun KS19 ks19 => (xregS [0] fun KR20 kr20 => ?_))))))
    refine wpS.q 0 22 (.int .i64 0) ?_
    refine wpS.fin rfl (kr20 _ _ (then_n (ks19 _ _ ?_)))
    obtain ⟨y12, hy, hk1⟩ := of_bind h
    refine wp_exq (N := fun a w => St w0 X (.blk b9 (enc .u8 y12) 42 :: .blk cb0 ([.pointer (some ⟨cb1, 0, none⟩), .slice ca2_A ca2_n ca2_c]) 98 :: .blk cb1 (([] : List Value) ++ enc .u8 ca0 ++ enc .u8 ca1 ++ ([] : List Value)) 48 :: .ownL (CA .u8 16 (by decide)) ca2_A ca2_n ca2_c ca2 42 :: .blk b2 (enc .u8 z7) 42 :: .blk b3 (enc .u8 (zeroA 16)) 42 :: Lt) Rt w ∧ ∃ g22 : Nat → Value, a = ⟨#[.pointer (some ⟨cb0, 0, none⟩), .agg (enc .u8 ca3).toArray, undef, .pointer (some ⟨b2, 0, none⟩), .pointer (some ⟨b3, 0, none⟩), .int .i64 x4, .int .i64 z6, .pointer (some ⟨b9, 0, none⟩), (g22 8), .pointer (some ⟨cb0, 0, none⟩), .pointer (some ⟨cb0, 0, none⟩), .pointer (some ⟨cb0, 1, none⟩), .slice ca2_A ca2_n ca2_c, .int .i64 (ca2.length : Int), .int .i64 (isub .i64 (ca2.length : Int) 1), .pointer (some ⟨cb0, 0, none⟩), .tuple #[], .int .i64 z6, .int .i64 x4, .bool true, (g10 20), (g10 21), (g22 22), (g22 23), (g22 24), (g22 25), (g22 26), (g22 27), (g22 28), (g22 29), (g22 30), (g22 31), (g22 32), (g22 33), (g22 34), (g22 35), (g22 36), (g22 37), (g22 38), (g22 39), (g22 40), (g22 41), (g22 42), (g22 43), (g10 44), (g10 45), (g10 46), (g10 47), (g10 48), (g10 49), (g10 50), (g10 51), undef], []⟩) (fun N1 nn1 => ?_) ?_
    ·clear hk1
     refine xblock ?_
     refine wp_loop_k (fun n a w => ∃ z10 z11, aes_cipher_there_s.l1 K n ca0 z7 z10 z11 = some y12 ∧ St w0 X (.blk b9 (enc .u8 z11) 42 :: .blk cb0 ([.pointer (some ⟨cb1, 0, none⟩), .slice ca2_A ca2_n ca2_c]) 98 :: .blk cb1 (([] : List Value) ++ enc .u8 ca0 ++ enc .u8 ca1 ++ ([] : List Value)) 48 :: .ownL (CA .u8 16 (by decide)) ca2_A ca2_n ca2_c ca2 42 :: .blk b2 (enc .u8 z7) 42 :: .blk b3 (enc .u8 (zeroA 16)) 42 :: Lt) Rt w ∧ ∃ g21 : Nat → Value, a = ⟨#[.pointer (some ⟨cb0, 0, none⟩), .agg (enc .u8 ca3).toArray, undef, .pointer (some ⟨b2, 0, none⟩), .pointer (some ⟨b3, 0, none⟩), .int .i64 x4, .int .i64 z6, .pointer (some ⟨b9, 0, none⟩), (g21 8), .pointer (some ⟨cb0, 0, none⟩), .pointer (some ⟨cb0, 0, none⟩), .pointer (some ⟨cb0, 1, none⟩), .slice ca2_A ca2_n ca2_c, .int .i64 (ca2.length : Int), .int .i64 (isub .i64 (ca2.length : Int) 1), .pointer (some ⟨cb0, 0, none⟩), .tuple #[], .int .i64 z6, .int .i64 x4, .bool true, (g10 20), (g10 21), .int .i64 z10, (g21 23), (g21 24), (g21 25), (g21 26), (g21 27), (g21 28), (g21 29), (g21 30), (g21 31), (g21 32), (g21 33), (g21 34), (g21 35), (g21 36), (g21 37), (g21 38), (g21 39), (g21 40), (g21 41), (g21 42), (g21 43), (g10 44), (g10 45), (g10 46), (g10 47), (g10 48), (g10 49), (g10 50), (g10 51), undef], []⟩) K ⟨0, (zeroA 16), hy, hs.conv rfl, exg (by kernel_rfl)⟩ ?_
     clear hs h hy
     rintro n a w ⟨z10, z11, h, hs, g21, rfl⟩ KL1 kl1
     cases n with
     | zero => exact nomatch (show none = some _ from h)
     | succ n =>
      refine xseq_k fun KS23 ks23 => ?_
      refine xregS [0] fun KR24 kr24 => ?_
      rcases of_if h with ⟨hc, h⟩ | ⟨hc, h⟩
      ·refine wpS.tk 0 false (some 23) (.bool true) (yld_b (dt hc) (fun _ => by kernel_rfl)) ?_
       refine wpS.fin rfl (kr24 _ _ (then_n (ks23 _ _ (xseq_k fun KS25 ks25 => (wp_cond_t (by kernel_rfl) (xskip (then_n (ks25 _ _ (xseq_k fun KS26 ks26 => (xblock (xseq_k fun KS27 ks27 => (xregS [0, 1] fun KR28 kr28 => ?_))))))))))))
       refine wpS.qs [(0, 24, .int .i64 z10), (1, 8, .int .i64 z10)] ?_
       refine wpS.fin rfl (kr28 _ _ (then_n (ks27 _ _ ?_)))
       refine wp_regG [18] (fun k => True) 19 (by kernel_rfl) (by kernel_rfl) (by kernel_rfl) fun KR29 kr29 => ?_
       have hs := hs.drawn1
       refine wpG.q 0 25 (.int .i64 z10) ?_
       refine wpG.q 1 26 (.pointer (some ⟨cb0, 0, none⟩)) ?_
       refine wpG.q 2 27 (.pointer (some ⟨cb0, 0, none⟩)) ?_
       refine wpG.q 3 28 (.pointer (some ⟨cb0, 0, none⟩)) ?_
       refine wpG.tD 4 true (some 29) (.pointer (some ⟨cb1, 0, none⟩)) (yld_load1 (e := 49) (o := 0) hs 1 rfl (by kernel_rfl) (by kernel_rfl) (by rfl) .grow) ?_
       refine wpG.q 5 30 (.int .i64 z10) ?_
       refine wpG.q 6 31 (.int .i64 z10) ?_
       refine wpG.q 7 32 (.int .i64 (irem .i64 z10 4)) ?_
       refine wpG.q 8 33 (.int .i64 (imul .i64 4 (irem .i64 z10 4))) ?_
       refine wpG.q 9 34 (.int .i64 (iadd .i64 z10 (imul .i64 4 (irem .i64 z10 4)))) ?_
       refine wpG.q 10 35 (.int .i64 (irem .i64 (iadd .i64 z10 (imul .i64 4 (irem .i64 z10 4))) 16)) ?_
       obtain ⟨x13, hx, h⟩ := of_bind h
       have hx := of_some hx
       subst hx
       obtain ⟨i0_30, h⟩ := of_chk h
       obtain ⟨i1_30, h⟩ := of_chk h
       refine wpG.tD 11 false (some 36) (.pointer (some ⟨b2, 0 + ((irem .i64 (iadd .i64 z10 (imul .i64 4 (irem .i64 z10 4))) 16) : Int).toNat * 1, none⟩)) (yld_idx (t := 42) (e := 5) (n := 16) (sz := 1) (k := .i64) (x := (irem .i64 (iadd .i64 z10 (imul .i64 4 (irem .i64 z10 4))) 16)) (by kernel_rfl) (by kernel_rfl) (by kernel_rfl) i0_30 i1_30) ?_
       refine wpG.tD 12 true (some 37) (.int .u8 (rd z7 (irem .i64 (iadd .i64 z10 (imul .i64 4 (irem .i64 z10 4))) 16))) (yld_loadA (e := 5) (x := (irem .i64 (iadd .i64 z10 (imul .i64 4 (irem .i64 z10 4))) 16)) hs 4 rfl (by kernel_rfl) (by kernel_rfl) i0_30 i1_30 .grow) ?_
       refine wpG.q 13 38 (.pointer (some ⟨cb1, 0, none⟩)) ?_
       refine wpG.q 14 39 (.pointer (some ⟨cb1, 0, none⟩)) ?_
       obtain ⟨x14, hx, h⟩ := of_bind h
       have hx := of_some hx
       subst hx
       obtain ⟨i0_31, h⟩ := of_chk h
       obtain ⟨i1_31, h⟩ := of_chk h
       refine wpG.tD 15 false (some 40) (.pointer (some ⟨cb1, 0 + ((rd z7 (irem .i64 (iadd .i64 z10 (imul .i64 4 (irem .i64 z10 4))) 16)) : Int).toNat * 1, none⟩)) (yld_idx (t := 46) (e := 5) (n := 256) (sz := 1) (k := .u8) (x := (rd z7 (irem .i64 (iadd .i64 z10 (imul .i64 4 (irem .i64 z10 4))) 16))) (by kernel_rfl) (by kernel_rfl) (by kernel_rfl) i0_31 i1_31) ?_
       refine wpG.tD 16 true (some 41) (.int .u8 (rd ca0 (rd z7 (irem .i64 (iadd .i64 z10 (imul .i64 4 (irem .i64 z10 4))) 16)))) (yld_loadR (m := 0) (k := .u8) (pre := ([] : List Value)) (post := enc .u8 ca1) (c := ca0) (e := 5) (x := (rd z7 (irem .i64 (iadd .i64 z10 (imul .i64 4 (irem .i64 z10 4))) 16))) hs 2 rfl (by simp only [List.append_assoc, List.nil_append, List.cons_append, List.append_nil]) (by kernel_rfl) (by kernel_rfl) i0_31 i1_31 (by simp [enc_len]) .grow) ?_
       obtain ⟨i0_32, h⟩ := of_chk h
       obtain ⟨i1_32, h⟩ := of_chk h
       refine wpG.tD 17 false (some 42) (.pointer (some ⟨b9, 0 + (z10 : Int).toNat * 1, none⟩)) (yld_idx (t := 42) (e := 5) (n := 16) (sz := 1) (k := .i64) (x := z10) (by kernel_rfl) (by kernel_rfl) (by kernel_rfl) i0_32 i1_32) ?_
       obtain ⟨x15, hx, h⟩ := of_bind h
       refine wpG.only 18 (by kernel_rfl) (op_storeA (t := 5) (x := z10) (v := x15) (d := none) (by kernel_rfl) hs 0 rfl (by cases hx; kernel_rfl) (by kernel_rfl) i0_32 i1_32 ?_)
       intro w kp hs
       refine ⟨⟨fun hf => absurd hf (by decide), .all _ _⟩, ?_⟩
       refine wpG.fin (by kernel_rfl) rfl (kr29 _ _ ?_)
       refine inBlock_n (then_n (ks26 _ _ (xregS [0, 1] fun KR33 kr33 => ?_)))
       refine wpS.qs [(0, 43, .int .i64 (iadd .i64 z10 1)), (1, 22, .int .i64 (iadd .i64 z10 1))] ?_
       refine wpS.fin rfl (kr33 _ _ ?_)
       exact then_n (kl1 _ _ ⟨n, Nat.lt_succ_self n, (iadd .i64 z10 1), (wr z11 z10 x15), h, (hs.conv rfl), exg (by kernel_rfl)⟩)
      refine wpS.tk 0 false (some 23) (.bool false) (yld_b (df hc) (fun _ => by kernel_rfl)) ?_
      refine wpS.fin rfl (kr24 _ _ (then_n (ks23 _ _ (xseq_k fun KS34 ks34 => (wp_cond_f (by kernel_rfl) (xexit (then_x (then_x (inBlock_hit ?_)))))))))
      have q0 := of_some h
      subst q0
      exact exq_n (nn1 _ _ ⟨(hs.conv rfl), exg (by kernel_rfl)⟩)
    clear hs h hy
    rintro a w ⟨hs, g22, rfl⟩
    have h := hk1
    refine then_n (ks18 _ _ ?_)
    obtain ⟨y16, hj, h⟩ := of_bind h
    refine xseq_k fun KS36 ks36 => wp_join (N := fun a w => St w0 X (.blk b9 (enc .u8 y12) 42 :: .blk cb0 ([.pointer (some ⟨cb1, 0, none⟩), .slice ca2_A ca2_n ca2_c]) 98 :: .blk cb1 (([] : List Value) ++ enc .u8 ca0 ++ enc .u8 ca1 ++ ([] : List Value)) 48 :: .ownL (CA .u8 16 (by decide)) ca2_A ca2_n ca2_c ca2 42 :: .blk b2 (enc .u8 y16) 42 :: .blk b3 (enc .u8 (zeroA 16)) 42 :: Lt) Rt w ∧ ∃ g35 : Nat → Value, a = ⟨#[.pointer (some ⟨cb0, 0, none⟩), .agg (enc .u8 ca3).toArray, undef, .pointer (some ⟨b2, 0, none⟩), .pointer (some ⟨b3, 0, none⟩), .int .i64 x4, .int .i64 z6, .pointer (some ⟨b9, 0, none⟩), (g22 8), .pointer (some ⟨cb0, 0, none⟩), .pointer (some ⟨cb0, 0, none⟩), .pointer (some ⟨cb0, 1, none⟩), .slice ca2_A ca2_n ca2_c, .int .i64 (ca2.length : Int), .int .i64 (isub .i64 (ca2.length : Int) 1), .pointer (some ⟨cb0, 0, none⟩), .tuple #[], .int .i64 z6, .int .i64 x4, .bool true, (g10 20), (g10 21), (g22 22), (g22 23), (g22 24), (g22 25), (g22 26), (g22 27), (g22 28), (g22 29), (g22 30), (g22 31), (g22 32), (g22 33), (g22 34), (g22 35), (g22 36), (g22 37), (g22 38), (g22 39), (g22 40), (g22 41), (g22 42), (g22 43), (g35 44), (g35 45), (g35 46), (g35 47), (g35 48), (g10 49), (g10 50), (g10 51), undef], []⟩) (fun N nj => ?_) ?_
    ·clear h
     have h := hj
     refine xseq_k fun KS37 ks37 => ?_
     refine xregS [0, 1] fun KR38 kr38 => ?_
     refine wpS.tk 0 true (some 44) (.agg (enc .u8 y12).toArray) (yld_loadW (e := 42) (n := 16) hs 0 rfl (by kernel_rfl) (by kernel_rfl) (by kernel_rfl) (by exact enc_len _ _) .grow) ?_
     refine wpS.only 1 (op_storeW (t := 42) (v := .agg (enc .u8 y12).toArray) (d := none) (by kernel_rfl) hs 4 rfl (vs := enc .u8 y12) (n := 16) (by kernel_rfl) (by kernel_rfl) (by kernel_rfl) (by simp [enc_len]) (by simp [enc_len]) (by intro u hu; exact enc_one _ _ u hu) ?_)
     intro w kp hs
     refine ⟨fun _ => trivial, ?_⟩
     refine wpS.fin rfl (kr38 _ _ (then_n (ks37 _ _ (xseq_k fun KS39 ks39 => (xregS [0, 1, 2] fun KR40 kr40 => ?_)))))
     refine wpS.qs [(0, 45, .int .i64 z6), (1, 46, .int .i64 x4)] ?_
     rcases of_if h with ⟨hc, h⟩ | ⟨hc, h⟩
     ·refine wpS.tk 2 false (some 47) (.bool true) (yld_b (dt hc) (fun _ => by kernel_rfl)) ?_
      refine wpS.fin rfl (kr40 _ _ (then_n (ks39 _ _ (wp_cond_t (by kernel_rfl) (xregS [0] fun KR41 kr41 => ?_)))))
      obtain ⟨r17, hg, h⟩ := of_bind h
      refine wpS.only 0 (op_callX (d := (some 48)) (by kernel_rfl) hs 4 rfl (fun _ => by kernel_rfl) (aes_mix.ok hg _ (hs.blkAt 4 rfl)) ?_)
      intro w kp hs
      have hs := hs.conv (L' := (.blk b9 (enc .u8 y12) 42 :: .blk cb0 ([.pointer (some ⟨cb1, 0, none⟩), .slice ca2_A ca2_n ca2_c]) 98 :: .blk cb1 (([] : List Value) ++ enc .u8 ca0 ++ enc .u8 ca1 ++ ([] : List Value)) 48 :: .ownL (CA .u8 16 (by decide)) ca2_A ca2_n ca2_c ca2 42 :: .blk b2 (enc .u8 r17) 42 :: .blk b3 (enc .u8 (zeroA 16)) 42 :: Lt)) rfl
      refine ⟨fun _ => trivial, ?_⟩
      refine wpS.fin rfl (kr41 _ _ ?_)
      have q0 := of_some h
      subst q0
      exact nj _ _ ⟨(hs.conv rfl), exg (by kernel_rfl)⟩
     refine wpS.tk 2 false (some 47) (.bool false) (yld_b (df hc) (fun _ => by kernel_rfl)) ?_
     refine wpS.fin rfl (kr40 _ _ (then_n (ks39 _ _ (wp_cond_f (by kernel_rfl) (xskip ?_)))))
     have q0 := of_some h
     subst q0
     exact nj _ _ ⟨(hs.conv rfl), exg (by kernel_rfl)⟩
    clear hj hs
    rintro a w ⟨hs, g35, rfl⟩
    refine then_n (ks36 _ _ (xregS [0, 1, 2] fun KR42 kr42 => ?_))
    refine wpS.qs [(0, 49, .pointer (some ⟨cb0, 0, none⟩)), (1, 50, .int .i64 z6)] ?_
    have hs := hs.front 4 rfl
    have hs := hs.front 4 rfl
    have hs := hs.front 4 rfl
    have hs := hs.front 4 rfl
    try dsimp only [List.eraseIdx] at hs
    obtain ⟨r18, hg, h⟩ := of_bind h
    refine wpS.only 2 (wpOp_call (d := (some 51)) (by kernel_rfl) (fun _ => by kernel_rfl) (aes_cipher_add_s.ok hg hs) ?_)
    rintro e w ⟨rfl, hs⟩
    refine ⟨_, rfl, ?_⟩
    refine ⟨fun _ => trivial, ?_⟩
    refine wpS.fin rfl (kr42 _ _ (inBlock_n (then_n (ks15 _ _ (xregS [0, 1, 2] fun KR43 kr43 => ?_)))))
    refine wpS.qs [(0, 20, .int .i64 z6), (1, 21, .int .i64 (iadd .i64 z6 1))] ?_
    obtain ⟨x19, hx, h⟩ := of_bind h
    refine wpS.tk 2 false (some 6) (.int .i64 x19) (yld_int hx (fun _ => by kernel_rfl)) ?_
    refine wpS.fin rfl (kr43 _ _ ?_)
    exact then_n (kl0 _ _ ⟨n, Nat.lt_succ_self n, x19, r18, h, (hs.drop (.cons_cons _ (.cons_cons _ (.cons_cons _ (.cons_cons _ (.cons _ (.cons_cons _ (.refl _)))))))), exg (by kernel_rfl)⟩)
   refine wpS.tk 2 false (some 19) (.bool false) (yld_b (df hc) (fun _ => by kernel_rfl)) ?_
   refine wpS.fin rfl (kr14 _ _ (then_n (ks13 _ _ (wp_cond_f (by kernel_rfl) (xexit (then_x (then_x (inBlock_hit ?_))))))))
   have q0 := of_some h
   subst q0
   exact exq_n (nn0 _ _ ⟨(hs.conv rfl), exg (by kernel_rfl)⟩)
 clear hs h hy
 rintro a w ⟨hs, g11, rfl⟩
 have h := hk0
 refine then_n (ks7 _ _ (xseq_k fun KS44 ks44 => (xregS [0, 1] fun KR45 kr45 => ?_)))
 refine wpS.tk 0 true (some 52) (.agg (enc .u8 y8).toArray) (yld_loadW (e := 42) (n := 16) hs 3 rfl (by kernel_rfl) (by kernel_rfl) (by kernel_rfl) (by exact enc_len _ _) .grow) ?_
 refine wpS.only 1 (op_storeW (t := 42) (v := .agg (enc .u8 y8).toArray) (d := none) (by kernel_rfl) hs 4 rfl (vs := enc .u8 y8) (n := 16) (by kernel_rfl) (by kernel_rfl) (by kernel_rfl) (by simp [enc_len]) (by simp [enc_len]) (by intro u hu; exact enc_one _ _ u hu) ?_)
 intro w kp hs
 refine ⟨fun _ => trivial, ?_⟩
 refine wpS.fin rfl (kr45 _ _ (then_n (ks44 _ _ (xret ?_))))
 have q0 := of_some h
 subst q0
 exact qq _ _ (post_ret (by kernel_rfl) (run_results [.cell 4 42] [.agg (enc .u8 y8).toArray] (by kernel_rfl) (.cons (res_cellN (n := 16) hs 4 rfl (by kernel_rfl) (by kernel_rfl) (by kernel_rfl) (by exact enc_len _ _)) .nil)) ⟨rfl, (hs.drop (.cons_cons _ (.cons_cons _ (.cons_cons _ (.cons _ (.cons _ (.refl _)))))))⟩)

theorem aes_Block.ok {K : Nat} {a0 : List Int} {a1 : List Int} {r0 : List Int} {r1 : Int} {a0_A : Option Addr} {a0_n : Nat} {a0_c : Nat} {a1_A : Option Addr} {a1_n : Nat} {a1_c : Nat} (h : aes_Block.f K a0 a1 = some (r0, r1)) (w0 : World) (hp0 : RowL (CI .u8) w0 a0_A a0_n a0_c a0) (hp1 : RowL (CI .u8) w0 a1_A a1_n a1_c a1) : Calls Try.prog 18 #[.slice a0_A a0_n a0_c, .slice a1_A a1_n a1_c] w0 fun e w' => ∃ h : (Option Addr × Nat × Nat), e = .returned (.tuple #[.slice h.1 h.2.1 h.2.2, .int .i64 r1]) ∧ St w0 [] [.rowL (CI .u8) h.1 h.2.1 h.2.2 r0] [] w' := by
 refine calls_k Try.func18 rfl fun Q qq => ?_
 have hs := St.startR (all_cons (RowP.ent hp0) (all_cons (RowP.ent hp1) all_nil))
 refine wp_conv (a' := ⟨#[.slice a0_A a0_n a0_c, .slice a1_A a1_n a1_c, undef, undef, undef, undef, undef, undef, undef, undef, undef, undef, undef, undef, undef, undef, undef, undef, undef, undef, undef], []⟩) (by kernel_rfl) ?_
 refine xseq_k fun KS1 ks1 => ?_
 refine xregS [0, 1] fun KR2 kr2 => ?_
 refine wpS.qs [(0, 4, .slice none 0 0), (1, 5, .int .i64 0)] ?_
 refine wpS.fin rfl (kr2 _ _ (then_n (ks1 _ _ (xseq_k fun KS3 ks3 => (xseq_k fun KS4 ks4 => (xregS [0, 1, 2, 3] fun KR5 kr5 => ?_))))))
 refine wpS.qs [(0, 8, .slice a0_A a0_n a0_c), (1, 9, .slice a1_A a1_n a1_c)] ?_
 obtain ⟨r1, hg, h⟩ := of_bind h
 refine wpS.only 2 (op_call (d := (some 10)) (by kernel_rfl) hs (fun _ => by kernel_rfl) (aes_wrong.ok hg _ (hs.rowR 0 rfl) (hs.rowR 1 rfl)) ?_)
 intro w gw hs
 refine ⟨fun _ => trivial, ?_⟩
 refine wpS.q 3 6 (.int .i64 r1) ?_
 refine wpS.fin rfl (kr5 _ _ (then_n (ks4 _ _ (xseq_k fun KS6 ks6 => (xregS [0, 1] fun KR7 kr7 => ?_)))))
 refine wpS.q 0 11 (.int .i64 r1) ?_
 rcases of_if h with ⟨hc, h⟩ | ⟨hc, h⟩
 ·refine wpS.tk 1 false (some 12) (.bool false) (yld_b (nf hc) (fun _ => by kernel_rfl)) ?_
  refine wpS.fin rfl (kr7 _ _ (then_n (ks6 _ _ (wp_cond_f (by kernel_rfl) (xskip (then_n (ks3 _ _ (xseq_k fun KS8 ks8 => ?_))))))))
  obtain ⟨y3, hj, h⟩ := of_bind h
  refine wp_join (N := fun a w => ∃ (b2 : Nat), St w0 [] [.blk b2 (enc .u8 y3) 42] [.rowL (CI .u8) a0_A a0_n a0_c a0, .rowL (CI .u8) a1_A a1_n a1_c a1] w ∧ ∃ g9 : Nat → Value, a = ⟨#[.slice a0_A a0_n a0_c, .slice a1_A a1_n a1_c, undef, undef, .slice none 0 0, .int .i64 0, .int .i64 r1, .pointer (some ⟨b2, 0, none⟩), .slice a0_A a0_n a0_c, .slice a1_A a1_n a1_c, .int .i64 r1, .int .i64 r1, .bool false, undef, (g9 14), (g9 15), (g9 16), (g9 17), (g9 18), (g9 19), undef], []⟩) (fun N nj => ?_) ?_
  ·clear h
   have h := hj
   refine wp_regG [1, 5, 7] (fun k => ¬ k < w0.heap.size) 8 (by kernel_rfl) (by kernel_rfl) (by kernel_rfl) fun KR10 kr10 => ?_
   have hs := hs.drawn1
   refine wpG.q 0 14 (.slice a0_A a0_n a0_c) ?_
   refine wpG.q 2 16 (.slice a1_A a1_n a1_c) ?_
   obtain ⟨i0_11, h⟩ := of_chk h
   refine wpG.tD 3 false (some 17) (.pointer a1_A) (yld_toArr (t := 42) (e := 5) (n := 16) (len := a1_n) (c := a1_c) (by kernel_rfl) (by kernel_rfl) (by rw [RowL.length (C := (CI .u8)) (hs.rowR 1 rfl)]; exact i0_11)) ?_
   refine wpG.takeK [4, 5, 7] 4 (some 18) (.agg (enc .u8 (arrL 16 a1)).toArray) (by kernel_rfl) (by kernel_rfl) (yld_w0 hp1 hs (fun k hk hn => hn hk) fun hr => yld_loadArr (e := 42) (n := 16) (by decide) hr i0_11 (by kernel_rfl) (by kernel_rfl) (by kernel_rfl)) ?_
   refine wpG.many [1, 6] (by kernel_rfl) (by decide) (forall_cons ?_ (forall_cons ?_ forall_nil))
   ·obtain ⟨⟨r4, r5, r6⟩, hg, h⟩ := of_bind h
    have hsB12 := hs
    refine (wpOp_call (d := (some 15)) (by kernel_rfl) (fun _ => by kernel_rfl) (aes_began_s.ok hg hs) ?_)
    rintro e w ⟨b7, b8, y9_A, y9_n, y9_c, rfl, hs⟩
    refine ⟨_, rfl, ?_⟩
    refine ⟨⟨fun hf => absurd hf (by decide), (keepW hsB12 hs)⟩, ?_⟩
    refine wpG.many [5, 6] (by kernel_rfl) (by decide) (forall_cons ?_ (forall_cons ?_ forall_nil))
    ·have hs := hs.front 0 rfl
     have hs := hs.front 1 rfl
     have hs := hs.front 2 rfl
     try dsimp only [List.eraseIdx] at hs
     obtain ⟨r12, hg, h⟩ := of_bind h
     have hsB13 := hs
     refine (wpOp_call (d := (some 19)) (by kernel_rfl) (fun _ => by kernel_rfl) (aes_cipher_there_s.ok hg hs) ?_)
     rintro e w ⟨rfl, hs⟩
     refine ⟨_, rfl, ?_⟩
     refine ⟨⟨fun hf => absurd hf (by decide), (keepW hsB13 hs)⟩, ?_⟩
     refine wpG.only 6 (by kernel_rfl) (op_alloc (t := 42) (d := (some 7)) (by kernel_rfl) hs (enc .u8 (zeroA 16)) (.agg (enc .u8 (zeroA 16)).toArray) (by kernel_rfl) (by kernel_rfl) (by kernel_rfl) ?_)
     intro b13 w gw hs
     refine ⟨.of gw, ?_⟩
     have hsB14 := hs
     refine wpG.only 7 (by kernel_rfl) (op_storeW (t := 42) (v := .agg (enc .u8 r12).toArray) (d := none) (by kernel_rfl) hs 0 rfl (vs := enc .u8 r12) (n := 16) (by kernel_rfl) (by kernel_rfl) (by kernel_rfl) (by simp [enc_len]) (by simp [enc_len]) (by intro u hu; exact enc_one _ _ u hu) ?_)
     intro w kp hs
     refine ⟨⟨fun hf => absurd hf (by decide), (keepW hsB14 hs)⟩, ?_⟩
     refine wpG.fin (by kernel_rfl) rfl (kr10 _ _ ?_)
     have q0 := of_some h
     subst q0
     exact nj _ _ ⟨b13, (hs.drop (.cons_cons _ (.cons _ (.cons _ (.cons _ .slnil))))), exg (by kernel_rfl)⟩
    refine (op_alloc (t := 42) (d := (some 7)) (by kernel_rfl) hs (enc .u8 (zeroA 16)) (.agg (enc .u8 (zeroA 16)).toArray) (by kernel_rfl) (by kernel_rfl) (by kernel_rfl) ?_)
    intro b14 w gw hs
    refine ⟨.of gw, ?_⟩
    have hs := hs.front 1 rfl
    have hs := hs.front 2 rfl
    have hs := hs.front 3 rfl
    try dsimp only [List.eraseIdx] at hs
    obtain ⟨r15, hg, h⟩ := of_bind h
    have hsB15 := hs
    refine wpG.only 5 (by kernel_rfl) (wpOp_call (d := (some 19)) (by kernel_rfl) (fun _ => by kernel_rfl) (aes_cipher_there_s.ok hg hs) ?_)
    rintro e w ⟨rfl, hs⟩
    refine ⟨_, rfl, ?_⟩
    refine ⟨⟨fun hf => absurd hf (by decide), (keepW hsB15 hs)⟩, ?_⟩
    have hsB16 := hs
    refine wpG.only 7 (by kernel_rfl) (op_storeW (t := 42) (v := .agg (enc .u8 r15).toArray) (d := none) (by kernel_rfl) hs 3 rfl (vs := enc .u8 r15) (n := 16) (by kernel_rfl) (by kernel_rfl) (by kernel_rfl) (by simp [enc_len]) (by simp [enc_len]) (by intro u hu; exact enc_one _ _ u hu) ?_)
    intro w kp hs
    refine ⟨⟨fun hf => absurd hf (by decide), (keepW hsB16 hs)⟩, ?_⟩
    refine wpG.fin (by kernel_rfl) rfl (kr10 _ _ ?_)
    have q0 := of_some h
    subst q0
    exact nj _ _ ⟨b14, (hs.drop (.cons _ (.cons _ (.cons _ (.cons_cons _ .slnil))))), exg (by kernel_rfl)⟩
   refine (op_alloc (t := 42) (d := (some 7)) (by kernel_rfl) hs (enc .u8 (zeroA 16)) (.agg (enc .u8 (zeroA 16)).toArray) (by kernel_rfl) (by kernel_rfl) (by kernel_rfl) ?_)
   intro b16 w gw hs
   refine ⟨.of gw, ?_⟩
   obtain ⟨⟨r17, r18, r19⟩, hg, h⟩ := of_bind h
   have hsB17 := hs
   refine wpG.only 1 (by kernel_rfl) (wpOp_call (d := (some 15)) (by kernel_rfl) (fun _ => by kernel_rfl) (aes_began_s.ok hg hs) ?_)
   rintro e w ⟨b20, b21, y22_A, y22_n, y22_c, rfl, hs⟩
   refine ⟨_, rfl, ?_⟩
   refine ⟨⟨fun hf => absurd hf (by decide), (keepW hsB17 hs)⟩, ?_⟩
   have hs := hs.front 0 rfl
   have hs := hs.front 1 rfl
   have hs := hs.front 2 rfl
   try dsimp only [List.eraseIdx] at hs
   obtain ⟨r25, hg, h⟩ := of_bind h
   have hsB18 := hs
   refine wpG.only 5 (by kernel_rfl) (wpOp_call (d := (some 19)) (by kernel_rfl) (fun _ => by kernel_rfl) (aes_cipher_there_s.ok hg hs) ?_)
   rintro e w ⟨rfl, hs⟩
   refine ⟨_, rfl, ?_⟩
   refine ⟨⟨fun hf => absurd hf (by decide), (keepW hsB18 hs)⟩, ?_⟩
   have hsB19 := hs
   refine wpG.only 7 (by kernel_rfl) (op_storeW (t := 42) (v := .agg (enc .u8 r25).toArray) (d := none) (by kernel_rfl) hs 3 rfl (vs := enc .u8 r25) (n := 16) (by kernel_rfl) (by kernel_rfl) (by kernel_rfl) (by simp [enc_len]) (by simp [enc_len]) (by intro u hu; exact enc_one _ _ u hu) ?_)
   intro w kp hs
   refine ⟨⟨fun hf => absurd hf (by decide), (keepW hsB19 hs)⟩, ?_⟩
   refine wpG.fin (by kernel_rfl) rfl (kr10 _ _ ?_)
   have q0 := of_some h
   subst q0
   exact nj _ _ ⟨b16, (hs.drop (.cons _ (.cons _ (.cons _ (.cons_cons _ .slnil))))), exg (by kernel_rfl)⟩
  clear hj hs
  rintro a w ⟨b2, hs, g9, rfl⟩
  refine then_n (ks8 _ _ (xseq_k fun KS20 ks20 => (xregS [0, 1, 2] fun KR21 kr21 => ?_)))
  refine wpS.tk 0 false (some 20) (.slice (some ⟨b2, 0 + (0 : Int).toNat * 1, none⟩) ((16 : Int).toNat - (0 : Int).toNat) (16 - (0 : Int).toNat)) (yld_slA2 (t := 42) (e := 5) (n := 16) (low := Option.none) (high := Option.none) (lo := 0) (hi := 16) (by kernel_rfl) (by kernel_rfl) (by kernel_rfl) (.inl ⟨rfl, rfl⟩) (.inl ⟨rfl, rfl⟩) (by decide) (by decide) (by decide) (by decide)) ?_
  refine wpS.qs [(1, 4, .slice (some ⟨b2, 0 + (0 : Int).toNat * 1, none⟩) ((16 : Int).toNat - (0 : Int).toNat) (16 - (0 : Int).toNat)), (2, 5, .int .i64 0)] ?_
  refine wpS.fin rfl (kr21 _ _ (then_n (ks20 _ _ (xret ?_))))
  obtain ⟨q0, qr0⟩ := Prod.mk.inj (of_some h)
  have q1 := qr0
  subst q0
  subst q1
  have hs := hs.blkRow (lo := 0) (hi := 16) 0 rfl (by decide) (by decide) (by decide)
  exact qq _ _ (post_ret (by kernel_rfl) (run_results [.tmp 4, .tmp 5] [.slice (some ⟨b2, 0 + (0 : Int).toNat * 1, none⟩) ((16 : Int).toNat - (0 : Int).toNat) (16 - (0 : Int).toNat), .int .i64 0] (by kernel_rfl) (.cons (res_tmp (by kernel_rfl)) (.cons (res_tmp (by kernel_rfl)) .nil))) ⟨⟨(some ⟨b2, 0 + (0 : Int).toNat * 1, none⟩), ((16 : Int).toNat - (0 : Int).toNat), (16 - (0 : Int).toNat)⟩, congrArg Ending.returned (by kernel_rfl), (hs.pickR pick_nil)⟩)
 refine wpS.tk 1 false (some 12) (.bool true) (yld_b (nt hc) (fun _ => by kernel_rfl)) ?_
 refine wpS.fin rfl (kr7 _ _ (then_n (ks6 _ _ (wp_cond_t (by kernel_rfl) (xseq_k fun KS23 ks23 => (xregS [0, 1, 2] fun KR24 kr24 => ?_))))))
 refine wpS.qs [(0, 13, .int .i64 r1), (1, 4, .slice none 0 0), (2, 5, .int .i64 r1)] ?_
 refine wpS.fin rfl (kr24 _ _ (then_n (ks23 _ _ (xret (then_r ?_)))))
 obtain ⟨q0, qr0⟩ := Prod.mk.inj (of_some h)
 have q1 := qr0
 subst q0
 subst q1
 have hs := hs.addNilR (CI .u8)
 exact qq _ _ (post_ret (by kernel_rfl) (run_results [.tmp 4, .tmp 5] [.slice none 0 0, .int .i64 r1] (by kernel_rfl) (.cons (res_tmp (by kernel_rfl)) (.cons (res_tmp (by kernel_rfl)) .nil))) ⟨⟨none, 0, 0⟩, congrArg Ending.returned (by kernel_rfl), (hs.pickR pick_nil)⟩)

theorem slices_Concat_byte_byte.ok {K : Nat} {a0 : List (List Int)} {r0 : List Int} {a0_A : Option Addr} {a0_n : Nat} {a0_c : Nat} {a0_H : List HS} (h : slices_Concat_byte_byte.f K a0 = some r0) (w0 : World) (hp0 : LLP (CI .u8) w0 a0_A a0_n a0_c a0_H a0) : Calls Try.prog 96 #[.slice a0_A a0_n a0_c] w0 fun e w' => ∃ h : (Option Addr × Nat × Nat), e = .returned (.slice h.1 h.2.1 h.2.2) ∧ St w0 [] [.ownL (CI .u8) h.1 h.2.1 h.2.2 r0 5] [] w' := by
 refine calls_k Try.func96 rfl fun Q qq => ?_
 have hs := St.startR (all_cons (LLP.ent hp0) all_nil)
 refine wp_conv (a' := ⟨#[.slice a0_A a0_n a0_c, undef, undef, undef, undef, undef, undef, undef, undef, undef, undef, undef, undef, undef, undef, undef, undef, undef, undef, undef, undef, undef, undef, undef, undef, undef, undef, undef, undef, undef, undef, undef, undef, undef, undef, undef], []⟩) (by kernel_rfl) ?_
 refine xseq_k fun KS1 ks1 => ?_
 refine xregS [0] fun KR2 kr2 => ?_
 refine wpS.q 0 2 (.slice none 0 0) ?_
 refine wpS.fin rfl (kr2 _ _ (then_n (ks1 _ _ (xseq_k fun KS3 ks3 => (xregS [0] fun KR4 kr4 => ?_)))))
 refine wpS.q 0 3 (.int .i64 0) ?_
 refine wpS.fin rfl (kr4 _ _ (then_n (ks3 _ _ (xseq_k fun KS5 ks5 => (xseq_k fun KS6 ks6 => (xregS [0, 1, 2] fun KR7 kr7 => ?_))))))
 refine wpS.q 0 9 (.slice a0_A a0_n a0_c) ?_
 refine wpS.tk 1 false (some 10) (.int .i64 (a0.length : Int)) (yld_lenLL (hs.rowLL 0 rfl) (fun _ => by kernel_rfl)) ?_
 refine wpS.q 2 11 (.int .i64 0) ?_
 refine wpS.fin rfl (kr7 _ _ (then_n (ks6 _ _ ?_)))
 obtain ⟨y3, hy, hk0⟩ := of_bind h
 refine wp_exq (N := fun a w => St w0 [] [] [.rowLL (CI .u8) a0_A a0_n a0_c a0_H a0] w ∧ ∃ g9 : Nat → Value, a = ⟨#[.slice a0_A a0_n a0_c, undef, .slice none 0 0, .int .i64 y3, undef, (g9 5), undef, undef, undef, .slice a0_A a0_n a0_c, .int .i64 (a0.length : Int), (g9 11), (g9 12), (g9 13), (g9 14), (g9 15), (g9 16), (g9 17), (g9 18), (g9 19), (g9 20), (g9 21), (g9 22), undef, undef, undef, undef, undef, undef, undef, undef, undef, undef, undef, undef, undef], []⟩) (fun N0 nn0 => ?_) ?_
 ·clear hk0
  refine xblock ?_
  refine wp_loop_k (fun n a w => ∃ z1 z2, slices_Concat_byte_byte.l0 K n a0 z1 z2 = some y3 ∧ St w0 [] [] [.rowLL (CI .u8) a0_A a0_n a0_c a0_H a0] w ∧ ∃ g8 : Nat → Value, a = ⟨#[.slice a0_A a0_n a0_c, undef, .slice none 0 0, .int .i64 z1, undef, (g8 5), undef, undef, undef, .slice a0_A a0_n a0_c, .int .i64 (a0.length : Int), .int .i64 z2, (g8 12), (g8 13), (g8 14), (g8 15), (g8 16), (g8 17), (g8 18), (g8 19), (g8 20), (g8 21), (g8 22), undef, undef, undef, undef, undef, undef, undef, undef, undef, undef, undef, undef, undef], []⟩) K ⟨0, 0, hy, hs.conv rfl, exg (by kernel_rfl)⟩ ?_
  clear hs h hy
  rintro n a w ⟨z1, z2, h, hs, g8, rfl⟩ KL0 kl0
  cases n with
  | zero => exact nomatch (show none = some _ from h)
  | succ n =>
   refine xseq_k fun KS10 ks10 => ?_
   refine xregS [0] fun KR11 kr11 => ?_
   rcases of_if h with ⟨hc, h⟩ | ⟨hc, h⟩
   ·refine wpS.tk 0 false (some 12) (.bool true) (yld_b (dt hc) (fun _ => by kernel_rfl)) ?_
    refine wpS.fin rfl (kr11 _ _ (then_n (ks10 _ _ (xseq_k fun KS12 ks12 => (wp_cond_t (by kernel_rfl) (xskip (then_n (ks12 _ _ (xseq_k fun KS13 ks13 => (xblock (xseq_k fun KS14 ks14 => (xregS [0, 1, 2] fun KR15 kr15 => ?_))))))))))))
    obtain ⟨h0, h⟩ := of_chk h
    obtain ⟨h1, h⟩ := of_chk h
    have i0_16 := h0
    have i1_16 := h1
    refine wpS.tk 0 false (some 13) (.pointer (adr a0_A ((z2 : Int).toNat * Cod.size (CI .u8)))) (yld_idxLL (C := (CI .u8)) (t := 44) (e := 26) (k := .i64) (x := z2) (hs.rowLL 0 rfl) (by kernel_rfl) (by kernel_rfl) (by kernel_rfl) h0 h1) ?_
    obtain ⟨s4_A, hA⟩ : ∃ A, A = (rdL CS a0_H z2).1 := ⟨_, rfl⟩
    obtain ⟨s4_n, hn⟩ : ∃ n, n = (rdL CS a0_H z2).2.1 := ⟨_, rfl⟩
    obtain ⟨s4_c, hc⟩ : ∃ c, c = (rdL CS a0_H z2).2.2 := ⟨_, rfl⟩
    refine wpS.tk 1 true (some 14) (.slice s4_A s4_n s4_c) (by subst hA hn hc; exact yld_loadLL (C := (CI .u8)) (e := 26) (x := z2) (hs.rowLL 0 rfl) (by kernel_rfl) (by kernel_rfl) i0_16 i1_16) ?_
    have hs := hs.addInn (C := (CI .u8)) 0 rfl i0_16 i1_16 hA hn hc
    refine wpS.q 2 5 (.slice s4_A s4_n s4_c) ?_
    refine wpS.fin rfl (kr15 _ _ (then_n (ks14 _ _ (xseq_k fun KS17 ks17 => (xregS [0, 1, 2, 3, 4] fun KR18 kr18 => ?_)))))
    refine wpS.qs [(0, 15, .int .i64 z1), (1, 16, .slice s4_A s4_n s4_c)] ?_
    refine wpS.tk 2 false (some 17) (.int .i64 ((rdLL a0 z2).length : Int)) (yld_lenL (hs.rowR 0 rfl) (fun _ => by kernel_rfl)) ?_
    refine wpS.q 3 18 (.int .i64 (iadd .i64 z1 ((rdLL a0 z2).length : Int))) ?_
    obtain ⟨x5, hx, h⟩ := of_bind h
    refine wpS.tk 4 false (some 3) (.int .i64 x5) (yld_int hx (fun _ => by kernel_rfl)) ?_
    refine wpS.fin rfl (kr18 _ _ (then_n (ks17 _ _ (xseq_k fun KS19 ks19 => (xregS [0, 1] fun KR20 kr20 => ?_)))))
    refine wpS.q 0 19 (.int .i64 x5) ?_
    rcases of_if h with ⟨hc, h⟩ | ⟨hc, h⟩
    ·refine wpS.tk 1 false (some 20) (.bool true) (yld_b (dt hc) (fun _ => by kernel_rfl)) ?_
     refine wpS.fin rfl (kr20 _ _ (then_n (ks19 _ _ (wp_cond_t (by kernel_rfl) (xregS [0, 1] fun KR21 kr21 => ?_)))))
     exact nomatch (show none = some _ from h)
    refine wpS.tk 1 false (some 20) (.bool false) (yld_b (df hc) (fun _ => by kernel_rfl)) ?_
    refine wpS.fin rfl (kr20 _ _ (then_n (ks19 _ _ (wp_cond_f (by kernel_rfl) (xskip (inBlock_n (then_n (ks13 _ _ (xregS [0, 1] fun KR22 kr22 => ?_)))))))))
    refine wpS.qs [(0, 22, .int .i64 (iadd .i64 z2 1)), (1, 11, .int .i64 (iadd .i64 z2 1))] ?_
    refine wpS.fin rfl (kr22 _ _ ?_)
    exact then_n (kl0 _ _ ⟨n, Nat.lt_succ_self n, x5, (iadd .i64 z2 1), h, (hs.pickR (pick_cons 1 rfl pick_nil)), exg (by kernel_rfl)⟩)
   refine wpS.tk 0 false (some 12) (.bool false) (yld_b (df hc) (fun _ => by kernel_rfl)) ?_
   refine wpS.fin rfl (kr11 _ _ (then_n (ks10 _ _ (xseq_k fun KS23 ks23 => (wp_cond_f (by kernel_rfl) (xexit (then_x (then_x (inBlock_hit ?_)))))))))
   have q0 := of_some h
   subst q0
   exact exq_n (nn0 _ _ ⟨(hs.conv rfl), exg (by kernel_rfl)⟩)
 clear hs h hy
 rintro a w ⟨hs, g9, rfl⟩
 have h := hk0
 refine then_n (ks5 _ _ (xseq_k fun KS24 ks24 => (xregS [0, 1, 2] fun KR25 kr25 => ?_)))
 refine wpS.q 0 23 (.int .i64 y3) ?_
 refine wpS.only 1 (op_inline (d := (some 24)) (f := 111) (args := #[.slice none 0 0, .int .i64 y3]) (by kernel_rfl) (fun _ => by kernel_rfl) fun R26 kI26 => ?_)
 refine calls_k Try.func111 rfl fun Q26 qq26 => ?_
 refine wp_conv (a' := ⟨#[.slice none 0 0, .int .i64 y3, undef, undef, undef, undef, undef, undef, undef, undef, undef, undef, undef, undef, undef, undef, undef, undef, undef, undef, undef, undef, undef, undef, undef, undef, undef], []⟩) (by kernel_rfl) ?_
 refine xseq_k fun KS27 ks27 => ?_
 refine xregS [0] fun KR28 kr28 => ?_
 refine wpS.q 0 4 (.slice none 0 0) ?_
 refine wpS.fin rfl (kr28 _ _ (then_n (ks27 _ _ (xseq_k fun KS29 ks29 => (xseq_k fun KS30 ks30 => (xregS [0, 1] fun KR31 kr31 => ?_))))))
 refine wpS.q 0 5 (.int .i64 y3) ?_
 rcases of_if h with ⟨hc, h⟩ | ⟨hc, h⟩
 ·refine wpS.tk 1 false (some 6) (.bool true) (yld_b (dt hc) (fun _ => by kernel_rfl)) ?_
  refine wpS.fin rfl (kr31 _ _ (then_n (ks30 _ _ (wp_cond_t (by kernel_rfl) (xregS [0, 1] fun KR32 kr32 => ?_)))))
  exact nomatch (show none = some _ from h)
 refine wpS.tk 1 false (some 6) (.bool false) (yld_b (df hc) (fun _ => by kernel_rfl)) ?_
 refine wpS.fin rfl (kr31 _ _ (then_n (ks30 _ _ (wp_cond_f (by kernel_rfl) (xskip (then_n (ks29 _ _ ?_)))))))
 obtain ⟨y6, hj, h⟩ := of_bind h
 refine xseq_k fun KS34 ks34 => wp_join (N := fun a w => ∃ (y6_A : Option Addr) (y6_n : Nat) (y6_c : Nat), St w0 [] [.ownL (CI .u8) y6_A y6_n y6_c y6 5] [.rowLL (CI .u8) a0_A a0_n a0_c a0_H a0] w ∧ ∃ g33 : Nat → Value, a = ⟨#[.slice y6_A y6_n y6_c, (g33 1), undef, undef, .slice none 0 0, .int .i64 y3, .bool false, undef, (g33 8), (g33 9), (g33 10), (g33 11), (g33 12), (g33 13), (g33 14), (g33 15), (g33 16), (g33 17), (g33 18), (g33 19), (g33 20), (g33 21), (g33 22), (g33 23), (g33 24), (g33 25), undef], []⟩) (fun N nj => ?_) ?_
 ·clear h
  have h := hj
  refine xseq_k fun KS35 ks35 => ?_
  refine xregS [0, 1, 2, 3, 4, 5, 6, 7] fun KR36 kr36 => ?_
  refine wpS.qs [(0, 8, .int .i64 y3), (1, 9, .slice none 0 0), (2, 10, .int .i64 0), (3, 11, .slice none 0 0), (4, 12, .int .i64 0), (5, 13, .int .i64 0), (6, 14, .int .i64 (isub .i64 y3 0))] ?_
  obtain ⟨x7, hx, h⟩ := of_bind h
  refine wpS.tk 7 false (some 1) (.int .i64 x7) (yld_int hx (fun _ => by kernel_rfl)) ?_
  refine wpS.fin rfl (kr36 _ _ (then_n (ks35 _ _ (xseq_k fun KS37 ks37 => (xregS [0, 1] fun KR38 kr38 => ?_)))))
  refine wpS.q 0 15 (.int .i64 x7) ?_
  rcases of_if h with ⟨hc, h⟩ | ⟨hc, h⟩
  ·refine wpS.tk 1 false (some 16) (.bool true) (yld_b (dt hc) (fun _ => by kernel_rfl)) ?_
   refine wpS.fin rfl (kr38 _ _ (then_n (ks37 _ _ (wp_cond_t (by kernel_rfl) (xregS [0, 1, 2, 3, 4, 5, 6, 7, 8, 9] fun KR39 kr39 => ?_)))))
   refine wpS.qs [(0, 17, .slice none 0 0), (1, 18, .slice none 0 0), (2, 19, .int .i64 0), (3, 20, .slice none 0 0), (4, 21, .int .i64 x7)] ?_
   obtain ⟨h0, h⟩ := of_chk h
   obtain ⟨h1, h⟩ := of_chk h
   refine wpS.only 5 (op_appendZ0 (C := (CI .u8)) (t := 26) (tn := 3) (ty := 26) (e := 5) (bytes := 1) (B := 140737488355328) (kn := .i64) (kq := .i64) (x := x7) (d := (some 22)) (by kernel_rfl) hs (by kernel_rfl) (by kernel_rfl) (by kernel_rfl) (by kernel_rfl) (by kernel_rfl) (by kernel_rfl) h0 h1 (by decide) (by decide) ?_)
   intro s8_A s8_n s8_c w gw hs
   refine ⟨fun _ => trivial, ?_⟩
   refine wpS.qs [(6, 23, .slice none 0 0), (7, 24, .int .i64 0)] ?_
   obtain ⟨h0, h⟩ := of_chk h
   obtain ⟨h1, h⟩ := of_chk h
   refine wpS.tk 8 false (some 25) (.slice s8_A (0 : Int).toNat s8_c) (yld_pre (C := (CI .u8)) (t := 26) (e := 5) (k := .i64) (hi := 0) (hs.rowL 0 rfl) (by kernel_rfl) (by kernel_rfl) (by kernel_rfl) h0 h1) ?_
   have hs := hs.preOwn 0 rfl h0 h1
   refine wpS.q 9 0 (.slice s8_A (0 : Int).toNat s8_c) ?_
   refine wpS.fin rfl (kr39 _ _ ?_)
   have q0 := of_some h
   subst q0
   exact nj _ _ ⟨s8_A, (0 : Int).toNat, s8_c, (hs.conv rfl), exg (by kernel_rfl)⟩
  refine wpS.tk 1 false (some 16) (.bool false) (yld_b (df hc) (fun _ => by kernel_rfl)) ?_
  refine wpS.fin rfl (kr38 _ _ (then_n (ks37 _ _ (wp_cond_f (by kernel_rfl) (xskip ?_)))))
  have q0 := of_some h
  subst q0
  have hs := hs.addNilL (CI .u8) 5
  exact nj _ _ ⟨none, 0, 0, (hs.conv rfl), exg (by kernel_rfl)⟩
 clear hj hs
 rintro a w ⟨y6_A, y6_n, y6_c, hs, g33, rfl⟩
 refine then_n (ks34 _ _ (xseq_k fun KS40 ks40 => (xregS [0, 1] fun KR41 kr41 => ?_)))
 refine wpS.qs [(0, 26, .slice y6_A y6_n y6_c), (1, 4, .slice y6_A y6_n y6_c)] ?_
 refine wpS.fin rfl (kr41 _ _ (then_n (ks40 _ _ (xret ?_))))
 refine qq26 _ _ (post_ret (by kernel_rfl) (run_results [.tmp 4] [.slice y6_A y6_n y6_c] (by kernel_rfl) (.cons (res_tmp (by kernel_rfl)) .nil)) ?_)
 refine kI26 _ _ ?_
 refine ⟨fun _ => trivial, ?_⟩
 refine wpS.q 2 6 (.slice y6_A y6_n y6_c) ?_
 refine wpS.fin rfl (kr25 _ _ (then_n (ks24 _ _ (xseq_k fun KS42 ks42 => (xseq_k fun KS43 ks43 => (xregS [0, 1, 2] fun KR44 kr44 => ?_))))))
 refine wpS.q 0 25 (.slice a0_A a0_n a0_c) ?_
 refine wpS.tk 1 false (some 26) (.int .i64 (a0.length : Int)) (yld_lenLL (hs.rowLL 0 rfl) (fun _ => by kernel_rfl)) ?_
 refine wpS.q 2 27 (.int .i64 0) ?_
 refine wpS.fin rfl (kr44 _ _ (then_n (ks43 _ _ ?_)))
 obtain ⟨y11, hy, hk1⟩ := of_bind h
 refine wp_exq (N := fun a w => ∃ (y11_A : Option Addr) (y11_n : Nat) (y11_c : Nat), St w0 [] [.ownL (CI .u8) y11_A y11_n y11_c y11 5] [.rowLL (CI .u8) a0_A a0_n a0_c a0_H a0] w ∧ ∃ g46 : Nat → Value, a = ⟨#[.slice a0_A a0_n a0_c, undef, .slice none 0 0, .int .i64 y3, undef, (g9 5), .slice y11_A y11_n y11_c, undef, (g46 8), .slice a0_A a0_n a0_c, .int .i64 (a0.length : Int), (g9 11), (g9 12), (g9 13), (g9 14), (g9 15), (g9 16), (g9 17), (g9 18), (g9 19), (g9 20), (g9 21), (g9 22), .int .i64 y3, .slice y6_A y6_n y6_c, .slice a0_A a0_n a0_c, .int .i64 (a0.length : Int), (g46 27), (g46 28), (g46 29), (g46 30), (g46 31), (g46 32), (g46 33), (g46 34), undef], []⟩) (fun N1 nn1 => ?_) ?_
 ·clear hk1
  refine xblock ?_
  refine wp_loop_k (fun n a w => ∃ z9 z10, ∃ (z10_A : Option Addr) (z10_n : Nat) (z10_c : Nat), slices_Concat_byte_byte.l1 K n a0 z9 z10 = some y11 ∧ St w0 [] [.ownL (CI .u8) z10_A z10_n z10_c z10 5] [.rowLL (CI .u8) a0_A a0_n a0_c a0_H a0] w ∧ ∃ g45 : Nat → Value, a = ⟨#[.slice a0_A a0_n a0_c, undef, .slice none 0 0, .int .i64 y3, undef, (g9 5), .slice z10_A z10_n z10_c, undef, (g45 8), .slice a0_A a0_n a0_c, .int .i64 (a0.length : Int), (g9 11), (g9 12), (g9 13), (g9 14), (g9 15), (g9 16), (g9 17), (g9 18), (g9 19), (g9 20), (g9 21), (g9 22), .int .i64 y3, .slice y6_A y6_n y6_c, .slice a0_A a0_n a0_c, .int .i64 (a0.length : Int), .int .i64 z9, (g45 28), (g45 29), (g45 30), (g45 31), (g45 32), (g45 33), (g45 34), undef], []⟩) K ⟨0, y6, y6_A, y6_n, y6_c, hy, hs.conv rfl, exg (by kernel_rfl)⟩ ?_
  clear hs h hy
  rintro n a w ⟨z9, z10, z10_A, z10_n, z10_c, h, hs, g45, rfl⟩ KL1 kl1
  cases n with
  | zero => exact nomatch (show none = some _ from h)
  | succ n =>
   refine xseq_k fun KS47 ks47 => ?_
   refine xregS [0] fun KR48 kr48 => ?_
   rcases of_if h with ⟨hc, h⟩ | ⟨hc, h⟩
   ·refine wpS.tk 0 false (some 28) (.bool true) (yld_b (dt hc) (fun _ => by kernel_rfl)) ?_
    refine wpS.fin rfl (kr48 _ _ (then_n (ks47 _ _ (xseq_k fun KS49 ks49 => (wp_cond_t (by kernel_rfl) (xskip (then_n (ks49 _ _ (xseq_k fun KS50 ks50 => (xblock (xseq_k fun KS51 ks51 => (xregS [0, 1, 2] fun KR52 kr52 => ?_))))))))))))
    obtain ⟨h0, h⟩ := of_chk h
    obtain ⟨h1, h⟩ := of_chk h
    have i0_53 := h0
    have i1_53 := h1
    refine wpS.tk 0 false (some 29) (.pointer (adr a0_A ((z9 : Int).toNat * Cod.size (CI .u8)))) (yld_idxLL (C := (CI .u8)) (t := 44) (e := 26) (k := .i64) (x := z9) (hs.rowLL 0 rfl) (by kernel_rfl) (by kernel_rfl) (by kernel_rfl) h0 h1) ?_
    obtain ⟨s12_A, hA⟩ : ∃ A, A = (rdL CS a0_H z9).1 := ⟨_, rfl⟩
    obtain ⟨s12_n, hn⟩ : ∃ n, n = (rdL CS a0_H z9).2.1 := ⟨_, rfl⟩
    obtain ⟨s12_c, hc⟩ : ∃ c, c = (rdL CS a0_H z9).2.2 := ⟨_, rfl⟩
    refine wpS.tk 1 true (some 30) (.slice s12_A s12_n s12_c) (by subst hA hn hc; exact yld_loadLL (C := (CI .u8)) (e := 26) (x := z9) (hs.rowLL 0 rfl) (by kernel_rfl) (by kernel_rfl) i0_53 i1_53) ?_
    have hs := hs.addInn (C := (CI .u8)) 0 rfl i0_53 i1_53 hA hn hc
    refine wpS.q 2 8 (.slice s12_A s12_n s12_c) ?_
    refine wpS.fin rfl (kr52 _ _ (then_n (ks51 _ _ (xregS [0, 1, 2, 3] fun KR54 kr54 => ?_))))
    refine wpS.qs [(0, 31, .slice z10_A z10_n z10_c), (1, 32, .slice s12_A s12_n s12_c)] ?_
    obtain ⟨h0, h⟩ := of_chk h
    refine wpS.only 2 (op_appendT (C := (CI .u8)) (t := 26) (ty := 26) (e := 5) (bytes := 1) (B := 140737488355328) (d := (some 33)) (by kernel_rfl) hs 0 rfl (hs.rowR 0 rfl) (by kernel_rfl) (by kernel_rfl) (by kernel_rfl) (by kernel_rfl) (by kernel_rfl) h0 (by decide) (by decide) ?_)
    intro s13_A s13_n s13_c w hs
    refine ⟨fun _ => trivial, ?_⟩
    refine wpS.q 3 6 (.slice s13_A s13_n s13_c) ?_
    refine wpS.fin rfl (kr54 _ _ (inBlock_n (then_n (ks50 _ _ (xregS [0, 1] fun KR55 kr55 => ?_)))))
    refine wpS.qs [(0, 34, .int .i64 (iadd .i64 z9 1)), (1, 27, .int .i64 (iadd .i64 z9 1))] ?_
    refine wpS.fin rfl (kr55 _ _ ?_)
    exact then_n (kl1 _ _ ⟨n, Nat.lt_succ_self n, (iadd .i64 z9 1), (z10 ++ (rdLL a0 z9)), s13_A, s13_n, s13_c, h, (hs.pickR (pick_cons 1 rfl pick_nil)), exg (by kernel_rfl)⟩)
   refine wpS.tk 0 false (some 28) (.bool false) (yld_b (df hc) (fun _ => by kernel_rfl)) ?_
   refine wpS.fin rfl (kr48 _ _ (then_n (ks47 _ _ (xseq_k fun KS56 ks56 => (wp_cond_f (by kernel_rfl) (xexit (then_x (then_x (inBlock_hit ?_)))))))))
   have q0 := of_some h
   subst q0
   exact exq_n (nn1 _ _ ⟨z10_A, z10_n, z10_c, (hs.conv rfl), exg (by kernel_rfl)⟩)
 clear hs h hy
 rintro a w ⟨y11_A, y11_n, y11_c, hs, g46, rfl⟩
 have h := hk1
 refine then_n (ks42 _ _ (xseq_k fun KS57 ks57 => (xregS [0, 1] fun KR58 kr58 => ?_)))
 refine wpS.qs [(0, 35, .slice y11_A y11_n y11_c), (1, 2, .slice y11_A y11_n y11_c)] ?_
 refine wpS.fin rfl (kr58 _ _ (then_n (ks57 _ _ (xret ?_))))
 have q0 := of_some h
 subst q0
 exact qq _ _ (post_ret (by kernel_rfl) (run_results [.tmp 2] [.slice y11_A y11_n y11_c] (by kernel_rfl) (.cons (res_tmp (by kernel_rfl)) .nil)) ⟨⟨y11_A, y11_n, y11_c⟩, congrArg Ending.returned (by kernel_rfl), (hs.pickR pick_nil)⟩)

theorem bits_Join.ok {K : Nat} {a0 : List (List Int)} {r0 : List Int} {a0_A : Option Addr} {a0_n : Nat} {a0_c : Nat} {a0_H : List HS} (h : bits_Join.f K a0 = some r0) (w0 : World) (hp0 : LLP (CI .u8) w0 a0_A a0_n a0_c a0_H a0) : Calls Try.prog 59 #[.slice a0_A a0_n a0_c] w0 fun e w' => ∃ h : (Option Addr × Nat × Nat), e = .returned (.slice h.1 h.2.1 h.2.2) ∧ St w0 [] [.ownL (CI .u8) h.1 h.2.1 h.2.2 r0 5] [] w' := by
 refine calls_k Try.func59 rfl fun Q qq => ?_
 have hs := St.startR (all_cons (LLP.ent hp0) all_nil)
 refine wp_conv (a' := ⟨#[.slice a0_A a0_n a0_c, undef, undef, undef, undef], []⟩) (by kernel_rfl) ?_
 refine xseq_k fun KS1 ks1 => ?_
 refine xregS [0] fun KR2 kr2 => ?_
 refine wpS.q 0 2 (.slice none 0 0) ?_
 refine wpS.fin rfl (kr2 _ _ (then_n (ks1 _ _ (xseq_k fun KS3 ks3 => (xregS [0, 1, 2] fun KR4 kr4 => ?_)))))
 refine wpS.q 0 3 (.slice a0_A a0_n a0_c) ?_
 obtain ⟨r1, hg, h⟩ := of_bind h
 refine wpS.only 1 (op_callH (d := (some 4)) (by kernel_rfl) hs (fun _ => by kernel_rfl) (slices_Concat_byte_byte.ok hg _ (hs.rowLL 0 rfl)) ?_)
 rintro ⟨r1_A, r1_n, r1_c⟩ w gw hs
 have hs := hs.conv (L' := [.ownL (CI .u8) r1_A r1_n r1_c r1 5]) rfl
 refine ⟨fun _ => trivial, ?_⟩
 refine wpS.q 2 2 (.slice r1_A r1_n r1_c) ?_
 refine wpS.fin rfl (kr4 _ _ (then_n (ks3 _ _ (xret ?_))))
 have q0 := of_some h
 subst q0
 exact qq _ _ (post_ret (by kernel_rfl) (run_results [.tmp 2] [.slice r1_A r1_n r1_c] (by kernel_rfl) (.cons (res_tmp (by kernel_rfl)) .nil)) ⟨⟨r1_A, r1_n, r1_c⟩, congrArg Ending.returned (by kernel_rfl), (hs.pickR pick_nil)⟩)

theorem bits_Le.ok {K : Nat} {a0 : Int} {a1 : Int} {r0 : List Int} (h : bits_Le.f K a0 a1 = some r0) (w0 : World) : Calls Try.prog 97 #[.int .u64 a0, .int .i64 a1] w0 fun e w' => ∃ h : (Option Addr × Nat × Nat), e = .returned (.slice h.1 h.2.1 h.2.2) ∧ St w0 [] [.ownL (CI .u8) h.1 h.2.1 h.2.2 r0 5] [] w' := by
 refine calls_k Try.func97 rfl fun Q qq => ?_
 have hs := St.start w0
 refine wp_conv (a' := ⟨#[.int .u64 a0, .int .i64 a1, undef, undef, undef, undef, undef, undef, undef, undef, undef, undef, undef, undef, undef, undef, undef, undef, undef, undef, undef, undef, undef, undef, undef, undef, undef, undef, undef, undef], []⟩) (by kernel_rfl) ?_
 refine xseq_k fun KS1 ks1 => ?_
 refine xregS [0] fun KR2 kr2 => ?_
 refine wpS.q 0 4 (.slice none 0 0) ?_
 refine wpS.fin rfl (kr2 _ _ (then_n (ks1 _ _ (xseq_k fun KS3 ks3 => (xseq_k fun KS4 ks4 => (xregS [0, 1, 2, 3, 4, 5] fun KR5 kr5 => ?_))))))
 refine wpS.q 0 7 (.int .i64 a1) ?_
 rcases of_if h with ⟨hc, h⟩ | ⟨hc, h⟩
 ·refine wpS.tk 1 false (some 8) (.bool true) (yld_b (dt hc) (fun _ => by kernel_rfl)) ?_
  refine wpS.qs [(2, 9, .bool true), (3, 10, undef), (4, 11, undef), (5, 12, .bool true)] ?_
  refine wpS.fin rfl (kr5 _ _ (then_n (ks4 _ _ (wp_cond_t (by kernel_rfl) (xseq_k fun KS6 ks6 => (xregS [0] fun KR7 kr7 => ?_))))))
  refine wpS.q 0 4 (.slice none 0 0) ?_
  refine wpS.fin rfl (kr7 _ _ (then_n (ks6 _ _ (xret (then_r ?_)))))
  have q0 := of_some h
  subst q0
  have hs := hs.addNilL (CI .u8) 5
  exact qq _ _ (post_ret (by kernel_rfl) (run_results [.tmp 4] [.slice none 0 0] (by kernel_rfl) (.cons (res_tmp (by kernel_rfl)) .nil)) ⟨⟨none, 0, 0⟩, congrArg Ending.returned (by kernel_rfl), (hs.conv rfl)⟩)
 refine wpS.tk 1 false (some 8) (.bool false) (yld_b (df hc) (fun _ => by kernel_rfl)) ?_
 refine wpS.qs [(2, 9, .bool false), (3, 10, .int .i64 a1)] ?_
 rcases of_if h with ⟨hc, h⟩ | ⟨hc, h⟩
 ·refine wpS.tk 4 false (some 11) (.bool true) (yld_b (dt hc) (fun _ => by kernel_rfl)) ?_
  refine wpS.q 5 12 (.bool true) ?_
  refine wpS.fin rfl (kr5 _ _ (then_n (ks4 _ _ (wp_cond_t (by kernel_rfl) (xseq_k fun KS8 ks8 => (xregS [0] fun KR9 kr9 => ?_))))))
  refine wpS.q 0 4 (.slice none 0 0) ?_
  refine wpS.fin rfl (kr9 _ _ (then_n (ks8 _ _ (xret (then_r ?_)))))
  have q0 := of_some h
  subst q0
  have hs := hs.addNilL (CI .u8) 5
  exact qq _ _ (post_ret (by kernel_rfl) (run_results [.tmp 4] [.slice none 0 0] (by kernel_rfl) (.cons (res_tmp (by kernel_rfl)) .nil)) ⟨⟨none, 0, 0⟩, congrArg Ending.returned (by kernel_rfl), (hs.conv rfl)⟩)
 refine wpS.tk 4 false (some 11) (.bool false) (yld_b (df hc) (fun _ => by kernel_rfl)) ?_
 refine wpS.q 5 12 (.bool false) ?_
 refine wpS.fin rfl (kr5 _ _ (then_n (ks4 _ _ (wp_cond_f (by kernel_rfl) (xskip (then_n (ks3 _ _ (xseq_k fun KS10 ks10 => (xregS [0, 1, 2] fun KR11 kr11 => ?_)))))))))
 refine wpS.q 0 13 (.int .i64 a1) ?_
 obtain ⟨h0, h⟩ := of_chk h
 obtain ⟨h1, h⟩ := of_chk h
 refine wpS.only 1 (op_makeT (C := (CI .u8)) (t := 26) (e := 5) (bytes := 1) (B := 140737488355328) (kl := .i64) (kc := .i64) (x := a1) (d := (some 14)) (by kernel_rfl) hs (by kernel_rfl) (by kernel_rfl) (by kernel_rfl) (by kernel_rfl) (by kernel_rfl) h0 h1 (by decide) (by decide) ?_)
 intro s1_A s1_n s1_c w gw hs
 refine ⟨fun _ => trivial, ?_⟩
 refine wpS.q 2 5 (.slice s1_A s1_n s1_c) ?_
 refine wpS.fin rfl (kr11 _ _ (then_n (ks10 _ _ (xseq_k fun KS12 ks12 => (xseq_k fun KS13 ks13 => (xregS [0, 1, 2] fun KR14 kr14 => ?_))))))
 refine wpS.qs [(0, 15, .int .i64 a1), (1, 16, .int .i64 (imin a1 8)), (2, 17, .int .i64 0)] ?_
 refine wpS.fin rfl (kr14 _ _ (then_n (ks13 _ _ ?_)))
 obtain ⟨y4, hy, hk0⟩ := of_bind h
 refine wp_exq (N := fun a w => St w0 [] [.ownL (CI .u8) s1_A s1_n s1_c y4 5] [] w ∧ ∃ g16 : Nat → Value, a = ⟨#[.int .u64 a0, .int .i64 a1, undef, undef, .slice none 0 0, .slice s1_A s1_n s1_c, (g16 6), .int .i64 a1, .bool false, .bool false, .int .i64 a1, .bool false, .bool false, .int .i64 a1, .slice s1_A s1_n s1_c, .int .i64 a1, .int .i64 (imin a1 8), (g16 17), (g16 18), (g16 19), (g16 20), (g16 21), (g16 22), (g16 23), (g16 24), (g16 25), (g16 26), (g16 27), (g16 28), undef], []⟩) (fun N0 nn0 => ?_) ?_
 ·clear hk0
  refine xblock ?_
  refine wp_loop_k (fun n a w => ∃ z2 z3, bits_Le.l0 K n a0 a1 z2 z3 = some y4 ∧ St w0 [] [.ownL (CI .u8) s1_A s1_n s1_c z3 5] [] w ∧ ∃ g15 : Nat → Value, a = ⟨#[.int .u64 a0, .int .i64 a1, undef, undef, .slice none 0 0, .slice s1_A s1_n s1_c, (g15 6), .int .i64 a1, .bool false, .bool false, .int .i64 a1, .bool false, .bool false, .int .i64 a1, .slice s1_A s1_n s1_c, .int .i64 a1, .int .i64 (imin a1 8), .int .i64 z2, (g15 18), (g15 19), (g15 20), (g15 21), (g15 22), (g15 23), (g15 24), (g15 25), (g15 26), (g15 27), (g15 28), undef], []⟩) K ⟨0, (List.replicate (a1 : Int).toNat (Cod.zero (CI .u8))), hy, hs.conv rfl, exg (by kernel_rfl)⟩ ?_
  clear hs h hy
  rintro n a w ⟨z2, z3, h, hs, g15, rfl⟩ KL0 kl0
  cases n with
  | zero => exact nomatch (show none = some _ from h)
  | succ n =>
   refine xseq_k fun KS17 ks17 => ?_
   refine xregS [0] fun KR18 kr18 => ?_
   rcases of_if h with ⟨hc, h⟩ | ⟨hc, h⟩
   ·refine wpS.tk 0 false (some 18) (.bool true) (yld_b (dt hc) (fun _ => by kernel_rfl)) ?_
    refine wpS.fin rfl (kr18 _ _ (then_n (ks17 _ _ (xseq_k fun KS19 ks19 => (wp_cond_t (by kernel_rfl) (xskip (then_n (ks19 _ _ (xseq_k fun KS20 ks20 => (xblock (xseq_k fun KS21 ks21 => (xregS [0, 1] fun KR22 kr22 => ?_))))))))))))
    refine wpS.qs [(0, 19, .int .i64 z2), (1, 6, .int .i64 z2)] ?_
    refine wpS.fin rfl (kr22 _ _ (then_n (ks21 _ _ (xregS [0, 1, 2, 3, 4, 5, 6, 7, 8] fun KR23 kr23 => ?_))))
    refine wpS.qs [(0, 20, .slice s1_A s1_n s1_c), (1, 21, .int .i64 z2), (2, 22, .int .u64 a0), (3, 23, .int .i64 z2), (4, 24, .int .i64 (imul .i64 8 z2))] ?_
    obtain ⟨h0, h⟩ := of_chk h
    refine wpS.tk 5 false (some 25) (.int .u64 (ishr .u64 a0 (imul .i64 8 z2))) (yld_shr (t := 64) (k' := .i64) (by kernel_rfl) h0) ?_
    refine wpS.q 6 26 (.int .u8 (iconv .u8 (ishr .u64 a0 (imul .i64 8 z2)))) ?_
    obtain ⟨h0, h⟩ := of_chk h
    obtain ⟨h1, h⟩ := of_chk h
    have i0_24 := h0
    have i1_24 := h1
    refine wpS.tk 7 false (some 27) (.pointer (adr s1_A ((z2 : Int).toNat * Cod.size (CI .u8)))) (yld_idxL (C := (CI .u8)) (t := 26) (e := 5) (k := .i64) (x := z2) (hs.rowL 0 rfl) (by kernel_rfl) (by kernel_rfl) (by kernel_rfl) h0 h1) ?_
    obtain ⟨x5, hx, h⟩ := of_bind h
    refine wpS.only 8 (op_storeL (C := (CI .u8)) (t := 5) (x := z2) (v := x5) (d := none) (by kernel_rfl) hs 0 rfl (by cases hx; kernel_rfl) (by kernel_rfl) i0_24 i1_24 ?_)
    intro w hs
    refine ⟨fun _ => trivial, ?_⟩
    refine wpS.fin rfl (kr23 _ _ (inBlock_n (then_n (ks20 _ _ (xregS [0, 1] fun KR25 kr25 => ?_)))))
    refine wpS.qs [(0, 28, .int .i64 (iadd .i64 z2 1)), (1, 17, .int .i64 (iadd .i64 z2 1))] ?_
    refine wpS.fin rfl (kr25 _ _ ?_)
    exact then_n (kl0 _ _ ⟨n, Nat.lt_succ_self n, (iadd .i64 z2 1), (wrL z3 z2 x5), h, (hs.conv rfl), exg (by kernel_rfl)⟩)
   refine wpS.tk 0 false (some 18) (.bool false) (yld_b (df hc) (fun _ => by kernel_rfl)) ?_
   refine wpS.fin rfl (kr18 _ _ (then_n (ks17 _ _ (xseq_k fun KS26 ks26 => (wp_cond_f (by kernel_rfl) (xexit (then_x (then_x (inBlock_hit ?_)))))))))
   have q0 := of_some h
   subst q0
   exact exq_n (nn0 _ _ ⟨(hs.conv rfl), exg (by kernel_rfl)⟩)
 clear hs h hy
 rintro a w ⟨hs, g16, rfl⟩
 have h := hk0
 refine then_n (ks12 _ _ (xseq_k fun KS27 ks27 => (xregS [0, 1] fun KR28 kr28 => ?_)))
 refine wpS.qs [(0, 29, .slice s1_A s1_n s1_c), (1, 4, .slice s1_A s1_n s1_c)] ?_
 refine wpS.fin rfl (kr28 _ _ (then_n (ks27 _ _ (xret ?_))))
 have q0 := of_some h
 subst q0
 exact qq _ _ (post_ret (by kernel_rfl) (run_results [.tmp 4] [.slice s1_A s1_n s1_c] (by kernel_rfl) (.cons (res_tmp (by kernel_rfl)) .nil)) ⟨⟨s1_A, s1_n, s1_c⟩, congrArg Ending.returned (by kernel_rfl), (hs.conv rfl)⟩)

theorem slices_Reverse_byte_byte_s.ok {K : Nat} {ca0 : List Int} {y1 : List Int} {ca0_A : Option Addr} {ca0_n : Nat} {ca0_c : Nat} (h : slices_Reverse_byte_byte_s.f K ca0 = some y1) {w0 w : World} {X : List Nat} {Lt Rt : List Ent} (hs : St w0 X (.ownL (CI .u8) ca0_A ca0_n ca0_c ca0 5 :: Lt) Rt w) : Calls Try.prog 98 #[.slice ca0_A ca0_n ca0_c] w fun e w' => e = .returned (.tuple #[]) ∧ St w0 X (.ownL (CI .u8) ca0_A ca0_n ca0_c y1 5 :: Lt) Rt w' := by
 refine calls_kn Try.func98 rfl fun Q qq qn => ?_
 refine wp_conv (a' := ⟨#[.slice ca0_A ca0_n ca0_c, undef, undef, undef, undef, undef, undef, undef, undef, undef, undef, undef, undef, undef, undef, undef, undef, undef, undef, undef, undef, undef, undef, undef, undef, undef, undef, undef], []⟩) (by kernel_rfl) ?_
 refine xseq_k fun KS1 ks1 => ?_
 refine xregS [0, 1, 2, 3, 4] fun KR2 kr2 => ?_
 refine wpS.q 0 4 (.slice ca0_A ca0_n ca0_c) ?_
 refine wpS.tk 1 false (some 5) (.int .i64 (ca0.length : Int)) (yld_lenL (hs.rowL 0 rfl) (fun _ => by kernel_rfl)) ?_
 refine wpS.qs [(2, 6, .int .i64 (isub .i64 (ca0.length : Int) 1)), (3, 2, .int .i64 0)] ?_
 obtain ⟨x2, hx, h⟩ := of_bind h
 refine wpS.tk 4 false (some 3) (.int .i64 x2) (yld_int hx (fun _ => by kernel_rfl)) ?_
 refine wpS.fin rfl (kr2 _ _ (then_n (ks1 _ _ ?_)))
 obtain ⟨y6, hy, hk0⟩ := of_bind h
 refine wp_exq (N := fun a w => St w0 X (.ownL (CI .u8) ca0_A ca0_n ca0_c y6 5 :: Lt) Rt w ∧ ∃ g4 : Nat → Value, a = ⟨#[.slice ca0_A ca0_n ca0_c, undef, (g4 2), (g4 3), .slice ca0_A ca0_n ca0_c, .int .i64 (ca0.length : Int), .int .i64 (isub .i64 (ca0.length : Int) 1), (g4 7), (g4 8), (g4 9), (g4 10), (g4 11), (g4 12), (g4 13), (g4 14), (g4 15), (g4 16), (g4 17), (g4 18), (g4 19), (g4 20), (g4 21), (g4 22), (g4 23), (g4 24), (g4 25), (g4 26), (g4 27)], []⟩) (fun N0 nn0 => ?_) ?_
 ·clear hk0
  refine xblock ?_
  refine wp_loop_k (fun n a w => ∃ z3 z4 z5, slices_Reverse_byte_byte_s.l0 K n z3 z4 z5 = some y6 ∧ St w0 X (.ownL (CI .u8) ca0_A ca0_n ca0_c z5 5 :: Lt) Rt w ∧ ∃ g3 : Nat → Value, a = ⟨#[.slice ca0_A ca0_n ca0_c, undef, .int .i64 z3, .int .i64 z4, .slice ca0_A ca0_n ca0_c, .int .i64 (ca0.length : Int), .int .i64 (isub .i64 (ca0.length : Int) 1), (g3 7), (g3 8), (g3 9), (g3 10), (g3 11), (g3 12), (g3 13), (g3 14), (g3 15), (g3 16), (g3 17), (g3 18), (g3 19), (g3 20), (g3 21), (g3 22), (g3 23), (g3 24), (g3 25), (g3 26), (g3 27)], []⟩) K ⟨0, x2, ca0, hy, hs.conv rfl, exg (by kernel_rfl)⟩ ?_
  clear hs h hy
  rintro n a w ⟨z3, z4, z5, h, hs, g3, rfl⟩ KL0 kl0
  cases n with
  | zero => exact nomatch (show none = some _ from h)
  | succ n =>
   refine xseq_k fun KS5 ks5 => ?_
   refine xseq_k fun KS6 ks6 => ?_
   refine xregS [0, 1, 2] fun KR7 kr7 => ?_
   refine wpS.qs [(0, 7, .int .i64 z3), (1, 8, .int .i64 z4)] ?_
   rcases of_if h with ⟨hc, h⟩ | ⟨hc, h⟩
   ·refine wpS.tk 2 false (some 9) (.bool true) (yld_b (dt hc) (fun _ => by kernel_rfl)) ?_
    refine wpS.fin rfl (kr7 _ _ (then_n (ks6 _ _ (wp_cond_t (by kernel_rfl) (xskip (then_n (ks5 _ _ (xseq_k fun KS8 ks8 => (xblock ?_)))))))))
    refine wp_regG [13, 15] (fun k => True) 16 (by kernel_rfl) (by kernel_rfl) (by kernel_rfl) fun KR9 kr9 => ?_
    have hs := hs.drawn1
    refine wpG.q 0 14 (.slice ca0_A ca0_n ca0_c) ?_
    refine wpG.q 1 15 (.int .i64 z3) ?_
    refine wpG.q 2 16 (.slice ca0_A ca0_n ca0_c) ?_
    refine wpG.q 3 17 (.int .i64 z4) ?_
    refine wpG.q 4 18 (.slice ca0_A ca0_n ca0_c) ?_
    refine wpG.q 5 19 (.int .i64 z4) ?_
    obtain ⟨h0, h⟩ := of_chk h
    obtain ⟨h1, h⟩ := of_chk h
    have i0_10 := h0
    have i1_10 := h1
    refine wpG.tD 6 false (some 20) (.pointer (adr ca0_A ((z4 : Int).toNat * Cod.size (CI .u8)))) (yld_idxL (C := (CI .u8)) (t := 26) (e := 5) (k := .i64) (x := z4) (hs.rowL 0 rfl) (by kernel_rfl) (by kernel_rfl) (by kernel_rfl) h0 h1) ?_
    refine wpG.tD 7 true (some 21) (.int .u8 (rdL (CI .u8) z5 z4)) (yld_loadL (C := (CI .u8)) (e := 5) (x := z4) (hs.rowL 0 rfl) (by kernel_rfl) rfl (by kernel_rfl) i0_10 i1_10) ?_
    refine wpG.q 8 22 (.slice ca0_A ca0_n ca0_c) ?_
    refine wpG.q 9 23 (.int .i64 z3) ?_
    obtain ⟨h0, h⟩ := of_chk h
    obtain ⟨h1, h⟩ := of_chk h
    have i0_11 := h0
    have i1_11 := h1
    refine wpG.tD 10 false (some 24) (.pointer (adr ca0_A ((z3 : Int).toNat * Cod.size (CI .u8)))) (yld_idxL (C := (CI .u8)) (t := 26) (e := 5) (k := .i64) (x := z3) (hs.rowL 0 rfl) (by kernel_rfl) (by kernel_rfl) (by kernel_rfl) h0 h1) ?_
    refine wpG.tD 11 true (some 25) (.int .u8 (rdL (CI .u8) z5 z3)) (yld_loadL (C := (CI .u8)) (e := 5) (x := z3) (hs.rowL 0 rfl) (by kernel_rfl) rfl (by kernel_rfl) i0_11 i1_11) ?_
    obtain ⟨h0, h⟩ := of_chk h
    obtain ⟨h1, h⟩ := of_chk h
    have i0_12 := h0
    have i1_12 := h1
    refine wpG.tD 12 false (some 26) (.pointer (adr ca0_A ((z3 : Int).toNat * Cod.size (CI .u8)))) (yld_idxL (C := (CI .u8)) (t := 26) (e := 5) (k := .i64) (x := z3) (hs.rowL 0 rfl) (by kernel_rfl) (by kernel_rfl) (by kernel_rfl) h0 h1) ?_
    obtain ⟨x7, hx, h⟩ := of_bind h
    refine wpG.only 13 (by kernel_rfl) (op_storeL (C := (CI .u8)) (t := 5) (x := z3) (v := x7) (d := none) (by kernel_rfl) hs 0 rfl (by cases hx; kernel_rfl) (by kernel_rfl) i0_12 i1_12 ?_)
    intro w hs
    refine ⟨⟨fun hf => absurd hf (by decide), .all _ _⟩, ?_⟩
    obtain ⟨h0, h⟩ := of_chk h
    obtain ⟨h1, h⟩ := of_chk h
    have i0_13 := h0
    have i1_13 := h1
    refine wpG.tD 14 false (some 27) (.pointer (adr ca0_A ((z4 : Int).toNat * Cod.size (CI .u8)))) (yld_idxL (C := (CI .u8)) (t := 26) (e := 5) (k := .i64) (x := z4) (hs.rowL 0 rfl) (by kernel_rfl) (by kernel_rfl) (by kernel_rfl) h0 h1) ?_
    obtain ⟨x8, hx, h⟩ := of_bind h
    refine wpG.only 15 (by kernel_rfl) (op_storeL (C := (CI .u8)) (t := 5) (x := z4) (v := x8) (d := none) (by kernel_rfl) hs 0 rfl (by cases hx; kernel_rfl) (by kernel_rfl) i0_13 i1_13 ?_)
    intro w hs
    refine ⟨⟨fun hf => absurd hf (by decide), .all _ _⟩, ?_⟩
    refine wpG.fin (by kernel_rfl) rfl (kr9 _ _ ?_)
    refine inBlock_n (then_n (ks8 _ _ (xregS [0, 1, 2, 3, 4, 5] fun KR14 kr14 => ?_)))
    refine wpS.qs [(0, 10, .int .i64 z3), (1, 11, .int .i64 (iadd .i64 z3 1)), (2, 12, .int .i64 z4), (3, 13, .int .i64 (isub .i64 z4 1))] ?_
    obtain ⟨x9, hx, h⟩ := of_bind h
    refine wpS.tk 4 false (some 2) (.int .i64 x9) (yld_int hx (fun _ => by kernel_rfl)) ?_
    obtain ⟨x10, hx, h⟩ := of_bind h
    refine wpS.tk 5 false (some 3) (.int .i64 x10) (yld_int hx (fun _ => by kernel_rfl)) ?_
    refine wpS.fin rfl (kr14 _ _ ?_)
    exact then_n (kl0 _ _ ⟨n, Nat.lt_succ_self n, x9, x10, (wrL (wrL z5 z3 x7) z4 x8), h, (hs.conv rfl), exg (by kernel_rfl)⟩)
   refine wpS.tk 2 false (some 9) (.bool false) (yld_b (df hc) (fun _ => by kernel_rfl)) ?_
   refine wpS.fin rfl (kr7 _ _ (then_n (ks6 _ _ (wp_cond_f (by kernel_rfl) (xexit (then_x (then_x (inBlock_hit ?_))))))))
   have q0 := of_some h
   subst q0
   exact exq_n (nn0 _ _ ⟨(hs.conv rfl), exg (by kernel_rfl)⟩)
 clear hs h hy
 rintro a w ⟨hs, g4, rfl⟩
 have h := hk0
 have q0 := of_some h
 subst q0
 exact qn _ _ (post_nrm (by kernel_rfl) (run_results [] [] (by kernel_rfl) .nil) ⟨rfl, (hs.conv rfl)⟩)

theorem bits_Be.ok {K : Nat} {a0 : Int} {a1 : Int} {r0 : List Int} (h : bits_Be.f K a0 a1 = some r0) (w0 : World) : Calls Try.prog 60 #[.int .u64 a0, .int .i64 a1] w0 fun e w' => ∃ h : (Option Addr × Nat × Nat), e = .returned (.slice h.1 h.2.1 h.2.2) ∧ St w0 [] [.ownL (CI .u8) h.1 h.2.1 h.2.2 r0 5] [] w' := by
 refine calls_k Try.func60 rfl fun Q qq => ?_
 have hs := St.start w0
 refine wp_conv (a' := ⟨#[.int .u64 a0, .int .i64 a1, undef, undef, undef, undef, undef, undef, undef, undef, undef, undef], []⟩) (by kernel_rfl) ?_
 refine xseq_k fun KS1 ks1 => ?_
 refine xregS [0] fun KR2 kr2 => ?_
 refine wpS.q 0 4 (.slice none 0 0) ?_
 refine wpS.fin rfl (kr2 _ _ (then_n (ks1 _ _ (xseq_k fun KS3 ks3 => (xregS [0, 1, 2, 3] fun KR4 kr4 => ?_)))))
 refine wpS.qs [(0, 6, .int .u64 a0), (1, 7, .int .i64 a1)] ?_
 obtain ⟨r1, hg, h⟩ := of_bind h
 refine wpS.only 2 (op_callH (d := (some 8)) (by kernel_rfl) hs (fun _ => by kernel_rfl) (bits_Le.ok hg _) ?_)
 rintro ⟨r1_A, r1_n, r1_c⟩ w gw hs
 have hs := hs.conv (L' := [.ownL (CI .u8) r1_A r1_n r1_c r1 5]) rfl
 refine ⟨fun _ => trivial, ?_⟩
 refine wpS.q 3 5 (.slice r1_A r1_n r1_c) ?_
 refine wpS.fin rfl (kr4 _ _ (then_n (ks3 _ _ (xseq_k fun KS5 ks5 => (xregS [0, 1] fun KR6 kr6 => ?_)))))
 refine wpS.q 0 9 (.slice r1_A r1_n r1_c) ?_
 obtain ⟨r2, hg, h⟩ := of_bind h
 refine wpS.only 1 (wpOp_call (d := (some 10)) (by kernel_rfl) (fun _ => by kernel_rfl) (slices_Reverse_byte_byte_s.ok hg hs) ?_)
 rintro e w ⟨rfl, hs⟩
 refine ⟨_, rfl, ?_⟩
 refine ⟨fun _ => trivial, ?_⟩
 refine wpS.fin rfl (kr6 _ _ (then_n (ks5 _ _ (xseq_k fun KS7 ks7 => (xregS [0, 1] fun KR8 kr8 => ?_)))))
 refine wpS.qs [(0, 11, .slice r1_A r1_n r1_c), (1, 4, .slice r1_A r1_n r1_c)] ?_
 refine wpS.fin rfl (kr8 _ _ (then_n (ks7 _ _ (xret ?_))))
 have q0 := of_some h
 subst q0
 exact qq _ _ (post_ret (by kernel_rfl) (run_results [.tmp 4] [.slice r1_A r1_n r1_c] (by kernel_rfl) (.cons (res_tmp (by kernel_rfl)) .nil)) ⟨⟨r1_A, r1_n, r1_c⟩, congrArg Ending.returned (by kernel_rfl), (hs.conv rfl)⟩)

theorem bits_Num.ok {K : Nat} {a0 : List Int} {r0 : Int} {a0_A : Option Addr} {a0_n : Nat} {a0_c : Nat} (h : bits_Num.f K a0 = some r0) (w0 : World) (hp0 : RowL (CI .u8) w0 a0_A a0_n a0_c a0) : Ret Try.prog 63 #[.slice a0_A a0_n a0_c] w0 (.int .u64 r0) := by
 refine calls_k Try.func63 rfl fun Q qq => ?_
 have hs := St.startR (all_cons (RowP.ent hp0) all_nil)
 refine wp_conv (a' := ⟨#[.slice a0_A a0_n a0_c, undef, undef, undef, undef, undef, undef, undef, undef, undef, undef, undef, undef, undef, undef, undef, undef, undef, undef], []⟩) (by kernel_rfl) ?_
 refine xseq_k fun KS1 ks1 => ?_
 refine xregS [0] fun KR2 kr2 => ?_
 refine wpS.q 0 2 (.int .u64 0) ?_
 refine wpS.fin rfl (kr2 _ _ (then_n (ks1 _ _ (xseq_k fun KS3 ks3 => (xregS [0] fun KR4 kr4 => ?_)))))
 refine wpS.q 0 3 (.int .u64 0) ?_
 refine wpS.fin rfl (kr4 _ _ (then_n (ks3 _ _ (xseq_k fun KS5 ks5 => (xseq_k fun KS6 ks6 => (xregS [0, 1, 2] fun KR7 kr7 => ?_))))))
 refine wpS.q 0 6 (.slice a0_A a0_n a0_c) ?_
 refine wpS.tk 1 false (some 7) (.int .i64 (a0.length : Int)) (yld_lenL (hs.rowR 0 rfl) (fun _ => by kernel_rfl)) ?_
 refine wpS.q 2 8 (.int .i64 0) ?_
 refine wpS.fin rfl (kr7 _ _ (then_n (ks6 _ _ ?_)))
 obtain ⟨y3, hy, hk0⟩ := of_bind h
 refine wp_exq (N := fun a w => St w0 [] [] [.rowL (CI .u8) a0_A a0_n a0_c a0] w ∧ ∃ g9 : Nat → Value, a = ⟨#[.slice a0_A a0_n a0_c, undef, .int .u64 0, .int .u64 y3, undef, (g9 5), .slice a0_A a0_n a0_c, .int .i64 (a0.length : Int), (g9 8), (g9 9), (g9 10), (g9 11), (g9 12), (g9 13), (g9 14), (g9 15), (g9 16), (g9 17), undef], []⟩) (fun N0 nn0 => ?_) ?_
 ·clear hk0
  refine xblock ?_
  refine wp_loop_k (fun n a w => ∃ z1 z2, bits_Num.l0 K n a0 z1 z2 = some y3 ∧ St w0 [] [] [.rowL (CI .u8) a0_A a0_n a0_c a0] w ∧ ∃ g8 : Nat → Value, a = ⟨#[.slice a0_A a0_n a0_c, undef, .int .u64 0, .int .u64 z1, undef, (g8 5), .slice a0_A a0_n a0_c, .int .i64 (a0.length : Int), .int .i64 z2, (g8 9), (g8 10), (g8 11), (g8 12), (g8 13), (g8 14), (g8 15), (g8 16), (g8 17), undef], []⟩) K ⟨0, 0, hy, hs.conv rfl, exg (by kernel_rfl)⟩ ?_
  clear hs h hy
  rintro n a w ⟨z1, z2, h, hs, g8, rfl⟩ KL0 kl0
  cases n with
  | zero => exact nomatch (show none = some _ from h)
  | succ n =>
   refine xseq_k fun KS10 ks10 => ?_
   refine xregS [0] fun KR11 kr11 => ?_
   rcases of_if h with ⟨hc, h⟩ | ⟨hc, h⟩
   ·refine wpS.tk 0 false (some 9) (.bool true) (yld_b (dt hc) (fun _ => by kernel_rfl)) ?_
    refine wpS.fin rfl (kr11 _ _ (then_n (ks10 _ _ (xseq_k fun KS12 ks12 => (wp_cond_t (by kernel_rfl) (xskip (then_n (ks12 _ _ (xseq_k fun KS13 ks13 => (xblock (xseq_k fun KS14 ks14 => (xregS [0, 1, 2] fun KR15 kr15 => ?_))))))))))))
    obtain ⟨h0, h⟩ := of_chk h
    obtain ⟨h1, h⟩ := of_chk h
    have i0_16 := h0
    have i1_16 := h1
    refine wpS.tk 0 false (some 10) (.pointer (adr a0_A ((z2 : Int).toNat * Cod.size (CI .u8)))) (yld_idxL (C := (CI .u8)) (t := 26) (e := 5) (k := .i64) (x := z2) (hs.rowR 0 rfl) (by kernel_rfl) (by kernel_rfl) (by kernel_rfl) h0 h1) ?_
    refine wpS.tk 1 true (some 11) (.int .u8 (rdL (CI .u8) a0 z2)) (yld_loadL (C := (CI .u8)) (e := 5) (x := z2) (hs.rowR 0 rfl) (by kernel_rfl) rfl (by kernel_rfl) i0_16 i1_16) ?_
    obtain ⟨x4, hx, h⟩ := of_bind h
    refine wpS.tk 2 false (some 5) (.int .u8 x4) (yld_int hx (fun _ => by kernel_rfl)) ?_
    refine wpS.fin rfl (kr15 _ _ (then_n (ks14 _ _ (xregS [0, 1, 2, 3, 4, 5] fun KR17 kr17 => ?_))))
    refine wpS.qs [(0, 12, .int .u64 z1), (1, 13, .int .u64 (ishl .u64 z1 8)), (2, 14, .int .u8 x4), (3, 15, .int .u64 (iconv .u64 x4)), (4, 16, .int .u64 (ior .u64 (ishl .u64 z1 8) (iconv .u64 x4)))] ?_
    obtain ⟨x5, hx, h⟩ := of_bind h
    refine wpS.tk 5 false (some 3) (.int .u64 x5) (yld_int hx (fun _ => by kernel_rfl)) ?_
    refine wpS.fin rfl (kr17 _ _ (inBlock_n (then_n (ks13 _ _ (xregS [0, 1] fun KR18 kr18 => ?_)))))
    refine wpS.qs [(0, 17, .int .i64 (iadd .i64 z2 1)), (1, 8, .int .i64 (iadd .i64 z2 1))] ?_
    refine wpS.fin rfl (kr18 _ _ ?_)
    exact then_n (kl0 _ _ ⟨n, Nat.lt_succ_self n, x5, (iadd .i64 z2 1), h, (hs.conv rfl), exg (by kernel_rfl)⟩)
   refine wpS.tk 0 false (some 9) (.bool false) (yld_b (df hc) (fun _ => by kernel_rfl)) ?_
   refine wpS.fin rfl (kr11 _ _ (then_n (ks10 _ _ (xseq_k fun KS19 ks19 => (wp_cond_f (by kernel_rfl) (xexit (then_x (then_x (inBlock_hit ?_)))))))))
   have q0 := of_some h
   subst q0
   exact exq_n (nn0 _ _ ⟨(hs.conv rfl), exg (by kernel_rfl)⟩)
 clear hs h hy
 rintro a w ⟨hs, g9, rfl⟩
 have h := hk0
 refine then_n (ks5 _ _ (xseq_k fun KS20 ks20 => (xregS [0, 1] fun KR21 kr21 => ?_)))
 refine wpS.qs [(0, 18, .int .u64 y3), (1, 2, .int .u64 y3)] ?_
 refine wpS.fin rfl (kr21 _ _ (then_n (ks20 _ _ (xret ?_))))
 have q0 := of_some h
 subst q0
 exact qq _ _ (post_ret (by kernel_rfl) (run_results [.tmp 2] [.int .u64 y3] (by kernel_rfl) (.cons (res_tmp (by kernel_rfl)) .nil)) ⟨congrArg Ending.returned (by kernel_rfl), hs.none⟩)

theorem wrap_shelf_there_s.ok {K : Nat} {ca0 : Int} {ca1 : List (List Int)} {ca2 : List Int} {ca3 : Int} {y1_0 : Int} {y2 : List (List Int)} {cb0 : Nat} {ca1_A : Option Addr} {ca1_n : Nat} {ca1_c : Nat} {ca1_H : List HS} {ca2_A : Option Addr} {ca2_n : Nat} {ca2_c : Nat} (h : wrap_shelf_there_s.f K ca0 ca1 ca2 ca3 = some (y1_0, y2)) {w0 w : World} {X : List Nat} {Lt Rt : List Ent} (hs : St w0 X (.blk cb0 ([.int .u64 ca0, .slice ca1_A ca1_n ca1_c]) 72 :: .ownL CS ca1_A ca1_n ca1_c ca1_H 26 :: Lt) (.inn (CI .u8) ca1_H ca1 :: .rowL (CI .u8) ca2_A ca2_n ca2_c ca2 :: Rt) w) : Calls Try.prog 58 #[.pointer (some ⟨cb0, 0, none⟩), .slice ca2_A ca2_n ca2_c, .int .i64 ca3] w fun e w' => ∃ (y2_H : List HS), e = .returned (.tuple #[]) ∧ St w0 X (.blk cb0 ([.int .u64 y1_0, .slice ca1_A ca1_n ca1_c]) 72 :: .ownL CS ca1_A ca1_n ca1_c y2_H 26 :: Lt) (.inn (CI .u8) y2_H y2 :: .rowL (CI .u8) ca2_A ca2_n ca2_c ca2 :: Rt) w' := by
 refine calls_kn Try.func58 rfl fun Q qq qn => ?_
 refine wp_conv (a' := ⟨#[.pointer (some ⟨cb0, 0, none⟩), .slice ca2_A ca2_n ca2_c, .int .i64 ca3, undef, undef, undef, undef, undef, undef, undef, undef, undef, undef, undef, undef, undef, undef, undef, undef, undef, undef, undef, undef, undef, undef, undef, undef, undef, undef, undef, undef, undef, undef, undef, undef, undef, undef, undef, undef, undef], []⟩) (by kernel_rfl) ?_
 refine xseq_k fun KS1 ks1 => ?_
 refine xregS [0, 1, 2, 3] fun KR2 kr2 => ?_
 refine wpS.qs [(0, 9, .pointer (some ⟨cb0, 0, none⟩)), (1, 10, .int .i64 ca3)] ?_
 refine wpS.only 2 (op_inline (d := (some 11)) (f := 95) (args := #[.pointer (some ⟨cb0, 0, none⟩), .int .i64 ca3]) (by kernel_rfl) (fun _ => by kernel_rfl) fun R3 kI3 => ?_)
 refine calls_k Try.func95 rfl fun Q3 qq3 => ?_
 refine wp_conv (a' := ⟨#[.pointer (some ⟨cb0, 0, none⟩), .int .i64 ca3, undef, undef, undef, undef, undef, undef, undef, undef, undef, undef, undef, undef, undef, undef, undef, undef], []⟩) (by kernel_rfl) ?_
 refine xseq_k fun KS4 ks4 => ?_
 refine xregS [0] fun KR5 kr5 => ?_
 refine wpS.q 0 4 (.pointer none) ?_
 refine wpS.fin rfl (kr5 _ _ (then_n (ks4 _ _ (xseq_k fun KS6 ks6 => ?_))))
 refine wp_regG [] (fun k => True) 14 (by kernel_rfl) (by kernel_rfl) (by kernel_rfl) fun KR7 kr7 => ?_
 have hs := hs.drawn1
 refine wpG.q 0 5 (.pointer (some ⟨cb0, 0, none⟩)) ?_
 refine wpG.q 1 6 (.pointer (some ⟨cb0, 0, none⟩)) ?_
 refine wpG.q 2 7 (.pointer (some ⟨cb0, 1, none⟩)) ?_
 refine wpG.tD 3 true (some 8) (.slice ca1_A ca1_n ca1_c) (yld_load1 (e := 44) (o := 1) hs 0 rfl (by kernel_rfl) (by kernel_rfl) (by rfl) .grow) ?_
 refine wpG.q 4 9 (.int .i64 ca3) ?_
 refine wpG.q 5 10 (.int .i64 (isub .i64 ca3 1)) ?_
 refine wpG.q 6 11 (.pointer (some ⟨cb0, 0, none⟩)) ?_
 refine wpG.q 7 12 (.pointer (some ⟨cb0, 0, none⟩)) ?_
 refine wpG.q 8 13 (.pointer (some ⟨cb0, 1, none⟩)) ?_
 refine wpG.tD 9 true (some 14) (.slice ca1_A ca1_n ca1_c) (yld_load1 (e := 44) (o := 1) hs 0 rfl (by kernel_rfl) (by kernel_rfl) (by rfl) .grow) ?_
 refine wpG.tD 10 false (some 15) (.int .i64 (ca1.length : Int)) (yld_lenLL (LLP.mk (hs.rowL 1 rfl) (hs.innR 0 rfl)) (fun _ => by kernel_rfl)) ?_
 obtain ⟨h0, h⟩ := of_chk h
 refine wpG.tD 11 false (some 16) (.int .i64 (irem .i64 (isub .i64 ca3 1) (ca1.length : Int))) (yld_rem (t := 3) (by kernel_rfl) h0) ?_
 obtain ⟨x3, hx, h⟩ := of_bind h
 have hx := of_some hx
 subst hx
 obtain ⟨h0, h⟩ := of_chk h
 obtain ⟨h1, h⟩ := of_chk h
 have i0_8 := h0
 have i1_8 := h1
 refine wpG.tD 12 false (some 17) (.pointer (adr ca1_A (((irem .i64 (isub .i64 ca3 1) (ca1.length : Int)) : Int).toNat * Cod.size (CI .u8)))) (yld_idxLL (C := (CI .u8)) (t := 44) (e := 26) (k := .i64) (x := (irem .i64 (isub .i64 ca3 1) (ca1.length : Int))) (LLP.mk (hs.rowL 1 rfl) (hs.innR 0 rfl)) (by kernel_rfl) (by kernel_rfl) (by kernel_rfl) h0 h1) ?_
 refine wpG.q 13 4 (.pointer (adr ca1_A (((irem .i64 (isub .i64 ca3 1) (ca1.length : Int)) : Int).toNat * Cod.size (CI .u8)))) ?_
 refine wpG.fin (by kernel_rfl) rfl (kr7 _ _ ?_)
 refine then_n (ks6 _ _ (xret ?_))
 refine qq3 _ _ (post_ret (by kernel_rfl) (run_results [.tmp 4] [.pointer (adr ca1_A (((irem .i64 (isub .i64 ca3 1) (ca1.length : Int)) : Int).toNat * Cod.size (CI .u8)))] (by kernel_rfl) (.cons (res_tmp (by kernel_rfl)) .nil)) ?_)
 refine kI3 _ _ ?_
 refine ⟨fun _ => trivial, ?_⟩
 refine wpS.q 3 6 (.pointer (adr ca1_A (((irem .i64 (isub .i64 ca3 1) (ca1.length : Int)) : Int).toNat * Cod.size (CI .u8)))) ?_
 refine wpS.fin rfl (kr2 _ _ (then_n (ks1 _ _ (xseq_k fun KS9 ks9 => ?_))))
 refine wp_regG [] (fun k => True) 17 (by kernel_rfl) (by kernel_rfl) (by kernel_rfl) fun KR10 kr10 => ?_
 have hs := hs.drawn1
 refine wpG.q 0 13 (.slice ca2_A ca2_n ca2_c) ?_
 refine wpG.q 1 14 (.pointer (some ⟨cb0, 0, none⟩)) ?_
 refine wpG.q 2 15 (.pointer (some ⟨cb0, 0, none⟩)) ?_
 refine wpG.q 3 16 (.pointer (some ⟨cb0, 0, none⟩)) ?_
 refine wpG.tD 4 true (some 17) (.int .u64 ca0) (yld_load1 (e := 64) (o := 0) hs 0 rfl (by kernel_rfl) (by kernel_rfl) (by rfl) .grow) ?_
 refine wpG.q 6 19 (.pointer (adr ca1_A (((irem .i64 (isub .i64 ca3 1) (ca1.length : Int)) : Int).toNat * Cod.size (CI .u8)))) ?_
 refine wpG.tD 7 false (some 20) (.pointer (adr ca1_A (((irem .i64 (isub .i64 ca3 1) (ca1.length : Int)) : Int).toNat * Cod.size (CI .u8)))) (yld_nilP (LLP.ne (LLP.mk (hs.rowL 1 rfl) (hs.innR 0 rfl)) i0_8 i1_8) (fun ad e w' => by subst e; kernel_rfl)) ?_
 obtain ⟨s4_A, hA⟩ : ∃ A, A = (rdL CS ca1_H (irem .i64 (isub .i64 ca3 1) (ca1.length : Int))).1 := ⟨_, rfl⟩
 obtain ⟨s4_n, hn⟩ : ∃ n, n = (rdL CS ca1_H (irem .i64 (isub .i64 ca3 1) (ca1.length : Int))).2.1 := ⟨_, rfl⟩
 obtain ⟨s4_c, hc⟩ : ∃ c, c = (rdL CS ca1_H (irem .i64 (isub .i64 ca3 1) (ca1.length : Int))).2.2 := ⟨_, rfl⟩
 refine wpG.tD 8 true (some 21) (.slice s4_A s4_n s4_c) (by subst hA hn hc; exact yld_loadLL (C := (CI .u8)) (e := 26) (x := (irem .i64 (isub .i64 ca3 1) (ca1.length : Int))) (LLP.mk (hs.rowL 1 rfl) (hs.innR 0 rfl)) (by kernel_rfl) (by kernel_rfl) i0_8 i1_8) ?_
 have hs := hs.addInnI (C := (CI .u8)) 0 rfl i0_8 i1_8 hA hn hc
 obtain ⟨r5, hg, h⟩ := of_bind h
 refine wpG.only 5 (by kernel_rfl) (op_callH (d := (some 18)) (by kernel_rfl) hs (fun _ => by kernel_rfl) (bits_Be.ok hg _) ?_)
 rintro ⟨r5_A, r5_n, r5_c⟩ w gw hs
 have hs := hs.conv (L' := (.ownL (CI .u8) r5_A r5_n r5_c r5 5 :: .blk cb0 ([.int .u64 ca0, .slice ca1_A ca1_n ca1_c]) 72 :: .ownL CS ca1_A ca1_n ca1_c ca1_H 26 :: Lt)) rfl
 refine ⟨.of gw, ?_⟩
 refine wpG.only 9 (by kernel_rfl) (op_lit (C := CS) (t := 44) (e := 26) (len := 2) (parts := #[(0, .slice r5_A r5_n r5_c), (1, .slice s4_A s4_n s4_c)]) (l := ([(r5_A, r5_n, r5_c), (s4_A, s4_n, s4_c)] : List HS)) (d := (some 22)) (by kernel_rfl) hs (by kernel_rfl) (by kernel_rfl) (by kernel_rfl) (z := .slice none 0 0) (by kernel_rfl) rfl (by decide) (by decide) (by kernel_rfl) ?_)
 intro s6_A s6_n s6_c w gw hs
 refine ⟨.of gw, ?_⟩
 obtain ⟨r7, hg, h⟩ := of_bind h
 refine wpG.only 10 (by kernel_rfl) (op_callH (d := (some 23)) (by kernel_rfl) hs (fun _ => by kernel_rfl) (bits_Join.ok hg _ (LLP.mk (hs.rowL 0 rfl) (inn_cons (hs.rowL 1 rfl) (inn_cons (hs.rowR 0 rfl) inn_nil)))) ?_)
 rintro ⟨r7_A, r7_n, r7_c⟩ w gw hs
 have hs := hs.conv (L' := (.ownL (CI .u8) r7_A r7_n r7_c r7 5 :: .ownL CS s6_A s6_n s6_c ([(r5_A, r5_n, r5_c), (s4_A, s4_n, s4_c)] : List HS) 26 :: .ownL (CI .u8) r5_A r5_n r5_c r5 5 :: .blk cb0 ([.int .u64 ca0, .slice ca1_A ca1_n ca1_c]) 72 :: .ownL CS ca1_A ca1_n ca1_c ca1_H 26 :: Lt)) rfl
 refine ⟨.of gw, ?_⟩
 obtain ⟨⟨r8, r9⟩, hg, h⟩ := of_bind h
 refine wpG.only 11 (by kernel_rfl) (op_callH (d := (some 24)) (by kernel_rfl) hs (fun _ => by kernel_rfl) (aes_Block.ok hg _ (hs.rowR 2 rfl) (hs.rowL 0 rfl)) ?_)
 rintro ⟨r8_A, r8_n, r8_c⟩ w gw hs
 have hs := hs.conv (L' := (.rowL (CI .u8) r8_A r8_n r8_c r8 :: .ownL (CI .u8) r7_A r7_n r7_c r7 5 :: .ownL CS s6_A s6_n s6_c ([(r5_A, r5_n, r5_c), (s4_A, s4_n, s4_c)] : List HS) 26 :: .ownL (CI .u8) r5_A r5_n r5_c r5 5 :: .blk cb0 ([.int .u64 ca0, .slice ca1_A ca1_n ca1_c]) 72 :: .ownL CS ca1_A ca1_n ca1_c ca1_H 26 :: Lt)) rfl
 have hs := hs.toR 0 rfl
 refine ⟨.of gw, ?_⟩
 refine wpG.q 12 12 (.tuple #[.slice r8_A r8_n r8_c, .int .i64 r9]) ?_
 refine wpG.q 13 25 (.slice r8_A r8_n r8_c) ?_
 refine wpG.q 14 26 (.int .i64 r9) ?_
 refine wpG.q 15 7 (.slice r8_A r8_n r8_c) ?_
 refine wpG.q 16 8 (.int .i64 r9) ?_
 refine wpG.fin (by kernel_rfl) rfl (kr10 _ _ ?_)
 refine then_n (ks9 _ _ ?_)
 refine wp_regG [12, 14] (fun k => True) 15 (by kernel_rfl) (by kernel_rfl) (by kernel_rfl) fun KR11 kr11 => ?_
 have hs := hs.drawn1
 refine wpG.q 0 27 (.pointer (some ⟨cb0, 0, none⟩)) ?_
 refine wpG.q 1 28 (.pointer (adr ca1_A (((irem .i64 (isub .i64 ca3 1) (ca1.length : Int)) : Int).toNat * Cod.size (CI .u8)))) ?_
 refine wpG.q 2 29 (.slice r8_A r8_n r8_c) ?_
 obtain ⟨h0, h⟩ := of_chk h
 obtain ⟨h1, h⟩ := of_chk h
 obtain ⟨h2, h⟩ := of_chk h
 obtain ⟨s10_A, hA⟩ : ∃ A, A = if r8_c = (0 : Int).toNat then r8_A else adr r8_A ((0 : Int).toNat * Cod.size (CI .u8)) := ⟨_, rfl⟩
 obtain ⟨s10_n, hn⟩ : ∃ n, n = (8 : Int).toNat - (0 : Int).toNat := ⟨_, rfl⟩
 obtain ⟨s10_c, hc⟩ : ∃ c, c = r8_c - (0 : Int).toNat := ⟨_, rfl⟩
 refine wpG.tD 3 false (some 30) (.slice s10_A s10_n s10_c) (yld_sub (C := (CI .u8)) (t := 26) (e := 5) (low := none) (high := some (.int .i64 8)) (lo := 0) (hi := 8) (hs.rowR 0 rfl) (by kernel_rfl) (by kernel_rfl) (by kernel_rfl) (.inl ⟨rfl, rfl⟩) (.inr ⟨_, rfl⟩) h0 h1 h2 hA hn hc) ?_
 have hs := hs.addSub (C := (CI .u8)) 0 rfl h0 h1 h2 hA hn hc
 refine wpG.q 5 32 (.int .i64 ca3) ?_
 refine wpG.q 6 33 (.int .u64 (iconv .u64 ca3)) ?_
 refine wpG.q 8 35 (.slice r8_A r8_n r8_c) ?_
 obtain ⟨h0, h⟩ := of_chk h
 obtain ⟨h1, h⟩ := of_chk h
 obtain ⟨h2, h⟩ := of_chk h
 obtain ⟨s11_A, hA⟩ : ∃ A, A = if r8_c = (8 : Int).toNat then r8_A else adr r8_A ((8 : Int).toNat * Cod.size (CI .u8)) := ⟨_, rfl⟩
 obtain ⟨s11_n, hn⟩ : ∃ n, n = ((r8.length : Int) : Int).toNat - (8 : Int).toNat := ⟨_, rfl⟩
 obtain ⟨s11_c, hc⟩ : ∃ c, c = r8_c - (8 : Int).toNat := ⟨_, rfl⟩
 refine wpG.tD 9 false (some 36) (.slice s11_A s11_n s11_c) (yld_sub (C := (CI .u8)) (t := 26) (e := 5) (low := some (.int .i64 8)) (high := none) (lo := 8) (hi := (r8.length : Int)) (hs.rowR 1 rfl) (by kernel_rfl) (by kernel_rfl) (by kernel_rfl) (.inr ⟨_, rfl⟩) (.inl ⟨rfl, rfl⟩) h0 h1 h2 hA hn hc) ?_
 have hs := hs.addSub (C := (CI .u8)) 1 rfl h0 h1 h2 hA hn hc
 obtain ⟨r12, hg, h⟩ := of_bind h
 refine wpG.only 4 (by kernel_rfl) (op_call (d := (some 31)) (by kernel_rfl) hs (fun _ => by kernel_rfl) (bits_Num.ok hg _ (hs.rowR 1 rfl)) ?_)
 intro w gw hs
 refine ⟨.of gw, ?_⟩
 refine wpG.q 7 34 (.int .u64 (ixor .u64 r12 (iconv .u64 ca3))) ?_
 refine wpG.q 10 37 (.pointer (some ⟨cb0, 0, none⟩)) ?_
 refine wpG.q 11 38 (.pointer (some ⟨cb0, 0, none⟩)) ?_
 obtain ⟨x13, hx, h⟩ := of_bind h
 refine wpG.only 12 (by kernel_rfl) (op_store1 (t := 64) (o := 0) (v := .int .u64 x13) (d := none) (by kernel_rfl) hs 3 rfl (by cases hx; kernel_rfl) rfl (by kernel_rfl) (by simp) ?_)
 intro w kp hs
 refine ⟨⟨fun hf => absurd hf (by decide), .all _ _⟩, ?_⟩
 refine wpG.tD 13 false (some 39) (.pointer (adr ca1_A (((irem .i64 (isub .i64 ca3 1) (ca1.length : Int)) : Int).toNat * Cod.size (CI .u8)))) (yld_nilP (LLP.ne (LLP.mk (hs.rowL 4 rfl) (hs.innR 4 rfl)) i0_8 i1_8) (fun ad e w' => by subst e; kernel_rfl)) ?_
 refine wpG.only 14 (by kernel_rfl) (op_storeL (C := CS) (t := 26) (x := (irem .i64 (isub .i64 ca3 1) (ca1.length : Int))) (v := ((s11_A, s11_n, s11_c) : HS)) (d := none) (by kernel_rfl) hs 4 rfl (by kernel_rfl) (by kernel_rfl) i0_8 (by rw [(hs.innR 4 rfl).length]; exact i1_8) ?_)
 intro w hs
 have hs := hs.innSet (x := (irem .i64 (isub .i64 ca3 1) (ca1.length : Int))) 4 0 rfl rfl
 refine ⟨⟨fun hf => absurd hf (by decide), .all _ _⟩, ?_⟩
 refine wpG.fin (by kernel_rfl) rfl (kr11 _ _ ?_)
 obtain ⟨q0, qr0⟩ := Prod.mk.inj (of_some h)
 have q1 := qr0
 subst q0
 subst q1
 exact qn _ _ (post_nrm (by kernel_rfl) (run_results [] [] (by kernel_rfl) .nil) ⟨(wrL ca1_H (irem .i64 (isub .i64 ca3 1) (ca1.length : Int)) ((s11_A, s11_n, s11_c) : HS)), rfl, ((hs.drop (.cons _ (.cons _ (.cons _ (.cons_cons _ (.cons_cons _ (.refl _))))))).pickR (pick_cons 4 rfl (pick_cons 5 rfl (fun _ he => .tail _ (.tail _ (.tail _ (.tail _ (.tail _ (.tail _ (he))))))))))⟩)
end Go.Proofs.Ytmpagpbnpgcecaa
