/- Printed by this work's own program: the code of each function below comes to the answer that its plain form tells. -/
import Derived.Test.YtmpagpbnpgcecaaMd
import Derived.Test.YtmpagpbnpgcecaaProg
import Derived.Test.YtmpagpbnpgcecaaGF0
import Derived.Test.YtmpagpbnpgcecaaGX0
import Derived.Test.YtmpagpbnpgcecaaGX2
set_option linter.unusedVariables false
set_option linter.unusedSimpArgs false
set_option maxRecDepth 100000
set_option maxHeartbeats 4000000
namespace Go.Proofs.Ytmpagpbnpgcecaa
open Go.Mx
attribute [local irreducible] wpOp

theorem aes_cipher_there_s.ok {K : Nat} {ca0 : Arr 256} {ca1 : Arr 256} {ca2 : List (Arr 16)} {ca3 : Arr 16} {y1 : Arr 16} {cb0 : Nat} {cb1 : Nat} {ca2_A : Option Addr} {ca2_n : Nat} {ca2_c : Nat} (h : aes_cipher_there_s.f K ca0 ca1 ca2 ca3 = some y1) {w0 w : World} {X : List Nat} {Lt Rt : List Ent} (hs : St w0 X (.blk cb0 ([.pointer (some ⟨cb1, 0, none⟩), .slice ca2_A ca2_n ca2_c]) 98 :: .blk cb1 (([] : List Value) ++ enc .u8 ca0 ++ enc .u8 ca1 ++ ([] : List Value)) 48 :: .ownL (CA .u8 16 (by decide)) ca2_A ca2_n ca2_c ca2 42 :: Lt) Rt w) : Calls Try.prog 48 #[.pointer (some ⟨cb0, 0, none⟩), .agg (enc .u8 ca3).toArray] w fun e w' => e = .returned (.agg (enc .u8 y1).toArray) ∧ St w0 X (.blk cb0 ([.pointer (some ⟨cb1, 0, none⟩), .slice ca2_A ca2_n ca2_c]) 98 :: .blk cb1 (([] : List Value) ++ enc .u8 ca0 ++ enc .u8 ca1 ++ ([] : List Value)) 48 :: .ownL (CA .u8 16 (by decide)) ca2_A ca2_n ca2_c ca2 42 :: Lt) Rt w' := by
 refine calls_k Try.func48 rfl fun Q qq => ?_
 refine wp_conv (a' := ⟨#[.pointer (some ⟨cb0, 0, none⟩), .agg (enc .u8 ca3).toArray, undef, undef, undef, undef, undef, undef, undef, undef, undef, undef, undef, undef, undef, undef, undef, undef, undef, undef, undef, undef, undef, undef, undef, undef, undef, undef, undef, undef, undef, undef, undef, undef, undef, undef, undef, undef, undef, undef, undef, undef, undef, undef, undef, undef, undef, undef, undef, undef, undef, undef, undef], []⟩) (by kernel_rfl) ?_
 refine xseq_k fun KS1 ks1 => ?_
 refine xregS [0, 1] fun KR2 kr2 => ?_
 refine wpS.only 0 (op_box (t := 42) (v := .agg (enc .u8 ca3).toArray) (d := (some 3)) (by kernel_rfl) hs (enc .u8 ca3) (by kernel_rfl) (by kernel_rfl) ?_)
 intro b2 w gw hs
 refine ⟨fun _ => trivial, ?_⟩
 refine wpS.only 1 (op_alloc (t := 42) (d := (some 4)) (by kernel_rfl) hs (enc .u8 (zeroA 16)) (.agg (enc .u8 (zeroA 16)).toArray) (by kernel_rfl) (by kernel_rfl) (by kernel_rfl) ?_)
 intro b3 w gw hs
 refine ⟨fun _ => trivial, ?_⟩
 refine wpS.fin rfl (kr2 _ _ (then_n (ks1 _ _ (xseq_k fun KS3 ks3 => (xregS [0, 1, 2, 3, 4, 5, 6] fun KR4 kr4 => ?_)))))
 refine wpS.qs [(0, 9, .pointer (some ⟨cb0, 0, none⟩)), (1, 10, .pointer (some ⟨cb0, 0, none⟩)), (2, 11, .pointer (some ⟨cb0, 1, none⟩))] ?_
 refine wpS.tk 3 true (some 12) (.slice ca2_A ca2_n ca2_c) (yld_load1 (e := 96) (o := 1) hs 2 rfl (by kernel_rfl) (by kernel_rfl) (by rfl) .grow) ?_
 refine wpS.tk 4 false (some 13) (.int .i64 (ca2.length : Int)) (yld_lenL (hs.rowL 4 rfl) (fun _ => by kernel_rfl)) ?_
 refine wpS.q 5 14 (.int .i64 (isub .i64 (ca2.length : Int) 1)) ?_
 obtain ⟨x4, hx, h⟩ := of_bind h
 refine wpS.tk 6 false (some 5) (.int .i64 x4) (yld_int hx (fun _ => by kernel_rfl)) ?_
 refine wpS.fin rfl (kr4 _ _ (then_n (ks3 _ _ (xseq_k fun KS5 ks5 => (xregS [0, 1] fun KR6 kr6 => ?_)))))
 refine wpS.q 0 15 (.pointer (some ⟨cb0, 0, none⟩)) ?_
 have hs := hs.front 1 rfl
 have hs := hs.front 4 rfl
 have hs := hs.front 4 rfl
 have hs := hs.front 4 rfl
 try dsimp only [List.eraseIdx] at hs
 obtain ⟨r5, hg, h⟩ := of_bind h
 refine wpS.only 1 (wpOp_call (d := (some 16)) (by kernel_rfl) (fun _ => by kernel_rfl) (aes_cipher_add_s.ok hg hs) ?_)
 rintro e w ⟨rfl, hs⟩
 refine ⟨_, rfl, ?_⟩
 refine ⟨fun _ => trivial, ?_⟩
 refine wpS.fin rfl (kr6 _ _ (then_n (ks5 _ _ (xseq_k fun KS7 ks7 => (xseq_k fun KS8 ks8 => (xregS [0] fun KR9 kr9 => ?_))))))
 refine wpS.q 0 6 (.int .i64 1) ?_
 refine wpS.fin rfl (kr9 _ _ (then_n (ks8 _ _ ?_)))
 obtain ⟨y8, hy, hk0⟩ := of_bind h
 refine wp_exq (N := fun a w => St w0 X (.blk cb0 ([.pointer (some ⟨cb1, 0, none⟩), .slice ca2_A ca2_n ca2_c]) 98 :: .blk cb1 (([] : List Value) ++ enc .u8 ca0 ++ enc .u8 ca1 ++ ([] : List Value)) 48 :: .ownL (CA .u8 16 (by decide)) ca2_A ca2_n ca2_c ca2 42 :: .blk b2 (enc .u8 y8) 42 :: .blk b3 (enc .u8 (zeroA 16)) 42 :: Lt) Rt w ∧ ∃ g11 : Nat → Value, a = ⟨#[.pointer (some ⟨cb0, 0, none⟩), .agg (enc .u8 ca3).toArray, undef, .pointer (some ⟨b2, 0, none⟩), .pointer (some ⟨b3, 0, none⟩), .int .i64 x4, (g11 6), (g11 7), (g11 8), .pointer (some ⟨cb0, 0, none⟩), .pointer (some ⟨cb0, 0, none⟩), .pointer (some ⟨cb0, 1, none⟩), .slice ca2_A ca2_n ca2_c, .int .i64 (ca2.length : Int), .int .i64 (isub .i64 (ca2.length : Int) 1), .pointer (some ⟨cb0, 0, none⟩), .tuple #[], (g11 17), (g11 18), (g11 19), (g11 20), (g11 21), (g11 22), (g11 23), (g11 24), (g11 25), (g11 26), (g11 27), (g11 28), (g11 29), (g11 30), (g11 31), (g11 32), (g11 33), (g11 34), (g11 35), (g11 36), (g11 37), (g11 38), (g11 39), (g11 40), (g11 41), (g11 42), (g11 43), (g11 44), (g11 45), (g11 46), (g11 47), (g11 48), (g11 49), (g11 50), (g11 51), undef], []⟩) (fun N0 nn0 => ?_) ?_
 ·clear hk0
  refine xblock ?_
  refine wp_loop_k (fun n a w => ∃ z6 z7, aes_cipher_there_s.l0 K n ca0 ca1 ca2 x4 z6 z7 = some y8 ∧ St w0 X (.blk cb0 ([.pointer (some ⟨cb1, 0, none⟩), .slice ca2_A ca2_n ca2_c]) 98 :: .blk cb1 (([] : List Value) ++ enc .u8 ca0 ++ enc .u8 ca1 ++ ([] : List Value)) 48 :: .ownL (CA .u8 16 (by decide)) ca2_A ca2_n ca2_c ca2 42 :: .blk b2 (enc .u8 z7) 42 :: .blk b3 (enc .u8 (zeroA 16)) 42 :: Lt) Rt w ∧ ∃ g10 : Nat → Value, a = ⟨#[.pointer (some ⟨cb0, 0, none⟩), .agg (enc .u8 ca3).toArray, undef, .pointer (some ⟨b2, 0, none⟩), .pointer (some ⟨b3, 0, none⟩), .int .i64 x4, .int .i64 z6, (g10 7), (g10 8), .pointer (some ⟨cb0, 0, none⟩), .pointer (some ⟨cb0, 0, none⟩), .pointer (some ⟨cb0, 1, none⟩), .slice ca2_A ca2_n ca2_c, .int .i64 (ca2.length : Int), .int .i64 (isub .i64 (ca2.length : Int) 1), .pointer (some ⟨cb0, 0, none⟩), .tuple #[], (g10 17), (g10 18), (g10 19), (g10 20), (g10 21), (g10 22), (g10 23), (g10 24), (g10 25), (g10 26), (g10 27), (g10 28), (g10 29), (g10 30), (g10 31), (g10 32), (g10 33), (g10 34), (g10 35), (g10 36), (g10 37), (g10 38), (g10 39), (g10 40), (g10 41), (g10 42), (g10 43), (g10 44), (g10 45), (g10 46), (g10 47), (g10 48), (g10 49), (g10 50), (g10 51), undef], []⟩) K ⟨1, r5, hy, hs.conv rfl, exg (by kernel_rfl)⟩ ?_
  clear hs h hy
  rintro n a w ⟨z6, z7, h, hs, g10, rfl⟩ KL0 kl0
  cases n with
  | zero => exact nomatch (show none = some _ from h)
  | succ n =>
   refine xseq_k fun KS12 ks12 => ?_
   refine xseq_k fun KS13 ks13 => ?_
   refine xregS [0, 1, 2] fun KR14 kr14 => ?_
   refine wpS.qs [(0, 17, .int .i64 z6), (1, 18, .int .i64 x4)] ?_
   rcases of_if h with ⟨hc, h⟩ | ⟨hc, h⟩
   ·refine wpS.tk 2 false (some 19) (.bool true) (yld_b (dt hc) (fun _ => by kernel_rfl)) ?_
    refine wpS.fin rfl (kr14 _ _ (then_n (ks13 _ _ (wp_cond_t (by kernel_rfl) (xskip (then_n (ks12 _ _ (xseq_k fun KS15 ks15 => (xblock (xseq_k fun KS16 ks16 => (xregS [0] fun KR17 kr17 => ?_)))))))))))
    refine wpS.only 0 (op_alloc (t := 42) (d := (some 7)) (by kernel_rfl) hs (enc .u8 (zeroA 16)) (.agg (enc .u8 (zeroA 16)).toArray) (by kernel_rfl) (by kernel_rfl) (by kernel_rfl) ?_)
    intro b9 w gw hs
    refine ⟨fun _ => trivial, ?_⟩
    refine wpS.fin rfl (kr17 _ _ (then_n (ks16 _ _ (xseq_k fun KS18 ks18 => (xseq_k fun KS19 ks19 => (xregS [0] fun KR20 kr20 => ?_))))))
    refine wpS.q 0 22 (.int .i64 0) ?_
    refine wpS.fin rfl (kr20 _ _ (then_n (ks19 _ _ ?_)))
    obtain ⟨y12, hy, hk1⟩ := of_bind h
    refine wp_exq (N := fun a w => St w0 X (.blk b9 (enc .u8 y12) 42 :: .blk cb0 ([.pointer (some ⟨cb1, 0, none⟩), .slice ca2_A ca2_n ca2_c]) 98 :: .blk cb1 (([] : List Value) ++ enc .u8 ca0 ++ enc .u8 ca1 ++ ([] : List Value)) 48 :: .ownL (CA .u8 16 (by decide)) ca2_A ca2_n ca2_c ca2 42 :: .blk b2 (enc .u8 z7) 42 :: .blk b3 (enc .u8 (zeroA 16)) 42 :: Lt) Rt w ∧ ∃ g22 : Nat → Value, a = ⟨#[.pointer (some ⟨cb0, 0, none⟩), .agg (enc .u8 ca3).toArray, undef, .pointer (some ⟨b2, 0, none⟩), .pointer (some ⟨b3, 0, none⟩), .int .i64 x4, .int .i64 z6, .pointer (some ⟨b9, 0, none⟩), (g22 8), .pointer (some ⟨cb0, 0, none⟩), .pointer (some ⟨cb0, 0, none⟩), .pointer (some ⟨cb0, 1, none⟩), .slice ca2_A ca2_n ca2_c, .int .i64 (ca2.length : Int), .int .i64 (isub .i64 (ca2.length : Int) 1), .pointer (some ⟨cb0, 0, none⟩), .tuple #[], .int .i64 z6, .int .i64 x4, .bool true, (g10 20), (g10 21), (g22 22), (g22 23), (g22 24), (g22 25), (g22 26), (g22 27), (g22 28), (g22 29), (g22 30), (g22 31), (g22 32), (g22 33), (g22 34), (g22 35), (g22 36), (g22 37), (g22 38), (g22 39), (g22 40), (g22 41), (g22 42), (g22 43), (g10 44), (g10 45), (g10 46), (g10 47), (g10 48), (g10 49), (g10 50), (g10 51), undef], []⟩) (fun N1 nn1 => ?_) ?_
    ·clear hk1
     refine xblock ?_
     refine wp_loop_k (fun n a w => ∃ z10 z11, aes_cipher_there_s.l1 K n ca0 z7 z10 z11 = some y12 ∧ St w0 X (.blk b9 (enc .u8 z11) 42 :: .blk cb0 ([.pointer (some ⟨cb1, 0, none⟩), .slice ca2_A ca2_n ca2_c]) 98 :: .blk cb1 (([] : List Value) ++ enc .u8 ca0 ++ enc .u8 ca1 ++ ([] : List Value)) 48 :: .ownL (CA .u8 16 (by decide)) ca2_A ca2_n ca2_c ca2 42 :: .blk b2 (enc .u8 z7) 42 :: .blk b3 (enc .u8 (zeroA 16)) 42 :: Lt) Rt w ∧ ∃ g21 : Nat → Value, a = ⟨#[.pointer (some ⟨cb0, 0, none⟩), .agg (enc .u8 ca3).toArray, undef, .pointer (some ⟨b2, 0, none⟩), .pointer (some ⟨b3, 0, none⟩), .int .i64 x4, .int .i64 z6, .pointer (some ⟨b9, 0, none⟩), (g21 8), .pointer (some ⟨cb0, 0, none⟩), .pointer (some ⟨cb0, 0, none⟩), .pointer (some ⟨cb0, 1, none⟩), .slice ca2_A ca2_n ca2_c, .int .i64 (ca2.length : Int), .int .i64 (isub .i64 (ca2.length : Int) 1), .pointer (some ⟨cb0, 0, none⟩), .tuple #[], .int .i64 z6, .int .i64 x4, .bool true, (g10 20), (g10 21), .int .i64 z10, (g21 23), (g21 24), (g21 25), (g21 26), (g21 27), (g21 28), (g21 29), (g21 30), (g21 31), (g21 32), (g21 33), (g21 34), (g21 35), (g21 36), (g21 37), (g21 38), (g21 39), (g21 40), (g21 41), (g21 42), (g21 43), (g10 44), (g10 45), (g10 46), (g10 47), (g10 48), (g10 49), (g10 50), (g10 51), undef], []⟩) K ⟨0, (zeroA 16), hy, hs.conv rfl, exg (by kernel_rfl)⟩ ?_
     clear hs h hy
     rintro n a w ⟨z10, z11, h, hs, g21, rfl⟩ KL1 kl1
     cases n with
     | zero => exact nomatch (show none = some _ from h)
     | succ n =>
      refine xseq_k fun KS23 ks23 => ?_
      refine xregS [0] fun KR24 kr24 => ?_
      rcases of_if h with ⟨hc, h⟩ | ⟨hc, h⟩
      ·refine wpS.tk 0 false (some 23) (.bool true) (yld_b (dt hc) (fun _ => by kernel_rfl)) ?_
       refine wpS.fin rfl (kr24 _ _ (then_n (ks23 _ _ (xseq_k fun KS25 ks25 => (wp_cond_t (by kernel_rfl) (xskip (then_n (ks25 _ _ (xseq_k fun KS26 ks26 => (xblock (xseq_k fun KS27 ks27 => (xregS [0, 1] fun KR28 kr28 => ?_))))))))))))
       refine wpS.qs [(0, 24, .int .i64 z10), (1, 8, .int .i64 z10)] ?_
       refine wpS.fin rfl (kr28 _ _ (then_n (ks27 _ _ ?_)))
       refine wp_regG [18] (fun k => True) 19 (by kernel_rfl) (by kernel_rfl) (by kernel_rfl) fun KR29 kr29 => ?_
       have hs := hs.drawn1
       refine wpG.q 0 25 (.int .i64 z10) ?_
       refine wpG.q 1 26 (.pointer (some ⟨cb0, 0, none⟩)) ?_
       refine wpG.q 2 27 (.pointer (some ⟨cb0, 0, none⟩)) ?_
       refine wpG.q 3 28 (.pointer (some ⟨cb0, 0, none⟩)) ?_
       refine wpG.tD 4 true (some 29) (.pointer (some ⟨cb1, 0, none⟩)) (yld_load1 (e := 49) (o := 0) hs 1 rfl (by kernel_rfl) (by kernel_rfl) (by rfl) .grow) ?_
       refine wpG.q 5 30 (.int .i64 z10) ?_
       refine wpG.q 6 31 (.int .i64 z10) ?_
       refine wpG.q 7 32 (.int .i64 (irem .i64 z10 4)) ?_
       refine wpG.q 8 33 (.int .i64 (imul .i64 4 (irem .i64 z10 4))) ?_
       refine wpG.q 9 34 (.int .i64 (iadd .i64 z10 (imul .i64 4 (irem .i64 z10 4)))) ?_
       refine wpG.q 10 35 (.int .i64 (irem .i64 (iadd .i64 z10 (imul .i64 4 (irem .i64 z10 4))) 16)) ?_
       obtain ⟨x13, hx, h⟩ := of_bind h
       have hx := of_some hx
       subst hx
       obtain ⟨i0_30, h⟩ := of_chk h
       obtain ⟨i1_30, h⟩ := of_chk h
       refine wpG.tD 11 false (some 36) (.pointer (some ⟨b2, 0 + ((irem .i64 (iadd .i64 z10 (imul .i64 4 (irem .i64 z10 4))) 16) : Int).toNat * 1, none⟩)) (yld_idx (t := 42) (e := 5) (n := 16) (sz := 1) (k := .i64) (x := (irem .i64 (iadd .i64 z10 (imul .i64 4 (irem .i64 z10 4))) 16)) (by kernel_rfl) (by kernel_rfl) (by kernel_rfl) i0_30 i1_30) ?_
       refine wpG.tD 12 true (some 37) (.int .u8 (rd z7 (irem .i64 (iadd .i64 z10 (imul .i64 4 (irem .i64 z10 4))) 16))) (yld_loadA (e := 5) (x := (irem .i64 (iadd .i64 z10 (imul .i64 4 (irem .i64 z10 4))) 16)) hs 4 rfl (by kernel_rfl) (by kernel_rfl) i0_30 i1_30 .grow) ?_
       refine wpG.q 13 38 (.pointer (some ⟨cb1, 0, none⟩)) ?_
       refine wpG.q 14 39 (.pointer (some ⟨cb1, 0, none⟩)) ?_
       obtain ⟨x14, hx, h⟩ := of_bind h
       have hx := of_some hx
       subst hx
       obtain ⟨i0_31, h⟩ := of_chk h
       obtain ⟨i1_31, h⟩ := of_chk h
       refine wpG.tD 15 false (some 40) (.pointer (some ⟨cb1, 0 + ((rd z7 (irem .i64 (iadd .i64 z10 (imul .i64 4 (irem .i64 z10 4))) 16)) : Int).toNat * 1, none⟩)) (yld_idx (t := 46) (e := 5) (n := 256) (sz := 1) (k := .u8) (x := (rd z7 (irem .i64 (iadd .i64 z10 (imul .i64 4 (irem .i64 z10 4))) 16))) (by kernel_rfl) (by kernel_rfl) (by kernel_rfl) i0_31 i1_31) ?_
       refine wpG.tD 16 true (some 41) (.int .u8 (rd ca0 (rd z7 (irem .i64 (iadd .i64 z10 (imul .i64 4 (irem .i64 z10 4))) 16)))) (yld_loadR (m := 0) (k := .u8) (pre := ([] : List Value)) (post := enc .u8 ca1) (c := ca0) (e := 5) (x := (rd z7 (irem .i64 (iadd .i64 z10 (imul .i64 4 (irem .i64 z10 4))) 16))) hs 2 rfl (by simp only [List.append_assoc, List.nil_append, List.cons_append, List.append_nil]) (by kernel_rfl) (by kernel_rfl) i0_31 i1_31 (by simp [enc_len]) .grow) ?_
       obtain ⟨i0_32, h⟩ := of_chk h
       obtain ⟨i1_32, h⟩ := of_chk h
       refine wpG.tD 17 false (some 42) (.pointer (some ⟨b9, 0 + (z10 : Int).toNat * 1, none⟩)) (yld_idx (t := 42) (e := 5) (n := 16) (sz := 1) (k := .i64) (x := z10) (by kernel_rfl) (by kernel_rfl) (by kernel_rfl) i0_32 i1_32) ?_
       obtain ⟨x15, hx, h⟩ := of_bind h
       refine wpG.only 18 (by kernel_rfl) (op_storeA (t := 5) (x := z10) (v := x15) (d := none) (by kernel_rfl) hs 0 rfl (by cases hx; kernel_rfl) (by kernel_rfl) i0_32 i1_32 ?_)
       intro w kp hs
       refine ⟨⟨fun hf => absurd hf (by decide), .all _ _⟩, ?_⟩
       refine wpG.fin (by kernel_rfl) rfl (kr29 _ _ ?_)
       refine inBlock_n (then_n (ks26 _ _ (xregS [0, 1] fun KR33 kr33 => ?_)))
       refine wpS.qs [(0, 43, .int .i64 (iadd .i64 z10 1)), (1, 22, .int .i64 (iadd .i64 z10 1))] ?_
       refine wpS.fin rfl (kr33 _ _ ?_)
       exact then_n (kl1 _ _ ⟨n, Nat.lt_succ_self n, (iadd .i64 z10 1), (wr z11 z10 x15), h, (hs.conv rfl), exg (by kernel_rfl)⟩)
      refine wpS.tk 0 false (some 23) (.bool false) (yld_b (df hc) (fun _ => by kernel_rfl)) ?_
      refine wpS.fin rfl (kr24 _ _ (then_n (ks23 _ _ (xseq_k fun KS34 ks34 => (wp_cond_f (by kernel_rfl) (xexit (then_x (then_x (inBlock_hit ?_)))))))))
      have q0 := of_some h
      subst q0
      exact exq_n (nn1 _ _ ⟨(hs.conv rfl), exg (by kernel_rfl)⟩)
    clear hs h hy
    rintro a w ⟨hs, g22, rfl⟩
    have h := hk1
    refine then_n (ks18 _ _ ?_)
    obtain ⟨y16, hj, h⟩ := of_bind h
    refine xseq_k fun KS36 ks36 => wp_join (N := fun a w => St w0 X (.blk b9 (enc .u8 y12) 42 :: .blk cb0 ([.pointer (some ⟨cb1, 0, none⟩), .slice ca2_A ca2_n ca2_c]) 98 :: .blk cb1 (([] : List Value) ++ enc .u8 ca0 ++ enc .u8 ca1 ++ ([] : List Value)) 48 :: .ownL (CA .u8 16 (by decide)) ca2_A ca2_n ca2_c ca2 42 :: .blk b2 (enc .u8 y16) 42 :: .blk b3 (enc .u8 (zeroA 16)) 42 :: Lt) Rt w ∧ ∃ g35 : Nat → Value, a = ⟨#[.pointer (some ⟨cb0, 0, none⟩), .agg (enc .u8 ca3).toArray, undef, .pointer (some ⟨b2, 0, none⟩), .pointer (some ⟨b3, 0, none⟩), .int .i64 x4, .int .i64 z6, .pointer (some ⟨b9, 0, none⟩), (g22 8), .pointer (some ⟨cb0, 0, none⟩), .pointer (some ⟨cb0, 0, none⟩), .pointer (some ⟨cb0, 1, none⟩), .slice ca2_A ca2_n ca2_c, .int .i64 (ca2.length : Int), .int .i64 (isub .i64 (ca2.length : Int) 1), .pointer (some ⟨cb0, 0, none⟩), .tuple #[], .int .i64 z6, .int .i64 x4, .bool true, (g10 20), (g10 21), (g22 22), (g22 23), (g22 24), (g22 25), (g22 26), (g22 27), (g22 28), (g22 29), (g22 30), (g22 31), (g22 32), (g22 33), (g22 34), (g22 35), (g22 36), (g22 37), (g22 38), (g22 39), (g22 40), (g22 41), (g22 42), (g22 43), (g35 44), (g35 45), (g35 46), (g35 47), (g35 48), (g10 49), (g10 50), (g10 51), undef], []⟩) (fun N nj => ?_) ?_
    ·clear h
     have h := hj
     refine xseq_k fun KS37 ks37 => ?_
     refine xregS [0, 1] fun KR38 kr38 => ?_
     refine wpS.tk 0 true (some 44) (.agg (enc .u8 y12).toArray) (yld_loadW (e := 42) (n := 16) hs 0 rfl (by kernel_rfl) (by kernel_rfl) (by kernel_rfl) (by exact enc_len _ _) .grow) ?_
     refine wpS.only 1 (op_storeW (t := 42) (v := .agg (enc .u8 y12).toArray) (d := none) (by kernel_rfl) hs 4 rfl (vs := enc .u8 y12) (n := 16) (by kernel_rfl) (by kernel_rfl) (by kernel_rfl) (by simp [enc_len]) (by simp [enc_len]) (by intro u hu; exact enc_one _ _ u hu) ?_)
     intro w kp hs
     refine ⟨fun _ => trivial, ?_⟩
     refine wpS.fin rfl (kr38 _ _ (then_n (ks37 _ _ (xseq_k fun KS39 ks39 => (xregS [0, 1, 2] fun KR40 kr40 => ?_)))))
     refine wpS.qs [(0, 45, .int .i64 z6), (1, 46, .int .i64 x4)] ?_
     rcases of_if h with ⟨hc, h⟩ | ⟨hc, h⟩
     ·refine wpS.tk 2 false (some 47) (.bool true) (yld_b (dt hc) (fun _ => by kernel_rfl)) ?_
      refine wpS.fin rfl (kr40 _ _ (then_n (ks39 _ _ (wp_cond_t (by kernel_rfl) (xregS [0] fun KR41 kr41 => ?_)))))
      obtain ⟨r17, hg, h⟩ := of_bind h
      refine wpS.only 0 (op_callX (d := (some 48)) (by kernel_rfl) hs 4 rfl (fun _ => by kernel_rfl) (aes_mix.ok hg _ (hs.blkAt 4 rfl)) ?_)
      intro w kp hs
      have hs := hs.conv (L' := (.blk b9 (enc .u8 y12) 42 :: .blk cb0 ([.pointer (some ⟨cb1, 0, none⟩), .slice ca2_A ca2_n ca2_c]) 98 :: .blk cb1 (([] : List Value) ++ enc .u8 ca0 ++ enc .u8 ca1 ++ ([] : List Value)) 48 :: .ownL (CA .u8 16 (by decide)) ca2_A ca2_n ca2_c ca2 42 :: .blk b2 (enc .u8 r17) 42 :: .blk b3 (enc .u8 (zeroA 16)) 42 :: Lt)) rfl
      refine ⟨fun _ => trivial, ?_⟩
      refine wpS.fin rfl (kr41 _ _ ?_)
      have q0 := of_some h
      subst q0
      exact nj _ _ ⟨(hs.conv rfl), exg (by kernel_rfl)⟩
     refine wpS.tk 2 false (some 47) (.bool false) (yld_b (df hc) (fun _ => by kernel_rfl)) ?_
     refine wpS.fin rfl (kr40 _ _ (then_n (ks39 _ _ (wp_cond_f (by kernel_rfl) (xskip ?_)))))
     have q0 := of_some h
     subst q0
     exact nj _ _ ⟨(hs.conv rfl), exg (by kernel_rfl)⟩
    clear hj hs
    rintro a w ⟨hs, g35, rfl⟩
    refine then_n (ks36 _ _ (xregS [0, 1, 2] fun KR42 kr42 => ?_))
    refine wpS.qs [(0, 49, .pointer (some ⟨cb0, 0, none⟩)), (1, 50, .int .i64 z6)] ?_
    have hs := hs.front 4 rfl
    have hs := hs.front 4 rfl
    have hs := hs.front 4 rfl
    have hs := hs.front 4 rfl
    try dsimp only [List.eraseIdx] at hs
    obtain ⟨r18, hg, h⟩ := of_bind h
    refine wpS.only 2 (wpOp_call (d := (some 51)) (by kernel_rfl) (fun _ => by kernel_rfl) (aes_cipher_add_s.ok hg hs) ?_)
    rintro e w ⟨rfl, hs⟩
    refine ⟨_, rfl, ?_⟩
    refine ⟨fun _ => trivial, ?_⟩
    refine wpS.fin rfl (kr42 _ _ (inBlock_n (then_n (ks15 _ _ (xregS [0, 1, 2] fun KR43 kr43 => ?_)))))
    refine wpS.qs [(0, 20, .int .i64 z6), (1, 21, .int .i64 (iadd .i64 z6 1))] ?_
    obtain ⟨x19, hx, h⟩ := of_bind h
    refine wpS.tk 2 false (some 6) (.int .i64 x19) (yld_int hx (fun _ => by kernel_rfl)) ?_
    refine wpS.fin rfl (kr43 _ _ ?_)
    exact then_n (kl0 _ _ ⟨n, Nat.lt_succ_self n, x19, r18, h, (hs.drop (.cons_cons _ (.cons_cons _ (.cons_cons _ (.cons_cons _ (.cons _ (.cons_cons _ (.refl _)))))))), exg (by kernel_rfl)⟩)
   refine wpS.tk 2 false (some 19) (.bool false) (yld_b (df hc) (fun _ => by kernel_rfl)) ?_
   refine wpS.fin rfl (kr14 _ _ (then_n (ks13 _ _ (wp_cond_f (by kernel_rfl) (xexit (then_x (then_x (inBlock_hit ?_))))))))
   have q0 := of_some h
   subst q0
   exact exq_n (nn0 _ _ ⟨(hs.conv rfl), exg (by kernel_rfl)⟩)
 clear hs h hy
 rintro a w ⟨hs, g11, rfl⟩
 have h := hk0
 refine then_n (ks7 _ _ (xseq_k fun KS44 ks44 => (xregS [0, 1] fun KR45 kr45 => ?_)))
 refine wpS.tk 0 true (some 52) (.agg (enc .u8 y8).toArray) (yld_loadW (e := 42) (n := 16) hs 3 rfl (by kernel_rfl) (by kernel_rfl) (by kernel_rfl) (by exact enc_len _ _) .grow) ?_
 refine wpS.only 1 (op_storeW (t := 42) (v := .agg (enc .u8 y8).toArray) (d := none) (by kernel_rfl) hs 4 rfl (vs := enc .u8 y8) (n := 16) (by kernel_rfl) (by kernel_rfl) (by kernel_rfl) (by simp [enc_len]) (by simp [enc_len]) (by intro u hu; exact enc_one _ _ u hu) ?_)
 intro w kp hs
 refine ⟨fun _ => trivial, ?_⟩
 refine wpS.fin rfl (kr45 _ _ (then_n (ks44 _ _ (xret ?_))))
 have q0 := of_some h
 subst q0
 exact qq _ _ (post_ret (by kernel_rfl) (run_results [.cell 4 42] [.agg (enc .u8 y8).toArray] (by kernel_rfl) (.cons (res_cellN (n := 16) hs 4 rfl (by kernel_rfl) (by kernel_rfl) (by kernel_rfl) (by exact enc_len _ _)) .nil)) ⟨rfl, (hs.drop (.cons_cons _ (.cons_cons _ (.cons_cons _ (.cons _ (.cons _ (.refl _)))))))⟩)

theorem aes_Block.ok {K : Nat} {a0 : List Int} {a1 : List Int} {r0 : List Int} {r1 : Int} {a0_A : Option Addr} {a0_n : Nat} {a0_c : Nat} {a1_A : Option Addr} {a1_n : Nat} {a1_c : Nat} (h : aes_Block.f K a0 a1 = some (r0, r1)) (w0 : World) (hp0 : RowL (CI .u8) w0 a0_A a0_n a0_c a0) (hp1 : RowL (CI .u8) w0 a1_A a1_n a1_c a1) : Calls Try.prog 18 #[.slice a0_A a0_n a0_c, .slice a1_A a1_n a1_c] w0 fun e w' => ∃ h : (Option Addr × Nat × Nat), e = .returned (.tuple #[.slice h.1 h.2.1 h.2.2, .int .i64 r1]) ∧ St w0 [] [.rowL (CI .u8) h.1 h.2.1 h.2.2 r0] [] w' := by
 refine calls_k Try.func18 rfl fun Q qq => ?_
 have hs := St.startR (all_cons (RowP.ent hp0) (all_cons (RowP.ent hp1) all_nil))
 refine wp_conv (a' := ⟨#[.slice a0_A a0_n a0_c, .slice a1_A a1_n a1_c, undef, undef, undef, undef, undef, undef, undef, undef, undef, undef, undef, undef, undef, undef, undef, undef, undef, undef, undef], []⟩) (by kernel_rfl) ?_
 refine xseq_k fun KS1 ks1 => ?_
 refine xregS [0, 1] fun KR2 kr2 => ?_
 refine wpS.qs [(0, 4, .slice none 0 0), (1, 5, .int .i64 0)] ?_
 refine wpS.fin rfl (kr2 _ _ (then_n (ks1 _ _ (xseq_k fun KS3 ks3 => (xseq_k fun KS4 ks4 => (xregS [0, 1, 2, 3] fun KR5 kr5 => ?_))))))
 refine wpS.qs [(0, 8, .slice a0_A a0_n a0_c), (1, 9, .slice a1_A a1_n a1_c)] ?_
 obtain ⟨r1, hg, h⟩ := of_bind h
 refine wpS.only 2 (op_call (d := (some 10)) (by kernel_rfl) hs (fun _ => by kernel_rfl) (aes_wrong.ok hg _ (hs.rowR 0 rfl) (hs.rowR 1 rfl)) ?_)
 intro w gw hs
 refine ⟨fun _ => trivial, ?_⟩
 refine wpS.q 3 6 (.int .i64 r1) ?_
 refine wpS.fin rfl (kr5 _ _ (then_n (ks4 _ _ (xseq_k fun KS6 ks6 => (xregS [0, 1] fun KR7 kr7 => ?_)))))
 refine wpS.q 0 11 (.int .i64 r1) ?_
 rcases of_if h with ⟨hc, h⟩ | ⟨hc, h⟩
 ·refine wpS.tk 1 false (some 12) (.bool false) (yld_b (nf hc) (fun _ => by kernel_rfl)) ?_
  refine wpS.fin rfl (kr7 _ _ (then_n (ks6 _ _ (wp_cond_f (by kernel_rfl) (xskip (then_n (ks3 _ _ (xseq_k fun KS8 ks8 => ?_))))))))
  obtain ⟨y3, hj, h⟩ := of_bind h
  refine wp_join (N := fun a w => ∃ (b2 : Nat), St w0 [] [.blk b2 (enc .u8 y3) 42] [.rowL (CI .u8) a0_A a0_n a0_c a0, .rowL (CI .u8) a1_A a1_n a1_c a1] w ∧ ∃ g9 : Nat → Value, a = ⟨#[.slice a0_A a0_n a0_c, .slice a1_A a1_n a1_c, undef, undef, .slice none 0 0, .int .i64 0, .int .i64 r1, .pointer (some ⟨b2, 0, none⟩), .slice a0_A a0_n a0_c, .slice a1_A a1_n a1_c, .int .i64 r1, .int .i64 r1, .bool false, undef, (g9 14), (g9 15), (g9 16), (g9 17), (g9 18), (g9 19), undef], []⟩) (fun N nj => ?_) ?_
  ·clear h
   have h := hj
   refine wp_regG [1, 5, 7] (fun k => ¬ k < w0.heap.size) 8 (by kernel_rfl) (by kernel_rfl) (by kernel_rfl) fun KR10 kr10 => ?_
   have hs := hs.drawn1
   refine wpG.q 0 14 (.slice a0_A a0_n a0_c) ?_
   refine wpG.q 2 16 (.slice a1_A a1_n a1_c) ?_
   obtain ⟨i0_11, h⟩ := of_chk h
   refine wpG.tD 3 false (some 17) (.pointer a1_A) (yld_toArr (t := 42) (e := 5) (n := 16) (len := a1_n) (c := a1_c) (by kernel_rfl) (by kernel_rfl) (by rw [RowL.length (C := (CI .u8)) (hs.rowR 1 rfl)]; exact i0_11)) ?_
   refine wpG.takeK [4, 5, 7] 4 (some 18) (.agg (enc .u8 (arrL 16 a1)).toArray) (by kernel_rfl) (by kernel_rfl) (yld_w0 hp1 hs (fun k hk hn => hn hk) fun hr => yld_loadArr (e := 42) (n := 16) (by decide) hr i0_11 (by kernel_rfl) (by kernel_rfl) (by kernel_rfl)) ?_
   refine wpG.many [1, 6] (by kernel_rfl) (by decide) (forall_cons ?_ (forall_cons ?_ forall_nil))
   ·obtain ⟨⟨r4, r5, r6⟩, hg, h⟩ := of_bind h
    have hsB12 := hs
    refine (wpOp_call (d := (some 15)) (by kernel_rfl) (fun _ => by kernel_rfl) (aes_began_s.ok hg hs) ?_)
    rintro e w ⟨b7, b8, y9_A, y9_n, y9_c, rfl, hs⟩
    refine ⟨_, rfl, ?_⟩
    refine ⟨⟨fun hf => absurd hf (by decide), (keepW hsB12 hs)⟩, ?_⟩
    refine wpG.many [5, 6] (by kernel_rfl) (by decide) (forall_cons ?_ (forall_cons ?_ forall_nil))
    ·have hs := hs.front 0 rfl
     have hs := hs.front 1 rfl
     have hs := hs.front 2 rfl
     try dsimp only [List.eraseIdx] at hs
     obtain ⟨r12, hg, h⟩ := of_bind h
     have hsB13 := hs
     refine (wpOp_call (d := (some 19)) (by kernel_rfl) (fun _ => by kernel_rfl) (aes_cipher_there_s.ok hg hs) ?_)
     rintro e w ⟨rfl, hs⟩
     refine ⟨_, rfl, ?_⟩
     refine ⟨⟨fun hf => absurd hf (by decide), (keepW hsB13 hs)⟩, ?_⟩
     refine wpG.only 6 (by kernel_rfl) (op_alloc (t := 42) (d := (some 7)) (by kernel_rfl) hs (enc .u8 (zeroA 16)) (.agg (enc .u8 (zeroA 16)).toArray) (by kernel_rfl) (by kernel_rfl) (by kernel_rfl) ?_)
     intro b13 w gw hs
     refine ⟨.of gw, ?_⟩
     have hsB14 := hs
     refine wpG.only 7 (by kernel_rfl) (op_storeW (t := 42) (v := .agg (enc .u8 r12).toArray) (d := none) (by kernel_rfl) hs 0 rfl (vs := enc .u8 r12) (n := 16) (by kernel_rfl) (by kernel_rfl) (by kernel_rfl) (by simp [enc_len]) (by simp [enc_len]) (by intro u hu; exact enc_one _ _ u hu) ?_)
     intro w kp hs
     refine ⟨⟨fun hf => absurd hf (by decide), (keepW hsB14 hs)⟩, ?_⟩
     refine wpG.fin (by kernel_rfl) rfl (kr10 _ _ ?_)
     have q0 := of_some h
     subst q0
     exact nj _ _ ⟨b13, (hs.drop (.cons_cons _ (.cons _ (.cons _ (.cons _ .slnil))))), exg (by kernel_rfl)⟩
    refine (op_alloc (t := 42) (d := (some 7)) (by kernel_rfl) hs (enc .u8 (zeroA 16)) (.agg (enc .u8 (zeroA 16)).toArray) (by kernel_rfl) (by kernel_rfl) (by kernel_rfl) ?_)
    intro b14 w gw hs
    refine ⟨.of gw, ?_⟩
    have hs := hs.front 1 rfl
    have hs := hs.front 2 rfl
    have hs := hs.front 3 rfl
    try dsimp only [List.eraseIdx] at hs
    obtain ⟨r15, hg, h⟩ := of_bind h
    have hsB15 := hs
    refine wpG.only 5 (by kernel_rfl) (wpOp_call (d := (some 19)) (by kernel_rfl) (fun _ => by kernel_rfl) (aes_cipher_there_s.ok hg hs) ?_)
    rintro e w ⟨rfl, hs⟩
    refine ⟨_, rfl, ?_⟩
    refine ⟨⟨fun hf => absurd hf (by decide), (keepW hsB15 hs)⟩, ?_⟩
    have hsB16 := hs
    refine wpG.only 7 (by kernel_rfl) (op_storeW (t := 42) (v := .agg (enc .u8 r15).toArray) (d := none) (by kernel_rfl) hs 3 rfl (vs := enc .u8 r15) (n := 16) (by kernel_rfl) (by kernel_rfl) (by kernel_rfl) (by simp [enc_len]) (by simp [enc_len]) (by intro u hu; exact enc_one _ _ u hu) ?_)
    intro w kp hs
    refine ⟨⟨fun hf => absurd hf (by decide), (keepW hsB16 hs)⟩, ?_⟩
    refine wpG.fin (by kernel_rfl) rfl (kr10 _ _ ?_)
    have q0 := of_some h
    subst q0
    exact nj _ _ ⟨b14, (hs.drop (.cons _ (.cons _ (.cons _ (.cons_cons _ .slnil))))), exg (by kernel_rfl)⟩
   refine (op_alloc (t := 42) (d := (some 7)) (by kernel_rfl) hs (enc .u8 (zeroA 16)) (.agg (enc .u8 (zeroA 16)).toArray) (by kernel_rfl) (by kernel_rfl) (by kernel_rfl) ?_)
   intro b16 w gw hs
   refine ⟨.of gw, ?_⟩
   obtain ⟨⟨r17, r18, r19⟩, hg, h⟩ := of_bind h
   have hsB17 := hs
   refine wpG.only 1 (by kernel_rfl) (wpOp_call (d := (some 15)) (by kernel_rfl) (fun _ => by kernel_rfl) (aes_began_s.ok hg hs) ?_)
   rintro e w ⟨b20, b21, y22_A, y22_n, y22_c, rfl, hs⟩
   refine ⟨_, rfl, ?_⟩
   refine ⟨⟨fun hf => absurd hf (by decide), (keepW hsB17 hs)⟩, ?_⟩
   have hs := hs.front 0 rfl
   have hs := hs.front 1 rfl
   have hs := hs.front 2 rfl
   try dsimp only [List.eraseIdx] at hs
   obtain ⟨r25, hg, h⟩ := of_bind h
   have hsB18 := hs
   refine wpG.only 5 (by kernel_rfl) (wpOp_call (d := (some 19)) (by kernel_rfl) (fun _ => by kernel_rfl) (aes_cipher_there_s.ok hg hs) ?_)
   rintro e w ⟨rfl, hs⟩
   refine ⟨_, rfl, ?_⟩
   refine ⟨⟨fun hf => absurd hf (by decide), (keepW hsB18 hs)⟩, ?_⟩
   have hsB19 := hs
   refine wpG.only 7 (by kernel_rfl) (op_storeW (t := 42) (v := .agg (enc .u8 r25).toArray) (d := none) (by kernel_rfl) hs 3 rfl (vs := enc .u8 r25) (n := 16) (by kernel_rfl) (by kernel_rfl) (by kernel_rfl) (by simp [enc_len]) (by simp [enc_len]) (by intro u hu; exact enc_one _ _ u hu) ?_)
   intro w kp hs
   refine ⟨⟨fun hf => absurd hf (by decide), (keepW hsB19 hs)⟩, ?_⟩
   refine wpG.fin (by kernel_rfl) rfl (kr10 _ _ ?_)
   have q0 := of_some h
   subst q0
   exact nj _ _ ⟨b16, (hs.drop (.cons _ (.cons _ (.cons _ (.cons_cons _ .slnil))))), exg (by kernel_rfl)⟩
  clear hj hs
  rintro a w ⟨b2, hs, g9, rfl⟩
  refine then_n (ks8 _ _ (xseq_k fun KS20 ks20 => (xregS [0, 1, 2] fun KR21 kr21 => ?_)))
  refine wpS.tk 0 false (some 20) (.slice (some ⟨b2, 0 + (0 : Int).toNat * 1, none⟩) ((16 : Int).toNat - (0 : Int).toNat) (16 - (0 : Int).toNat)) (yld_slA2 (t := 42) (e := 5) (n := 16) (low := Option.none) (high := Option.none) (lo := 0) (hi := 16) (by kernel_rfl) (by kernel_rfl) (by kernel_rfl) (.inl ⟨rfl, rfl⟩) (.inl ⟨rfl, rfl⟩) (by decide) (by decide) (by decide) (by decide)) ?_
  refine wpS.qs [(1, 4, .slice (some ⟨b2, 0 + (0 : Int).toNat * 1, none⟩) ((16 : Int).toNat - (0 : Int).toNat) (16 - (0 : Int).toNat)), (2, 5, .int .i64 0)] ?_
  refine wpS.fin rfl (kr21 _ _ (then_n (ks20 _ _ (xret ?_))))
  obtain ⟨q0, qr0⟩ := Prod.mk.inj (of_some h)
  have q1 := qr0
  subst q0
  subst q1
  have hs := hs.blkRow (lo := 0) (hi := 16) 0 rfl (by decide) (by decide) (by decide)
  exact qq _ _ (post_ret (by kernel_rfl) (run_results [.tmp 4, .tmp 5] [.slice (some ⟨b2, 0 + (0 : Int).toNat * 1, none⟩) ((16 : Int).toNat - (0 : Int).toNat) (16 - (0 : Int).toNat), .int .i64 0] (by kernel_rfl) (.cons (res_tmp (by kernel_rfl)) (.cons (res_tmp (by kernel_rfl)) .nil))) ⟨⟨(some ⟨b2, 0 + (0 : Int).toNat * 1, none⟩), ((16 : Int).toNat - (0 : Int).toNat), (16 - (0 : Int).toNat)⟩, congrArg Ending.returned (by kernel_rfl), (hs.pickR pick_nil)⟩)
 refine wpS.tk 1 false (some 12) (.bool true) (yld_b (nt hc) (fun _ => by kernel_rfl)) ?_
 refine wpS.fin rfl (kr7 _ _ (then_n (ks6 _ _ (wp_cond_t (by kernel_rfl) (xseq_k fun KS23 ks23 => (xregS [0, 1, 2] fun KR24 kr24 => ?_))))))
 refine wpS.qs [(0, 13, .int .i64 r1), (1, 4, .slice none 0 0), (2, 5, .int .i64 r1)] ?_
 refine wpS.fin rfl (kr24 _ _ (then_n (ks23 _ _ (xret (then_r ?_)))))
 obtain ⟨q0, qr0⟩ := Prod.mk.inj (of_some h)
 have q1 := qr0
 subst q0
 subst q1
 have hs := hs.addNilR (CI .u8)
 exact qq _ _ (post_ret (by kernel_rfl) (run_results [.tmp 4, .tmp 5] [.slice none 0 0, .int .i64 r1] (by kernel_rfl) (.cons (res_tmp (by kernel_rfl)) (.cons (res_tmp (by kernel_rfl)) .nil))) ⟨⟨none, 0, 0⟩, congrArg Ending.returned (by kernel_rfl), (hs.pickR pick_nil)⟩)

theorem ref01_Same.ok {K : Nat} {a0 : List Int} {a1 : List Int} {r0 : Bool} {a0_A : Option Addr} {a0_n : Nat} {a0_c : Nat} {a1_A : Option Addr} {a1_n : Nat} {a1_c : Nat} (h : ref01_Same.f K a0 a1 = some r0) (w0 : World) (hp0 : RowL (CI .u8) w0 a0_A a0_n a0_c a0) (hp1 : RowL (CI .u8) w0 a1_A a1_n a1_c a1) : Ret Try.prog 22 #[.slice a0_A a0_n a0_c, .slice a1_A a1_n a1_c] w0 (.bool r0) := by
 refine calls_k Try.func22 rfl fun Q qq => ?_
 have hs := St.startR (all_cons (RowP.ent hp0) (all_cons (RowP.ent hp1) all_nil))
 refine wp_conv (a' := ⟨#[.slice a0_A a0_n a0_c, .slice a1_A a1_n a1_c, undef, undef, undef, undef, undef, undef, undef, undef, undef, undef, undef, undef, undef, undef, undef, undef, undef, undef, undef, undef, undef, undef, undef, undef], []⟩) (by kernel_rfl) ?_
 refine xseq_k fun KS1 ks1 => ?_
 refine xregS [0] fun KR2 kr2 => ?_
 refine wpS.q 0 4 (.bool false) ?_
 refine wpS.fin rfl (kr2 _ _ (then_n (ks1 _ _ (xseq_k fun KS3 ks3 => (xseq_k fun KS4 ks4 => (xregS [0, 1, 2, 3, 4] fun KR5 kr5 => ?_))))))
 refine wpS.q 0 6 (.slice a0_A a0_n a0_c) ?_
 refine wpS.tk 1 false (some 7) (.int .i64 (a0.length : Int)) (yld_lenL (hs.rowR 0 rfl) (fun _ => by kernel_rfl)) ?_
 refine wpS.q 2 8 (.slice a1_A a1_n a1_c) ?_
 refine wpS.tk 3 false (some 9) (.int .i64 (a1.length : Int)) (yld_lenL (hs.rowR 1 rfl) (fun _ => by kernel_rfl)) ?_
 rcases of_if h with ⟨hc, h⟩ | ⟨hc, h⟩
 ·refine wpS.tk 4 false (some 10) (.bool false) (yld_b (nf hc) (fun _ => by kernel_rfl)) ?_
  refine wpS.fin rfl (kr5 _ _ (then_n (ks4 _ _ (wp_cond_f (by kernel_rfl) (xskip (then_n (ks3 _ _ (xseq_k fun KS6 ks6 => (xseq_k fun KS7 ks7 => (xregS [0] fun KR8 kr8 => ?_))))))))))
  refine wpS.q 0 5 (.int .i64 0) ?_
  refine wpS.fin rfl (kr8 _ _ (then_n (ks7 _ _ ?_)))
  obtain ⟨t0, hy, hk0⟩ := of_bind h
  refine wp_exq (N := fun a w => t0 = .inl () ∧ St w0 [] [] [.rowL (CI .u8) a0_A a0_n a0_c a0, .rowL (CI .u8) a1_A a1_n a1_c a1] w ∧ ∃ g10 : Nat → Value, a = ⟨#[.slice a0_A a0_n a0_c, .slice a1_A a1_n a1_c, undef, undef, (g10 4), (g10 5), .slice a0_A a0_n a0_c, .int .i64 (a0.length : Int), .slice a1_A a1_n a1_c, .int .i64 (a1.length : Int), .bool false, (g10 11), (g10 12), (g10 13), (g10 14), (g10 15), (g10 16), (g10 17), (g10 18), (g10 19), (g10 20), (g10 21), (g10 22), (g10 23), (g10 24), (g10 25)], []⟩) (fun N0 nn0 => ?_) ?_
  ·refine xblock ?_
   refine wp_loop_k (fun n a w => ∃ z1, ref01_Same.l0 K n a0 a1 z1 = some t0 ∧ St w0 [] [] [.rowL (CI .u8) a0_A a0_n a0_c a0, .rowL (CI .u8) a1_A a1_n a1_c a1] w ∧ ∃ g9 : Nat → Value, a = ⟨#[.slice a0_A a0_n a0_c, .slice a1_A a1_n a1_c, undef, undef, (g9 4), .int .i64 z1, .slice a0_A a0_n a0_c, .int .i64 (a0.length : Int), .slice a1_A a1_n a1_c, .int .i64 (a1.length : Int), .bool false, (g9 11), (g9 12), (g9 13), (g9 14), (g9 15), (g9 16), (g9 17), (g9 18), (g9 19), (g9 20), (g9 21), (g9 22), (g9 23), (g9 24), (g9 25)], []⟩) K ⟨0, hy, hs.conv rfl, exg (by kernel_rfl)⟩ ?_
   clear hs h hy
   rintro n a w ⟨z1, h, hs, g9, rfl⟩ KL0 kl0
   cases n with
   | zero => exact nomatch (show none = some _ from h)
   | succ n =>
    refine xseq_k fun KS11 ks11 => ?_
    refine xseq_k fun KS12 ks12 => ?_
    refine xregS [0, 1, 2, 3] fun KR13 kr13 => ?_
    refine wpS.qs [(0, 11, .int .i64 z1), (1, 12, .slice a0_A a0_n a0_c)] ?_
    refine wpS.tk 2 false (some 13) (.int .i64 (a0.length : Int)) (yld_lenL (hs.rowR 0 rfl) (fun _ => by kernel_rfl)) ?_
    rcases of_if h with ⟨hc, h⟩ | ⟨hc, h⟩
    ·refine wpS.tk 3 false (some 14) (.bool true) (yld_b (dt hc) (fun _ => by kernel_rfl)) ?_
     refine wpS.fin rfl (kr13 _ _ (then_n (ks12 _ _ (wp_cond_t (by kernel_rfl) (xskip (then_n (ks11 _ _ (xseq_k fun KS14 ks14 => (xblock (xseq_k fun KS15 ks15 => ?_))))))))))
     refine wp_regG [] (fun k => True) 9 (by kernel_rfl) (by kernel_rfl) (by kernel_rfl) fun KR16 kr16 => ?_
     have hs := hs.drawn1
     refine wpG.q 0 17 (.slice a0_A a0_n a0_c) ?_
     refine wpG.q 1 18 (.int .i64 z1) ?_
     obtain ⟨h0, h⟩ := of_chk h
     obtain ⟨h1, h⟩ := of_chk h
     have i0_17 := h0
     have i1_17 := h1
     refine wpG.tD 2 false (some 19) (.pointer (adr a0_A ((z1 : Int).toNat * Cod.size (CI .u8)))) (yld_idxL (C := (CI .u8)) (t := 26) (e := 5) (k := .i64) (x := z1) (hs.rowR 0 rfl) (by kernel_rfl) (by kernel_rfl) (by kernel_rfl) h0 h1) ?_
     refine wpG.tD 3 true (some 20) (.int .u8 (rdL (CI .u8) a0 z1)) (yld_loadL (C := (CI .u8)) (e := 5) (x := z1) (hs.rowR 0 rfl) (by kernel_rfl) rfl (by kernel_rfl) i0_17 i1_17) ?_
     refine wpG.q 4 21 (.slice a1_A a1_n a1_c) ?_
     refine wpG.q 5 22 (.int .i64 z1) ?_
     obtain ⟨h0, h⟩ := of_chk h
     obtain ⟨h1, h⟩ := of_chk h
     have i0_18 := h0
     have i1_18 := h1
     refine wpG.tD 6 false (some 23) (.pointer (adr a1_A ((z1 : Int).toNat * Cod.size (CI .u8)))) (yld_idxL (C := (CI .u8)) (t := 26) (e := 5) (k := .i64) (x := z1) (hs.rowR 1 rfl) (by kernel_rfl) (by kernel_rfl) (by kernel_rfl) h0 h1) ?_
     refine wpG.tD 7 true (some 24) (.int .u8 (rdL (CI .u8) a1 z1)) (yld_loadL (C := (CI .u8)) (e := 5) (x := z1) (hs.rowR 1 rfl) (by kernel_rfl) rfl (by kernel_rfl) i0_18 i1_18) ?_
     rcases of_if h with ⟨hc, h⟩ | ⟨hc, h⟩
     ·refine wpG.tD 8 false (some 25) (.bool false) (yld_b (nf hc) (fun _ => by kernel_rfl)) ?_
      refine wpG.fin (by kernel_rfl) rfl (kr16 _ _ ?_)
      refine then_n (ks15 _ _ (wp_cond_f (by kernel_rfl) (xskip (inBlock_n (then_n (ks14 _ _ (xregS [0, 1, 2] fun KR19 kr19 => ?_)))))))
      refine wpS.qs [(0, 15, .int .i64 z1), (1, 16, .int .i64 (iadd .i64 z1 1))] ?_
      obtain ⟨x2, hx, h⟩ := of_bind h
      refine wpS.tk 2 false (some 5) (.int .i64 x2) (yld_int hx (fun _ => by kernel_rfl)) ?_
      refine wpS.fin rfl (kr19 _ _ ?_)
      exact then_n (kl0 _ _ ⟨n, Nat.lt_succ_self n, x2, h, (hs.conv rfl), exg (by kernel_rfl)⟩)
     refine wpG.tD 8 false (some 25) (.bool true) (yld_b (nt hc) (fun _ => by kernel_rfl)) ?_
     refine wpG.fin (by kernel_rfl) rfl (kr16 _ _ ?_)
     refine then_n (ks15 _ _ (wp_cond_t (by kernel_rfl) (xseq_k fun KS20 ks20 => (xregS [0] fun KR21 kr21 => ?_))))
     refine wpS.q 0 4 (.bool false) ?_
     refine wpS.fin rfl (kr21 _ _ (then_n (ks20 _ _ (xret (inBlock_r (then_r (then_r (inBlock_r (exq_r (then_r ?_))))))))))
     have q0 := of_some h
     subst q0
     have q0 := of_some hk0
     subst q0
     exact qq _ _ (post_ret (by kernel_rfl) (run_results [.tmp 4] [.bool false] (by kernel_rfl) (.cons (res_tmp (by kernel_rfl)) .nil)) ⟨congrArg Ending.returned (by kernel_rfl), hs.none⟩)
    refine wpS.tk 3 false (some 14) (.bool false) (yld_b (df hc) (fun _ => by kernel_rfl)) ?_
    refine wpS.fin rfl (kr13 _ _ (then_n (ks12 _ _ (wp_cond_f (by kernel_rfl) (xexit (then_x (then_x (inBlock_hit ?_))))))))
    have q0 := of_some h
    subst q0
    exact exq_n (nn0 _ _ ⟨rfl, (hs.conv rfl), exg (by kernel_rfl)⟩)
  clear hs h hy
  rintro a w ⟨rfl, hs, g10, rfl⟩
  have h := hk0
  refine then_n (ks6 _ _ (xseq_k fun KS22 ks22 => (xregS [0] fun KR23 kr23 => ?_)))
  refine wpS.q 0 4 (.bool true) ?_
  refine wpS.fin rfl (kr23 _ _ (then_n (ks22 _ _ (xret ?_))))
  have q0 := of_some h
  subst q0
  exact qq _ _ (post_ret (by kernel_rfl) (run_results [.tmp 4] [.bool true] (by kernel_rfl) (.cons (res_tmp (by kernel_rfl)) .nil)) ⟨congrArg Ending.returned (by kernel_rfl), hs.none⟩)
 refine wpS.tk 4 false (some 10) (.bool true) (yld_b (nt hc) (fun _ => by kernel_rfl)) ?_
 refine wpS.fin rfl (kr5 _ _ (then_n (ks4 _ _ (wp_cond_t (by kernel_rfl) (xseq_k fun KS24 ks24 => (xregS [0] fun KR25 kr25 => ?_))))))
 refine wpS.q 0 4 (.bool false) ?_
 refine wpS.fin rfl (kr25 _ _ (then_n (ks24 _ _ (xret (then_r ?_)))))
 have q0 := of_some h
 subst q0
 exact qq _ _ (post_ret (by kernel_rfl) (run_results [.tmp 4] [.bool false] (by kernel_rfl) (.cons (res_tmp (by kernel_rfl)) .nil)) ⟨congrArg Ending.returned (by kernel_rfl), hs.none⟩)
end Go.Proofs.Ytmpagpbnpgcecaa
