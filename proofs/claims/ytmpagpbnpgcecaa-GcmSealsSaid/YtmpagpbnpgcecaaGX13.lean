/- Printed by this work's own program: the code of each function below comes to the answer that its plain form tells. -/
import Derived.Test.YtmpagpbnpgcecaaMd
import Derived.Test.YtmpagpbnpgcecaaProg
import Derived.Test.YtmpagpbnpgcecaaGFGcmSeals
import Derived.Test.YtmpagpbnpgcecaaGX11
import Derived.Test.YtmpagpbnpgcecaaGX12
import Derived.Test.YtmpagpbnpgcecaaGX3
import Derived.Test.YtmpagpbnpgcecaaGX4
import Derived.Test.YtmpagpbnpgcecaaGX5
import Derived.Test.YtmpagpbnpgcecaaGX6
set_option linter.unusedVariables false
set_option linter.unusedSimpArgs false
set_option maxRecDepth 100000
set_option maxHeartbeats 4000000
namespace Go.Proofs.Ytmpagpbnpgcecaa
open Go.Mx
attribute [local irreducible] wpOp

theorem ref01_Be.ok {K : Nat} {a0 : Int} {a1 : Int} {r0 : List Int} (h : ref01_Be.f K a0 a1 = some r0) (w0 : World) : Calls Try.prog 61 #[.int .u64 a0, .int .i64 a1] w0 fun e w' => ∃ h : (Option Addr × Nat × Nat), e = .returned (.slice h.1 h.2.1 h.2.2) ∧ St w0 [] [.ownL (CI .u8) h.1 h.2.1 h.2.2 r0 5] [] w' := by
 refine calls_k Try.func61 rfl fun Q qq => ?_
 have hs := St.start w0
 refine wp_conv (a' := ⟨#[.int .u64 a0, .int .i64 a1, undef, undef, undef, undef, undef, undef, undef, undef, undef, undef, undef, undef, undef, undef, undef, undef, undef, undef, undef, undef, undef, undef, undef, undef, undef, undef, undef, undef], []⟩) (by kernel_rfl) ?_
 refine xseq_k fun KS1 ks1 => ?_
 refine xregS [0] fun KR2 kr2 => ?_
 refine wpS.q 0 4 (.slice none 0 0) ?_
 refine wpS.fin rfl (kr2 _ _ (then_n (ks1 _ _ (xseq_k fun KS3 ks3 => (xseq_k fun KS4 ks4 => (xregS [0, 1, 2, 3, 4, 5] fun KR5 kr5 => ?_))))))
 refine wpS.q 0 7 (.int .i64 a1) ?_
 rcases of_if h with ⟨hc, h⟩ | ⟨hc, h⟩
 ·refine wpS.tk 1 false (some 8) (.bool true) (yld_b (dt hc) (fun _ => by kernel_rfl)) ?_
  refine wpS.qs [(2, 9, .bool true), (3, 10, undef), (4, 11, undef), (5, 12, .bool true)] ?_
  refine wpS.fin rfl (kr5 _ _ (then_n (ks4 _ _ (wp_cond_t (by kernel_rfl) (xseq_k fun KS6 ks6 => (xregS [0] fun KR7 kr7 => ?_))))))
  refine wpS.q 0 4 (.slice none 0 0) ?_
  refine wpS.fin rfl (kr7 _ _ (then_n (ks6 _ _ (xret (then_r ?_)))))
  have q0 := of_some h
  subst q0
  have hs := hs.addNilL (CI .u8) 5
  exact qq _ _ (post_ret (by kernel_rfl) (run_results [.tmp 4] [.slice none 0 0] (by kernel_rfl) (.cons (res_tmp (by kernel_rfl)) .nil)) ⟨⟨none, 0, 0⟩, congrArg Ending.returned (by kernel_rfl), (hs.conv rfl)⟩)
 refine wpS.tk 1 false (some 8) (.bool false) (yld_b (df hc) (fun _ => by kernel_rfl)) ?_
 refine wpS.qs [(2, 9, .bool false), (3, 10, .int .i64 a1)] ?_
 rcases of_if h with ⟨hc, h⟩ | ⟨hc, h⟩
 ·refine wpS.tk 4 false (some 11) (.bool true) (yld_b (dt hc) (fun _ => by kernel_rfl)) ?_
  refine wpS.q 5 12 (.bool true) ?_
  refine wpS.fin rfl (kr5 _ _ (then_n (ks4 _ _ (wp_cond_t (by kernel_rfl) (xseq_k fun KS8 ks8 => (xregS [0] fun KR9 kr9 => ?_))))))
  refine wpS.q 0 4 (.slice none 0 0) ?_
  refine wpS.fin rfl (kr9 _ _ (then_n (ks8 _ _ (xret (then_r ?_)))))
  have q0 := of_some h
  subst q0
  have hs := hs.addNilL (CI .u8) 5
  exact qq _ _ (post_ret (by kernel_rfl) (run_results [.tmp 4] [.slice none 0 0] (by kernel_rfl) (.cons (res_tmp (by kernel_rfl)) .nil)) ⟨⟨none, 0, 0⟩, congrArg Ending.returned (by kernel_rfl), (hs.conv rfl)⟩)
 refine wpS.tk 4 false (some 11) (.bool false) (yld_b (df hc) (fun _ => by kernel_rfl)) ?_
 refine wpS.q 5 12 (.bool false) ?_
 refine wpS.fin rfl (kr5 _ _ (then_n (ks4 _ _ (wp_cond_f (by kernel_rfl) (xskip (then_n (ks3 _ _ (xseq_k fun KS10 ks10 => (xregS [0, 1, 2] fun KR11 kr11 => ?_)))))))))
 refine wpS.q 0 13 (.int .i64 a1) ?_
 obtain ⟨h0, h⟩ := of_chk h
 obtain ⟨h1, h⟩ := of_chk h
 refine wpS.only 1 (op_makeT (C := (CI .u8)) (t := 26) (e := 5) (bytes := 1) (B := 140737488355328) (kl := .i64) (kc := .i64) (x := a1) (d := (some 14)) (by kernel_rfl) hs (by kernel_rfl) (by kernel_rfl) (by kernel_rfl) (by kernel_rfl) (by kernel_rfl) h0 h1 (by decide) (by decide) ?_)
 intro s1_A s1_n s1_c w gw hs
 refine ⟨fun _ => trivial, ?_⟩
 refine wpS.q 2 5 (.slice s1_A s1_n s1_c) ?_
 refine wpS.fin rfl (kr11 _ _ (then_n (ks10 _ _ (xseq_k fun KS12 ks12 => (xseq_k fun KS13 ks13 => (xregS [0, 1, 2] fun KR14 kr14 => ?_))))))
 refine wpS.qs [(0, 15, .int .i64 a1), (1, 16, .int .i64 (isub .i64 a1 1))] ?_
 obtain ⟨x2, hx, h⟩ := of_bind h
 refine wpS.tk 2 false (some 6) (.int .i64 x2) (yld_int hx (fun _ => by kernel_rfl)) ?_
 refine wpS.fin rfl (kr14 _ _ (then_n (ks13 _ _ ?_)))
 obtain ⟨y6, hy, hk0⟩ := of_bind h
 refine wp_exq (N := fun a w => St w0 [] [.ownL (CI .u8) s1_A s1_n s1_c y6 5] [] w ∧ ∃ g16 : Nat → Value, a = ⟨#[(g16 0), .int .i64 a1, undef, undef, .slice none 0 0, .slice s1_A s1_n s1_c, (g16 6), .int .i64 a1, .bool false, .bool false, .int .i64 a1, .bool false, .bool false, .int .i64 a1, .slice s1_A s1_n s1_c, .int .i64 a1, .int .i64 (isub .i64 a1 1), (g16 17), (g16 18), (g16 19), (g16 20), (g16 21), (g16 22), (g16 23), (g16 24), (g16 25), (g16 26), (g16 27), (g16 28), undef], []⟩) (fun N0 nn0 => ?_) ?_
 ·clear hk0
  refine xblock ?_
  refine wp_loop_k (fun n a w => ∃ z3 z4 z5, ref01_Be.l0 K n z3 z4 z5 = some y6 ∧ St w0 [] [.ownL (CI .u8) s1_A s1_n s1_c z5 5] [] w ∧ ∃ g15 : Nat → Value, a = ⟨#[.int .u64 z3, .int .i64 a1, undef, undef, .slice none 0 0, .slice s1_A s1_n s1_c, .int .i64 z4, .int .i64 a1, .bool false, .bool false, .int .i64 a1, .bool false, .bool false, .int .i64 a1, .slice s1_A s1_n s1_c, .int .i64 a1, .int .i64 (isub .i64 a1 1), (g15 17), (g15 18), (g15 19), (g15 20), (g15 21), (g15 22), (g15 23), (g15 24), (g15 25), (g15 26), (g15 27), (g15 28), undef], []⟩) K ⟨a0, x2, (List.replicate (a1 : Int).toNat (Cod.zero (CI .u8))), hy, hs.conv rfl, exg (by kernel_rfl)⟩ ?_
  clear hs h hy
  rintro n a w ⟨z3, z4, z5, h, hs, g15, rfl⟩ KL0 kl0
  cases n with
  | zero => exact nomatch (show none = some _ from h)
  | succ n =>
   refine xseq_k fun KS17 ks17 => ?_
   refine xseq_k fun KS18 ks18 => ?_
   refine xregS [0, 1] fun KR19 kr19 => ?_
   refine wpS.q 0 17 (.int .i64 z4) ?_
   rcases of_if h with ⟨hc, h⟩ | ⟨hc, h⟩
   ·refine wpS.tk 1 false (some 18) (.bool true) (yld_b (dt hc) (fun _ => by kernel_rfl)) ?_
    refine wpS.fin rfl (kr19 _ _ (then_n (ks18 _ _ (wp_cond_t (by kernel_rfl) (xskip (then_n (ks17 _ _ (xseq_k fun KS20 ks20 => (xblock (xseq_k fun KS21 ks21 => (xregS [0, 1, 2, 3, 4, 5, 6] fun KR22 kr22 => ?_)))))))))))
    refine wpS.qs [(0, 21, .slice s1_A s1_n s1_c), (1, 22, .int .i64 z4), (2, 23, .int .u64 z3), (3, 24, .int .u64 (iand .u64 z3 255)), (4, 25, .int .u8 (iconv .u8 (iand .u64 z3 255)))] ?_
    obtain ⟨h0, h⟩ := of_chk h
    obtain ⟨h1, h⟩ := of_chk h
    have i0_23 := h0
    have i1_23 := h1
    refine wpS.tk 5 false (some 26) (.pointer (adr s1_A ((z4 : Int).toNat * Cod.size (CI .u8)))) (yld_idxL (C := (CI .u8)) (t := 26) (e := 5) (k := .i64) (x := z4) (hs.rowL 0 rfl) (by kernel_rfl) (by kernel_rfl) (by kernel_rfl) h0 h1) ?_
    obtain ⟨x7, hx, h⟩ := of_bind h
    refine wpS.only 6 (op_storeL (C := (CI .u8)) (t := 5) (x := z4) (v := x7) (d := none) (by kernel_rfl) hs 0 rfl (by cases hx; kernel_rfl) (by kernel_rfl) i0_23 i1_23 ?_)
    intro w hs
    refine ⟨fun _ => trivial, ?_⟩
    refine wpS.fin rfl (kr22 _ _ (then_n (ks21 _ _ (xregS [0, 1, 2] fun KR24 kr24 => ?_))))
    refine wpS.qs [(0, 27, .int .u64 z3), (1, 28, .int .u64 (ishr .u64 z3 8))] ?_
    obtain ⟨x8, hx, h⟩ := of_bind h
    refine wpS.tk 2 false (some 0) (.int .u64 x8) (yld_int hx (fun _ => by kernel_rfl)) ?_
    refine wpS.fin rfl (kr24 _ _ (inBlock_n (then_n (ks20 _ _ (xregS [0, 1, 2] fun KR25 kr25 => ?_)))))
    refine wpS.qs [(0, 19, .int .i64 z4), (1, 20, .int .i64 (isub .i64 z4 1))] ?_
    obtain ⟨x9, hx, h⟩ := of_bind h
    refine wpS.tk 2 false (some 6) (.int .i64 x9) (yld_int hx (fun _ => by kernel_rfl)) ?_
    refine wpS.fin rfl (kr25 _ _ ?_)
    exact then_n (kl0 _ _ ⟨n, Nat.lt_succ_self n, x8, x9, (wrL z5 z4 x7), h, (hs.conv rfl), exg (by kernel_rfl)⟩)
   refine wpS.tk 1 false (some 18) (.bool false) (yld_b (df hc) (fun _ => by kernel_rfl)) ?_
   refine wpS.fin rfl (kr19 _ _ (then_n (ks18 _ _ (wp_cond_f (by kernel_rfl) (xexit (then_x (then_x (inBlock_hit ?_))))))))
   have q0 := of_some h
   subst q0
   exact exq_n (nn0 _ _ ⟨(hs.conv rfl), exg (by kernel_rfl)⟩)
 clear hs h hy
 rintro a w ⟨hs, g16, rfl⟩
 have h := hk0
 refine then_n (ks12 _ _ (xseq_k fun KS26 ks26 => (xregS [0, 1] fun KR27 kr27 => ?_)))
 refine wpS.qs [(0, 29, .slice s1_A s1_n s1_c), (1, 4, .slice s1_A s1_n s1_c)] ?_
 refine wpS.fin rfl (kr27 _ _ (then_n (ks26 _ _ (xret ?_))))
 have q0 := of_some h
 subst q0
 exact qq _ _ (post_ret (by kernel_rfl) (run_results [.tmp 4] [.slice s1_A s1_n s1_c] (by kernel_rfl) (.cons (res_tmp (by kernel_rfl)) .nil)) ⟨⟨s1_A, s1_n, s1_c⟩, congrArg Ending.returned (by kernel_rfl), (hs.conv rfl)⟩)

theorem ref10_Many_s.ok {K : Nat} {ca0 : List Int} {ca1 : List (List Int)} {y1 : List (List Int)} {ca0_A : Option Addr} {ca0_n : Nat} {ca0_c : Nat} {ca1_A : Option Addr} {ca1_n : Nat} {ca1_c : Nat} {ca1_H : List HS} (h : ref10_Many_s.f K ca0 ca1 = some y1) {w0 w : World} {X : List Nat} {Lt Rt : List Ent} (hs : St w0 X (.ownL CS ca1_A ca1_n ca1_c ca1_H 26 :: Lt) (.rowL (CI .u8) ca0_A ca0_n ca0_c ca0 :: .inn (CI .u8) ca1_H ca1 :: Rt) w) : Calls Try.prog 100 #[.slice ca0_A ca0_n ca0_c, .slice ca1_A ca1_n ca1_c] w fun e w' => ∃ (y1_A : Option Addr) (y1_n : Nat) (y1_c : Nat) (y1_H : List HS), e = .returned (.slice y1_A y1_n y1_c) ∧ St w0 X (.ownL CS y1_A y1_n y1_c y1_H 26 :: .ownL CS ca1_A ca1_n ca1_c ca1_H 26 :: Lt) (.inn (CI .u8) y1_H y1 :: .rowL (CI .u8) ca0_A ca0_n ca0_c ca0 :: .inn (CI .u8) ca1_H ca1 :: Rt) w' := by
 refine calls_k Try.func100 rfl fun Q qq => ?_
 refine wp_conv (a' := ⟨#[.slice ca0_A ca0_n ca0_c, .slice ca1_A ca1_n ca1_c, undef, undef, undef, undef, undef, undef, undef, undef, undef, undef, undef, undef, undef, undef, undef, undef, undef, undef, undef, undef, undef, undef, undef, undef, undef, undef, undef, undef, undef, undef, undef, undef], []⟩) (by kernel_rfl) ?_
 refine xseq_k fun KS1 ks1 => ?_
 refine xregS [0] fun KR2 kr2 => ?_
 refine wpS.q 0 4 (.slice none 0 0) ?_
 refine wpS.fin rfl (kr2 _ _ (then_n (ks1 _ _ (xseq_k fun KS3 ks3 => (xregS [0, 1, 2, 3, 4, 5, 6, 7] fun KR4 kr4 => ?_)))))
 obtain ⟨⟨r2, r3⟩, hg, h⟩ := of_bind h
 refine wpS.only 0 (op_call (d := (some 11)) (by kernel_rfl) hs (fun _ => by kernel_rfl) (ref10_boxes.ok hg _) ?_)
 intro w gw hs
 refine ⟨fun _ => trivial, ?_⟩
 refine wpS.qs [(1, 10, .tuple #[.agg (enc .u8 r2).toArray, .agg (enc .u8 r3).toArray]), (2, 12, .agg (enc .u8 r2).toArray), (3, 13, .agg (enc .u8 r3).toArray)] ?_
 refine wpS.only 4 (op_alloc (t := 46) (d := (some 5)) (by kernel_rfl) hs (enc .u8 (zeroA 256)) (.agg (enc .u8 (zeroA 256)).toArray) (by kernel_rfl) (by kernel_rfl) (by kernel_rfl) ?_)
 intro b4 w gw hs
 refine ⟨fun _ => trivial, ?_⟩
 refine wpS.only 5 (op_alloc (t := 46) (d := (some 6)) (by kernel_rfl) hs (enc .u8 (zeroA 256)) (.agg (enc .u8 (zeroA 256)).toArray) (by kernel_rfl) (by kernel_rfl) (by kernel_rfl) ?_)
 intro b5 w gw hs
 refine ⟨fun _ => trivial, ?_⟩
 refine wpS.only 6 (op_storeW (t := 46) (v := .agg (enc .u8 r2).toArray) (d := none) (by kernel_rfl) hs 1 rfl (vs := enc .u8 r2) (n := 256) (by kernel_rfl) (by kernel_rfl) (by kernel_rfl) (by simp [enc_len]) (by simp [enc_len]) (by intro u hu; exact enc_one _ _ u hu) ?_)
 intro w kp hs
 refine ⟨fun _ => trivial, ?_⟩
 refine wpS.only 7 (op_storeW (t := 46) (v := .agg (enc .u8 r3).toArray) (d := none) (by kernel_rfl) hs 0 rfl (vs := enc .u8 r3) (n := 256) (by kernel_rfl) (by kernel_rfl) (by kernel_rfl) (by simp [enc_len]) (by simp [enc_len]) (by intro u hu; exact enc_one _ _ u hu) ?_)
 intro w kp hs
 refine ⟨fun _ => trivial, ?_⟩
 refine wpS.fin rfl (kr4 _ _ (then_n (ks3 _ _ (xseq_k fun KS5 ks5 => (xregS [0, 1, 2, 3] fun KR6 kr6 => ?_)))))
 refine wpS.q 0 14 (.slice ca0_A ca0_n ca0_c) ?_
 refine wpS.tk 1 true (some 15) (.agg (enc .u8 r2).toArray) (yld_loadW (e := 46) (n := 256) hs 1 rfl (by kernel_rfl) (by kernel_rfl) (by kernel_rfl) (by exact enc_len _ _) .grow) ?_
 obtain ⟨r6, hg, h⟩ := of_bind h
 refine wpS.only 2 (op_callH (d := (some 16)) (by kernel_rfl) hs (fun _ => by kernel_rfl) (ref10_keys.ok hg _ (hs.rowR 0 rfl)) ?_)
 rintro ⟨r6_A, r6_n, r6_c⟩ w gw hs
 have hs := hs.conv (L' := (.ownL (CI .u8) r6_A r6_n r6_c r6 5 :: .blk b5 (enc .u8 r3) 46 :: .blk b4 (enc .u8 r2) 46 :: .ownL CS ca1_A ca1_n ca1_c ca1_H 26 :: Lt)) rfl
 refine ⟨fun _ => trivial, ?_⟩
 refine wpS.q 3 7 (.slice r6_A r6_n r6_c) ?_
 refine wpS.fin rfl (kr6 _ _ (then_n (ks5 _ _ (xseq_k fun KS7 ks7 => (xregS [0] fun KR8 kr8 => ?_)))))
 refine wpS.q 0 8 (.slice none 0 0) ?_
 refine wpS.fin rfl (kr8 _ _ (then_n (ks7 _ _ (xseq_k fun KS9 ks9 => (xseq_k fun KS10 ks10 => (xregS [0] fun KR11 kr11 => ?_))))))
 refine wpS.q 0 9 (.int .i64 0) ?_
 refine wpS.fin rfl (kr11 _ _ (then_n (ks10 _ _ ?_)))
 have hs := (hs.addNilL CS 26).addInn0 (CI .u8)
 obtain ⟨y9, hy, hk0⟩ := of_bind h
 refine wp_exq (N := fun a w => ∃ (y9_A : Option Addr) (y9_n : Nat) (y9_c : Nat) (y9_H : List HS), St w0 X (.ownL CS y9_A y9_n y9_c y9_H 26 :: .ownL (CI .u8) r6_A r6_n r6_c r6 5 :: .blk b5 (enc .u8 r3) 46 :: .blk b4 (enc .u8 r2) 46 :: .ownL CS ca1_A ca1_n ca1_c ca1_H 26 :: Lt) (.inn (CI .u8) y9_H y9 :: .rowL (CI .u8) ca0_A ca0_n ca0_c ca0 :: .inn (CI .u8) ca1_H ca1 :: Rt) w ∧ ∃ g13 : Nat → Value, a = ⟨#[.slice ca0_A ca0_n ca0_c, .slice ca1_A ca1_n ca1_c, undef, undef, .slice none 0 0, .pointer (some ⟨b4, 0, none⟩), .pointer (some ⟨b5, 0, none⟩), .slice r6_A r6_n r6_c, .slice y9_A y9_n y9_c, (g13 9), .tuple #[.agg (enc .u8 r2).toArray, .agg (enc .u8 r3).toArray], .tuple #[.agg (enc .u8 r2).toArray, .agg (enc .u8 r3).toArray], .agg (enc .u8 r2).toArray, .agg (enc .u8 r3).toArray, .slice ca0_A ca0_n ca0_c, .agg (enc .u8 r2).toArray, .slice r6_A r6_n r6_c, (g13 17), (g13 18), (g13 19), (g13 20), (g13 21), (g13 22), (g13 23), (g13 24), (g13 25), (g13 26), (g13 27), (g13 28), (g13 29), (g13 30), (g13 31), (g13 32), undef], []⟩) (fun N0 nn0 => ?_) ?_
 ·clear hk0
  refine xblock ?_
  refine wp_loop_k (fun n a w => ∃ z7 z8, ∃ (z8_A : Option Addr) (z8_n : Nat) (z8_c : Nat) (z8_H : List HS), ref10_Many_s.l0 K n ca1 r2 r6 z7 z8 = some y9 ∧ St w0 X (.ownL CS z8_A z8_n z8_c z8_H 26 :: .ownL (CI .u8) r6_A r6_n r6_c r6 5 :: .blk b5 (enc .u8 r3) 46 :: .blk b4 (enc .u8 r2) 46 :: .ownL CS ca1_A ca1_n ca1_c ca1_H 26 :: Lt) (.inn (CI .u8) z8_H z8 :: .rowL (CI .u8) ca0_A ca0_n ca0_c ca0 :: .inn (CI .u8) ca1_H ca1 :: Rt) w ∧ ∃ g12 : Nat → Value, a = ⟨#[.slice ca0_A ca0_n ca0_c, .slice ca1_A ca1_n ca1_c, undef, undef, .slice none 0 0, .pointer (some ⟨b4, 0, none⟩), .pointer (some ⟨b5, 0, none⟩), .slice r6_A r6_n r6_c, .slice z8_A z8_n z8_c, .int .i64 z7, .tuple #[.agg (enc .u8 r2).toArray, .agg (enc .u8 r3).toArray], .tuple #[.agg (enc .u8 r2).toArray, .agg (enc .u8 r3).toArray], .agg (enc .u8 r2).toArray, .agg (enc .u8 r3).toArray, .slice ca0_A ca0_n ca0_c, .agg (enc .u8 r2).toArray, .slice r6_A r6_n r6_c, (g12 17), (g12 18), (g12 19), (g12 20), (g12 21), (g12 22), (g12 23), (g12 24), (g12 25), (g12 26), (g12 27), (g12 28), (g12 29), (g12 30), (g12 31), (g12 32), undef], []⟩) K ⟨0, ([] : List (List Int)), none, 0, 0, [], hy, hs.conv rfl, exg (by kernel_rfl)⟩ ?_
  clear hs h hy
  rintro n a w ⟨z7, z8, z8_A, z8_n, z8_c, z8_H, h, hs, g12, rfl⟩ KL0 kl0
  cases n with
  | zero => exact nomatch (show none = some _ from h)
  | succ n =>
   refine xseq_k fun KS14 ks14 => ?_
   refine xseq_k fun KS15 ks15 => ?_
   refine xregS [0, 1, 2, 3] fun KR16 kr16 => ?_
   refine wpS.qs [(0, 17, .int .i64 z7), (1, 18, .slice ca1_A ca1_n ca1_c)] ?_
   refine wpS.tk 2 false (some 19) (.int .i64 (ca1.length : Int)) (yld_lenLL (LLP.mk (hs.rowL 4 rfl) (hs.innR 2 rfl)) (fun _ => by kernel_rfl)) ?_
   rcases of_if h with ⟨hc, h⟩ | ⟨hc, h⟩
   ·refine wpS.tk 3 false (some 20) (.bool true) (yld_b (dt hc) (fun _ => by kernel_rfl)) ?_
    refine wpS.fin rfl (kr16 _ _ (then_n (ks15 _ _ (wp_cond_t (by kernel_rfl) (xskip (then_n (ks14 _ _ (xseq_k fun KS17 ks17 => (xblock ?_)))))))))
    refine wp_regG [9] (fun k => True) 11 (by kernel_rfl) (by kernel_rfl) (by kernel_rfl) fun KR18 kr18 => ?_
    have hs := hs.drawn1
    refine wpG.q 0 23 (.slice z8_A z8_n z8_c) ?_
    refine wpG.q 1 24 (.slice r6_A r6_n r6_c) ?_
    refine wpG.q 2 25 (.slice ca1_A ca1_n ca1_c) ?_
    refine wpG.q 3 26 (.int .i64 z7) ?_
    obtain ⟨h0, h⟩ := of_chk h
    obtain ⟨h1, h⟩ := of_chk h
    have i0_19 := h0
    have i1_19 := h1
    refine wpG.tD 4 false (some 27) (.pointer (adr ca1_A ((z7 : Int).toNat * Cod.size (CI .u8)))) (yld_idxLL (C := (CI .u8)) (t := 44) (e := 26) (k := .i64) (x := z7) (LLP.mk (hs.rowL 4 rfl) (hs.innR 2 rfl)) (by kernel_rfl) (by kernel_rfl) (by kernel_rfl) h0 h1) ?_
    obtain ⟨s10_A, hA⟩ : ∃ A, A = (rdL CS ca1_H z7).1 := ⟨_, rfl⟩
    obtain ⟨s10_n, hn⟩ : ∃ n, n = (rdL CS ca1_H z7).2.1 := ⟨_, rfl⟩
    obtain ⟨s10_c, hc⟩ : ∃ c, c = (rdL CS ca1_H z7).2.2 := ⟨_, rfl⟩
    refine wpG.take [5, 7, 8, 9, 10] 5 true (some 28) (.slice s10_A s10_n s10_c) (by kernel_rfl) (by kernel_rfl) (by subst hA hn hc; exact yld_loadLL (C := (CI .u8)) (e := 26) (x := z7) (LLP.mk (hs.rowL 4 rfl) (hs.innR 2 rfl)) (by kernel_rfl) (by kernel_rfl) i0_19 i1_19) ?_
    have hs := hs.addInnI (C := (CI .u8)) 2 rfl i0_19 i1_19 hA hn hc
    refine wpG.take [6, 7, 8, 9, 10] 6 true (some 29) (.agg (enc .u8 r2).toArray) (by kernel_rfl) (by kernel_rfl) (yld_loadW (e := 46) (n := 256) hs 3 rfl (by kernel_rfl) (by kernel_rfl) (by kernel_rfl) (by exact enc_len _ _) .grow) ?_
    obtain ⟨r11, hg, h⟩ := of_bind h
    refine wpG.only 7 (by kernel_rfl) (op_callH (d := (some 30)) (by kernel_rfl) hs (fun _ => by kernel_rfl) (ref10_there.ok hg _ (hs.rowL 1 rfl) (hs.rowR 0 rfl)) ?_)
    rintro ⟨r11_A, r11_n, r11_c⟩ w gw hs
    have hs := hs.conv (L' := (.ownL (CI .u8) r11_A r11_n r11_c r11 5 :: .ownL CS z8_A z8_n z8_c z8_H 26 :: .ownL (CI .u8) r6_A r6_n r6_c r6 5 :: .blk b5 (enc .u8 r3) 46 :: .blk b4 (enc .u8 r2) 46 :: .ownL CS ca1_A ca1_n ca1_c ca1_H 26 :: Lt)) rfl
    refine ⟨.of gw, ?_⟩
    refine wpG.only 8 (by kernel_rfl) (op_lit (C := CS) (t := 44) (e := 26) (len := 1) (parts := #[(0, .slice r11_A r11_n r11_c)]) (l := ([(r11_A, r11_n, r11_c)] : List HS)) (d := (some 31)) (by kernel_rfl) hs (by kernel_rfl) (by kernel_rfl) (by kernel_rfl) (z := .slice none 0 0) (by kernel_rfl) rfl (by decide) (by decide) (by kernel_rfl) ?_)
    intro s12_A s12_n s12_c w gw hs
    refine ⟨.of gw, ?_⟩
    have hs := hs.freeze 1 rfl
    obtain ⟨h0, h⟩ := of_chk h
    refine wpG.only 9 (by kernel_rfl) (op_appendT (C := CS) (t := 44) (ty := 44) (e := 26) (bytes := 24) (B := 5864062014805) (d := (some 32)) (by kernel_rfl) hs 1 rfl (hs.rowL 0 rfl) (by kernel_rfl) (by kernel_rfl) (by kernel_rfl) (by kernel_rfl) (by kernel_rfl) (by rw [(hs.innR 2 rfl).length]; exact h0) (by decide) (by decide) ?_)
    intro s13_A s13_n s13_c w hs
    have hs := hs.innApp 2 0 rfl rfl
    refine ⟨⟨fun hf => absurd hf (by decide), .all _ _⟩, ?_⟩
    refine wpG.q 10 8 (.slice s13_A s13_n s13_c) ?_
    refine wpG.fin (by kernel_rfl) rfl (kr18 _ _ ?_)
    refine inBlock_n (then_n (ks17 _ _ (xregS [0, 1, 2] fun KR20 kr20 => ?_)))
    refine wpS.qs [(0, 21, .int .i64 z7), (1, 22, .int .i64 (iadd .i64 z7 1))] ?_
    obtain ⟨x14, hx, h⟩ := of_bind h
    refine wpS.tk 2 false (some 9) (.int .i64 x14) (yld_int hx (fun _ => by kernel_rfl)) ?_
    refine wpS.fin rfl (kr20 _ _ ?_)
    exact then_n (kl0 _ _ ⟨n, Nat.lt_succ_self n, x14, (z8 ++ [r11]), s13_A, s13_n, s13_c, (z8_H ++ [(r11_A, r11_n, r11_c)]), h, ((hs.drop (.cons _ (.cons_cons _ (.cons_cons _ (.cons_cons _ (.cons_cons _ (.cons_cons _ (.refl _)))))))).pickR (pick_cons 2 rfl (pick_cons 3 rfl (pick_cons 4 rfl (fun _ he => .tail _ (.tail _ (.tail _ (.tail _ (.tail _ (he)))))))))), exg (by kernel_rfl)⟩)
   refine wpS.tk 3 false (some 20) (.bool false) (yld_b (df hc) (fun _ => by kernel_rfl)) ?_
   refine wpS.fin rfl (kr16 _ _ (then_n (ks15 _ _ (wp_cond_f (by kernel_rfl) (xexit (then_x (then_x (inBlock_hit ?_))))))))
   have q0 := of_some h
   subst q0
   exact exq_n (nn0 _ _ ⟨z8_A, z8_n, z8_c, z8_H, (hs.conv rfl), exg (by kernel_rfl)⟩)
 clear hs h hy
 rintro a w ⟨y9_A, y9_n, y9_c, y9_H, hs, g13, rfl⟩
 have h := hk0
 refine then_n (ks9 _ _ (xseq_k fun KS21 ks21 => (xregS [0, 1] fun KR22 kr22 => ?_)))
 refine wpS.qs [(0, 33, .slice y9_A y9_n y9_c), (1, 4, .slice y9_A y9_n y9_c)] ?_
 refine wpS.fin rfl (kr22 _ _ (then_n (ks21 _ _ (xret ?_))))
 have q0 := of_some h
 subst q0
 exact qq _ _ (post_ret (by kernel_rfl) (run_results [.tmp 4] [.slice y9_A y9_n y9_c] (by kernel_rfl) (.cons (res_tmp (by kernel_rfl)) .nil)) ⟨y9_A, y9_n, y9_c, y9_H, rfl, (hs.drop (.cons_cons _ (.cons _ (.cons _ (.cons _ (.cons_cons _ (.refl _)))))))⟩)

theorem ref12_filled.ok {K : Nat} {a0 : List Int} {r0 : List Int} {a0_A : Option Addr} {a0_n : Nat} {a0_c : Nat} (h : ref12_filled.f K a0 = some r0) (w0 : World) (hp0 : RowL (CI .u8) w0 a0_A a0_n a0_c a0) : Calls Try.prog 101 #[.slice a0_A a0_n a0_c] w0 fun e w' => ∃ h : (Option Addr × Nat × Nat), e = .returned (.slice h.1 h.2.1 h.2.2) ∧ St w0 [] [.ownL (CI .u8) h.1 h.2.1 h.2.2 r0 5] [] w' := by
 refine calls_k Try.func101 rfl fun Q qq => ?_
 have hs := St.startR (all_cons (RowP.ent hp0) all_nil)
 refine wp_conv (a' := ⟨#[.slice a0_A a0_n a0_c, undef, undef, undef, undef, undef, undef, undef, undef, undef, undef, undef], []⟩) (by kernel_rfl) ?_
 refine xseq_k fun KS1 ks1 => ?_
 refine xregS [0] fun KR2 kr2 => ?_
 refine wpS.q 0 2 (.slice none 0 0) ?_
 refine wpS.fin rfl (kr2 _ _ (then_n (ks1 _ _ (xseq_k fun KS3 ks3 => (xregS [0, 1, 2, 3, 4, 5, 6, 7, 8, 9] fun KR4 kr4 => ?_)))))
 refine wpS.qs [(0, 3, .slice a0_A a0_n a0_c), (1, 4, .slice a0_A a0_n a0_c)] ?_
 refine wpS.tk 2 false (some 5) (.int .i64 (a0.length : Int)) (yld_lenL (hs.rowR 0 rfl) (fun _ => by kernel_rfl)) ?_
 refine wpS.qs [(3, 6, .int .i64 (irem .i64 (a0.length : Int) 16)), (4, 7, .int .i64 (isub .i64 16 (irem .i64 (a0.length : Int) 16))), (5, 8, .int .i64 (irem .i64 (isub .i64 16 (irem .i64 (a0.length : Int) 16)) 16))] ?_
 obtain ⟨h0, h⟩ := of_chk h
 obtain ⟨h1, h⟩ := of_chk h
 refine wpS.only 6 (op_makeT (C := (CI .u8)) (t := 26) (e := 5) (bytes := 1) (B := 140737488355328) (kl := .i64) (kc := .i64) (x := (irem .i64 (isub .i64 16 (irem .i64 (a0.length : Int) 16)) 16)) (d := (some 9)) (by kernel_rfl) hs (by kernel_rfl) (by kernel_rfl) (by kernel_rfl) (by kernel_rfl) (by kernel_rfl) h0 h1 (by decide) (by decide) ?_)
 intro s1_A s1_n s1_c w gw hs
 refine ⟨fun _ => trivial, ?_⟩
 refine wpS.only 7 (op_lit (C := CS) (t := 44) (e := 26) (len := 2) (parts := #[(0, .slice a0_A a0_n a0_c), (1, .slice s1_A s1_n s1_c)]) (l := ([(a0_A, a0_n, a0_c), (s1_A, s1_n, s1_c)] : List HS)) (d := (some 10)) (by kernel_rfl) hs (by kernel_rfl) (by kernel_rfl) (by kernel_rfl) (z := .slice none 0 0) (by kernel_rfl) rfl (by decide) (by decide) (by kernel_rfl) ?_)
 intro s2_A s2_n s2_c w gw hs
 refine ⟨fun _ => trivial, ?_⟩
 obtain ⟨r3, hg, h⟩ := of_bind h
 refine wpS.only 8 (op_callH (d := (some 11)) (by kernel_rfl) hs (fun _ => by kernel_rfl) (ref01_Join.ok hg _ (LLP.mk (hs.rowL 0 rfl) (inn_cons (hs.rowR 0 rfl) (inn_cons (hs.rowL 1 rfl) inn_nil)))) ?_)
 rintro ⟨r3_A, r3_n, r3_c⟩ w gw hs
 have hs := hs.conv (L' := [.ownL (CI .u8) r3_A r3_n r3_c r3 5, .ownL CS s2_A s2_n s2_c ([(a0_A, a0_n, a0_c), (s1_A, s1_n, s1_c)] : List HS) 26, .ownL (CI .u8) s1_A s1_n s1_c (List.replicate ((irem .i64 (isub .i64 16 (irem .i64 (a0.length : Int) 16)) 16) : Int).toNat (Cod.zero (CI .u8))) 5]) rfl
 refine ⟨fun _ => trivial, ?_⟩
 refine wpS.q 9 2 (.slice r3_A r3_n r3_c) ?_
 refine wpS.fin rfl (kr4 _ _ (then_n (ks3 _ _ (xret ?_))))
 have q0 := of_some h
 subst q0
 exact qq _ _ (post_ret (by kernel_rfl) (run_results [.tmp 2] [.slice r3_A r3_n r3_c] (by kernel_rfl) (.cons (res_tmp (by kernel_rfl)) .nil)) ⟨⟨r3_A, r3_n, r3_c⟩, congrArg Ending.returned (by kernel_rfl), ((hs.drop (.cons_cons _ (.cons _ (.cons _ .slnil)))).pickR pick_nil)⟩)

theorem ref12_tag.ok {K : Nat} {a0 : List Int} {a1 : List Int} {a2 : List Int} {a3 : List Int} {r0 : List Int} {a0_A : Option Addr} {a0_n : Nat} {a0_c : Nat} {a1_A : Option Addr} {a1_n : Nat} {a1_c : Nat} {a2_A : Option Addr} {a2_n : Nat} {a2_c : Nat} {a3_A : Option Addr} {a3_n : Nat} {a3_c : Nat} (h : ref12_tag.f K a0 a1 a2 a3 = some r0) (w0 : World) (hp0 : RowL (CI .u8) w0 a0_A a0_n a0_c a0) (hp1 : RowL (CI .u8) w0 a1_A a1_n a1_c a1) (hp2 : RowL (CI .u8) w0 a2_A a2_n a2_c a2) (hp3 : RowL (CI .u8) w0 a3_A a3_n a3_c a3) : Calls Try.prog 69 #[.slice a0_A a0_n a0_c, .slice a1_A a1_n a1_c, .slice a2_A a2_n a2_c, .slice a3_A a3_n a3_c] w0 fun e w' => ∃ h : (Option Addr × Nat × Nat), e = .returned (.slice h.1 h.2.1 h.2.2) ∧ St w0 [] [.ownL (CI .u8) h.1 h.2.1 h.2.2 r0 5] [] w' := by
 refine calls_k Try.func69 rfl fun Q qq => ?_
 have hs := St.startR (all_cons (RowP.ent hp0) (all_cons (RowP.ent hp1) (all_cons (RowP.ent hp2) (all_cons (RowP.ent hp3) all_nil))))
 refine wp_conv (a' := ⟨#[.slice a0_A a0_n a0_c, .slice a1_A a1_n a1_c, .slice a2_A a2_n a2_c, .slice a3_A a3_n a3_c, undef, undef, undef, undef, undef, undef, undef, undef, undef, undef, undef, undef, undef, undef, undef, undef, undef, undef, undef, undef, undef, undef, undef, undef, undef, undef, undef, undef], []⟩) (by kernel_rfl) ?_
 refine xseq_k fun KS1 ks1 => ?_
 refine xregS [0] fun KR2 kr2 => ?_
 refine wpS.q 0 8 (.slice none 0 0) ?_
 refine wpS.fin rfl (kr2 _ _ (then_n (ks1 _ _ (xseq_k fun KS3 ks3 => (xregS [0, 1, 2, 3, 4, 5, 6, 7, 8, 9, 10, 11] fun KR4 kr4 => ?_)))))
 refine wpS.q 0 10 (.slice a2_A a2_n a2_c) ?_
 refine wpS.tk 1 false (some 11) (.int .i64 (a2.length : Int)) (yld_lenL (hs.rowR 2 rfl) (fun _ => by kernel_rfl)) ?_
 refine wpS.qs [(2, 12, .int .u64 (iconv .u64 (a2.length : Int))), (3, 13, .int .u64 (imul .u64 8 (iconv .u64 (a2.length : Int))))] ?_
 obtain ⟨r1, hg, h⟩ := of_bind h
 refine wpS.only 4 (op_callH (d := (some 14)) (by kernel_rfl) hs (fun _ => by kernel_rfl) (ref01_Be.ok hg _) ?_)
 rintro ⟨r1_A, r1_n, r1_c⟩ w gw hs
 have hs := hs.conv (L' := [.ownL (CI .u8) r1_A r1_n r1_c r1 5]) rfl
 refine ⟨fun _ => trivial, ?_⟩
 refine wpS.q 5 15 (.slice a3_A a3_n a3_c) ?_
 refine wpS.tk 6 false (some 16) (.int .i64 (a3.length : Int)) (yld_lenL (hs.rowR 3 rfl) (fun _ => by kernel_rfl)) ?_
 refine wpS.qs [(7, 17, .int .u64 (iconv .u64 (a3.length : Int))), (8, 18, .int .u64 (imul .u64 8 (iconv .u64 (a3.length : Int))))] ?_
 obtain ⟨r2, hg, h⟩ := of_bind h
 refine wpS.only 9 (op_callH (d := (some 19)) (by kernel_rfl) hs (fun _ => by kernel_rfl) (ref01_Be.ok hg _) ?_)
 rintro ⟨r2_A, r2_n, r2_c⟩ w gw hs
 have hs := hs.conv (L' := [.ownL (CI .u8) r2_A r2_n r2_c r2 5, .ownL (CI .u8) r1_A r1_n r1_c r1 5]) rfl
 refine ⟨fun _ => trivial, ?_⟩
 obtain ⟨h0, h⟩ := of_chk h
 refine wpS.only 10 (op_appendT (C := (CI .u8)) (t := 26) (ty := 26) (e := 5) (bytes := 1) (B := 140737488355328) (d := (some 20)) (by kernel_rfl) hs 1 rfl (hs.rowL 0 rfl) (by kernel_rfl) (by kernel_rfl) (by kernel_rfl) (by kernel_rfl) (by kernel_rfl) h0 (by decide) (by decide) ?_)
 intro s3_A s3_n s3_c w hs
 refine ⟨fun _ => trivial, ?_⟩
 refine wpS.q 11 9 (.slice s3_A s3_n s3_c) ?_
 refine wpS.fin rfl (kr4 _ _ (then_n (ks3 _ _ (xseq_k fun KS5 ks5 => (xregS [0, 1, 2, 3, 4, 5, 6, 7, 8, 9, 10, 11] fun KR6 kr6 => ?_)))))
 refine wpS.qs [(0, 21, .slice a0_A a0_n a0_c), (1, 22, .slice a2_A a2_n a2_c)] ?_
 obtain ⟨r4, hg, h⟩ := of_bind h
 refine wpS.only 2 (op_callH (d := (some 23)) (by kernel_rfl) hs (fun _ => by kernel_rfl) (ref12_filled.ok hg _ (hs.rowR 2 rfl)) ?_)
 rintro ⟨r4_A, r4_n, r4_c⟩ w gw hs
 have hs := hs.conv (L' := [.ownL (CI .u8) r4_A r4_n r4_c r4 5, .ownL (CI .u8) r2_A r2_n r2_c r2 5, .ownL (CI .u8) s3_A s3_n s3_c (r1 ++ r2) 5]) rfl
 refine ⟨fun _ => trivial, ?_⟩
 refine wpS.q 3 24 (.slice a3_A a3_n a3_c) ?_
 obtain ⟨r5, hg, h⟩ := of_bind h
 refine wpS.only 4 (op_callH (d := (some 25)) (by kernel_rfl) hs (fun _ => by kernel_rfl) (ref12_filled.ok hg _ (hs.rowR 3 rfl)) ?_)
 rintro ⟨r5_A, r5_n, r5_c⟩ w gw hs
 have hs := hs.conv (L' := [.ownL (CI .u8) r5_A r5_n r5_c r5 5, .ownL (CI .u8) r4_A r4_n r4_c r4 5, .ownL (CI .u8) r2_A r2_n r2_c r2 5, .ownL (CI .u8) s3_A s3_n s3_c (r1 ++ r2) 5]) rfl
 refine ⟨fun _ => trivial, ?_⟩
 refine wpS.q 5 26 (.slice s3_A s3_n s3_c) ?_
 refine wpS.only 6 (op_lit (C := CS) (t := 44) (e := 26) (len := 3) (parts := #[(0, .slice r4_A r4_n r4_c), (1, .slice r5_A r5_n r5_c), (2, .slice s3_A s3_n s3_c)]) (l := ([(r4_A, r4_n, r4_c), (r5_A, r5_n, r5_c), (s3_A, s3_n, s3_c)] : List HS)) (d := (some 27)) (by kernel_rfl) hs (by kernel_rfl) (by kernel_rfl) (by kernel_rfl) (z := .slice none 0 0) (by kernel_rfl) rfl (by decide) (by decide) (by kernel_rfl) ?_)
 intro s6_A s6_n s6_c w gw hs
 refine ⟨fun _ => trivial, ?_⟩
 obtain ⟨r7, hg, h⟩ := of_bind h
 refine wpS.only 7 (op_callH (d := (some 28)) (by kernel_rfl) hs (fun _ => by kernel_rfl) (ref01_Join.ok hg _ (LLP.mk (hs.rowL 0 rfl) (inn_cons (hs.rowL 2 rfl) (inn_cons (hs.rowL 1 rfl) (inn_cons (hs.rowL 4 rfl) inn_nil))))) ?_)
 rintro ⟨r7_A, r7_n, r7_c⟩ w gw hs
 have hs := hs.conv (L' := [.ownL (CI .u8) r7_A r7_n r7_c r7 5, .ownL CS s6_A s6_n s6_c ([(r4_A, r4_n, r4_c), (r5_A, r5_n, r5_c), (s3_A, s3_n, s3_c)] : List HS) 26, .ownL (CI .u8) r5_A r5_n r5_c r5 5, .ownL (CI .u8) r4_A r4_n r4_c r4 5, .ownL (CI .u8) r2_A r2_n r2_c r2 5, .ownL (CI .u8) s3_A s3_n s3_c (r1 ++ r2) 5]) rfl
 refine ⟨fun _ => trivial, ?_⟩
 obtain ⟨r8, hg, h⟩ := of_bind h
 refine wpS.only 8 (op_callH (d := (some 29)) (by kernel_rfl) hs (fun _ => by kernel_rfl) (ref12_Ghash.ok hg _ (hs.rowR 0 rfl) (hs.rowL 0 rfl)) ?_)
 rintro ⟨r8_A, r8_n, r8_c⟩ w gw hs
 have hs := hs.conv (L' := [.ownL (CI .u8) r8_A r8_n r8_c r8 5, .ownL (CI .u8) r7_A r7_n r7_c r7 5, .ownL CS s6_A s6_n s6_c ([(r4_A, r4_n, r4_c), (r5_A, r5_n, r5_c), (s3_A, s3_n, s3_c)] : List HS) 26, .ownL (CI .u8) r5_A r5_n r5_c r5 5, .ownL (CI .u8) r4_A r4_n r4_c r4 5, .ownL (CI .u8) r2_A r2_n r2_c r2 5, .ownL (CI .u8) s3_A s3_n s3_c (r1 ++ r2) 5]) rfl
 refine ⟨fun _ => trivial, ?_⟩
 refine wpS.q 9 30 (.slice a1_A a1_n a1_c) ?_
 obtain ⟨r9, hg, h⟩ := of_bind h
 refine wpS.only 10 (op_callH (d := (some 31)) (by kernel_rfl) hs (fun _ => by kernel_rfl) (ref01_Xor.ok hg _ (hs.rowL 0 rfl) (hs.rowR 1 rfl)) ?_)
 rintro ⟨r9_A, r9_n, r9_c⟩ w gw hs
 have hs := hs.conv (L' := [.ownL (CI .u8) r9_A r9_n r9_c r9 5, .ownL (CI .u8) r8_A r8_n r8_c r8 5, .ownL (CI .u8) r7_A r7_n r7_c r7 5, .ownL CS s6_A s6_n s6_c ([(r4_A, r4_n, r4_c), (r5_A, r5_n, r5_c), (s3_A, s3_n, s3_c)] : List HS) 26, .ownL (CI .u8) r5_A r5_n r5_c r5 5, .ownL (CI .u8) r4_A r4_n r4_c r4 5, .ownL (CI .u8) r2_A r2_n r2_c r2 5, .ownL (CI .u8) s3_A s3_n s3_c (r1 ++ r2) 5]) rfl
 refine ⟨fun _ => trivial, ?_⟩
 refine wpS.q 11 8 (.slice r9_A r9_n r9_c) ?_
 refine wpS.fin rfl (kr6 _ _ (then_n (ks5 _ _ (xret ?_))))
 have q0 := of_some h
 subst q0
 exact qq _ _ (post_ret (by kernel_rfl) (run_results [.tmp 8] [.slice r9_A r9_n r9_c] (by kernel_rfl) (.cons (res_tmp (by kernel_rfl)) .nil)) ⟨⟨r9_A, r9_n, r9_c⟩, congrArg Ending.returned (by kernel_rfl), ((hs.drop (.cons_cons _ (.cons _ (.cons _ (.cons _ (.cons _ (.cons _ (.cons _ (.cons _ .slnil))))))))).pickR pick_nil)⟩)

theorem ref12_stream_s.ok {K : Nat} {ca0 : List Int} {ca1 : List Int} {ca2 : List Int} {y1 : List Int} {y2 : List Int} {y3 : List Int} {ca0_A : Option Addr} {ca0_n : Nat} {ca0_c : Nat} {ca1_A : Option Addr} {ca1_n : Nat} {ca1_c : Nat} {ca2_A : Option Addr} {ca2_n : Nat} {ca2_c : Nat} (h : ref12_stream_s.f K ca0 ca1 ca2 = some (y1, y2, y3)) {w0 w : World} {X : List Nat} {Lt Rt : List Ent} (hs : St w0 X Lt (.rowL (CI .u8) ca0_A ca0_n ca0_c ca0 :: .rowL (CI .u8) ca1_A ca1_n ca1_c ca1 :: .rowL (CI .u8) ca2_A ca2_n ca2_c ca2 :: Rt) w) : Calls Try.prog 68 #[.slice ca0_A ca0_n ca0_c, .slice ca1_A ca1_n ca1_c, .slice ca2_A ca2_n ca2_c] w fun e w' => ∃ (y1_A : Option Addr) (y1_n : Nat) (y1_c : Nat) (y2_A : Option Addr) (y2_n : Nat) (y2_c : Nat) (y3_A : Option Addr) (y3_n : Nat) (y3_c : Nat), e = .returned (.tuple #[.slice y1_A y1_n y1_c, .slice y2_A y2_n y2_c, .slice y3_A y3_n y3_c]) ∧ St w0 X (.ownL (CI .u8) y1_A y1_n y1_c y1 5 :: Lt) (.rowL (CI .u8) y3_A y3_n y3_c y3 :: .rowL (CI .u8) y2_A y2_n y2_c y2 :: .rowL (CI .u8) ca0_A ca0_n ca0_c ca0 :: .rowL (CI .u8) ca1_A ca1_n ca1_c ca1 :: .rowL (CI .u8) ca2_A ca2_n ca2_c ca2 :: Rt) w' := by
 refine calls_k Try.func68 rfl fun Q qq => ?_
 refine wp_conv (a' := ⟨#[.slice ca0_A ca0_n ca0_c, .slice ca1_A ca1_n ca1_c, .slice ca2_A ca2_n ca2_c, undef, undef, undef, undef, undef, undef, undef, undef, undef, undef, undef, undef, undef, undef, undef, undef, undef, undef, undef, undef, undef, undef, undef, undef, undef, undef, undef, undef, undef, undef, undef, undef, undef, undef, undef, undef, undef, undef, undef, undef, undef, undef, undef], []⟩) (by kernel_rfl) ?_
 refine xseq_k fun KS1 ks1 => ?_
 refine xregS [0, 1, 2] fun KR2 kr2 => ?_
 refine wpS.qs [(0, 6, .slice none 0 0), (1, 7, .slice none 0 0), (2, 8, .slice none 0 0)] ?_
 refine wpS.fin rfl (kr2 _ _ (then_n (ks1 _ _ (xseq_k fun KS3 ks3 => (xregS [0, 1, 2] fun KR4 kr4 => ?_)))))
 refine wpS.only 0 (op_makeT (C := (CI .u8)) (t := 26) (e := 5) (bytes := 1) (B := 140737488355328) (kl := .i64) (kc := .i64) (x := 16) (d := (some 12)) (by kernel_rfl) hs (by kernel_rfl) (by kernel_rfl) (by kernel_rfl) (by kernel_rfl) (by kernel_rfl) (by decide) (by decide) (by decide) (by decide) ?_)
 intro s4_A s4_n s4_c w gw hs
 refine ⟨fun _ => trivial, ?_⟩
 refine wpS.only 1 (op_lit (C := CS) (t := 44) (e := 26) (len := 1) (parts := #[(0, .slice s4_A s4_n s4_c)]) (l := ([(s4_A, s4_n, s4_c)] : List HS)) (d := (some 13)) (by kernel_rfl) hs (by kernel_rfl) (by kernel_rfl) (by kernel_rfl) (z := .slice none 0 0) (by kernel_rfl) rfl (by decide) (by decide) (by kernel_rfl) ?_)
 intro s5_A s5_n s5_c w gw hs
 refine ⟨fun _ => trivial, ?_⟩
 refine wpS.q 2 9 (.slice s5_A s5_n s5_c) ?_
 refine wpS.fin rfl (kr4 _ _ (then_n (ks3 _ _ (xseq_k fun KS5 ks5 => (xseq_k fun KS6 ks6 => (xregS [0] fun KR7 kr7 => ?_))))))
 refine wpS.q 0 10 (.int .i64 0) ?_
 refine wpS.fin rfl (kr7 _ _ (then_n (ks6 _ _ ?_)))
 have hs := hs.freeze 1 rfl
 have hs := hs.addInn1 0 rfl
 obtain ⟨y8, hy, hk0⟩ := of_bind h
 refine wp_exq (N := fun a w => ∃ (y8_A : Option Addr) (y8_n : Nat) (y8_c : Nat) (y8_H : List HS), St w0 X (.ownL CS y8_A y8_n y8_c y8_H 26 :: Lt) (.inn (CI .u8) y8_H y8 :: .rowL (CI .u8) s4_A s4_n s4_c (List.replicate (16 : Int).toNat (Cod.zero (CI .u8))) :: .rowL (CI .u8) ca0_A ca0_n ca0_c ca0 :: .rowL (CI .u8) ca1_A ca1_n ca1_c ca1 :: .rowL (CI .u8) ca2_A ca2_n ca2_c ca2 :: Rt) w ∧ ∃ g9 : Nat → Value, a = ⟨#[.slice ca0_A ca0_n ca0_c, .slice ca1_A ca1_n ca1_c, .slice ca2_A ca2_n ca2_c, undef, undef, undef, .slice none 0 0, .slice none 0 0, .slice none 0 0, .slice y8_A y8_n y8_c, (g9 10), undef, .slice s4_A s4_n s4_c, .slice s5_A s5_n s5_c, (g9 14), (g9 15), (g9 16), (g9 17), (g9 18), (g9 19), (g9 20), (g9 21), (g9 22), (g9 23), (g9 24), (g9 25), (g9 26), (g9 27), (g9 28), (g9 29), (g9 30), (g9 31), undef, undef, undef, undef, undef, undef, undef, undef, undef, undef, undef, undef, undef, undef], []⟩) (fun N0 nn0 => ?_) ?_
 ·clear hk0
  refine xblock ?_
  refine wp_loop_k (fun n a w => ∃ z6 z7, ∃ (z7_A : Option Addr) (z7_n : Nat) (z7_c : Nat) (z7_H : List HS), ref12_stream_s.l0 K n ca1 ca2 z6 z7 = some y8 ∧ St w0 X (.ownL CS z7_A z7_n z7_c z7_H 26 :: Lt) (.inn (CI .u8) z7_H z7 :: .rowL (CI .u8) s4_A s4_n s4_c (List.replicate (16 : Int).toNat (Cod.zero (CI .u8))) :: .rowL (CI .u8) ca0_A ca0_n ca0_c ca0 :: .rowL (CI .u8) ca1_A ca1_n ca1_c ca1 :: .rowL (CI .u8) ca2_A ca2_n ca2_c ca2 :: Rt) w ∧ ∃ g8 : Nat → Value, a = ⟨#[.slice ca0_A ca0_n ca0_c, .slice ca1_A ca1_n ca1_c, .slice ca2_A ca2_n ca2_c, undef, undef, undef, .slice none 0 0, .slice none 0 0, .slice none 0 0, .slice z7_A z7_n z7_c, .int .i64 z6, undef, .slice s4_A s4_n s4_c, .slice s5_A s5_n s5_c, (g8 14), (g8 15), (g8 16), (g8 17), (g8 18), (g8 19), (g8 20), (g8 21), (g8 22), (g8 23), (g8 24), (g8 25), (g8 26), (g8 27), (g8 28), (g8 29), (g8 30), (g8 31), undef, undef, undef, undef, undef, undef, undef, undef, undef, undef, undef, undef, undef, undef], []⟩) K ⟨0, ([(List.replicate (16 : Int).toNat (Cod.zero (CI .u8)))] : List (List Int)), s5_A, s5_n, s5_c, ([(s4_A, s4_n, s4_c)] : List HS), hy, hs.conv rfl, exg (by kernel_rfl)⟩ ?_
  clear hs h hy
  rintro n a w ⟨z6, z7, z7_A, z7_n, z7_c, z7_H, h, hs, g8, rfl⟩ KL0 kl0
  cases n with
  | zero => exact nomatch (show none = some _ from h)
  | succ n =>
   refine xseq_k fun KS10 ks10 => ?_
   refine xseq_k fun KS11 ks11 => ?_
   refine xregS [0, 1, 2, 3, 4, 5] fun KR12 kr12 => ?_
   refine wpS.qs [(0, 14, .int .i64 z6), (1, 15, .slice ca2_A ca2_n ca2_c)] ?_
   refine wpS.tk 2 false (some 16) (.int .i64 (ca2.length : Int)) (yld_lenL (hs.rowR 4 rfl) (fun _ => by kernel_rfl)) ?_
   refine wpS.qs [(3, 17, .int .i64 (iadd .i64 (ca2.length : Int) 15)), (4, 18, .int .i64 (iquo .i64 (iadd .i64 (ca2.length : Int) 15) 16))] ?_
   rcases of_if h with ⟨hc, h⟩ | ⟨hc, h⟩
   ·refine wpS.tk 5 false (some 19) (.bool true) (yld_b (dt hc) (fun _ => by kernel_rfl)) ?_
    refine wpS.fin rfl (kr12 _ _ (then_n (ks11 _ _ (wp_cond_t (by kernel_rfl) (xskip (then_n (ks10 _ _ (xseq_k fun KS13 ks13 => (xblock (xregS [0, 1, 2, 3, 4, 5, 6, 7, 8, 9, 10] fun KR14 kr14 => ?_))))))))))
    refine wpS.qs [(0, 22, .slice z7_A z7_n z7_c), (1, 23, .slice ca1_A ca1_n ca1_c), (2, 24, .int .i64 z6), (3, 25, .int .i64 (iadd .i64 z6 1)), (4, 26, .int .u64 (iconv .u64 (iadd .i64 z6 1)))] ?_
    obtain ⟨r9, hg, h⟩ := of_bind h
    refine wpS.only 5 (op_callH (d := (some 27)) (by kernel_rfl) hs (fun _ => by kernel_rfl) (ref01_Be.ok hg _) ?_)
    rintro ⟨r9_A, r9_n, r9_c⟩ w gw hs
    have hs := hs.conv (L' := (.ownL (CI .u8) r9_A r9_n r9_c r9 5 :: .ownL CS z7_A z7_n z7_c z7_H 26 :: Lt)) rfl
    refine ⟨fun _ => trivial, ?_⟩
    refine wpS.only 6 (op_lit (C := CS) (t := 44) (e := 26) (len := 2) (parts := #[(0, .slice ca1_A ca1_n ca1_c), (1, .slice r9_A r9_n r9_c)]) (l := ([(ca1_A, ca1_n, ca1_c), (r9_A, r9_n, r9_c)] : List HS)) (d := (some 28)) (by kernel_rfl) hs (by kernel_rfl) (by kernel_rfl) (by kernel_rfl) (z := .slice none 0 0) (by kernel_rfl) rfl (by decide) (by decide) (by kernel_rfl) ?_)
    intro s10_A s10_n s10_c w gw hs
    refine ⟨fun _ => trivial, ?_⟩
    obtain ⟨r11, hg, h⟩ := of_bind h
    refine wpS.only 7 (op_callH (d := (some 29)) (by kernel_rfl) hs (fun _ => by kernel_rfl) (ref01_Join.ok hg _ (LLP.mk (hs.rowL 0 rfl) (inn_cons (hs.rowR 3 rfl) (inn_cons (hs.rowL 1 rfl) inn_nil)))) ?_)
    rintro ⟨r11_A, r11_n, r11_c⟩ w gw hs
    have hs := hs.conv (L' := (.ownL (CI .u8) r11_A r11_n r11_c r11 5 :: .ownL CS s10_A s10_n s10_c ([(ca1_A, ca1_n, ca1_c), (r9_A, r9_n, r9_c)] : List HS) 26 :: .ownL (CI .u8) r9_A r9_n r9_c r9 5 :: .ownL CS z7_A z7_n z7_c z7_H 26 :: Lt)) rfl
    refine ⟨fun _ => trivial, ?_⟩
    refine wpS.only 8 (op_lit (C := CS) (t := 44) (e := 26) (len := 1) (parts := #[(0, .slice r11_A r11_n r11_c)]) (l := ([(r11_A, r11_n, r11_c)] : List HS)) (d := (some 30)) (by kernel_rfl) hs (by kernel_rfl) (by kernel_rfl) (by kernel_rfl) (z := .slice none 0 0) (by kernel_rfl) rfl (by decide) (by decide) (by kernel_rfl) ?_)
    intro s12_A s12_n s12_c w gw hs
    refine ⟨fun _ => trivial, ?_⟩
    have hs := hs.freeze 1 rfl
    obtain ⟨h0, h⟩ := of_chk h
    refine wpS.only 9 (op_appendT (C := CS) (t := 44) (ty := 44) (e := 26) (bytes := 24) (B := 5864062014805) (d := (some 31)) (by kernel_rfl) hs 3 rfl (hs.rowL 0 rfl) (by kernel_rfl) (by kernel_rfl) (by kernel_rfl) (by kernel_rfl) (by kernel_rfl) (by rw [(hs.innR 1 rfl).length]; exact h0) (by decide) (by decide) ?_)
    intro s13_A s13_n s13_c w hs
    have hs := hs.innApp 1 0 rfl rfl
    refine ⟨fun _ => trivial, ?_⟩
    refine wpS.q 10 9 (.slice s13_A s13_n s13_c) ?_
    refine wpS.fin rfl (kr14 _ _ (inBlock_n (then_n (ks13 _ _ (xregS [0, 1, 2] fun KR15 kr15 => ?_)))))
    refine wpS.qs [(0, 20, .int .i64 z6), (1, 21, .int .i64 (iadd .i64 z6 1))] ?_
    obtain ⟨x14, hx, h⟩ := of_bind h
    refine wpS.tk 2 false (some 10) (.int .i64 x14) (yld_int hx (fun _ => by kernel_rfl)) ?_
    refine wpS.fin rfl (kr15 _ _ ?_)
    exact then_n (kl0 _ _ ⟨n, Nat.lt_succ_self n, x14, (z7 ++ [r11]), s13_A, s13_n, s13_c, (z7_H ++ [(r11_A, r11_n, r11_c)]), h, ((hs.drop (.cons _ (.cons _ (.cons _ (.cons_cons _ (.refl _)))))).pickR (pick_cons 1 rfl (pick_cons 2 rfl (pick_cons 3 rfl (pick_cons 4 rfl (pick_cons 5 rfl (fun _ he => .tail _ (.tail _ (.tail _ (.tail _ (.tail _ (.tail _ (he))))))))))))), exg (by kernel_rfl)⟩)
   refine wpS.tk 5 false (some 19) (.bool false) (yld_b (df hc) (fun _ => by kernel_rfl)) ?_
   refine wpS.fin rfl (kr12 _ _ (then_n (ks11 _ _ (wp_cond_f (by kernel_rfl) (xexit (then_x (then_x (inBlock_hit ?_))))))))
   have q0 := of_some h
   subst q0
   exact exq_n (nn0 _ _ ⟨z7_A, z7_n, z7_c, z7_H, (hs.conv rfl), exg (by kernel_rfl)⟩)
 clear hs h hy
 rintro a w ⟨y8_A, y8_n, y8_c, y8_H, hs, g9, rfl⟩
 have h := hk0
 refine then_n (ks5 _ _ (xseq_k fun KS16 ks16 => (xregS [0, 1, 2, 3] fun KR17 kr17 => ?_)))
 refine wpS.qs [(0, 32, .slice ca0_A ca0_n ca0_c), (1, 33, .slice y8_A y8_n y8_c)] ?_
 have hs := hs.pickR (pick_cons 2 rfl (pick_cons 0 rfl (pick_cons 1 rfl (pick_cons 3 rfl (pick_cons 4 rfl (fun _ he => .tail _ (.tail _ (.tail _ (.tail _ (.tail _ (he)))))))))))
 obtain ⟨r15, hg, h⟩ := of_bind h
 refine wpS.only 2 (wpOp_call (d := (some 34)) (by kernel_rfl) (fun _ => by kernel_rfl) (ref10_Many_s.ok hg hs) ?_)
 rintro e w ⟨y16_A, y16_n, y16_c, y16_H, rfl, hs⟩
 refine ⟨_, rfl, ?_⟩
 refine ⟨fun _ => trivial, ?_⟩
 refine wpS.q 3 11 (.slice y16_A y16_n y16_c) ?_
 refine wpS.fin rfl (kr17 _ _ (then_n (ks16 _ _ (xseq_k fun KS18 ks18 => ?_))))
 refine wp_regG [] (fun k => True) 14 (by kernel_rfl) (by kernel_rfl) (by kernel_rfl) fun KR19 kr19 => ?_
 have hs := hs.drawn1
 refine wpG.q 0 35 (.slice ca2_A ca2_n ca2_c) ?_
 refine wpG.q 1 36 (.slice y16_A y16_n y16_c) ?_
 have hs := hs.freezeHH 0 0 rfl rfl
 obtain ⟨h0, h⟩ := of_chk h
 obtain ⟨h1, h⟩ := of_chk h
 obtain ⟨h2, h⟩ := of_chk h
 obtain ⟨s20_A, hA⟩ : ∃ A, A = if y16_c = (2 : Int).toNat then y16_A else adr y16_A ((2 : Int).toNat * Cod.size CS) := ⟨_, rfl⟩
 obtain ⟨s20_n, hn⟩ : ∃ n, n = ((r15.length : Int) : Int).toNat - (2 : Int).toNat := ⟨_, rfl⟩
 obtain ⟨s20_c, hc⟩ : ∃ c, c = y16_c - (2 : Int).toNat := ⟨_, rfl⟩
 refine wpG.tD 2 false (some 37) (.slice s20_A s20_n s20_c) (yld_subLL (C := (CI .u8)) (t := 44) (e := 26) (low := some (.int .i64 2)) (high := none) (lo := 2) (hi := (r15.length : Int)) (hs.rowLL 0 rfl) (by kernel_rfl) (by kernel_rfl) (by kernel_rfl) (.inr ⟨_, rfl⟩) (.inl ⟨rfl, rfl⟩) h0 h1 h2 hA hn hc) ?_
 have hs := hs.addSubLL (C := (CI .u8)) 0 rfl h0 h1 h2 hA hn hc
 refine wpG.q 5 40 (.slice y16_A y16_n y16_c) ?_
 obtain ⟨h0, h⟩ := of_chk h
 obtain ⟨h1, h⟩ := of_chk h
 have i0_22 := h0
 have i1_22 := h1
 refine wpG.tD 6 false (some 41) (.pointer (adr y16_A ((0 : Int).toNat * Cod.size (CI .u8)))) (yld_idxLL (C := (CI .u8)) (t := 44) (e := 26) (k := .i64) (x := 0) (hs.rowLL 1 rfl) (by kernel_rfl) (by kernel_rfl) (by kernel_rfl) h0 h1) ?_
 obtain ⟨s25_A, hA⟩ : ∃ A, A = (rdL CS y16_H 0).1 := ⟨_, rfl⟩
 obtain ⟨s25_n, hn⟩ : ∃ n, n = (rdL CS y16_H 0).2.1 := ⟨_, rfl⟩
 obtain ⟨s25_c, hc⟩ : ∃ c, c = (rdL CS y16_H 0).2.2 := ⟨_, rfl⟩
 refine wpG.tD 7 true (some 42) (.slice s25_A s25_n s25_c) (by subst hA hn hc; exact yld_loadLL (C := (CI .u8)) (e := 26) (x := 0) (hs.rowLL 1 rfl) (by kernel_rfl) (by kernel_rfl) i0_22 i1_22) ?_
 have hs := hs.addInn (C := (CI .u8)) 1 rfl i0_22 i1_22 hA hn hc
 refine wpG.q 8 43 (.slice y16_A y16_n y16_c) ?_
 obtain ⟨h0, h⟩ := of_chk h
 obtain ⟨h1, h⟩ := of_chk h
 have i0_23 := h0
 have i1_23 := h1
 refine wpG.tD 9 false (some 44) (.pointer (adr y16_A ((1 : Int).toNat * Cod.size (CI .u8)))) (yld_idxLL (C := (CI .u8)) (t := 44) (e := 26) (k := .i64) (x := 1) (hs.rowLL 2 rfl) (by kernel_rfl) (by kernel_rfl) (by kernel_rfl) h0 h1) ?_
 obtain ⟨s26_A, hA⟩ : ∃ A, A = (rdL CS y16_H 1).1 := ⟨_, rfl⟩
 obtain ⟨s26_n, hn⟩ : ∃ n, n = (rdL CS y16_H 1).2.1 := ⟨_, rfl⟩
 obtain ⟨s26_c, hc⟩ : ∃ c, c = (rdL CS y16_H 1).2.2 := ⟨_, rfl⟩
 refine wpG.tD 10 true (some 45) (.slice s26_A s26_n s26_c) (by subst hA hn hc; exact yld_loadLL (C := (CI .u8)) (e := 26) (x := 1) (hs.rowLL 2 rfl) (by kernel_rfl) (by kernel_rfl) i0_23 i1_23) ?_
 have hs := hs.addInn (C := (CI .u8)) 2 rfl i0_23 i1_23 hA hn hc
 obtain ⟨r27, hg, h⟩ := of_bind h
 refine wpG.only 3 (by kernel_rfl) (op_callH (d := (some 38)) (by kernel_rfl) hs (fun _ => by kernel_rfl) (ref01_Join.ok hg _ (hs.rowLL 2 rfl)) ?_)
 rintro ⟨r27_A, r27_n, r27_c⟩ w gw hs
 have hs := hs.conv (L' := (.ownL (CI .u8) r27_A r27_n r27_c r27 5 :: .ownL CS y8_A y8_n y8_c y8_H 26 :: Lt)) rfl
 refine ⟨.of gw, ?_⟩
 obtain ⟨r28, hg, h⟩ := of_bind h
 refine wpG.only 4 (by kernel_rfl) (op_callH (d := (some 39)) (by kernel_rfl) hs (fun _ => by kernel_rfl) (ref01_Xor.ok hg _ (hs.rowR 8 rfl) (hs.rowL 0 rfl)) ?_)
 rintro ⟨r28_A, r28_n, r28_c⟩ w gw hs
 have hs := hs.conv (L' := (.ownL (CI .u8) r28_A r28_n r28_c r28 5 :: .ownL (CI .u8) r27_A r27_n r27_c r27 5 :: .ownL CS y8_A y8_n y8_c y8_H 26 :: Lt)) rfl
 refine ⟨.of gw, ?_⟩
 refine wpG.q 11 6 (.slice r28_A r28_n r28_c) ?_
 refine wpG.q 12 7 (.slice s25_A s25_n s25_c) ?_
 refine wpG.q 13 8 (.slice s26_A s26_n s26_c) ?_
 refine wpG.fin (by kernel_rfl) rfl (kr19 _ _ ?_)
 refine then_n (ks18 _ _ (xret ?_))
 obtain ⟨q0, qr0⟩ := Prod.mk.inj (of_some h)
 obtain ⟨q1, qr1⟩ := Prod.mk.inj (qr0)
 have q2 := qr1
 subst q0
 subst q1
 subst q2
 exact qq _ _ (post_ret (by kernel_rfl) (run_results [.tmp 6, .tmp 7, .tmp 8] [.slice r28_A r28_n r28_c, .slice s25_A s25_n s25_c, .slice s26_A s26_n s26_c] (by kernel_rfl) (.cons (res_tmp (by kernel_rfl)) (.cons (res_tmp (by kernel_rfl)) (.cons (res_tmp (by kernel_rfl)) .nil)))) ⟨r28_A, r28_n, r28_c, s25_A, s25_n, s25_c, s26_A, s26_n, s26_c, rfl, ((hs.drop (.cons_cons _ (.cons _ (.cons _ (.refl _))))).pickR (pick_cons 0 rfl (pick_cons 1 rfl (pick_cons 4 rfl (pick_cons 7 rfl (pick_cons 8 rfl (fun _ he => .tail _ (.tail _ (.tail _ (.tail _ (.tail _ (.tail _ (.tail _ (.tail _ (.tail _ (he))))))))))))))))⟩)

theorem ref12_Seal.ok {K : Nat} {a0 : List Int} {a1 : List Int} {a2 : List Int} {a3 : List Int} {r0 : List Int} {r1 : Int} {a0_A : Option Addr} {a0_n : Nat} {a0_c : Nat} {a1_A : Option Addr} {a1_n : Nat} {a1_c : Nat} {a2_A : Option Addr} {a2_n : Nat} {a2_c : Nat} {a3_A : Option Addr} {a3_n : Nat} {a3_c : Nat} (h : ref12_Seal.f K a0 a1 a2 a3 = some (r0, r1)) (w0 : World) (hp0 : RowL (CI .u8) w0 a0_A a0_n a0_c a0) (hp1 : RowL (CI .u8) w0 a1_A a1_n a1_c a1) (hp2 : RowL (CI .u8) w0 a2_A a2_n a2_c a2) (hp3 : RowL (CI .u8) w0 a3_A a3_n a3_c a3) : Calls Try.prog 31 #[.slice a0_A a0_n a0_c, .slice a1_A a1_n a1_c, .slice a2_A a2_n a2_c, .slice a3_A a3_n a3_c] w0 fun e w' => ∃ h : (Option Addr × Nat × Nat), e = .returned (.tuple #[.slice h.1 h.2.1 h.2.2, .int .i64 r1]) ∧ St w0 [] [.ownL (CI .u8) h.1 h.2.1 h.2.2 r0 5] [] w' := by
 refine calls_k Try.func31 rfl fun Q qq => ?_
 have hs := St.startR (all_cons (RowP.ent hp0) (all_cons (RowP.ent hp1) (all_cons (RowP.ent hp2) (all_cons (RowP.ent hp3) all_nil))))
 refine wp_conv (a' := ⟨#[.slice a0_A a0_n a0_c, .slice a1_A a1_n a1_c, .slice a2_A a2_n a2_c, .slice a3_A a3_n a3_c, undef, undef, undef, undef, undef, undef, undef, undef, undef, undef, undef, undef, undef, undef, undef, undef, undef, undef, undef, undef, undef, undef, undef, undef, undef, undef, undef, undef, undef, undef, undef, undef, undef, undef, undef, undef, undef, undef], []⟩) (by kernel_rfl) ?_
 refine xseq_k fun KS1 ks1 => ?_
 refine xregS [0, 1] fun KR2 kr2 => ?_
 refine wpS.qs [(0, 8, .slice none 0 0), (1, 9, .int .i64 0)] ?_
 refine wpS.fin rfl (kr2 _ _ (then_n (ks1 _ _ (xseq_k fun KS3 ks3 => (xseq_k fun KS4 ks4 => (xregS [0, 1, 2] fun KR5 kr5 => ?_))))))
 refine wpS.q 0 13 (.slice a0_A a0_n a0_c) ?_
 obtain ⟨r1, hg, h⟩ := of_bind h
 cases r1 with
 | true =>
  have h := of_if_t h
  refine wpS.only 1 (op_call (d := (some 14)) (by kernel_rfl) hs (fun _ => by kernel_rfl) (ref10_Sized.ok hg _ (hs.rowR 0 rfl)) ?_)
  intro w gw hs
  refine ⟨fun _ => trivial, ?_⟩
  refine wpS.q 2 15 (.bool false) ?_
  refine wpS.fin rfl (kr5 _ _ (then_n (ks4 _ _ (wp_cond_f (by kernel_rfl) (xskip (then_n (ks3 _ _ (xseq_k fun KS6 ks6 => (xseq_k fun KS7 ks7 => (xregS [0, 1, 2] fun KR8 kr8 => ?_))))))))))
  refine wpS.q 0 16 (.slice a1_A a1_n a1_c) ?_
  refine wpS.tk 1 false (some 17) (.int .i64 (a1.length : Int)) (yld_lenL (hs.rowR 1 rfl) (fun _ => by kernel_rfl)) ?_
  rcases of_if h with ⟨hc, h⟩ | ⟨hc, h⟩
  ·refine wpS.tk 2 false (some 18) (.bool false) (yld_b (nf hc) (fun _ => by kernel_rfl)) ?_
   refine wpS.fin rfl (kr8 _ _ (then_n (ks7 _ _ (wp_cond_f (by kernel_rfl) (xskip (then_n (ks6 _ _ (xseq_k fun KS9 ks9 => (xseq_k fun KS10 ks10 => (xregS [0, 1, 2, 3, 4, 5, 6, 7] fun KR11 kr11 => ?_))))))))))
   refine wpS.q 0 19 (.slice a2_A a2_n a2_c) ?_
   refine wpS.tk 1 false (some 20) (.int .i64 (a2.length : Int)) (yld_lenL (hs.rowR 2 rfl) (fun _ => by kernel_rfl)) ?_
   rcases of_if h with ⟨hc, h⟩ | ⟨hc, h⟩
   ·refine wpS.tk 2 false (some 21) (.bool true) (yld_b (dt hc) (fun _ => by kernel_rfl)) ?_
    refine wpS.qs [(3, 22, .bool true), (4, 23, undef), (5, 24, undef), (6, 25, undef), (7, 26, .bool true)] ?_
    refine wpS.fin rfl (kr11 _ _ (then_n (ks10 _ _ (wp_cond_t (by kernel_rfl) (xseq_k fun KS12 ks12 => (xregS [0, 1] fun KR13 kr13 => ?_))))))
    refine wpS.qs [(0, 8, .slice none 0 0), (1, 9, .int .i64 2)] ?_
    refine wpS.fin rfl (kr13 _ _ (then_n (ks12 _ _ (xret (then_r ?_)))))
    obtain ⟨q0, qr0⟩ := Prod.mk.inj (of_some h)
    have q1 := qr0
    subst q0
    subst q1
    have hs := hs.addNilL (CI .u8) 5
    exact qq _ _ (post_ret (by kernel_rfl) (run_results [.tmp 8, .tmp 9] [.slice none 0 0, .int .i64 2] (by kernel_rfl) (.cons (res_tmp (by kernel_rfl)) (.cons (res_tmp (by kernel_rfl)) .nil))) ⟨⟨none, 0, 0⟩, congrArg Ending.returned (by kernel_rfl), (hs.pickR pick_nil)⟩)
   refine wpS.tk 2 false (some 21) (.bool false) (yld_b (df hc) (fun _ => by kernel_rfl)) ?_
   refine wpS.qs [(3, 22, .bool false), (4, 23, .slice a3_A a3_n a3_c)] ?_
   refine wpS.tk 5 false (some 24) (.int .i64 (a3.length : Int)) (yld_lenL (hs.rowR 3 rfl) (fun _ => by kernel_rfl)) ?_
   rcases of_if h with ⟨hc, h⟩ | ⟨hc, h⟩
   ·refine wpS.tk 6 false (some 25) (.bool true) (yld_b (dt hc) (fun _ => by kernel_rfl)) ?_
    refine wpS.q 7 26 (.bool true) ?_
    refine wpS.fin rfl (kr11 _ _ (then_n (ks10 _ _ (wp_cond_t (by kernel_rfl) (xseq_k fun KS14 ks14 => (xregS [0, 1] fun KR15 kr15 => ?_))))))
    refine wpS.qs [(0, 8, .slice none 0 0), (1, 9, .int .i64 2)] ?_
    refine wpS.fin rfl (kr15 _ _ (then_n (ks14 _ _ (xret (then_r ?_)))))
    obtain ⟨q0, qr0⟩ := Prod.mk.inj (of_some h)
    have q1 := qr0
    subst q0
    subst q1
    have hs := hs.addNilL (CI .u8) 5
    exact qq _ _ (post_ret (by kernel_rfl) (run_results [.tmp 8, .tmp 9] [.slice none 0 0, .int .i64 2] (by kernel_rfl) (.cons (res_tmp (by kernel_rfl)) (.cons (res_tmp (by kernel_rfl)) .nil))) ⟨⟨none, 0, 0⟩, congrArg Ending.returned (by kernel_rfl), (hs.pickR pick_nil)⟩)
   refine wpS.tk 6 false (some 25) (.bool false) (yld_b (df hc) (fun _ => by kernel_rfl)) ?_
   refine wpS.q 7 26 (.bool false) ?_
   refine wpS.fin rfl (kr11 _ _ (then_n (ks10 _ _ (wp_cond_f (by kernel_rfl) (xskip (then_n (ks9 _ _ (xseq_k fun KS16 ks16 => (xregS [0, 1, 2, 3, 4, 5, 6, 7, 8, 9, 10] fun KR17 kr17 => ?_)))))))))
   refine wpS.qs [(0, 28, .slice a0_A a0_n a0_c), (1, 29, .slice a1_A a1_n a1_c), (2, 30, .slice a3_A a3_n a3_c)] ?_
   have hs := hs.pickR (pick_cons 0 rfl (pick_cons 1 rfl (pick_cons 3 rfl (pick_cons 2 rfl pick_nil))))
   obtain ⟨⟨r2, r3, r4⟩, hg, h⟩ := of_bind h
   refine wpS.only 3 (wpOp_call (d := (some 31)) (by kernel_rfl) (fun _ => by kernel_rfl) (ref12_stream_s.ok hg hs) ?_)
   rintro e w ⟨y5_A, y5_n, y5_c, y8_A, y8_n, y8_c, y11_A, y11_n, y11_c, rfl, hs⟩
   refine ⟨_, rfl, ?_⟩
   refine ⟨fun _ => trivial, ?_⟩
   refine wpS.qs [(4, 27, .tuple #[.slice y5_A y5_n y5_c, .slice y8_A y8_n y8_c, .slice y11_A y11_n y11_c]), (5, 32, .slice y5_A y5_n y5_c), (6, 33, .slice y8_A y8_n y8_c), (7, 34, .slice y11_A y11_n y11_c), (8, 10, .slice y5_A y5_n y5_c), (9, 11, .slice y8_A y8_n y8_c), (10, 12, .slice y11_A y11_n y11_c)] ?_
   refine wpS.fin rfl (kr17 _ _ (then_n (ks16 _ _ (xseq_k fun KS18 ks18 => (xregS [0, 1, 2, 3, 4, 5, 6, 7, 8] fun KR19 kr19 => ?_)))))
   refine wpS.qs [(0, 35, .slice y5_A y5_n y5_c), (1, 36, .slice y8_A y8_n y8_c), (2, 37, .slice y11_A y11_n y11_c), (3, 38, .slice a2_A a2_n a2_c), (4, 39, .slice y5_A y5_n y5_c)] ?_
   obtain ⟨r14, hg, h⟩ := of_bind h
   refine wpS.only 5 (op_callH (d := (some 40)) (by kernel_rfl) hs (fun _ => by kernel_rfl) (ref12_tag.ok hg _ (hs.rowR 1 rfl) (hs.rowR 0 rfl) (hs.rowR 5 rfl) (hs.rowL 0 rfl)) ?_)
   rintro ⟨r14_A, r14_n, r14_c⟩ w gw hs
   have hs := hs.conv (L' := [.ownL (CI .u8) r14_A r14_n r14_c r14 5, .ownL (CI .u8) y5_A y5_n y5_c r2 5]) rfl
   refine ⟨fun _ => trivial, ?_⟩
   obtain ⟨h0, h⟩ := of_chk h
   refine wpS.only 6 (op_appendT (C := (CI .u8)) (t := 26) (ty := 26) (e := 5) (bytes := 1) (B := 140737488355328) (d := (some 41)) (by kernel_rfl) hs 1 rfl (hs.rowL 0 rfl) (by kernel_rfl) (by kernel_rfl) (by kernel_rfl) (by kernel_rfl) (by kernel_rfl) h0 (by decide) (by decide) ?_)
   intro s15_A s15_n s15_c w hs
   refine ⟨fun _ => trivial, ?_⟩
   refine wpS.qs [(7, 8, .slice s15_A s15_n s15_c), (8, 9, .int .i64 0)] ?_
   refine wpS.fin rfl (kr19 _ _ (then_n (ks18 _ _ (xret ?_))))
   obtain ⟨q0, qr0⟩ := Prod.mk.inj (of_some h)
   have q1 := qr0
   subst q0
   subst q1
   exact qq _ _ (post_ret (by kernel_rfl) (run_results [.tmp 8, .tmp 9] [.slice s15_A s15_n s15_c, .int .i64 0] (by kernel_rfl) (.cons (res_tmp (by kernel_rfl)) (.cons (res_tmp (by kernel_rfl)) .nil))) ⟨⟨s15_A, s15_n, s15_c⟩, congrArg Ending.returned (by kernel_rfl), ((hs.drop (.cons _ (.cons_cons _ .slnil))).pickR pick_nil)⟩)
  refine wpS.tk 2 false (some 18) (.bool true) (yld_b (nt hc) (fun _ => by kernel_rfl)) ?_
  refine wpS.fin rfl (kr8 _ _ (then_n (ks7 _ _ (wp_cond_t (by kernel_rfl) (xseq_k fun KS20 ks20 => (xregS [0, 1] fun KR21 kr21 => ?_))))))
  refine wpS.qs [(0, 8, .slice none 0 0), (1, 9, .int .i64 14)] ?_
  refine wpS.fin rfl (kr21 _ _ (then_n (ks20 _ _ (xret (then_r ?_)))))
  obtain ⟨q0, qr0⟩ := Prod.mk.inj (of_some h)
  have q1 := qr0
  subst q0
  subst q1
  have hs := hs.addNilL (CI .u8) 5
  exact qq _ _ (post_ret (by kernel_rfl) (run_results [.tmp 8, .tmp 9] [.slice none 0 0, .int .i64 14] (by kernel_rfl) (.cons (res_tmp (by kernel_rfl)) (.cons (res_tmp (by kernel_rfl)) .nil))) ⟨⟨none, 0, 0⟩, congrArg Ending.returned (by kernel_rfl), (hs.pickR pick_nil)⟩)
 | false =>
  have h := of_if_f h
  refine wpS.only 1 (op_call (d := (some 14)) (by kernel_rfl) hs (fun _ => by kernel_rfl) (ref10_Sized.ok hg _ (hs.rowR 0 rfl)) ?_)
  intro w gw hs
  refine ⟨fun _ => trivial, ?_⟩
  refine wpS.q 2 15 (.bool true) ?_
  refine wpS.fin rfl (kr5 _ _ (then_n (ks4 _ _ (wp_cond_t (by kernel_rfl) (xseq_k fun KS22 ks22 => (xregS [0, 1] fun KR23 kr23 => ?_))))))
  refine wpS.qs [(0, 8, .slice none 0 0), (1, 9, .int .i64 10)] ?_
  refine wpS.fin rfl (kr23 _ _ (then_n (ks22 _ _ (xret (then_r ?_)))))
  obtain ⟨q0, qr0⟩ := Prod.mk.inj (of_some h)
  have q1 := qr0
  subst q0
  subst q1
  have hs := hs.addNilL (CI .u8) 5
  exact qq _ _ (post_ret (by kernel_rfl) (run_results [.tmp 8, .tmp 9] [.slice none 0 0, .int .i64 10] (by kernel_rfl) (.cons (res_tmp (by kernel_rfl)) (.cons (res_tmp (by kernel_rfl)) .nil))) ⟨⟨none, 0, 0⟩, congrArg Ending.returned (by kernel_rfl), (hs.pickR pick_nil)⟩)

theorem ref12_Open.ok {K : Nat} {a0 : List Int} {a1 : List Int} {a2 : List Int} {a3 : List Int} {r0 : List Int} {r1 : Int} {a0_A : Option Addr} {a0_n : Nat} {a0_c : Nat} {a1_A : Option Addr} {a1_n : Nat} {a1_c : Nat} {a2_A : Option Addr} {a2_n : Nat} {a2_c : Nat} {a3_A : Option Addr} {a3_n : Nat} {a3_c : Nat} (h : ref12_Open.f K a0 a1 a2 a3 = some (r0, r1)) (w0 : World) (hp0 : RowL (CI .u8) w0 a0_A a0_n a0_c a0) (hp1 : RowL (CI .u8) w0 a1_A a1_n a1_c a1) (hp2 : RowL (CI .u8) w0 a2_A a2_n a2_c a2) (hp3 : RowL (CI .u8) w0 a3_A a3_n a3_c a3) : Calls Try.prog 33 #[.slice a0_A a0_n a0_c, .slice a1_A a1_n a1_c, .slice a2_A a2_n a2_c, .slice a3_A a3_n a3_c] w0 fun e w' => ∃ h : (Option Addr × Nat × Nat), e = .returned (.tuple #[.slice h.1 h.2.1 h.2.2, .int .i64 r1]) ∧ St w0 [] [.ownL (CI .u8) h.1 h.2.1 h.2.2 r0 5] [] w' := by
 refine calls_k Try.func33 rfl fun Q qq => ?_
 have hs := St.startR (all_cons (RowP.ent hp0) (all_cons (RowP.ent hp1) (all_cons (RowP.ent hp2) (all_cons (RowP.ent hp3) all_nil))))
 refine wp_conv (a' := ⟨#[.slice a0_A a0_n a0_c, .slice a1_A a1_n a1_c, .slice a2_A a2_n a2_c, .slice a3_A a3_n a3_c, undef, undef, undef, undef, undef, undef, undef, undef, undef, undef, undef, undef, undef, undef, undef, undef, undef, undef, undef, undef, undef, undef, undef, undef, undef, undef, undef, undef, undef, undef, undef, undef, undef, undef, undef, undef, undef, undef, undef, undef, undef, undef, undef, undef, undef, undef, undef, undef, undef, undef, undef, undef, undef, undef, undef], []⟩) (by kernel_rfl) ?_
 refine xseq_k fun KS1 ks1 => ?_
 refine xregS [0, 1] fun KR2 kr2 => ?_
 refine wpS.qs [(0, 8, .slice none 0 0), (1, 9, .int .i64 0)] ?_
 refine wpS.fin rfl (kr2 _ _ (then_n (ks1 _ _ (xseq_k fun KS3 ks3 => (xseq_k fun KS4 ks4 => (xregS [0, 1, 2] fun KR5 kr5 => ?_))))))
 refine wpS.q 0 14 (.slice a0_A a0_n a0_c) ?_
 obtain ⟨r1, hg, h⟩ := of_bind h
 cases r1 with
 | true =>
  have h := of_if_t h
  refine wpS.only 1 (op_call (d := (some 15)) (by kernel_rfl) hs (fun _ => by kernel_rfl) (ref10_Sized.ok hg _ (hs.rowR 0 rfl)) ?_)
  intro w gw hs
  refine ⟨fun _ => trivial, ?_⟩
  refine wpS.q 2 16 (.bool false) ?_
  refine wpS.fin rfl (kr5 _ _ (then_n (ks4 _ _ (wp_cond_f (by kernel_rfl) (xskip (then_n (ks3 _ _ (xseq_k fun KS6 ks6 => (xseq_k fun KS7 ks7 => (xregS [0, 1, 2, 3, 4, 5, 6, 7] fun KR8 kr8 => ?_))))))))))
  refine wpS.q 0 17 (.slice a1_A a1_n a1_c) ?_
  refine wpS.tk 1 false (some 18) (.int .i64 (a1.length : Int)) (yld_lenL (hs.rowR 1 rfl) (fun _ => by kernel_rfl)) ?_
  rcases of_if h with ⟨hc, h⟩ | ⟨hc, h⟩
  ·refine wpS.tk 2 false (some 19) (.bool false) (yld_b (nf hc) (fun _ => by kernel_rfl)) ?_
   refine wpS.qs [(3, 20, .bool false), (4, 21, .slice a3_A a3_n a3_c)] ?_
   refine wpS.tk 5 false (some 22) (.int .i64 (a3.length : Int)) (yld_lenL (hs.rowR 3 rfl) (fun _ => by kernel_rfl)) ?_
   rcases of_if h with ⟨hc, h⟩ | ⟨hc, h⟩
   ·refine wpS.tk 6 false (some 23) (.bool true) (yld_b (dt hc) (fun _ => by kernel_rfl)) ?_
    refine wpS.q 7 24 (.bool true) ?_
    refine wpS.fin rfl (kr8 _ _ (then_n (ks7 _ _ (wp_cond_t (by kernel_rfl) (xseq_k fun KS9 ks9 => (xregS [0, 1] fun KR10 kr10 => ?_))))))
    refine wpS.qs [(0, 8, .slice none 0 0), (1, 9, .int .i64 14)] ?_
    refine wpS.fin rfl (kr10 _ _ (then_n (ks9 _ _ (xret (then_r ?_)))))
    obtain ⟨q0, qr0⟩ := Prod.mk.inj (of_some h)
    have q1 := qr0
    subst q0
    subst q1
    have hs := hs.addNilL (CI .u8) 5
    exact qq _ _ (post_ret (by kernel_rfl) (run_results [.tmp 8, .tmp 9] [.slice none 0 0, .int .i64 14] (by kernel_rfl) (.cons (res_tmp (by kernel_rfl)) (.cons (res_tmp (by kernel_rfl)) .nil))) ⟨⟨none, 0, 0⟩, congrArg Ending.returned (by kernel_rfl), (hs.pickR pick_nil)⟩)
   refine wpS.tk 6 false (some 23) (.bool false) (yld_b (df hc) (fun _ => by kernel_rfl)) ?_
   refine wpS.q 7 24 (.bool false) ?_
   refine wpS.fin rfl (kr8 _ _ (then_n (ks7 _ _ (wp_cond_f (by kernel_rfl) (xskip (then_n (ks6 _ _ (xseq_k fun KS11 ks11 => (xseq_k fun KS12 ks12 => (xregS [0, 1, 2, 3, 4, 5, 6, 7] fun KR13 kr13 => ?_))))))))))
   refine wpS.q 0 25 (.slice a2_A a2_n a2_c) ?_
   refine wpS.tk 1 false (some 26) (.int .i64 (a2.length : Int)) (yld_lenL (hs.rowR 2 rfl) (fun _ => by kernel_rfl)) ?_
   rcases of_if h with ⟨hc, h⟩ | ⟨hc, h⟩
   ·refine wpS.tk 2 false (some 27) (.bool true) (yld_b (dt hc) (fun _ => by kernel_rfl)) ?_
    refine wpS.qs [(3, 28, .bool true), (4, 29, undef), (5, 30, undef), (6, 31, undef), (7, 32, .bool true)] ?_
    refine wpS.fin rfl (kr13 _ _ (then_n (ks12 _ _ (wp_cond_t (by kernel_rfl) (xseq_k fun KS14 ks14 => (xregS [0, 1] fun KR15 kr15 => ?_))))))
    refine wpS.qs [(0, 8, .slice none 0 0), (1, 9, .int .i64 2)] ?_
    refine wpS.fin rfl (kr15 _ _ (then_n (ks14 _ _ (xret (then_r ?_)))))
    obtain ⟨q0, qr0⟩ := Prod.mk.inj (of_some h)
    have q1 := qr0
    subst q0
    subst q1
    have hs := hs.addNilL (CI .u8) 5
    exact qq _ _ (post_ret (by kernel_rfl) (run_results [.tmp 8, .tmp 9] [.slice none 0 0, .int .i64 2] (by kernel_rfl) (.cons (res_tmp (by kernel_rfl)) (.cons (res_tmp (by kernel_rfl)) .nil))) ⟨⟨none, 0, 0⟩, congrArg Ending.returned (by kernel_rfl), (hs.pickR pick_nil)⟩)
   refine wpS.tk 2 false (some 27) (.bool false) (yld_b (df hc) (fun _ => by kernel_rfl)) ?_
   refine wpS.qs [(3, 28, .bool false), (4, 29, .slice a3_A a3_n a3_c)] ?_
   refine wpS.tk 5 false (some 30) (.int .i64 (a3.length : Int)) (yld_lenL (hs.rowR 3 rfl) (fun _ => by kernel_rfl)) ?_
   rcases of_if h with ⟨hc, h⟩ | ⟨hc, h⟩
   ·refine wpS.tk 6 false (some 31) (.bool true) (yld_b (dt hc) (fun _ => by kernel_rfl)) ?_
    refine wpS.q 7 32 (.bool true) ?_
    refine wpS.fin rfl (kr13 _ _ (then_n (ks12 _ _ (wp_cond_t (by kernel_rfl) (xseq_k fun KS16 ks16 => (xregS [0, 1] fun KR17 kr17 => ?_))))))
    refine wpS.qs [(0, 8, .slice none 0 0), (1, 9, .int .i64 2)] ?_
    refine wpS.fin rfl (kr17 _ _ (then_n (ks16 _ _ (xret (then_r ?_)))))
    obtain ⟨q0, qr0⟩ := Prod.mk.inj (of_some h)
    have q1 := qr0
    subst q0
    subst q1
    have hs := hs.addNilL (CI .u8) 5
    exact qq _ _ (post_ret (by kernel_rfl) (run_results [.tmp 8, .tmp 9] [.slice none 0 0, .int .i64 2] (by kernel_rfl) (.cons (res_tmp (by kernel_rfl)) (.cons (res_tmp (by kernel_rfl)) .nil))) ⟨⟨none, 0, 0⟩, congrArg Ending.returned (by kernel_rfl), (hs.pickR pick_nil)⟩)
   refine wpS.tk 6 false (some 31) (.bool false) (yld_b (df hc) (fun _ => by kernel_rfl)) ?_
   refine wpS.q 7 32 (.bool false) ?_
   refine wpS.fin rfl (kr13 _ _ (then_n (ks12 _ _ (wp_cond_f (by kernel_rfl) (xskip (then_n (ks11 _ _ (xseq_k fun KS18 ks18 => (xregS [0, 1, 2, 3, 4, 5] fun KR19 kr19 => ?_)))))))))
   refine wpS.qs [(0, 33, .slice a3_A a3_n a3_c), (1, 34, .slice a3_A a3_n a3_c)] ?_
   refine wpS.tk 2 false (some 35) (.int .i64 (a3.length : Int)) (yld_lenL (hs.rowR 3 rfl) (fun _ => by kernel_rfl)) ?_
   refine wpS.q 3 36 (.int .i64 (isub .i64 (a3.length : Int) 16)) ?_
   obtain ⟨h0, h⟩ := of_chk h
   obtain ⟨h1, h⟩ := of_chk h
   obtain ⟨h2, h⟩ := of_chk h
   obtain ⟨s2_A, hA⟩ : ∃ A, A = if a3_c = (0 : Int).toNat then a3_A else adr a3_A ((0 : Int).toNat * Cod.size (CI .u8)) := ⟨_, rfl⟩
   obtain ⟨s2_n, hn⟩ : ∃ n, n = ((isub .i64 (a3.length : Int) 16) : Int).toNat - (0 : Int).toNat := ⟨_, rfl⟩
   obtain ⟨s2_c, hc⟩ : ∃ c, c = a3_c - (0 : Int).toNat := ⟨_, rfl⟩
   refine wpS.tk 4 false (some 37) (.slice s2_A s2_n s2_c) (yld_sub (C := (CI .u8)) (t := 26) (e := 5) (low := none) (high := some (.int .i64 (isub .i64 (a3.length : Int) 16))) (lo := 0) (hi := (isub .i64 (a3.length : Int) 16)) (hs.rowR 3 rfl) (by kernel_rfl) (by kernel_rfl) (by kernel_rfl) (.inl ⟨rfl, rfl⟩) (.inr ⟨_, rfl⟩) h0 h1 h2 hA hn hc) ?_
   have hs := hs.addSub (C := (CI .u8)) 3 rfl h0 h1 h2 hA hn hc
   refine wpS.q 5 10 (.slice s2_A s2_n s2_c) ?_
   refine wpS.fin rfl (kr19 _ _ (then_n (ks18 _ _ (xseq_k fun KS20 ks20 => (xregS [0, 1, 2, 3, 4, 5, 6, 7, 8, 9, 10] fun KR21 kr21 => ?_)))))
   refine wpS.qs [(0, 39, .slice a0_A a0_n a0_c), (1, 40, .slice a1_A a1_n a1_c), (2, 41, .slice s2_A s2_n s2_c)] ?_
   have hs := hs.pickR (pick_cons 1 rfl (pick_cons 2 rfl (pick_cons 0 rfl (pick_cons 3 rfl (pick_cons 4 rfl pick_nil)))))
   obtain ⟨⟨r3, r4, r5⟩, hg, h⟩ := of_bind h
   refine wpS.only 3 (wpOp_call (d := (some 42)) (by kernel_rfl) (fun _ => by kernel_rfl) (ref12_stream_s.ok hg hs) ?_)
   rintro e w ⟨y6_A, y6_n, y6_c, y9_A, y9_n, y9_c, y12_A, y12_n, y12_c, rfl, hs⟩
   refine ⟨_, rfl, ?_⟩
   refine ⟨fun _ => trivial, ?_⟩
   refine wpS.qs [(4, 38, .tuple #[.slice y6_A y6_n y6_c, .slice y9_A y9_n y9_c, .slice y12_A y12_n y12_c]), (5, 43, .slice y6_A y6_n y6_c), (6, 44, .slice y9_A y9_n y9_c), (7, 45, .slice y12_A y12_n y12_c), (8, 11, .slice y6_A y6_n y6_c), (9, 12, .slice y9_A y9_n y9_c), (10, 13, .slice y12_A y12_n y12_c)] ?_
   refine wpS.fin rfl (kr21 _ _ (then_n (ks20 _ _ (xseq_k fun KS22 ks22 => (xseq_k fun KS23 ks23 => ?_)))))
   refine wp_regG [] (fun k => True) 12 (by kernel_rfl) (by kernel_rfl) (by kernel_rfl) fun KR24 kr24 => ?_
   have hs := hs.drawn1
   refine wpG.q 0 46 (.slice y9_A y9_n y9_c) ?_
   refine wpG.q 1 47 (.slice y12_A y12_n y12_c) ?_
   refine wpG.q 2 48 (.slice a2_A a2_n a2_c) ?_
   refine wpG.q 3 49 (.slice s2_A s2_n s2_c) ?_
   refine wpG.q 5 51 (.slice a3_A a3_n a3_c) ?_
   refine wpG.q 6 52 (.slice a3_A a3_n a3_c) ?_
   refine wpG.tD 7 false (some 53) (.int .i64 (a3.length : Int)) (yld_lenL (hs.rowR 6 rfl) (fun _ => by kernel_rfl)) ?_
   refine wpG.q 8 54 (.int .i64 (isub .i64 (a3.length : Int) 16)) ?_
   obtain ⟨h0, h⟩ := of_chk h
   obtain ⟨h1, h⟩ := of_chk h
   obtain ⟨h2, h⟩ := of_chk h
   obtain ⟨s15_A, hA⟩ : ∃ A, A = if a3_c = ((isub .i64 (a3.length : Int) 16) : Int).toNat then a3_A else adr a3_A (((isub .i64 (a3.length : Int) 16) : Int).toNat * Cod.size (CI .u8)) := ⟨_, rfl⟩
   obtain ⟨s15_n, hn⟩ : ∃ n, n = ((a3.length : Int) : Int).toNat - ((isub .i64 (a3.length : Int) 16) : Int).toNat := ⟨_, rfl⟩
   obtain ⟨s15_c, hc⟩ : ∃ c, c = a3_c - ((isub .i64 (a3.length : Int) 16) : Int).toNat := ⟨_, rfl⟩
   refine wpG.tD 9 false (some 55) (.slice s15_A s15_n s15_c) (yld_sub (C := (CI .u8)) (t := 26) (e := 5) (low := some (.int .i64 (isub .i64 (a3.length : Int) 16))) (high := none) (lo := (isub .i64 (a3.length : Int) 16)) (hi := (a3.length : Int)) (hs.rowR 6 rfl) (by kernel_rfl) (by kernel_rfl) (by kernel_rfl) (.inr ⟨_, rfl⟩) (.inl ⟨rfl, rfl⟩) h0 h1 h2 hA hn hc) ?_
   have hs := hs.addSub (C := (CI .u8)) 6 rfl h0 h1 h2 hA hn hc
   obtain ⟨r16, hg, h⟩ := of_bind h
   refine wpG.only 4 (by kernel_rfl) (op_callH (d := (some 50)) (by kernel_rfl) hs (fun _ => by kernel_rfl) (ref12_tag.ok hg _ (hs.rowR 2 rfl) (hs.rowR 1 rfl) (hs.rowR 6 rfl) (hs.rowR 5 rfl)) ?_)
   rintro ⟨r16_A, r16_n, r16_c⟩ w gw hs
   have hs := hs.conv (L' := [.ownL (CI .u8) r16_A r16_n r16_c r16 5, .ownL (CI .u8) y6_A y6_n y6_c r3 5]) rfl
   refine ⟨.of gw, ?_⟩
   obtain ⟨r17, hg, h⟩ := of_bind h
   cases r17 with
   | true =>
    have h := of_if_t h
    refine wpG.only 10 (by kernel_rfl) (op_call (d := (some 56)) (by kernel_rfl) hs (fun _ => by kernel_rfl) (ref01_Same.ok hg _ (hs.rowL 0 rfl) (hs.rowR 0 rfl)) ?_)
    intro w gw hs
    refine ⟨.of gw, ?_⟩
    refine wpG.q 11 57 (.bool false) ?_
    refine wpG.fin (by kernel_rfl) rfl (kr24 _ _ ?_)
    refine then_n (ks23 _ _ (wp_cond_f (by kernel_rfl) (xskip (then_n (ks22 _ _ (xseq_k fun KS25 ks25 => (xregS [0, 1, 2] fun KR26 kr26 => ?_)))))))
    refine wpS.qs [(0, 58, .slice y6_A y6_n y6_c), (1, 8, .slice y6_A y6_n y6_c), (2, 9, .int .i64 0)] ?_
    refine wpS.fin rfl (kr26 _ _ (then_n (ks25 _ _ (xret ?_))))
    obtain ⟨q0, qr0⟩ := Prod.mk.inj (of_some h)
    have q1 := qr0
    subst q0
    subst q1
    exact qq _ _ (post_ret (by kernel_rfl) (run_results [.tmp 8, .tmp 9] [.slice y6_A y6_n y6_c, .int .i64 0] (by kernel_rfl) (.cons (res_tmp (by kernel_rfl)) (.cons (res_tmp (by kernel_rfl)) .nil))) ⟨⟨y6_A, y6_n, y6_c⟩, congrArg Ending.returned (by kernel_rfl), ((hs.drop (.cons _ (.cons_cons _ .slnil))).pickR pick_nil)⟩)
   | false =>
    have h := of_if_f h
    refine wpG.only 10 (by kernel_rfl) (op_call (d := (some 56)) (by kernel_rfl) hs (fun _ => by kernel_rfl) (ref01_Same.ok hg _ (hs.rowL 0 rfl) (hs.rowR 0 rfl)) ?_)
    intro w gw hs
    refine ⟨.of gw, ?_⟩
    refine wpG.q 11 57 (.bool true) ?_
    refine wpG.fin (by kernel_rfl) rfl (kr24 _ _ ?_)
    refine then_n (ks23 _ _ (wp_cond_t (by kernel_rfl) (xseq_k fun KS27 ks27 => (xregS [0, 1] fun KR28 kr28 => ?_))))
    refine wpS.qs [(0, 8, .slice none 0 0), (1, 9, .int .i64 17)] ?_
    refine wpS.fin rfl (kr28 _ _ (then_n (ks27 _ _ (xret (then_r ?_)))))
    obtain ⟨q0, qr0⟩ := Prod.mk.inj (of_some h)
    have q1 := qr0
    subst q0
    subst q1
    have hs := hs.addNilL (CI .u8) 5
    exact qq _ _ (post_ret (by kernel_rfl) (run_results [.tmp 8, .tmp 9] [.slice none 0 0, .int .i64 17] (by kernel_rfl) (.cons (res_tmp (by kernel_rfl)) (.cons (res_tmp (by kernel_rfl)) .nil))) ⟨⟨none, 0, 0⟩, congrArg Ending.returned (by kernel_rfl), ((hs.drop (.cons_cons _ (.cons _ (.cons _ .slnil)))).pickR pick_nil)⟩)
  refine wpS.tk 2 false (some 19) (.bool true) (yld_b (nt hc) (fun _ => by kernel_rfl)) ?_
  refine wpS.qs [(3, 20, .bool true), (4, 21, undef), (5, 22, undef), (6, 23, undef), (7, 24, .bool true)] ?_
  refine wpS.fin rfl (kr8 _ _ (then_n (ks7 _ _ (wp_cond_t (by kernel_rfl) (xseq_k fun KS29 ks29 => (xregS [0, 1] fun KR30 kr30 => ?_))))))
  refine wpS.qs [(0, 8, .slice none 0 0), (1, 9, .int .i64 14)] ?_
  refine wpS.fin rfl (kr30 _ _ (then_n (ks29 _ _ (xret (then_r ?_)))))
  obtain ⟨q0, qr0⟩ := Prod.mk.inj (of_some h)
  have q1 := qr0
  subst q0
  subst q1
  have hs := hs.addNilL (CI .u8) 5
  exact qq _ _ (post_ret (by kernel_rfl) (run_results [.tmp 8, .tmp 9] [.slice none 0 0, .int .i64 14] (by kernel_rfl) (.cons (res_tmp (by kernel_rfl)) (.cons (res_tmp (by kernel_rfl)) .nil))) ⟨⟨none, 0, 0⟩, congrArg Ending.returned (by kernel_rfl), (hs.pickR pick_nil)⟩)
 | false =>
  have h := of_if_f h
  refine wpS.only 1 (op_call (d := (some 15)) (by kernel_rfl) hs (fun _ => by kernel_rfl) (ref10_Sized.ok hg _ (hs.rowR 0 rfl)) ?_)
  intro w gw hs
  refine ⟨fun _ => trivial, ?_⟩
  refine wpS.q 2 16 (.bool true) ?_
  refine wpS.fin rfl (kr5 _ _ (then_n (ks4 _ _ (wp_cond_t (by kernel_rfl) (xseq_k fun KS31 ks31 => (xregS [0, 1] fun KR32 kr32 => ?_))))))
  refine wpS.qs [(0, 8, .slice none 0 0), (1, 9, .int .i64 10)] ?_
  refine wpS.fin rfl (kr32 _ _ (then_n (ks31 _ _ (xret (then_r ?_)))))
  obtain ⟨q0, qr0⟩ := Prod.mk.inj (of_some h)
  have q1 := qr0
  subst q0
  subst q1
  have hs := hs.addNilL (CI .u8) 5
  exact qq _ _ (post_ret (by kernel_rfl) (run_results [.tmp 8, .tmp 9] [.slice none 0 0, .int .i64 10] (by kernel_rfl) (.cons (res_tmp (by kernel_rfl)) (.cons (res_tmp (by kernel_rfl)) .nil))) ⟨⟨none, 0, 0⟩, congrArg Ending.returned (by kernel_rfl), (hs.pickR pick_nil)⟩)
end Go.Proofs.Ytmpagpbnpgcecaa
