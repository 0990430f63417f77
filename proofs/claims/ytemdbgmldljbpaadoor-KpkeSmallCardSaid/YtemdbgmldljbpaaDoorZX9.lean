/- Printed by this work's own program: the code of each function below comes to the answer that its plain form tells. -/
import Derived.Test.YtemdbgmldljbpaaDoorMf
import Derived.Test.YtemdbgmldljbpaaDoorProg
import Derived.Test.YtemdbgmldljbpaaDoorZF0
import Derived.Test.YtemdbgmldljbpaaDoorZX1
import Derived.Test.YtemdbgmldljbpaaDoorZX2
import Derived.Test.YtemdbgmldljbpaaDoorZX3
import Derived.Test.YtemdbgmldljbpaaDoorZX4
import Derived.Test.YtemdbgmldljbpaaDoorZX5
import Derived.Test.YtemdbgmldljbpaaDoorZX6
import Derived.Test.YtemdbgmldljbpaaDoorZX7
import Derived.Test.YtemdbgmldljbpaaDoorZX8
set_option linter.unusedVariables false
set_option linter.unusedSimpArgs false
set_option maxRecDepth 100000
set_option maxHeartbeats 4000000
namespace Go.Proofs.YtemdbgmldljbpaaDoor
open Go.Mx
attribute [local irreducible] wpOp

theorem kpke_Keys.ok {K : Nat} {a0_0 : Int} {a0_1 : Int} {a0_2 : Int} {a0_3 : Int} {a0_4 : Int} {a1 : List Int} {r0 : List Int} {r1 : List Int} {r2 : Int} {a1_A : Option Addr} {a1_n : Nat} {a1_c : Nat} (h : kpke_Keys.f K a0_0 a0_1 a0_2 a0_3 a0_4 a1 = some (r0, r1, r2)) (w0 : World) (hp1 : RowL (CI .u8) w0 a1_A a1_n a1_c a1) (hg0 : RowL (CA .u64 24 (by decide)) w0 (some ⟨0, 0, none⟩) 1 1 [tab_0]) (hg1 : RowL (CA .i64 24 (by decide)) w0 (some ⟨1, 0, none⟩) 1 1 [tab_1]) (hg2 : RowL (CA .i64 24 (by decide)) w0 (some ⟨2, 0, none⟩) 1 1 [tab_2]) : Calls Tryd.prog 19 #[.agg #[.int .i64 a0_0, .int .i64 a0_1, .int .i64 a0_2, .int .i64 a0_3, .int .i64 a0_4], .slice a1_A a1_n a1_c] w0 fun e w' => ∃ h : (Option Addr × Nat × Nat) × (Option Addr × Nat × Nat), e = .returned (.tuple #[.slice h.1.1 h.1.2.1 h.1.2.2, .slice h.2.1 h.2.2.1 h.2.2.2, .int .i64 r2]) ∧ St w0 [] [.ownL (CI .u8) h.1.1 h.1.2.1 h.1.2.2 r0 5, .ownL (CI .u8) h.2.1 h.2.2.1 h.2.2.2 r1 5] [] w' := by
 refine calls_k Tryd.func19 rfl fun Q qq => ?_
 have hs := St.startR (all_cons (RowP.ent hp1) (all_cons (RowP.ent hg0) (all_cons (RowP.ent hg1) (all_cons (RowP.ent hg2) all_nil))))
 refine wp_conv (a' := ⟨#[.agg #[.int .i64 a0_0, .int .i64 a0_1, .int .i64 a0_2, .int .i64 a0_3, .int .i64 a0_4], .slice a1_A a1_n a1_c, undef, undef, undef, undef, undef, undef, undef, undef, undef, undef, undef, undef, undef, undef, undef, undef, undef, undef, undef, undef, undef, undef, undef, undef, undef, undef, undef, undef, undef, undef, undef, undef, undef, undef, undef, undef, undef, undef, undef, undef, undef, undef, undef, undef, undef, undef, undef, undef, undef, undef, undef, undef, undef, undef, undef, undef, undef, undef, undef, undef, undef, undef, undef, undef, undef, undef, undef, undef, undef, undef, undef, undef, undef, undef, undef, undef, undef, undef, undef, undef, undef, undef, undef, undef, undef, undef, undef, undef, undef, undef, undef], []⟩) (by kernel_rfl) ?_
 refine xseq_k fun KS1 ks1 => ?_
 refine xregS [0, 1, 2, 3] fun KR2 kr2 => ?_
 refine wpS.only 0 (op_box (t := 23) (v := .agg #[.int .i64 a0_0, .int .i64 a0_1, .int .i64 a0_2, .int .i64 a0_3, .int .i64 a0_4]) (d := (some 2)) (by kernel_rfl) hs ([.int .i64 a0_0, .int .i64 a0_1, .int .i64 a0_2, .int .i64 a0_3, .int .i64 a0_4]) (by kernel_rfl) (by kernel_rfl) ?_)
 intro b1 w gw hs
 refine ⟨fun _ => trivial, ?_⟩
 refine wpS.qs [(1, 4, .slice none 0 0), (2, 5, .slice none 0 0), (3, 6, .int .i64 0)] ?_
 refine wpS.fin rfl (kr2 _ _ (then_n (ks1 _ _ (xseq_k fun KS3 ks3 => (xblock (xseq_k fun KS4 ks4 => (xregS [0, 1, 2, 3] fun KR5 kr5 => ?_)))))))
 refine wpS.tk 0 true (some 18) (.agg #[.int .i64 a0_0, .int .i64 a0_1, .int .i64 a0_2, .int .i64 a0_3, .int .i64 a0_4]) (yld_loadW (e := 23) (n := 5) hs 0 rfl (by kernel_rfl) (by kernel_rfl) (by kernel_rfl) (by simp [enc_len]) .grow) ?_
 obtain ⟨r2, hg, h⟩ := of_bind h
 cases r2 with
 | true =>
  have h := of_if_t h
  refine wpS.only 1 (op_call (d := (some 19)) (by kernel_rfl) hs (fun _ => by kernel_rfl) (kpke_known.ok hg _) ?_)
  intro w gw hs
  refine ⟨fun _ => trivial, ?_⟩
  refine wpS.qs [(2, 20, .bool false), (3, 17, .bool false)] ?_
  refine wpS.fin rfl (kr5 _ _ (then_n (ks4 _ _ (wp_cond_f (by kernel_rfl) (xseq_k fun KS6 ks6 => (xregS [0, 1, 2, 3] fun KR7 kr7 => ?_))))))
  refine wpS.q 0 22 (.slice a1_A a1_n a1_c) ?_
  refine wpS.tk 1 false (some 23) (.int .i64 (a1.length : Int)) (yld_lenL (hs.rowR 0 rfl) (fun _ => by kernel_rfl)) ?_
  rcases of_if h with ⟨hc, h⟩ | ⟨hc, h⟩
  ·refine wpS.tk 2 false (some 24) (.bool false) (yld_b (nf hc) (fun _ => by kernel_rfl)) ?_
   refine wpS.q 3 21 (.bool false) ?_
   refine wpS.fin rfl (kr7 _ _ (then_n (ks6 _ _ (wp_cond_f (by kernel_rfl) (xskip (inBlock_n (then_n (ks3 _ _ (xseq_k fun KS8 ks8 => (xregS [0, 1, 2, 3, 4, 5, 6, 7, 8, 9, 10, 11, 12] fun KR9 kr9 => ?_))))))))))
   refine wpS.qs [(0, 26, .slice a1_A a1_n a1_c), (1, 27, .pointer (some ⟨b1, 0, none⟩))] ?_
   refine wpS.tk 2 true (some 28) (.int .i64 a0_0) (yld_load1 (e := 3) (o := 0) hs 0 rfl (by kernel_rfl) (by kernel_rfl) (by rfl) .grow) ?_
   refine wpS.q 3 29 (.int .u8 (iconv .u8 a0_0)) ?_
   refine wpS.only 4 (op_lit (C := (CI .u8)) (t := 24) (e := 5) (len := 1) (parts := #[(0, .int .u8 (iconv .u8 a0_0))]) (l := [(iconv .u8 a0_0)]) (d := (some 30)) (by kernel_rfl) hs (by kernel_rfl) (by kernel_rfl) (by kernel_rfl) (z := .int .u8 0) (by kernel_rfl) rfl (by decide) (by decide) (by kernel_rfl) ?_)
   intro s3_A s3_n s3_c w gw hs
   refine ⟨fun _ => trivial, ?_⟩
   refine wpS.only 5 (op_lit (C := CS) (t := 59) (e := 24) (len := 2) (parts := #[(0, .slice a1_A a1_n a1_c), (1, .slice s3_A s3_n s3_c)]) (l := ([(a1_A, a1_n, a1_c), (s3_A, s3_n, s3_c)] : List HS)) (d := (some 31)) (by kernel_rfl) hs (by kernel_rfl) (by kernel_rfl) (by kernel_rfl) (z := .slice none 0 0) (by kernel_rfl) rfl (by decide) (by decide) (by kernel_rfl) ?_)
   intro s4_A s4_n s4_c w gw hs
   refine ⟨fun _ => trivial, ?_⟩
   obtain ⟨r5, hg, h⟩ := of_bind h
   refine wpS.only 6 (op_callH (d := (some 32)) (by kernel_rfl) hs (fun _ => by kernel_rfl) (bits_Join.ok hg _ (LLP.mk (hs.rowL 0 rfl) (inn_cons (hs.rowR 0 rfl) (inn_cons (hs.rowL 1 rfl) inn_nil)))) ?_)
   rintro ⟨r5_A, r5_n, r5_c⟩ w gw hs
   have hs := hs.conv (L' := [.ownL (CI .u8) r5_A r5_n r5_c r5 5, .ownL CS s4_A s4_n s4_c ([(a1_A, a1_n, a1_c), (s3_A, s3_n, s3_c)] : List HS) 24, .ownL (CI .u8) s3_A s3_n s3_c ([(iconv .u8 a0_0)] : List Int) 5, .blk b1 ([.int .i64 a0_0, .int .i64 a0_1, .int .i64 a0_2, .int .i64 a0_3, .int .i64 a0_4]) 23]) rfl
   refine ⟨fun _ => trivial, ?_⟩
   obtain ⟨⟨r6, r7⟩, hg, h⟩ := of_bind h
   refine wpS.only 7 (op_callH (d := (some 33)) (by kernel_rfl) hs (fun _ => by kernel_rfl) (keccak_Sum.ok hg _ (hs.rowL 0 rfl) (hs.rowR 1 rfl) (hs.rowR 2 rfl) (hs.rowR 3 rfl)) ?_)
   rintro ⟨r6_A, r6_n, r6_c⟩ w gw hs
   have hs := hs.conv (L' := [.ownL (CI .u8) r6_A r6_n r6_c r6 5, .ownL (CI .u8) r5_A r5_n r5_c r5 5, .ownL CS s4_A s4_n s4_c ([(a1_A, a1_n, a1_c), (s3_A, s3_n, s3_c)] : List HS) 24, .ownL (CI .u8) s3_A s3_n s3_c ([(iconv .u8 a0_0)] : List Int) 5, .blk b1 ([.int .i64 a0_0, .int .i64 a0_1, .int .i64 a0_2, .int .i64 a0_3, .int .i64 a0_4]) 23]) rfl
   refine ⟨fun _ => trivial, ?_⟩
   refine wpS.qs [(8, 25, .tuple #[.slice r6_A r6_n r6_c, .int .i64 r7]), (9, 34, .slice r6_A r6_n r6_c), (10, 35, .int .i64 r7), (11, 7, .slice r6_A r6_n r6_c), (12, 8, .int .i64 r7)] ?_
   refine wpS.fin rfl (kr9 _ _ (then_n (ks8 _ _ (xseq_k fun KS10 ks10 => ?_))))
   refine wp_regG [] (fun k => True) 6 (by kernel_rfl) (by kernel_rfl) (by kernel_rfl) fun KR11 kr11 => ?_
   have hs := hs.drawn1
   refine wpG.q 0 36 (.slice r6_A r6_n r6_c) ?_
   have hs := hs.freeze 0 rfl
   obtain ⟨h0, h⟩ := of_chk h
   obtain ⟨h1, h⟩ := of_chk h
   obtain ⟨h2, h⟩ := of_chk h
   obtain ⟨s8_A, hA⟩ : ∃ A, A = if r6_c = (0 : Int).toNat then r6_A else adr r6_A ((0 : Int).toNat * Cod.size (CI .u8)) := ⟨_, rfl⟩
   obtain ⟨s8_n, hn⟩ : ∃ n, n = (32 : Int).toNat - (0 : Int).toNat := ⟨_, rfl⟩
   obtain ⟨s8_c, hc⟩ : ∃ c, c = r6_c - (0 : Int).toNat := ⟨_, rfl⟩
   refine wpG.tD 1 false (some 37) (.slice s8_A s8_n s8_c) (yld_sub (C := (CI .u8)) (t := 24) (e := 5) (low := none) (high := some (.int .i64 32)) (lo := 0) (hi := 32) (hs.rowR 0 rfl) (by kernel_rfl) (by kernel_rfl) (by kernel_rfl) (.inl ⟨rfl, rfl⟩) (.inr ⟨_, rfl⟩) h0 h1 h2 hA hn hc) ?_
   have hs := hs.addSub (C := (CI .u8)) 0 rfl h0 h1 h2 hA hn hc
   refine wpG.q 2 38 (.slice r6_A r6_n r6_c) ?_
   obtain ⟨h0, h⟩ := of_chk h
   obtain ⟨h1, h⟩ := of_chk h
   obtain ⟨h2, h⟩ := of_chk h
   obtain ⟨s9_A, hA⟩ : ∃ A, A = if r6_c = (32 : Int).toNat then r6_A else adr r6_A ((32 : Int).toNat * Cod.size (CI .u8)) := ⟨_, rfl⟩
   obtain ⟨s9_n, hn⟩ : ∃ n, n = ((r6.length : Int) : Int).toNat - (32 : Int).toNat := ⟨_, rfl⟩
   obtain ⟨s9_c, hc⟩ : ∃ c, c = r6_c - (32 : Int).toNat := ⟨_, rfl⟩
   refine wpG.tD 3 false (some 39) (.slice s9_A s9_n s9_c) (yld_sub (C := (CI .u8)) (t := 24) (e := 5) (low := some (.int .i64 32)) (high := none) (lo := 32) (hi := (r6.length : Int)) (hs.rowR 1 rfl) (by kernel_rfl) (by kernel_rfl) (by kernel_rfl) (.inr ⟨_, rfl⟩) (.inl ⟨rfl, rfl⟩) h0 h1 h2 hA hn hc) ?_
   have hs := hs.addSub (C := (CI .u8)) 1 rfl h0 h1 h2 hA hn hc
   refine wpG.q 4 9 (.slice s8_A s8_n s8_c) ?_
   refine wpG.q 5 10 (.slice s9_A s9_n s9_c) ?_
   refine wpG.fin (by kernel_rfl) rfl (kr11 _ _ ?_)
   refine then_n (ks10 _ _ (xseq_k fun KS12 ks12 => (xregS [0, 1, 2, 3, 4, 5, 6, 7] fun KR13 kr13 => ?_)))
   refine wpS.tk 0 true (some 41) (.agg #[.int .i64 a0_0, .int .i64 a0_1, .int .i64 a0_2, .int .i64 a0_3, .int .i64 a0_4]) (yld_loadW (e := 23) (n := 5) hs 3 rfl (by kernel_rfl) (by kernel_rfl) (by kernel_rfl) (by simp [enc_len]) .grow) ?_
   refine wpS.q 1 42 (.slice s8_A s8_n s8_c) ?_
   have hs := hs.pickR (pick_cons 1 rfl (pick_cons 4 rfl (pick_cons 5 rfl (pick_cons 6 rfl (pick_cons 0 rfl (pick_cons 2 rfl (pick_cons 3 rfl pick_nil)))))))
   obtain ⟨⟨r10, r11⟩, hg, h⟩ := of_bind h
   refine wpS.only 2 (wpOp_call (d := (some 43)) (by kernel_rfl) (fun _ => by kernel_rfl) (kpke_expanded_s2.ok hg hs) ?_)
   rintro e w ⟨y12_A, y12_n, y12_c, y12_H, rfl, hs⟩
   refine ⟨_, rfl, ?_⟩
   refine ⟨fun _ => trivial, ?_⟩
   refine wpS.qs [(3, 40, .tuple #[.slice y12_A y12_n y12_c, .int .i64 r11]), (4, 44, .slice y12_A y12_n y12_c), (5, 45, .int .i64 r11), (6, 11, .slice y12_A y12_n y12_c), (7, 6, .int .i64 r11)] ?_
   refine wpS.fin rfl (kr13 _ _ (then_n (ks12 _ _ (xseq_k fun KS14 ks14 => (xseq_k fun KS15 ks15 => (xregS [0, 1] fun KR16 kr16 => ?_))))))
   refine wpS.q 0 46 (.int .i64 r11) ?_
   rcases of_if h with ⟨hc, h⟩ | ⟨hc, h⟩
   ·refine wpS.tk 1 false (some 47) (.bool false) (yld_b (nf hc) (fun _ => by kernel_rfl)) ?_
    refine wpS.fin rfl (kr16 _ _ (then_n (ks15 _ _ (wp_cond_f (by kernel_rfl) (xskip (then_n (ks14 _ _ (xseq_k fun KS17 ks17 => (xregS [0, 1, 2, 3, 4, 5, 6, 7] fun KR18 kr18 => ?_)))))))))
    refine wpS.q 0 49 (.pointer (some ⟨b1, 0, none⟩)) ?_
    refine wpS.tk 1 true (some 50) (.int .i64 a0_0) (yld_load1 (e := 3) (o := 0) hs 4 rfl (by kernel_rfl) (by kernel_rfl) (by rfl) .grow) ?_
    refine wpS.q 2 51 (.pointer (some ⟨b1, 1, none⟩)) ?_
    refine wpS.tk 3 true (some 52) (.int .i64 a0_1) (yld_load1 (e := 3) (o := 1) hs 4 rfl (by kernel_rfl) (by kernel_rfl) (by rfl) .grow) ?_
    refine wpS.q 4 53 (.slice s9_A s9_n s9_c) ?_
    obtain ⟨r16, hg, h⟩ := of_bind h
    refine wpS.only 5 (op_callH (d := (some 54)) (by kernel_rfl) hs (fun _ => by kernel_rfl) (kpke_noises.ok hg _ (hs.rowR 5 rfl) (hs.rowR 2 rfl) (hs.rowR 3 rfl) (hs.rowR 4 rfl)) ?_)
    rintro ⟨r16_A, r16_n, r16_c⟩ w gw hs
    have hs := hs.conv (L' := [.ownL (CA .i32 256 (by decide)) r16_A r16_n r16_c r16 32, .ownL CS y12_A y12_n y12_c y12_H 78, .ownL (CI .u8) r5_A r5_n r5_c r5 5, .ownL CS s4_A s4_n s4_c ([(a1_A, a1_n, a1_c), (s3_A, s3_n, s3_c)] : List HS) 24, .ownL (CI .u8) s3_A s3_n s3_c ([(iconv .u8 a0_0)] : List Int) 5, .blk b1 ([.int .i64 a0_0, .int .i64 a0_1, .int .i64 a0_2, .int .i64 a0_3, .int .i64 a0_4]) 23]) rfl
    refine ⟨fun _ => trivial, ?_⟩
    obtain ⟨r17, hg, h⟩ := of_bind h
    refine wpS.only 6 (op_callH (d := (some 55)) (by kernel_rfl) hs (fun _ => by kernel_rfl) (kpke_vector_parts.ok hg _ (hs.rowL 0 rfl)) ?_)
    rintro ⟨r17_A, r17_n, r17_c⟩ w gw hs
    have hs := hs.conv (L' := [.ownL (CA .i32 256 (by decide)) r17_A r17_n r17_c r17 32, .ownL (CA .i32 256 (by decide)) r16_A r16_n r16_c r16 32, .ownL CS y12_A y12_n y12_c y12_H 78, .ownL (CI .u8) r5_A r5_n r5_c r5 5, .ownL CS s4_A s4_n s4_c ([(a1_A, a1_n, a1_c), (s3_A, s3_n, s3_c)] : List HS) 24, .ownL (CI .u8) s3_A s3_n s3_c ([(iconv .u8 a0_0)] : List Int) 5, .blk b1 ([.int .i64 a0_0, .int .i64 a0_1, .int .i64 a0_2, .int .i64 a0_3, .int .i64 a0_4]) 23]) rfl
    refine ⟨fun _ => trivial, ?_⟩
    refine wpS.q 7 12 (.slice r17_A r17_n r17_c) ?_
    refine wpS.fin rfl (kr18 _ _ (then_n (ks17 _ _ (xseq_k fun KS19 ks19 => (xregS [0, 1, 2, 3, 4, 5, 6, 7, 8, 9] fun KR20 kr20 => ?_)))))
    refine wpS.q 0 56 (.pointer (some ⟨b1, 0, none⟩)) ?_
    refine wpS.tk 1 true (some 57) (.int .i64 a0_0) (yld_load1 (e := 3) (o := 0) hs 6 rfl (by kernel_rfl) (by kernel_rfl) (by rfl) .grow) ?_
    refine wpS.q 2 58 (.pointer (some ⟨b1, 1, none⟩)) ?_
    refine wpS.tk 3 true (some 59) (.int .i64 a0_1) (yld_load1 (e := 3) (o := 1) hs 6 rfl (by kernel_rfl) (by kernel_rfl) (by rfl) .grow) ?_
    refine wpS.qs [(4, 60, .slice s9_A s9_n s9_c), (5, 61, .pointer (some ⟨b1, 0, none⟩))] ?_
    refine wpS.tk 6 true (some 62) (.int .i64 a0_0) (yld_load1 (e := 3) (o := 0) hs 6 rfl (by kernel_rfl) (by kernel_rfl) (by rfl) .grow) ?_
    obtain ⟨r18, hg, h⟩ := of_bind h
    refine wpS.only 7 (op_callH (d := (some 63)) (by kernel_rfl) hs (fun _ => by kernel_rfl) (kpke_noises.ok hg _ (hs.rowR 5 rfl) (hs.rowR 2 rfl) (hs.rowR 3 rfl) (hs.rowR 4 rfl)) ?_)
    rintro ⟨r18_A, r18_n, r18_c⟩ w gw hs
    have hs := hs.conv (L' := [.ownL (CA .i32 256 (by decide)) r18_A r18_n r18_c r18 32, .ownL (CA .i32 256 (by decide)) r17_A r17_n r17_c r17 32, .ownL (CA .i32 256 (by decide)) r16_A r16_n r16_c r16 32, .ownL CS y12_A y12_n y12_c y12_H 78, .ownL (CI .u8) r5_A r5_n r5_c r5 5, .ownL CS s4_A s4_n s4_c ([(a1_A, a1_n, a1_c), (s3_A, s3_n, s3_c)] : List HS) 24, .ownL (CI .u8) s3_A s3_n s3_c ([(iconv .u8 a0_0)] : List Int) 5, .blk b1 ([.int .i64 a0_0, .int .i64 a0_1, .int .i64 a0_2, .int .i64 a0_3, .int .i64 a0_4]) 23]) rfl
    refine ⟨fun _ => trivial, ?_⟩
    obtain ⟨r19, hg, h⟩ := of_bind h
    refine wpS.only 8 (op_callH (d := (some 64)) (by kernel_rfl) hs (fun _ => by kernel_rfl) (kpke_vector_parts.ok hg _ (hs.rowL 0 rfl)) ?_)
    rintro ⟨r19_A, r19_n, r19_c⟩ w gw hs
    have hs := hs.conv (L' := [.ownL (CA .i32 256 (by decide)) r19_A r19_n r19_c r19 32, .ownL (CA .i32 256 (by decide)) r18_A r18_n r18_c r18 32, .ownL (CA .i32 256 (by decide)) r17_A r17_n r17_c r17 32, .ownL (CA .i32 256 (by decide)) r16_A r16_n r16_c r16 32, .ownL CS y12_A y12_n y12_c y12_H 78, .ownL (CI .u8) r5_A r5_n r5_c r5 5, .ownL CS s4_A s4_n s4_c ([(a1_A, a1_n, a1_c), (s3_A, s3_n, s3_c)] : List HS) 24, .ownL (CI .u8) s3_A s3_n s3_c ([(iconv .u8 a0_0)] : List Int) 5, .blk b1 ([.int .i64 a0_0, .int .i64 a0_1, .int .i64 a0_2, .int .i64 a0_3, .int .i64 a0_4]) 23]) rfl
    refine ⟨fun _ => trivial, ?_⟩
    refine wpS.q 9 13 (.slice r19_A r19_n r19_c) ?_
    refine wpS.fin rfl (kr20 _ _ (then_n (ks19 _ _ (xseq_k fun KS21 ks21 => (xregS [0, 1, 2] fun KR22 kr22 => ?_)))))
    refine wpS.qs [(0, 65, .slice r17_A r17_n r17_c), (1, 66, .func (.func 46) #[.slice r17_A r17_n r17_c] #[]), (2, 14, .func (.func 46) #[.slice r17_A r17_n r17_c] #[])] ?_
    refine wpS.fin rfl (kr22 _ _ (then_n (ks21 _ _ (xseq_k fun KS23 ks23 => (xseq_k fun KS24 ks24 => (xregS [0, 1, 2] fun KR25 kr25 => ?_))))))
    refine wpS.q 0 67 (.slice y12_A y12_n y12_c) ?_
    refine wpS.tk 1 false (some 68) (.int .i64 (r10.length : Int)) (yld_lenLL (LLP.mk (hs.rowL 4 rfl) (hs.innR 0 rfl)) (fun _ => by kernel_rfl)) ?_
    refine wpS.q 2 69 (.int .i64 0) ?_
    refine wpS.fin rfl (kr25 _ _ (then_n (ks24 _ _ ?_)))
    obtain ⟨y22, hy, hk0⟩ := of_bind h
    refine wp_exq (N := fun a w => St w0 [] [.ownL (CA .i32 256 (by decide)) r19_A r19_n r19_c y22 32, .ownL (CA .i32 256 (by decide)) r18_A r18_n r18_c r18 32, .ownL (CA .i32 256 (by decide)) r17_A r17_n r17_c r17 32, .ownL (CA .i32 256 (by decide)) r16_A r16_n r16_c r16 32, .ownL CS y12_A y12_n y12_c y12_H 78, .ownL (CI .u8) r5_A r5_n r5_c r5 5, .ownL CS s4_A s4_n s4_c ([(a1_A, a1_n, a1_c), (s3_A, s3_n, s3_c)] : List HS) 24, .ownL (CI .u8) s3_A s3_n s3_c ([(iconv .u8 a0_0)] : List Int) 5, .blk b1 ([.int .i64 a0_0, .int .i64 a0_1, .int .i64 a0_2, .int .i64 a0_3, .int .i64 a0_4]) 23] [.inn (CA .i32 256 (by decide)) y12_H r10, .rowL (CI .u8) s8_A s8_n s8_c (subL r6 0 32), .rowL (CA .u64 24 (by decide)) (some ⟨0, 0, none⟩) 1 1 ([tab_0]), .rowL (CA .i64 24 (by decide)) (some ⟨1, 0, none⟩) 1 1 ([tab_1]), .rowL (CA .i64 24 (by decide)) (some ⟨2, 0, none⟩) 1 1 ([tab_2]), .rowL (CI .u8) s9_A s9_n s9_c (subL r6 32 (r6.length : Int)), .rowL (CI .u8) r6_A r6_n r6_c r6, .rowL (CI .u8) a1_A a1_n a1_c a1] w ∧ ∃ g27 : Nat → Value, a = ⟨#[.agg #[.int .i64 a0_0, .int .i64 a0_1, .int .i64 a0_2, .int .i64 a0_3, .int .i64 a0_4], .slice a1_A a1_n a1_c, .pointer (some ⟨b1, 0, none⟩), undef, .slice none 0 0, .slice none 0 0, .int .i64 r11, .slice r6_A r6_n r6_c, .int .i64 r7, .slice s8_A s8_n s8_c, .slice s9_A s9_n s9_c, .slice y12_A y12_n y12_c, .slice r17_A r17_n r17_c, .slice r19_A r19_n r19_c, .func (.func 46) #[.slice r17_A r17_n r17_c] #[], (g27 15), (g27 16), .bool false, .agg #[.int .i64 a0_0, .int .i64 a0_1, .int .i64 a0_2, .int .i64 a0_3, .int .i64 a0_4], .bool true, .bool false, .bool false, .slice a1_A a1_n a1_c, .int .i64 (a1.length : Int), .bool false, .tuple #[.slice r6_A r6_n r6_c, .int .i64 r7], .slice a1_A a1_n a1_c, .pointer (some ⟨b1, 0, none⟩), .int .i64 a0_0, .int .u8 (iconv .u8 a0_0), .slice s3_A s3_n s3_c, .slice s4_A s4_n s4_c, .slice r5_A r5_n r5_c, .tuple #[.slice r6_A r6_n r6_c, .int .i64 r7], .slice r6_A r6_n r6_c, .int .i64 r7, .slice r6_A r6_n r6_c, .slice s8_A s8_n s8_c, .slice r6_A r6_n r6_c, .slice s9_A s9_n s9_c, .tuple #[.slice y12_A y12_n y12_c, .int .i64 r11], .agg #[.int .i64 a0_0, .int .i64 a0_1, .int .i64 a0_2, .int .i64 a0_3, .int .i64 a0_4], .slice s8_A s8_n s8_c, .tuple #[.slice y12_A y12_n y12_c, .int .i64 r11], .slice y12_A y12_n y12_c, .int .i64 r11, .int .i64 r11, .bool false, undef, .pointer (some ⟨b1, 0, none⟩), .int .i64 a0_0, .pointer (some ⟨b1, 1, none⟩), .int .i64 a0_1, .slice s9_A s9_n s9_c, .slice r16_A r16_n r16_c, .slice r17_A r17_n r17_c, .pointer (some ⟨b1, 0, none⟩), .int .i64 a0_0, .pointer (some ⟨b1, 1, none⟩), .int .i64 a0_1, .slice s9_A s9_n s9_c, .pointer (some ⟨b1, 0, none⟩), .int .i64 a0_0, .slice r18_A r18_n r18_c, .slice r19_A r19_n r19_c, .slice r17_A r17_n r17_c, .func (.func 46) #[.slice r17_A r17_n r17_c] #[], .slice y12_A y12_n y12_c, .int .i64 (r10.length : Int), (g27 69), (g27 70), (g27 71), (g27 72), (g27 73), (g27 74), (g27 75), (g27 76), (g27 77), (g27 78), (g27 79), (g27 80), (g27 81), (g27 82), (g27 83), (g27 84), (g27 85), undef, undef, undef, undef, undef, undef, undef], []⟩) (fun N0 nn0 => ?_) ?_
    ·clear hk0
     refine xblock ?_
     refine wp_loop_k (fun n a w => ∃ z20 z21, kpke_Keys.l0 K n r10 r17 z20 z21 = some y22 ∧ St w0 [] [.ownL (CA .i32 256 (by decide)) r19_A r19_n r19_c z21 32, .ownL (CA .i32 256 (by decide)) r18_A r18_n r18_c r18 32, .ownL (CA .i32 256 (by decide)) r17_A r17_n r17_c r17 32, .ownL (CA .i32 256 (by decide)) r16_A r16_n r16_c r16 32, .ownL CS y12_A y12_n y12_c y12_H 78, .ownL (CI .u8) r5_A r5_n r5_c r5 5, .ownL CS s4_A s4_n s4_c ([(a1_A, a1_n, a1_c), (s3_A, s3_n, s3_c)] : List HS) 24, .ownL (CI .u8) s3_A s3_n s3_c ([(iconv .u8 a0_0)] : List Int) 5, .blk b1 ([.int .i64 a0_0, .int .i64 a0_1, .int .i64 a0_2, .int .i64 a0_3, .int .i64 a0_4]) 23] [.inn (CA .i32 256 (by decide)) y12_H r10, .rowL (CI .u8) s8_A s8_n s8_c (subL r6 0 32), .rowL (CA .u64 24 (by decide)) (some ⟨0, 0, none⟩) 1 1 ([tab_0]), .rowL (CA .i64 24 (by decide)) (some ⟨1, 0, none⟩) 1 1 ([tab_1]), .rowL (CA .i64 24 (by decide)) (some ⟨2, 0, none⟩) 1 1 ([tab_2]), .rowL (CI .u8) s9_A s9_n s9_c (subL r6 32 (r6.length : Int)), .rowL (CI .u8) r6_A r6_n r6_c r6, .rowL (CI .u8) a1_A a1_n a1_c a1] w ∧ ∃ g26 : Nat → Value, a = ⟨#[.agg #[.int .i64 a0_0, .int .i64 a0_1, .int .i64 a0_2, .int .i64 a0_3, .int .i64 a0_4], .slice a1_A a1_n a1_c, .pointer (some ⟨b1, 0, none⟩), undef, .slice none 0 0, .slice none 0 0, .int .i64 r11, .slice r6_A r6_n r6_c, .int .i64 r7, .slice s8_A s8_n s8_c, .slice s9_A s9_n s9_c, .slice y12_A y12_n y12_c, .slice r17_A r17_n r17_c, .slice r19_A r19_n r19_c, .func (.func 46) #[.slice r17_A r17_n r17_c] #[], (g26 15), (g26 16), .bool false, .agg #[.int .i64 a0_0, .int .i64 a0_1, .int .i64 a0_2, .int .i64 a0_3, .int .i64 a0_4], .bool true, .bool false, .bool false, .slice a1_A a1_n a1_c, .int .i64 (a1.length : Int), .bool false, .tuple #[.slice r6_A r6_n r6_c, .int .i64 r7], .slice a1_A a1_n a1_c, .pointer (some ⟨b1, 0, none⟩), .int .i64 a0_0, .int .u8 (iconv .u8 a0_0), .slice s3_A s3_n s3_c, .slice s4_A s4_n s4_c, .slice r5_A r5_n r5_c, .tuple #[.slice r6_A r6_n r6_c, .int .i64 r7], .slice r6_A r6_n r6_c, .int .i64 r7, .slice r6_A r6_n r6_c, .slice s8_A s8_n s8_c, .slice r6_A r6_n r6_c, .slice s9_A s9_n s9_c, .tuple #[.slice y12_A y12_n y12_c, .int .i64 r11], .agg #[.int .i64 a0_0, .int .i64 a0_1, .int .i64 a0_2, .int .i64 a0_3, .int .i64 a0_4], .slice s8_A s8_n s8_c, .tuple #[.slice y12_A y12_n y12_c, .int .i64 r11], .slice y12_A y12_n y12_c, .int .i64 r11, .int .i64 r11, .bool false, undef, .pointer (some ⟨b1, 0, none⟩), .int .i64 a0_0, .pointer (some ⟨b1, 1, none⟩), .int .i64 a0_1, .slice s9_A s9_n s9_c, .slice r16_A r16_n r16_c, .slice r17_A r17_n r17_c, .pointer (some ⟨b1, 0, none⟩), .int .i64 a0_0, .pointer (some ⟨b1, 1, none⟩), .int .i64 a0_1, .slice s9_A s9_n s9_c, .pointer (some ⟨b1, 0, none⟩), .int .i64 a0_0, .slice r18_A r18_n r18_c, .slice r19_A r19_n r19_c, .slice r17_A r17_n r17_c, .func (.func 46) #[.slice r17_A r17_n r17_c] #[], .slice y12_A y12_n y12_c, .int .i64 (r10.length : Int), .int .i64 z20, (g26 70), (g26 71), (g26 72), (g26 73), (g26 74), (g26 75), (g26 76), (g26 77), (g26 78), (g26 79), (g26 80), (g26 81), (g26 82), (g26 83), (g26 84), (g26 85), undef, undef, undef, undef, undef, undef, undef], []⟩) K ⟨0, r19, hy, hs.conv rfl, exg (by kernel_rfl)⟩ ?_
     clear hs h hy
     rintro n a w ⟨z20, z21, h, hs, g26, rfl⟩ KL0 kl0
     cases n with
     | zero => exact nomatch (show none = some _ from h)
     | succ n =>
      refine xseq_k fun KS28 ks28 => ?_
      refine xregS [0] fun KR29 kr29 => ?_
      rcases of_if h with ⟨hc, h⟩ | ⟨hc, h⟩
      ·refine wpS.tk 0 false (some 70) (.bool true) (yld_b (dt hc) (fun _ => by kernel_rfl)) ?_
       refine wpS.fin rfl (kr29 _ _ (then_n (ks28 _ _ (xseq_k fun KS30 ks30 => (wp_cond_t (by kernel_rfl) (xskip (then_n (ks30 _ _ (xseq_k fun KS31 ks31 => (xblock (xseq_k fun KS32 ks32 => (xregS [0, 1, 2, 3, 4] fun KR33 kr33 => ?_))))))))))))
       refine wpS.q 0 71 (.int .i64 z20) ?_
       obtain ⟨h0, h⟩ := of_chk h
       obtain ⟨h1, h⟩ := of_chk h
       have i0_34 := h0
       have i1_34 := h1
       refine wpS.tk 1 false (some 72) (.pointer (adr y12_A ((z20 : Int).toNat * Cod.size CS))) (yld_idxLL (C := (CA .i32 256 (by decide))) (t := 74) (e := 78) (k := .i64) (x := z20) (LLP.mk (hs.rowL 4 rfl) (hs.innR 0 rfl)) (by kernel_rfl) (by kernel_rfl) (by kernel_rfl) h0 h1) ?_
       obtain ⟨s23_A, hA⟩ : ∃ A, A = (rdL CS y12_H z20).1 := ⟨_, rfl⟩
       obtain ⟨s23_n, hn⟩ : ∃ n, n = (rdL CS y12_H z20).2.1 := ⟨_, rfl⟩
       obtain ⟨s23_c, hc⟩ : ∃ c, c = (rdL CS y12_H z20).2.2 := ⟨_, rfl⟩
       refine wpS.tk 2 true (some 73) (.slice s23_A s23_n s23_c) (by subst hA hn hc; exact yld_loadLL (C := (CA .i32 256 (by decide))) (e := 78) (x := z20) (LLP.mk (hs.rowL 4 rfl) (hs.innR 0 rfl)) (by kernel_rfl) (by kernel_rfl) i0_34 i1_34) ?_
       have hs := hs.addInnI (C := (CA .i32 256 (by decide))) 0 rfl i0_34 i1_34 hA hn hc
       refine wpS.qs [(3, 15, .int .i64 z20), (4, 16, .slice s23_A s23_n s23_c)] ?_
       refine wpS.fin rfl (kr33 _ _ (then_n (ks32 _ _ ?_)))
       obtain ⟨y24, hj, h⟩ := of_bind h
       refine wp_join (N := fun a w => St w0 [] [.ownL (CA .i32 256 (by decide)) r19_A r19_n r19_c y24 32, .ownL (CA .i32 256 (by decide)) r18_A r18_n r18_c r18 32, .ownL (CA .i32 256 (by decide)) r17_A r17_n r17_c r17 32, .ownL (CA .i32 256 (by decide)) r16_A r16_n r16_c r16 32, .ownL CS y12_A y12_n y12_c y12_H 78, .ownL (CI .u8) r5_A r5_n r5_c r5 5, .ownL CS s4_A s4_n s4_c ([(a1_A, a1_n, a1_c), (s3_A, s3_n, s3_c)] : List HS) 24, .ownL (CI .u8) s3_A s3_n s3_c ([(iconv .u8 a0_0)] : List Int) 5, .blk b1 ([.int .i64 a0_0, .int .i64 a0_1, .int .i64 a0_2, .int .i64 a0_3, .int .i64 a0_4]) 23] [.rowL (CA .i32 256 (by decide)) s23_A s23_n s23_c (rdLL r10 z20), .inn (CA .i32 256 (by decide)) y12_H r10, .rowL (CI .u8) s8_A s8_n s8_c (subL r6 0 32), .rowL (CA .u64 24 (by decide)) (some ⟨0, 0, none⟩) 1 1 ([tab_0]), .rowL (CA .i64 24 (by decide)) (some ⟨1, 0, none⟩) 1 1 ([tab_1]), .rowL (CA .i64 24 (by decide)) (some ⟨2, 0, none⟩) 1 1 ([tab_2]), .rowL (CI .u8) s9_A s9_n s9_c (subL r6 32 (r6.length : Int)), .rowL (CI .u8) r6_A r6_n r6_c r6, .rowL (CI .u8) a1_A a1_n a1_c a1] w ∧ ∃ g35 : Nat → Value, a = ⟨#[.agg #[.int .i64 a0_0, .int .i64 a0_1, .int .i64 a0_2, .int .i64 a0_3, .int .i64 a0_4], .slice a1_A a1_n a1_c, .pointer (some ⟨b1, 0, none⟩), undef, .slice none 0 0, .slice none 0 0, .int .i64 r11, .slice r6_A r6_n r6_c, .int .i64 r7, .slice s8_A s8_n s8_c, .slice s9_A s9_n s9_c, .slice y12_A y12_n y12_c, .slice r17_A r17_n r17_c, .slice r19_A r19_n r19_c, .func (.func 46) #[.slice r17_A r17_n r17_c] #[], .int .i64 z20, .slice s23_A s23_n s23_c, .bool false, .agg #[.int .i64 a0_0, .int .i64 a0_1, .int .i64 a0_2, .int .i64 a0_3, .int .i64 a0_4], .bool true, .bool false, .bool false, .slice a1_A a1_n a1_c, .int .i64 (a1.length : Int), .bool false, .tuple #[.slice r6_A r6_n r6_c, .int .i64 r7], .slice a1_A a1_n a1_c, .pointer (some ⟨b1, 0, none⟩), .int .i64 a0_0, .int .u8 (iconv .u8 a0_0), .slice s3_A s3_n s3_c, .slice s4_A s4_n s4_c, .slice r5_A r5_n r5_c, .tuple #[.slice r6_A r6_n r6_c, .int .i64 r7], .slice r6_A r6_n r6_c, .int .i64 r7, .slice r6_A r6_n r6_c, .slice s8_A s8_n s8_c, .slice r6_A r6_n r6_c, .slice s9_A s9_n s9_c, .tuple #[.slice y12_A y12_n y12_c, .int .i64 r11], .agg #[.int .i64 a0_0, .int .i64 a0_1, .int .i64 a0_2, .int .i64 a0_3, .int .i64 a0_4], .slice s8_A s8_n s8_c, .tuple #[.slice y12_A y12_n y12_c, .int .i64 r11], .slice y12_A y12_n y12_c, .int .i64 r11, .int .i64 r11, .bool false, undef, .pointer (some ⟨b1, 0, none⟩), .int .i64 a0_0, .pointer (some ⟨b1, 1, none⟩), .int .i64 a0_1, .slice s9_A s9_n s9_c, .slice r16_A r16_n r16_c, .slice r17_A r17_n r17_c, .pointer (some ⟨b1, 0, none⟩), .int .i64 a0_0, .pointer (some ⟨b1, 1, none⟩), .int .i64 a0_1, .slice s9_A s9_n s9_c, .pointer (some ⟨b1, 0, none⟩), .int .i64 a0_0, .slice r18_A r18_n r18_c, .slice r19_A r19_n r19_c, .slice r17_A r17_n r17_c, .func (.func 46) #[.slice r17_A r17_n r17_c] #[], .slice y12_A y12_n y12_c, .int .i64 (r10.length : Int), .int .i64 z20, .bool true, .int .i64 z20, .pointer (adr y12_A ((z20 : Int).toNat * Cod.size CS)), .slice s23_A s23_n s23_c, (g35 74), (g35 75), (g35 76), (g35 77), (g35 78), (g35 79), (g35 80), (g35 81), (g35 82), (g35 83), (g35 84), (g26 85), undef, undef, undef, undef, undef, undef, undef], []⟩) (fun N nj => ?_) ?_
       ·clear h
        have h := hj
        refine wp_regG [8, 11] (fun k => True) 12 (by kernel_rfl) (by kernel_rfl) (by kernel_rfl) fun KR36 kr36 => ?_
        have hs := hs.drawn1
        refine wpG.q 0 74 (.slice r19_A r19_n r19_c) ?_
        refine wpG.q 1 75 (.int .i64 z20) ?_
        refine wpG.q 2 76 (.slice r19_A r19_n r19_c) ?_
        refine wpG.q 3 77 (.int .i64 z20) ?_
        obtain ⟨h0, h⟩ := of_chk h
        obtain ⟨h1, h⟩ := of_chk h
        have i0_37 := h0
        have i1_37 := h1
        refine wpG.tD 4 false (some 78) (.pointer (adr r19_A ((z20 : Int).toNat * Cod.size (CA .i32 256 (by decide))))) (yld_idxL (C := (CA .i32 256 (by decide))) (t := 78) (e := 32) (k := .i64) (x := z20) (hs.rowL 0 rfl) (by kernel_rfl) (by kernel_rfl) (by kernel_rfl) h0 h1) ?_
        refine wpG.q 6 80 (.func (.func 46) #[.slice r17_A r17_n r17_c] #[]) ?_
        refine wpG.q 7 81 (.slice s23_A s23_n s23_c) ?_
        refine wpG.many [5, 8] (by kernel_rfl) (by decide) (forall_cons ?_ (forall_cons ?_ forall_nil))
        ·refine (op_val (d := (some 79)) (v := .agg (enc .i32 (rdL (CA .i32 256 (by decide)) z21 z20)).toArray) (by kernel_rfl) (yld_loadLA (C := (CA .i32 256 (by decide))) (e := 32) (x := z20) (hs.rowL 0 rfl) (by kernel_rfl) rfl (by kernel_rfl) (by kernel_rfl) i0_37 i1_37) ⟨Cl.refl _, ?_⟩)
         have hs := hs.front 2 rfl
         try dsimp only [List.eraseIdx] at hs
         obtain ⟨r25, hg, h⟩ := of_bind h
         refine wpG.only 8 (by kernel_rfl) (wpOp_call (d := (some 82)) (by kernel_rfl) (fun _ => by kernel_rfl) (kpke_vector_dot_s.ok hg hs) ?_)
         rintro e w ⟨rfl, hs⟩
         refine ⟨_, rfl, ?_⟩
         refine ⟨⟨fun hf => absurd hf (by decide), .all _ _⟩, ?_⟩
         obtain ⟨r26, hg, h⟩ := of_bind h
         refine wpG.only 9 (by kernel_rfl) (op_call (d := (some 83)) (by kernel_rfl) hs (fun _ => by kernel_rfl) (kq_Add.ok hg _) ?_)
         intro w gw hs
         refine ⟨.of gw, ?_⟩
         obtain ⟨h0, h⟩ := of_chk h
         obtain ⟨h1, h⟩ := of_chk h
         have i0_38 := h0
         have i1_38 := h1
         refine wpG.tD 10 false (some 84) (.pointer (adr r19_A ((z20 : Int).toNat * Cod.size (CA .i32 256 (by decide))))) (yld_idxL (C := (CA .i32 256 (by decide))) (t := 78) (e := 32) (k := .i64) (x := z20) (hs.rowL 1 rfl) (by kernel_rfl) (by kernel_rfl) (by kernel_rfl) h0 h1) ?_
         refine wpG.only 11 (by kernel_rfl) (op_storeL (C := (CA .i32 256 (by decide))) (t := 32) (x := z20) (v := r26) (d := none) (by kernel_rfl) hs 1 rfl (by kernel_rfl) (by kernel_rfl) i0_38 i1_38 ?_)
         intro w hs
         refine ⟨⟨fun hf => absurd hf (by decide), .all _ _⟩, ?_⟩
         refine wpG.fin (by kernel_rfl) rfl (kr36 _ _ ?_)
         have q0 := of_some h
         subst q0
         have hs := hs.front 2 rfl
         have hs := hs.front 2 rfl
         try dsimp only [List.eraseIdx] at hs
         exact nj _ _ ⟨(hs.conv rfl), exg (by kernel_rfl)⟩
        have hs := hs.front 2 rfl
        try dsimp only [List.eraseIdx] at hs
        obtain ⟨r27, hg, h⟩ := of_bind h
        refine (wpOp_call (d := (some 82)) (by kernel_rfl) (fun _ => by kernel_rfl) (kpke_vector_dot_s.ok hg hs) ?_)
        rintro e w ⟨rfl, hs⟩
        refine ⟨_, rfl, ?_⟩
        refine ⟨⟨fun hf => absurd hf (by decide), .all _ _⟩, ?_⟩
        refine wpG.only 5 (by kernel_rfl) (op_val (d := (some 79)) (v := .agg (enc .i32 (rdL (CA .i32 256 (by decide)) z21 z20)).toArray) (by kernel_rfl) (yld_loadLA (C := (CA .i32 256 (by decide))) (e := 32) (x := z20) (hs.rowL 1 rfl) (by kernel_rfl) rfl (by kernel_rfl) (by kernel_rfl) i0_37 i1_37) ⟨Cl.refl _, ?_⟩)
        obtain ⟨r28, hg, h⟩ := of_bind h
        refine wpG.only 9 (by kernel_rfl) (op_call (d := (some 83)) (by kernel_rfl) hs (fun _ => by kernel_rfl) (kq_Add.ok hg _) ?_)
        intro w gw hs
        refine ⟨.of gw, ?_⟩
        obtain ⟨h0, h⟩ := of_chk h
        obtain ⟨h1, h⟩ := of_chk h
        have i0_39 := h0
        have i1_39 := h1
        refine wpG.tD 10 false (some 84) (.pointer (adr r19_A ((z20 : Int).toNat * Cod.size (CA .i32 256 (by decide))))) (yld_idxL (C := (CA .i32 256 (by decide))) (t := 78) (e := 32) (k := .i64) (x := z20) (hs.rowL 1 rfl) (by kernel_rfl) (by kernel_rfl) (by kernel_rfl) h0 h1) ?_
        refine wpG.only 11 (by kernel_rfl) (op_storeL (C := (CA .i32 256 (by decide))) (t := 32) (x := z20) (v := r28) (d := none) (by kernel_rfl) hs 1 rfl (by kernel_rfl) (by kernel_rfl) i0_39 i1_39 ?_)
        intro w hs
        refine ⟨⟨fun hf => absurd hf (by decide), .all _ _⟩, ?_⟩
        refine wpG.fin (by kernel_rfl) rfl (kr36 _ _ ?_)
        have q0 := of_some h
        subst q0
        have hs := hs.front 2 rfl
        have hs := hs.front 2 rfl
        try dsimp only [List.eraseIdx] at hs
        exact nj _ _ ⟨(hs.conv rfl), exg (by kernel_rfl)⟩
       clear hj hs
       rintro a w ⟨hs, g35, rfl⟩
       refine inBlock_n (then_n (ks31 _ _ (xregS [0, 1] fun KR40 kr40 => ?_)))
       refine wpS.qs [(0, 85, .int .i64 (iadd .i64 z20 1)), (1, 69, .int .i64 (iadd .i64 z20 1))] ?_
       refine wpS.fin rfl (kr40 _ _ ?_)
       exact then_n (kl0 _ _ ⟨n, Nat.lt_succ_self n, (iadd .i64 z20 1), y24, h, (hs.pickR (pick_cons 1 rfl (pick_cons 2 rfl (pick_cons 3 rfl (pick_cons 4 rfl (pick_cons 5 rfl (pick_cons 6 rfl (pick_cons 7 rfl (pick_cons 8 rfl pick_nil))))))))), exg (by kernel_rfl)⟩)
      refine wpS.tk 0 false (some 70) (.bool false) (yld_b (df hc) (fun _ => by kernel_rfl)) ?_
      refine wpS.fin rfl (kr29 _ _ (then_n (ks28 _ _ (xseq_k fun KS41 ks41 => (wp_cond_f (by kernel_rfl) (xexit (then_x (then_x (inBlock_hit ?_)))))))))
      have q0 := of_some h
      subst q0
      exact exq_n (nn0 _ _ ⟨(hs.conv rfl), exg (by kernel_rfl)⟩)
    clear hs h hy
    rintro a w ⟨hs, g27, rfl⟩
    have h := hk0
    refine then_n (ks23 _ _ (xseq_k fun KS42 ks42 => (xregS [0, 1, 2, 3, 4, 5, 6, 7, 8, 9] fun KR43 kr43 => ?_)))
    refine wpS.q 0 86 (.slice r19_A r19_n r19_c) ?_
    obtain ⟨r29, hg, h⟩ := of_bind h
    refine wpS.only 1 (op_callH (d := (some 87)) (by kernel_rfl) hs (fun _ => by kernel_rfl) (kpke_vector_packed.ok hg _ (hs.rowL 0 rfl)) ?_)
    rintro ⟨r29_A, r29_n, r29_c⟩ w gw hs
    have hs := hs.conv (L' := [.ownL (CI .u8) r29_A r29_n r29_c r29 5, .ownL (CA .i32 256 (by decide)) r19_A r19_n r19_c y22 32, .ownL (CA .i32 256 (by decide)) r18_A r18_n r18_c r18 32, .ownL (CA .i32 256 (by decide)) r17_A r17_n r17_c r17 32, .ownL (CA .i32 256 (by decide)) r16_A r16_n r16_c r16 32, .ownL CS y12_A y12_n y12_c y12_H 78, .ownL (CI .u8) r5_A r5_n r5_c r5 5, .ownL CS s4_A s4_n s4_c ([(a1_A, a1_n, a1_c), (s3_A, s3_n, s3_c)] : List HS) 24, .ownL (CI .u8) s3_A s3_n s3_c ([(iconv .u8 a0_0)] : List Int) 5, .blk b1 ([.int .i64 a0_0, .int .i64 a0_1, .int .i64 a0_2, .int .i64 a0_3, .int .i64 a0_4]) 23]) rfl
    refine ⟨fun _ => trivial, ?_⟩
    refine wpS.q 2 88 (.slice s8_A s8_n s8_c) ?_
    refine wpS.only 3 (op_lit (C := CS) (t := 59) (e := 24) (len := 2) (parts := #[(0, .slice r29_A r29_n r29_c), (1, .slice s8_A s8_n s8_c)]) (l := ([(r29_A, r29_n, r29_c), (s8_A, s8_n, s8_c)] : List HS)) (d := (some 89)) (by kernel_rfl) hs (by kernel_rfl) (by kernel_rfl) (by kernel_rfl) (z := .slice none 0 0) (by kernel_rfl) rfl (by decide) (by decide) (by kernel_rfl) ?_)
    intro s30_A s30_n s30_c w gw hs
    refine ⟨fun _ => trivial, ?_⟩
    obtain ⟨r31, hg, h⟩ := of_bind h
    refine wpS.only 4 (op_callH (d := (some 90)) (by kernel_rfl) hs (fun _ => by kernel_rfl) (bits_Join.ok hg _ (LLP.mk (hs.rowL 0 rfl) (inn_cons (hs.rowL 1 rfl) (inn_cons (hs.rowR 1 rfl) inn_nil)))) ?_)
    rintro ⟨r31_A, r31_n, r31_c⟩ w gw hs
    have hs := hs.conv (L' := [.ownL (CI .u8) r31_A r31_n r31_c r31 5, .ownL CS s30_A s30_n s30_c ([(r29_A, r29_n, r29_c), (s8_A, s8_n, s8_c)] : List HS) 24, .ownL (CI .u8) r29_A r29_n r29_c r29 5, .ownL (CA .i32 256 (by decide)) r19_A r19_n r19_c y22 32, .ownL (CA .i32 256 (by decide)) r18_A r18_n r18_c r18 32, .ownL (CA .i32 256 (by decide)) r17_A r17_n r17_c r17 32, .ownL (CA .i32 256 (by decide)) r16_A r16_n r16_c r16 32, .ownL CS y12_A y12_n y12_c y12_H 78, .ownL (CI .u8) r5_A r5_n r5_c r5 5, .ownL CS s4_A s4_n s4_c ([(a1_A, a1_n, a1_c), (s3_A, s3_n, s3_c)] : List HS) 24, .ownL (CI .u8) s3_A s3_n s3_c ([(iconv .u8 a0_0)] : List Int) 5, .blk b1 ([.int .i64 a0_0, .int .i64 a0_1, .int .i64 a0_2, .int .i64 a0_3, .int .i64 a0_4]) 23]) rfl
    refine ⟨fun _ => trivial, ?_⟩
    refine wpS.q 5 91 (.slice r17_A r17_n r17_c) ?_
    obtain ⟨r32, hg, h⟩ := of_bind h
    refine wpS.only 6 (op_callH (d := (some 92)) (by kernel_rfl) hs (fun _ => by kernel_rfl) (kpke_vector_packed.ok hg _ (hs.rowL 5 rfl)) ?_)
    rintro ⟨r32_A, r32_n, r32_c⟩ w gw hs
    have hs := hs.conv (L' := [.ownL (CI .u8) r32_A r32_n r32_c r32 5, .ownL (CI .u8) r31_A r31_n r31_c r31 5, .ownL CS s30_A s30_n s30_c ([(r29_A, r29_n, r29_c), (s8_A, s8_n, s8_c)] : List HS) 24, .ownL (CI .u8) r29_A r29_n r29_c r29 5, .ownL (CA .i32 256 (by decide)) r19_A r19_n r19_c y22 32, .ownL (CA .i32 256 (by decide)) r18_A r18_n r18_c r18 32, .ownL (CA .i32 256 (by decide)) r17_A r17_n r17_c r17 32, .ownL (CA .i32 256 (by decide)) r16_A r16_n r16_c r16 32, .ownL CS y12_A y12_n y12_c y12_H 78, .ownL (CI .u8) r5_A r5_n r5_c r5 5, .ownL CS s4_A s4_n s4_c ([(a1_A, a1_n, a1_c), (s3_A, s3_n, s3_c)] : List HS) 24, .ownL (CI .u8) s3_A s3_n s3_c ([(iconv .u8 a0_0)] : List Int) 5, .blk b1 ([.int .i64 a0_0, .int .i64 a0_1, .int .i64 a0_2, .int .i64 a0_3, .int .i64 a0_4]) 23]) rfl
    refine ⟨fun _ => trivial, ?_⟩
    refine wpS.qs [(7, 4, .slice r31_A r31_n r31_c), (8, 5, .slice r32_A r32_n r32_c), (9, 6, .int .i64 0)] ?_
    refine wpS.fin rfl (kr43 _ _ (then_n (ks42 _ _ (xret ?_))))
    obtain ⟨q0, qr0⟩ := Prod.mk.inj (of_some h)
    obtain ⟨q1, qr1⟩ := Prod.mk.inj (qr0)
    have q2 := qr1
    subst q0
    subst q1
    subst q2
    have hs := hs.front 1 rfl
    try dsimp only [List.eraseIdx] at hs
    exact qq _ _ (post_ret (by kernel_rfl) (run_results [.tmp 4, .tmp 5, .tmp 6] [.slice r31_A r31_n r31_c, .slice r32_A r32_n r32_c, .int .i64 0] (by kernel_rfl) (.cons (res_tmp (by kernel_rfl)) (.cons (res_tmp (by kernel_rfl)) (.cons (res_tmp (by kernel_rfl)) .nil)))) ⟨⟨⟨r31_A, r31_n, r31_c⟩, ⟨r32_A, r32_n, r32_c⟩⟩, congrArg Ending.returned (by kernel_rfl), ((hs.drop (.cons_cons _ (.cons_cons _ (.cons _ (.cons _ (.cons _ (.cons _ (.cons _ (.cons _ (.cons _ (.cons _ (.cons _ (.cons _ (.cons _ .slnil)))))))))))))).pickR pick_nil)⟩)
   refine wpS.tk 1 false (some 47) (.bool true) (yld_b (nt hc) (fun _ => by kernel_rfl)) ?_
   refine wpS.fin rfl (kr16 _ _ (then_n (ks15 _ _ (wp_cond_t (by kernel_rfl) (xseq_k fun KS44 ks44 => (xregS [0, 1, 2, 3] fun KR45 kr45 => ?_))))))
   refine wpS.qs [(0, 48, .int .i64 r11), (1, 4, .slice none 0 0), (2, 5, .slice none 0 0), (3, 6, .int .i64 r11)] ?_
   refine wpS.fin rfl (kr45 _ _ (then_n (ks44 _ _ (xret (then_r ?_)))))
   obtain ⟨q0, qr0⟩ := Prod.mk.inj (of_some h)
   obtain ⟨q1, qr1⟩ := Prod.mk.inj (qr0)
   have q2 := qr1
   subst q0
   subst q1
   subst q2
   have hs := hs.addNilL (CI .u8) 5
   have hs := hs.addNilL (CI .u8) 5
   exact qq _ _ (post_ret (by kernel_rfl) (run_results [.tmp 4, .tmp 5, .tmp 6] [.slice none 0 0, .slice none 0 0, .int .i64 r11] (by kernel_rfl) (.cons (res_tmp (by kernel_rfl)) (.cons (res_tmp (by kernel_rfl)) (.cons (res_tmp (by kernel_rfl)) .nil)))) ⟨⟨⟨none, 0, 0⟩, ⟨none, 0, 0⟩⟩, congrArg Ending.returned (by kernel_rfl), ((hs.drop (.cons_cons _ (.cons_cons _ (.cons _ (.cons _ (.cons _ (.cons _ (.cons _ .slnil)))))))).pickR pick_nil)⟩)
  refine wpS.tk 2 false (some 24) (.bool true) (yld_b (nt hc) (fun _ => by kernel_rfl)) ?_
  refine wpS.q 3 21 (.bool true) ?_
  refine wpS.fin rfl (kr7 _ _ (then_n (ks6 _ _ (wp_cond_t (by kernel_rfl) (xseq_k fun KS46 ks46 => (xregS [0, 1, 2] fun KR47 kr47 => ?_))))))
  refine wpS.qs [(0, 4, .slice none 0 0), (1, 5, .slice none 0 0), (2, 6, .int .i64 14)] ?_
  refine wpS.fin rfl (kr47 _ _ (then_n (ks46 _ _ (xret (inBlock_r (then_r ?_))))))
  obtain ⟨q0, qr0⟩ := Prod.mk.inj (of_some h)
  obtain ⟨q1, qr1⟩ := Prod.mk.inj (qr0)
  have q2 := qr1
  subst q0
  subst q1
  subst q2
  have hs := hs.addNilL (CI .u8) 5
  have hs := hs.addNilL (CI .u8) 5
  exact qq _ _ (post_ret (by kernel_rfl) (run_results [.tmp 4, .tmp 5, .tmp 6] [.slice none 0 0, .slice none 0 0, .int .i64 14] (by kernel_rfl) (.cons (res_tmp (by kernel_rfl)) (.cons (res_tmp (by kernel_rfl)) (.cons (res_tmp (by kernel_rfl)) .nil)))) ⟨⟨⟨none, 0, 0⟩, ⟨none, 0, 0⟩⟩, congrArg Ending.returned (by kernel_rfl), ((hs.drop (.cons_cons _ (.cons_cons _ (.cons _ .slnil)))).pickR pick_nil)⟩)
 | false =>
  have h := of_if_f h
  refine wpS.only 1 (op_call (d := (some 19)) (by kernel_rfl) hs (fun _ => by kernel_rfl) (kpke_known.ok hg _) ?_)
  intro w gw hs
  refine ⟨fun _ => trivial, ?_⟩
  refine wpS.qs [(2, 20, .bool true), (3, 17, .bool true)] ?_
  refine wpS.fin rfl (kr5 _ _ (then_n (ks4 _ _ (wp_cond_t (by kernel_rfl) (xseq_k fun KS48 ks48 => (xregS [0, 1, 2] fun KR49 kr49 => ?_))))))
  refine wpS.qs [(0, 4, .slice none 0 0), (1, 5, .slice none 0 0), (2, 6, .int .i64 9)] ?_
  refine wpS.fin rfl (kr49 _ _ (then_n (ks48 _ _ (xret (inBlock_r (then_r ?_))))))
  obtain ⟨q0, qr0⟩ := Prod.mk.inj (of_some h)
  obtain ⟨q1, qr1⟩ := Prod.mk.inj (qr0)
  have q2 := qr1
  subst q0
  subst q1
  subst q2
  have hs := hs.addNilL (CI .u8) 5
  have hs := hs.addNilL (CI .u8) 5
  exact qq _ _ (post_ret (by kernel_rfl) (run_results [.tmp 4, .tmp 5, .tmp 6] [.slice none 0 0, .slice none 0 0, .int .i64 9] (by kernel_rfl) (.cons (res_tmp (by kernel_rfl)) (.cons (res_tmp (by kernel_rfl)) (.cons (res_tmp (by kernel_rfl)) .nil)))) ⟨⟨⟨none, 0, 0⟩, ⟨none, 0, 0⟩⟩, congrArg Ending.returned (by kernel_rfl), ((hs.drop (.cons_cons _ (.cons_cons _ (.cons _ .slnil)))).pickR pick_nil)⟩)

theorem ref25_Below.ok {K : Nat} {a0 : Arr 256} {a1 : Int} {r0 : Bool} (h : ref25_Below.f K a0 a1 = some r0) (w0 : World) : Ret Tryd.prog 70 #[.agg (enc .i32 a0).toArray, .int .i32 a1] w0 (.bool r0) := by
 refine calls_k Tryd.func70 rfl fun Q qq => ?_
 have hs := St.start w0
 refine wp_conv (a' := ⟨#[.agg (enc .i32 a0).toArray, .int .i32 a1, undef, undef, undef, undef, undef, undef, undef, undef, undef, undef, undef, undef, undef, undef, undef, undef, undef, undef, undef], []⟩) (by kernel_rfl) ?_
 refine xseq_k fun KS1 ks1 => ?_
 refine xregS [0, 1] fun KR2 kr2 => ?_
 refine wpS.only 0 (op_box (t := 32) (v := .agg (enc .i32 a0).toArray) (d := (some 2)) (by kernel_rfl) hs (enc .i32 a0) (by kernel_rfl) (by kernel_rfl) ?_)
 intro b1 w gw hs
 refine ⟨fun _ => trivial, ?_⟩
 refine wpS.q 1 4 (.bool false) ?_
 refine wpS.fin rfl (kr2 _ _ (then_n (ks1 _ _ (xseq_k fun KS3 ks3 => (xseq_k fun KS4 ks4 => (xregS [0] fun KR5 kr5 => ?_))))))
 refine wpS.q 0 5 (.int .i64 0) ?_
 refine wpS.fin rfl (kr5 _ _ (then_n (ks4 _ _ ?_)))
 obtain ⟨t0, hy, hk0⟩ := of_bind h
 refine wp_exq (N := fun a w => t0 = .inl () ∧ St w0 [] [.blk b1 (enc .i32 a0) 32] [] w ∧ ∃ g7 : Nat → Value, a = ⟨#[.agg (enc .i32 a0).toArray, .int .i32 a1, .pointer (some ⟨b1, 0, none⟩), undef, (g7 4), (g7 5), (g7 6), (g7 7), (g7 8), (g7 9), (g7 10), (g7 11), (g7 12), (g7 13), (g7 14), (g7 15), (g7 16), (g7 17), (g7 18), (g7 19), (g7 20)], []⟩) (fun N0 nn0 => ?_) ?_
 ·refine xblock ?_
  refine wp_loop_k (fun n a w => ∃ z2, ref25_Below.l0 K n a0 a1 z2 = some t0 ∧ St w0 [] [.blk b1 (enc .i32 a0) 32] [] w ∧ ∃ g6 : Nat → Value, a = ⟨#[.agg (enc .i32 a0).toArray, .int .i32 a1, .pointer (some ⟨b1, 0, none⟩), undef, (g6 4), .int .i64 z2, (g6 6), (g6 7), (g6 8), (g6 9), (g6 10), (g6 11), (g6 12), (g6 13), (g6 14), (g6 15), (g6 16), (g6 17), (g6 18), (g6 19), (g6 20)], []⟩) K ⟨0, hy, hs.conv rfl, exg (by kernel_rfl)⟩ ?_
  clear hs h hy
  rintro n a w ⟨z2, h, hs, g6, rfl⟩ KL0 kl0
  cases n with
  | zero => exact nomatch (show none = some _ from h)
  | succ n =>
   refine xseq_k fun KS8 ks8 => ?_
   refine xseq_k fun KS9 ks9 => ?_
   refine xregS [0, 1] fun KR10 kr10 => ?_
   refine wpS.q 0 6 (.int .i64 z2) ?_
   rcases of_if h with ⟨hc, h⟩ | ⟨hc, h⟩
   ·refine wpS.tk 1 false (some 7) (.bool true) (yld_b (dt hc) (fun _ => by kernel_rfl)) ?_
    refine wpS.fin rfl (kr10 _ _ (then_n (ks9 _ _ (wp_cond_t (by kernel_rfl) (xskip (then_n (ks8 _ _ (xseq_k fun KS11 ks11 => (xblock (xseq_k fun KS12 ks12 => (xregS [0, 1, 2, 3, 4, 5, 6, 7, 8, 9, 10] fun KR13 kr13 => ?_)))))))))))
    refine wpS.q 0 10 (.int .i64 z2) ?_
    obtain ⟨i0_14, h⟩ := of_chk h
    obtain ⟨i1_14, h⟩ := of_chk h
    refine wpS.tk 1 false (some 11) (.pointer (some ⟨b1, 0 + (z2 : Int).toNat * 1, none⟩)) (yld_idx (t := 32) (e := 21) (n := 256) (sz := 1) (k := .i64) (x := z2) (by kernel_rfl) (by kernel_rfl) (by kernel_rfl) i0_14 i1_14) ?_
    refine wpS.tk 2 true (some 12) (.int .i32 (rd a0 z2)) (yld_loadA (e := 21) (x := z2) hs 0 rfl (by kernel_rfl) (by kernel_rfl) i0_14 i1_14 .grow) ?_
    rcases of_if h with ⟨hc, h⟩ | ⟨hc, h⟩
    ·refine wpS.tk 3 false (some 13) (.bool true) (yld_b (dt hc) (fun _ => by kernel_rfl)) ?_
     refine wpS.qs [(4, 14, .bool true), (5, 15, undef), (6, 16, undef), (7, 17, undef), (8, 18, undef), (9, 19, undef), (10, 20, .bool true)] ?_
     refine wpS.fin rfl (kr13 _ _ (then_n (ks12 _ _ (wp_cond_t (by kernel_rfl) (xseq_k fun KS15 ks15 => (xregS [0] fun KR16 kr16 => ?_))))))
     refine wpS.q 0 4 (.bool false) ?_
     refine wpS.fin rfl (kr16 _ _ (then_n (ks15 _ _ (xret (inBlock_r (then_r (then_r (inBlock_r (exq_r (then_r ?_))))))))))
     have q0 := of_some h
     subst q0
     have q0 := of_some hk0
     subst q0
     exact qq _ _ (post_ret (by kernel_rfl) (run_results [.tmp 4] [.bool false] (by kernel_rfl) (.cons (res_tmp (by kernel_rfl)) .nil)) ⟨congrArg Ending.returned (by kernel_rfl), hs.none⟩)
    refine wpS.tk 3 false (some 13) (.bool false) (yld_b (df hc) (fun _ => by kernel_rfl)) ?_
    refine wpS.qs [(4, 14, .bool false), (5, 15, .int .i64 z2)] ?_
    obtain ⟨i0_17, h⟩ := of_chk h
    obtain ⟨i1_17, h⟩ := of_chk h
    refine wpS.tk 6 false (some 16) (.pointer (some ⟨b1, 0 + (z2 : Int).toNat * 1, none⟩)) (yld_idx (t := 32) (e := 21) (n := 256) (sz := 1) (k := .i64) (x := z2) (by kernel_rfl) (by kernel_rfl) (by kernel_rfl) i0_17 i1_17) ?_
    refine wpS.tk 7 true (some 17) (.int .i32 (rd a0 z2)) (yld_loadA (e := 21) (x := z2) hs 0 rfl (by kernel_rfl) (by kernel_rfl) i0_17 i1_17 .grow) ?_
    refine wpS.q 8 18 (.int .i32 a1) ?_
    rcases of_if h with ⟨hc, h⟩ | ⟨hc, h⟩
    ·refine wpS.tk 9 false (some 19) (.bool true) (yld_b (dt hc) (fun _ => by kernel_rfl)) ?_
     refine wpS.q 10 20 (.bool true) ?_
     refine wpS.fin rfl (kr13 _ _ (then_n (ks12 _ _ (wp_cond_t (by kernel_rfl) (xseq_k fun KS18 ks18 => (xregS [0] fun KR19 kr19 => ?_))))))
     refine wpS.q 0 4 (.bool false) ?_
     refine wpS.fin rfl (kr19 _ _ (then_n (ks18 _ _ (xret (inBlock_r (then_r (then_r (inBlock_r (exq_r (then_r ?_))))))))))
     have q0 := of_some h
     subst q0
     have q0 := of_some hk0
     subst q0
     exact qq _ _ (post_ret (by kernel_rfl) (run_results [.tmp 4] [.bool false] (by kernel_rfl) (.cons (res_tmp (by kernel_rfl)) .nil)) ⟨congrArg Ending.returned (by kernel_rfl), hs.none⟩)
    refine wpS.tk 9 false (some 19) (.bool false) (yld_b (df hc) (fun _ => by kernel_rfl)) ?_
    refine wpS.q 10 20 (.bool false) ?_
    refine wpS.fin rfl (kr13 _ _ (then_n (ks12 _ _ (wp_cond_f (by kernel_rfl) (xskip (inBlock_n (then_n (ks11 _ _ (xregS [0, 1, 2] fun KR20 kr20 => ?_)))))))))
    refine wpS.qs [(0, 8, .int .i64 z2), (1, 9, .int .i64 (iadd .i64 z2 1))] ?_
    obtain ⟨x3, hx, h⟩ := of_bind h
    refine wpS.tk 2 false (some 5) (.int .i64 x3) (yld_int hx (fun _ => by kernel_rfl)) ?_
    refine wpS.fin rfl (kr20 _ _ ?_)
    exact then_n (kl0 _ _ ⟨n, Nat.lt_succ_self n, x3, h, (hs.conv rfl), exg (by kernel_rfl)⟩)
   refine wpS.tk 1 false (some 7) (.bool false) (yld_b (df hc) (fun _ => by kernel_rfl)) ?_
   refine wpS.fin rfl (kr10 _ _ (then_n (ks9 _ _ (wp_cond_f (by kernel_rfl) (xexit (then_x (then_x (inBlock_hit ?_))))))))
   have q0 := of_some h
   subst q0
   exact exq_n (nn0 _ _ ⟨rfl, (hs.conv rfl), exg (by kernel_rfl)⟩)
 clear hs h hy
 rintro a w ⟨rfl, hs, g7, rfl⟩
 have h := hk0
 refine then_n (ks3 _ _ (xseq_k fun KS21 ks21 => (xregS [0] fun KR22 kr22 => ?_)))
 refine wpS.q 0 4 (.bool true) ?_
 refine wpS.fin rfl (kr22 _ _ (then_n (ks21 _ _ (xret ?_))))
 have q0 := of_some h
 subst q0
 exact qq _ _ (post_ret (by kernel_rfl) (run_results [.tmp 4] [.bool true] (by kernel_rfl) (.cons (res_tmp (by kernel_rfl)) .nil)) ⟨congrArg Ending.returned (by kernel_rfl), hs.none⟩)

theorem kq_Sub.ok {K : Nat} {a0 : Arr 256} {a1 : Arr 256} {r0 : Arr 256} (h : kq_Sub.f K a0 a1 = some r0) (w0 : World) : Ret Tryd.prog 66 #[.agg (enc .i32 a0).toArray, .agg (enc .i32 a1).toArray] w0 (.agg (enc .i32 r0).toArray) := by
 refine calls_k Tryd.func66 rfl fun Q qq => ?_
 have hs := St.start w0
 refine wp_conv (a' := ⟨#[.agg (enc .i32 a0).toArray, .agg (enc .i32 a1).toArray, undef, undef, undef, undef, undef, undef, undef, undef, undef, undef, undef, undef, undef, undef, undef, undef, undef, undef, undef, undef, undef, undef, undef, undef, undef, undef], []⟩) (by kernel_rfl) ?_
 refine xseq_k fun KS1 ks1 => ?_
 refine xregS [0, 1, 2] fun KR2 kr2 => ?_
 refine wpS.only 0 (op_box (t := 32) (v := .agg (enc .i32 a0).toArray) (d := (some 2)) (by kernel_rfl) hs (enc .i32 a0) (by kernel_rfl) (by kernel_rfl) ?_)
 intro b1 w gw hs
 refine ⟨fun _ => trivial, ?_⟩
 refine wpS.only 1 (op_box (t := 32) (v := .agg (enc .i32 a1).toArray) (d := (some 3)) (by kernel_rfl) hs (enc .i32 a1) (by kernel_rfl) (by kernel_rfl) ?_)
 intro b2 w gw hs
 refine ⟨fun _ => trivial, ?_⟩
 refine wpS.only 2 (op_alloc (t := 32) (d := (some 4)) (by kernel_rfl) hs (enc .i32 (zeroA 256)) (.agg (enc .i32 (zeroA 256)).toArray) (by kernel_rfl) (by kernel_rfl) (by kernel_rfl) ?_)
 intro b3 w gw hs
 refine ⟨fun _ => trivial, ?_⟩
 refine wpS.fin rfl (kr2 _ _ (then_n (ks1 _ _ (xseq_k fun KS3 ks3 => (xseq_k fun KS4 ks4 => (xregS [0] fun KR5 kr5 => ?_))))))
 refine wpS.q 0 6 (.int .i64 0) ?_
 refine wpS.fin rfl (kr5 _ _ (then_n (ks4 _ _ ?_)))
 obtain ⟨y6, hy, hk0⟩ := of_bind h
 refine wp_exq (N := fun a w => St w0 [] [.blk b3 (enc .i32 (zeroA 256)) 32, .blk b2 (enc .i32 a1) 32, .blk b1 (enc .i32 y6) 32] [] w ∧ ∃ g7 : Nat → Value, a = ⟨#[.agg (enc .i32 a0).toArray, .agg (enc .i32 a1).toArray, .pointer (some ⟨b1, 0, none⟩), .pointer (some ⟨b2, 0, none⟩), .pointer (some ⟨b3, 0, none⟩), (g7 5), (g7 6), (g7 7), (g7 8), (g7 9), (g7 10), (g7 11), (g7 12), (g7 13), (g7 14), (g7 15), (g7 16), (g7 17), (g7 18), (g7 19), (g7 20), (g7 21), (g7 22), (g7 23), (g7 24), (g7 25), (g7 26), undef], []⟩) (fun N0 nn0 => ?_) ?_
 ·clear hk0
  refine xblock ?_
  refine wp_loop_k (fun n a w => ∃ z4 z5, kq_Sub.l0 K n a1 z4 z5 = some y6 ∧ St w0 [] [.blk b3 (enc .i32 (zeroA 256)) 32, .blk b2 (enc .i32 a1) 32, .blk b1 (enc .i32 z5) 32] [] w ∧ ∃ g6 : Nat → Value, a = ⟨#[.agg (enc .i32 a0).toArray, .agg (enc .i32 a1).toArray, .pointer (some ⟨b1, 0, none⟩), .pointer (some ⟨b2, 0, none⟩), .pointer (some ⟨b3, 0, none⟩), (g6 5), .int .i64 z4, (g6 7), (g6 8), (g6 9), (g6 10), (g6 11), (g6 12), (g6 13), (g6 14), (g6 15), (g6 16), (g6 17), (g6 18), (g6 19), (g6 20), (g6 21), (g6 22), (g6 23), (g6 24), (g6 25), (g6 26), undef], []⟩) K ⟨0, a0, hy, hs.conv rfl, exg (by kernel_rfl)⟩ ?_
  clear hs h hy
  rintro n a w ⟨z4, z5, h, hs, g6, rfl⟩ KL0 kl0
  cases n with
  | zero => exact nomatch (show none = some _ from h)
  | succ n =>
   refine xseq_k fun KS8 ks8 => ?_
   refine xregS [0] fun KR9 kr9 => ?_
   rcases of_if h with ⟨hc, h⟩ | ⟨hc, h⟩
   ·refine wpS.tk 0 false (some 7) (.bool true) (yld_b (dt hc) (fun _ => by kernel_rfl)) ?_
    refine wpS.fin rfl (kr9 _ _ (then_n (ks8 _ _ (xseq_k fun KS10 ks10 => (wp_cond_t (by kernel_rfl) (xskip (then_n (ks10 _ _ ?_))))))))
    obtain ⟨y7, hj, h⟩ := of_bind h
    refine xseq_k fun KS12 ks12 => wp_join (N := fun a w => St w0 [] [.blk b3 (enc .i32 (zeroA 256)) 32, .blk b2 (enc .i32 a1) 32, .blk b1 (enc .i32 y7) 32] [] w ∧ ∃ g11 : Nat → Value, a = ⟨#[.agg (enc .i32 a0).toArray, .agg (enc .i32 a1).toArray, .pointer (some ⟨b1, 0, none⟩), .pointer (some ⟨b2, 0, none⟩), .pointer (some ⟨b3, 0, none⟩), (g11 5), .int .i64 z4, .bool true, (g11 8), (g11 9), (g11 10), (g11 11), (g11 12), (g11 13), (g11 14), (g11 15), (g11 16), (g11 17), (g11 18), (g11 19), (g11 20), (g11 21), (g11 22), (g11 23), (g11 24), (g11 25), (g6 26), undef], []⟩) (fun N nj => ?_) ?_
    ·clear h
     have h := hj
     refine xblock (xseq_k fun KS13 ks13 => (xregS [0, 1] fun KR14 kr14 => ?_))
     refine wpS.qs [(0, 8, .int .i64 z4), (1, 5, .int .i64 z4)] ?_
     refine wpS.fin rfl (kr14 _ _ (then_n (ks13 _ _ (xseq_k fun KS15 ks15 => ?_))))
     refine wp_regG [8] (fun k => True) 9 (by kernel_rfl) (by kernel_rfl) (by kernel_rfl) fun KR16 kr16 => ?_
     have hs := hs.drawn1
     refine wpG.q 0 9 (.int .i64 z4) ?_
     obtain ⟨i0_17, h⟩ := of_chk h
     obtain ⟨i1_17, h⟩ := of_chk h
     refine wpG.tD 1 false (some 10) (.pointer (some ⟨b1, 0 + (z4 : Int).toNat * 1, none⟩)) (yld_idx (t := 32) (e := 21) (n := 256) (sz := 1) (k := .i64) (x := z4) (by kernel_rfl) (by kernel_rfl) (by kernel_rfl) i0_17 i1_17) ?_
     refine wpG.tD 2 true (some 11) (.int .i32 (rd z5 z4)) (yld_loadA (e := 21) (x := z4) hs 2 rfl (by kernel_rfl) (by kernel_rfl) i0_17 i1_17 .grow) ?_
     refine wpG.q 3 12 (.int .i64 z4) ?_
     obtain ⟨i0_18, h⟩ := of_chk h
     obtain ⟨i1_18, h⟩ := of_chk h
     refine wpG.tD 4 false (some 13) (.pointer (some ⟨b2, 0 + (z4 : Int).toNat * 1, none⟩)) (yld_idx (t := 32) (e := 21) (n := 256) (sz := 1) (k := .i64) (x := z4) (by kernel_rfl) (by kernel_rfl) (by kernel_rfl) i0_18 i1_18) ?_
     refine wpG.tD 5 true (some 14) (.int .i32 (rd a1 z4)) (yld_loadA (e := 21) (x := z4) hs 1 rfl (by kernel_rfl) (by kernel_rfl) i0_18 i1_18 .grow) ?_
     refine wpG.q 6 15 (.int .i32 (isub .i32 (rd z5 z4) (rd a1 z4))) ?_
     obtain ⟨i0_19, h⟩ := of_chk h
     obtain ⟨i1_19, h⟩ := of_chk h
     refine wpG.tD 7 false (some 16) (.pointer (some ⟨b1, 0 + (z4 : Int).toNat * 1, none⟩)) (yld_idx (t := 32) (e := 21) (n := 256) (sz := 1) (k := .i64) (x := z4) (by kernel_rfl) (by kernel_rfl) (by kernel_rfl) i0_19 i1_19) ?_
     obtain ⟨x8, hx, h⟩ := of_bind h
     refine wpG.only 8 (by kernel_rfl) (op_storeA (t := 21) (x := z4) (v := x8) (d := none) (by kernel_rfl) hs 2 rfl (by cases hx; kernel_rfl) (by kernel_rfl) i0_19 i1_19 ?_)
     intro w kp hs
     refine ⟨⟨fun hf => absurd hf (by decide), .all _ _⟩, ?_⟩
     refine wpG.fin (by kernel_rfl) rfl (kr16 _ _ ?_)
     refine then_n (ks15 _ _ (xseq_k fun KS20 ks20 => (xregS [0, 1, 2, 3] fun KR21 kr21 => ?_)))
     refine wpS.q 0 17 (.int .i64 z4) ?_
     obtain ⟨i0_22, h⟩ := of_chk h
     obtain ⟨i1_22, h⟩ := of_chk h
     refine wpS.tk 1 false (some 18) (.pointer (some ⟨b1, 0 + (z4 : Int).toNat * 1, none⟩)) (yld_idx (t := 32) (e := 21) (n := 256) (sz := 1) (k := .i64) (x := z4) (by kernel_rfl) (by kernel_rfl) (by kernel_rfl) i0_22 i1_22) ?_
     refine wpS.tk 2 true (some 19) (.int .i32 (rd (wr z5 z4 x8) z4)) (yld_loadA (e := 21) (x := z4) hs 2 rfl (by kernel_rfl) (by kernel_rfl) i0_22 i1_22 .grow) ?_
     rcases of_if h with ⟨hc, h⟩ | ⟨hc, h⟩
     ·refine wpS.tk 3 false (some 20) (.bool true) (yld_b (dt hc) (fun _ => by kernel_rfl)) ?_
      refine wpS.fin rfl (kr21 _ _ (then_n (ks20 _ _ (wp_cond_t (by kernel_rfl) (xregS [0, 1, 2, 3, 4, 5] fun KR23 kr23 => ?_)))))
      refine wpS.q 0 21 (.int .i64 z4) ?_
      obtain ⟨i0_24, h⟩ := of_chk h
      obtain ⟨i1_24, h⟩ := of_chk h
      refine wpS.tk 1 false (some 22) (.pointer (some ⟨b1, 0 + (z4 : Int).toNat * 1, none⟩)) (yld_idx (t := 32) (e := 21) (n := 256) (sz := 1) (k := .i64) (x := z4) (by kernel_rfl) (by kernel_rfl) (by kernel_rfl) i0_24 i1_24) ?_
      refine wpS.tk 2 true (some 23) (.int .i32 (rd (wr z5 z4 x8) z4)) (yld_loadA (e := 21) (x := z4) hs 2 rfl (by kernel_rfl) (by kernel_rfl) i0_24 i1_24 .grow) ?_
      refine wpS.q 3 24 (.int .i32 (iadd .i32 (rd (wr z5 z4 x8) z4) 3329)) ?_
      obtain ⟨i0_25, h⟩ := of_chk h
      obtain ⟨i1_25, h⟩ := of_chk h
      refine wpS.tk 4 false (some 25) (.pointer (some ⟨b1, 0 + (z4 : Int).toNat * 1, none⟩)) (yld_idx (t := 32) (e := 21) (n := 256) (sz := 1) (k := .i64) (x := z4) (by kernel_rfl) (by kernel_rfl) (by kernel_rfl) i0_25 i1_25) ?_
      obtain ⟨x9, hx, h⟩ := of_bind h
      refine wpS.only 5 (op_storeA (t := 21) (x := z4) (v := x9) (d := none) (by kernel_rfl) hs 2 rfl (by cases hx; kernel_rfl) (by kernel_rfl) i0_25 i1_25 ?_)
      intro w kp hs
      refine ⟨fun _ => trivial, ?_⟩
      refine wpS.fin rfl (kr23 _ _ (inBlock_n ?_))
      have q0 := of_some h
      subst q0
      exact nj _ _ ⟨(hs.conv rfl), exg (by kernel_rfl)⟩
     refine wpS.tk 3 false (some 20) (.bool false) (yld_b (df hc) (fun _ => by kernel_rfl)) ?_
     refine wpS.fin rfl (kr21 _ _ (then_n (ks20 _ _ (wp_cond_f (by kernel_rfl) (xskip (inBlock_n ?_))))))
     have q0 := of_some h
     subst q0
     exact nj _ _ ⟨(hs.conv rfl), exg (by kernel_rfl)⟩
    clear hj hs
    rintro a w ⟨hs, g11, rfl⟩
    refine then_n (ks12 _ _ (xregS [0, 1] fun KR26 kr26 => ?_))
    refine wpS.qs [(0, 26, .int .i64 (iadd .i64 z4 1)), (1, 6, .int .i64 (iadd .i64 z4 1))] ?_
    refine wpS.fin rfl (kr26 _ _ ?_)
    exact then_n (kl0 _ _ ⟨n, Nat.lt_succ_self n, (iadd .i64 z4 1), y7, h, (hs.conv rfl), exg (by kernel_rfl)⟩)
   refine wpS.tk 0 false (some 7) (.bool false) (yld_b (df hc) (fun _ => by kernel_rfl)) ?_
   refine wpS.fin rfl (kr9 _ _ (then_n (ks8 _ _ (xseq_k fun KS27 ks27 => (wp_cond_f (by kernel_rfl) (xexit (then_x (then_x (inBlock_hit ?_)))))))))
   have q0 := of_some h
   subst q0
   exact exq_n (nn0 _ _ ⟨(hs.conv rfl), exg (by kernel_rfl)⟩)
 clear hs h hy
 rintro a w ⟨hs, g7, rfl⟩
 have h := hk0
 refine then_n (ks3 _ _ (xseq_k fun KS28 ks28 => (xregS [0, 1] fun KR29 kr29 => ?_)))
 refine wpS.tk 0 true (some 27) (.agg (enc .i32 y6).toArray) (yld_loadW (e := 32) (n := 256) hs 2 rfl (by kernel_rfl) (by kernel_rfl) (by kernel_rfl) (by exact enc_len _ _) .grow) ?_
 refine wpS.only 1 (op_storeW (t := 32) (v := .agg (enc .i32 y6).toArray) (d := none) (by kernel_rfl) hs 0 rfl (vs := enc .i32 y6) (n := 256) (by kernel_rfl) (by kernel_rfl) (by kernel_rfl) (by simp [enc_len]) (by simp [enc_len]) (by intro u hu; exact enc_one _ _ u hu) ?_)
 intro w kp hs
 refine ⟨fun _ => trivial, ?_⟩
 refine wpS.fin rfl (kr29 _ _ (then_n (ks28 _ _ (xret ?_))))
 have q0 := of_some h
 subst q0
 exact qq _ _ (post_ret (by kernel_rfl) (run_results [.cell 4 32] [.agg (enc .i32 y6).toArray] (by kernel_rfl) (.cons (res_cellN (n := 256) hs 0 rfl (by kernel_rfl) (by kernel_rfl) (by kernel_rfl) (by exact enc_len _ _)) .nil)) ⟨congrArg Ending.returned (by kernel_rfl), hs.none⟩)

theorem kpke_Decrypt.ok {K : Nat} {a0_0 : Int} {a0_1 : Int} {a0_2 : Int} {a0_3 : Int} {a0_4 : Int} {a1 : List Int} {a2 : List Int} {r0 : List Int} {r1 : Int} {a1_A : Option Addr} {a1_n : Nat} {a1_c : Nat} {a2_A : Option Addr} {a2_n : Nat} {a2_c : Nat} (h : kpke_Decrypt.f K a0_0 a0_1 a0_2 a0_3 a0_4 a1 a2 = some (r0, r1)) (w0 : World) (hp1 : RowL (CI .u8) w0 a1_A a1_n a1_c a1) (hp2 : RowL (CI .u8) w0 a2_A a2_n a2_c a2) : Calls Tryd.prog 23 #[.agg #[.int .i64 a0_0, .int .i64 a0_1, .int .i64 a0_2, .int .i64 a0_3, .int .i64 a0_4], .slice a1_A a1_n a1_c, .slice a2_A a2_n a2_c] w0 fun e w' => ∃ h : (Option Addr × Nat × Nat), e = .returned (.tuple #[.slice h.1 h.2.1 h.2.2, .int .i64 r1]) ∧ St w0 [] [.ownL (CI .u8) h.1 h.2.1 h.2.2 r0 5] [] w' := by
 refine calls_k Tryd.func23 rfl fun Q qq => ?_
 have hs := St.startR (all_cons (RowP.ent hp1) (all_cons (RowP.ent hp2) all_nil))
 refine wp_conv (a' := ⟨#[.agg #[.int .i64 a0_0, .int .i64 a0_1, .int .i64 a0_2, .int .i64 a0_3, .int .i64 a0_4], .slice a1_A a1_n a1_c, .slice a2_A a2_n a2_c, undef, undef, undef, undef, undef, undef, undef, undef, undef, undef, undef, undef, undef, undef, undef, undef, undef, undef, undef, undef, undef, undef, undef, undef, undef, undef, undef, undef, undef, undef, undef, undef, undef, undef, undef, undef, undef, undef, undef, undef, undef, undef, undef, undef, undef, undef, undef, undef, undef, undef, undef, undef, undef, undef, undef, undef, undef, undef, undef, undef, undef, undef, undef, undef, undef, undef, undef, undef, undef, undef, undef, undef, undef, undef, undef, undef, undef, undef, undef, undef, undef, undef, undef, undef, undef, undef, undef, undef, undef, undef, undef, undef, undef, undef, undef, undef], []⟩) (by kernel_rfl) ?_
 refine xseq_k fun KS1 ks1 => ?_
 refine xregS [0, 1, 2] fun KR2 kr2 => ?_
 refine wpS.only 0 (op_box (t := 23) (v := .agg #[.int .i64 a0_0, .int .i64 a0_1, .int .i64 a0_2, .int .i64 a0_3, .int .i64 a0_4]) (d := (some 3)) (by kernel_rfl) hs ([.int .i64 a0_0, .int .i64 a0_1, .int .i64 a0_2, .int .i64 a0_3, .int .i64 a0_4]) (by kernel_rfl) (by kernel_rfl) ?_)
 intro b1 w gw hs
 refine ⟨fun _ => trivial, ?_⟩
 refine wpS.qs [(1, 6, .slice none 0 0), (2, 7, .int .i64 0)] ?_
 refine wpS.fin rfl (kr2 _ _ (then_n (ks1 _ _ (xseq_k fun KS3 ks3 => (xregS [0, 1, 2, 3, 4, 5, 6, 7, 8] fun KR4 kr4 => ?_)))))
 refine wpS.tk 0 true (some 21) (.agg #[.int .i64 a0_0, .int .i64 a0_1, .int .i64 a0_2, .int .i64 a0_3, .int .i64 a0_4]) (yld_loadW (e := 23) (n := 5) hs 0 rfl (by kernel_rfl) (by kernel_rfl) (by kernel_rfl) (by simp [enc_len]) .grow) ?_
 obtain ⟨⟨r2, r3, r4⟩, hg, h⟩ := of_bind h
 refine wpS.only 1 (op_call (d := (some 22)) (by kernel_rfl) hs (fun _ => by kernel_rfl) (kpke_Sizes.ok hg _) ?_)
 intro w gw hs
 refine ⟨fun _ => trivial, ?_⟩
 refine wpS.qs [(2, 20, .tuple #[.int .i64 r2, .int .i64 r3, .int .i64 r4]), (3, 23, .int .i64 r2), (4, 24, .int .i64 r3), (5, 25, .int .i64 r4), (6, 8, .int .i64 r2), (7, 9, .int .i64 r3), (8, 10, .int .i64 r4)] ?_
 refine wpS.fin rfl (kr4 _ _ (then_n (ks3 _ _ (xseq_k fun KS5 ks5 => (xblock (xseq_k fun KS6 ks6 => (xregS [0, 1, 2] fun KR7 kr7 => ?_)))))))
 refine wpS.q 0 27 (.int .i64 r3) ?_
 rcases of_if h with ⟨hc, h⟩ | ⟨hc, h⟩
 ·refine wpS.tk 1 false (some 28) (.bool true) (yld_b (et hc) (fun _ => by kernel_rfl)) ?_
  refine wpS.q 2 26 (.bool true) ?_
  refine wpS.fin rfl (kr7 _ _ (then_n (ks6 _ _ (wp_cond_t (by kernel_rfl) (xseq_k fun KS8 ks8 => (xregS [0, 1] fun KR9 kr9 => ?_))))))
  refine wpS.qs [(0, 6, .slice none 0 0), (1, 7, .int .i64 9)] ?_
  refine wpS.fin rfl (kr9 _ _ (then_n (ks8 _ _ (xret (inBlock_r (then_r ?_))))))
  obtain ⟨q0, qr0⟩ := Prod.mk.inj (of_some h)
  have q1 := qr0
  subst q0
  subst q1
  have hs := hs.addNilL (CI .u8) 5
  exact qq _ _ (post_ret (by kernel_rfl) (run_results [.tmp 6, .tmp 7] [.slice none 0 0, .int .i64 9] (by kernel_rfl) (.cons (res_tmp (by kernel_rfl)) (.cons (res_tmp (by kernel_rfl)) .nil))) ⟨⟨none, 0, 0⟩, congrArg Ending.returned (by kernel_rfl), ((hs.drop (.cons_cons _ (.cons _ .slnil))).pickR pick_nil)⟩)
 refine wpS.tk 1 false (some 28) (.bool false) (yld_b (ef hc) (fun _ => by kernel_rfl)) ?_
 refine wpS.q 2 26 (.bool false) ?_
 refine wpS.fin rfl (kr7 _ _ (then_n (ks6 _ _ (wp_cond_f (by kernel_rfl) (xseq_k fun KS10 ks10 => (xregS [0, 1, 2, 3, 4] fun KR11 kr11 => ?_))))))
 refine wpS.q 0 30 (.slice a1_A a1_n a1_c) ?_
 refine wpS.tk 1 false (some 31) (.int .i64 (a1.length : Int)) (yld_lenL (hs.rowR 0 rfl) (fun _ => by kernel_rfl)) ?_
 refine wpS.q 2 32 (.int .i64 r3) ?_
 rcases of_if h with ⟨hc, h⟩ | ⟨hc, h⟩
 ·refine wpS.tk 3 false (some 33) (.bool false) (yld_b (nf hc) (fun _ => by kernel_rfl)) ?_
  refine wpS.q 4 29 (.bool false) ?_
  refine wpS.fin rfl (kr11 _ _ (then_n (ks10 _ _ (wp_cond_f (by kernel_rfl) (xskip (inBlock_n (then_n (ks5 _ _ (xseq_k fun KS12 ks12 => (xregS [0, 1, 2, 3, 4, 5, 6, 7, 8] fun KR13 kr13 => ?_))))))))))
  refine wpS.qs [(0, 35, .slice a1_A a1_n a1_c), (1, 36, .pointer (some ⟨b1, 0, none⟩))] ?_
  refine wpS.tk 2 true (some 37) (.int .i64 a0_0) (yld_load1 (e := 3) (o := 0) hs 0 rfl (by kernel_rfl) (by kernel_rfl) (by rfl) .grow) ?_
  obtain ⟨⟨r5, r6⟩, hg, h⟩ := of_bind h
  refine wpS.only 3 (op_callH (d := (some 38)) (by kernel_rfl) hs (fun _ => by kernel_rfl) (kpke_read.ok hg _ (hs.rowR 0 rfl)) ?_)
  rintro ⟨r5_A, r5_n, r5_c⟩ w gw hs
  have hs := hs.conv (L' := [.ownL (CA .i32 256 (by decide)) r5_A r5_n r5_c r5 32, .blk b1 ([.int .i64 a0_0, .int .i64 a0_1, .int .i64 a0_2, .int .i64 a0_3, .int .i64 a0_4]) 23]) rfl
  refine ⟨fun _ => trivial, ?_⟩
  refine wpS.qs [(4, 34, .tuple #[.slice r5_A r5_n r5_c, .bool r6]), (5, 39, .slice r5_A r5_n r5_c)] ?_
  cases r6 with
  | true =>
   have h := of_if_t h
   refine wpS.qs [(6, 40, .bool true), (7, 11, .slice r5_A r5_n r5_c), (8, 12, .bool true)] ?_
   refine wpS.fin rfl (kr13 _ _ (then_n (ks12 _ _ (xseq_k fun KS14 ks14 => (xblock (xseq_k fun KS15 ks15 => (xregS [0, 1, 2] fun KR16 kr16 => ?_)))))))
   refine wpS.qs [(0, 42, .bool true), (1, 43, .bool false), (2, 41, .bool false)] ?_
   refine wpS.fin rfl (kr16 _ _ (then_n (ks15 _ _ (wp_cond_f (by kernel_rfl) (xseq_k fun KS17 ks17 => (xregS [0, 1, 2, 3, 4] fun KR18 kr18 => ?_))))))
   refine wpS.q 0 45 (.slice a2_A a2_n a2_c) ?_
   refine wpS.tk 1 false (some 46) (.int .i64 (a2.length : Int)) (yld_lenL (hs.rowR 1 rfl) (fun _ => by kernel_rfl)) ?_
   refine wpS.q 2 47 (.int .i64 r4) ?_
   rcases of_if h with ⟨hc, h⟩ | ⟨hc, h⟩
   ·refine wpS.tk 3 false (some 48) (.bool false) (yld_b (nf hc) (fun _ => by kernel_rfl)) ?_
    refine wpS.q 4 44 (.bool false) ?_
    refine wpS.fin rfl (kr18 _ _ (then_n (ks17 _ _ (wp_cond_f (by kernel_rfl) (xskip (inBlock_n (then_n (ks14 _ _ (xseq_k fun KS19 ks19 => (xregS [0, 1, 2, 3, 4, 5, 6, 7, 8, 9, 10] fun KR20 kr20 => ?_))))))))))
    refine wpS.qs [(0, 50, .slice a2_A a2_n a2_c), (1, 51, .pointer (some ⟨b1, 0, none⟩))] ?_
    refine wpS.tk 2 true (some 52) (.int .i64 a0_0) (yld_load1 (e := 3) (o := 0) hs 1 rfl (by kernel_rfl) (by kernel_rfl) (by rfl) .grow) ?_
    refine wpS.q 3 53 (.pointer (some ⟨b1, 3, none⟩)) ?_
    refine wpS.tk 4 true (some 54) (.int .i64 a0_3) (yld_load1 (e := 3) (o := 3) hs 1 rfl (by kernel_rfl) (by kernel_rfl) (by rfl) .grow) ?_
    obtain ⟨⟨r7, r8⟩, hg, h⟩ := of_bind h
    refine wpS.only 5 (op_callH (d := (some 55)) (by kernel_rfl) hs (fun _ => by kernel_rfl) (kpke_read.ok hg _ (hs.rowR 1 rfl)) ?_)
    rintro ⟨r7_A, r7_n, r7_c⟩ w gw hs
    have hs := hs.conv (L' := [.ownL (CA .i32 256 (by decide)) r7_A r7_n r7_c r7 32, .ownL (CA .i32 256 (by decide)) r5_A r5_n r5_c r5 32, .blk b1 ([.int .i64 a0_0, .int .i64 a0_1, .int .i64 a0_2, .int .i64 a0_3, .int .i64 a0_4]) 23]) rfl
    refine ⟨fun _ => trivial, ?_⟩
    refine wpS.qs [(6, 49, .tuple #[.slice r7_A r7_n r7_c, .bool r8]), (7, 56, .slice r7_A r7_n r7_c), (8, 57, .bool r8), (9, 13, .slice r7_A r7_n r7_c), (10, 14, .bool r8)] ?_
    refine wpS.fin rfl (kr20 _ _ (then_n (ks19 _ _ (xseq_k fun KS21 ks21 => (xseq_k fun KS22 ks22 => (xregS [0, 1, 2] fun KR23 kr23 => ?_))))))
    refine wpS.q 0 58 (.slice r7_A r7_n r7_c) ?_
    refine wpS.tk 1 false (some 59) (.int .i64 (r7.length : Int)) (yld_lenL (hs.rowL 0 rfl) (fun _ => by kernel_rfl)) ?_
    refine wpS.q 2 60 (.int .i64 0) ?_
    refine wpS.fin rfl (kr23 _ _ (then_n (ks22 _ _ ?_)))
    obtain ⟨y11, hy, hk0⟩ := of_bind h
    refine wp_exq (N := fun a w => St w0 [] [.ownL (CA .i32 256 (by decide)) r7_A r7_n r7_c y11 32, .ownL (CA .i32 256 (by decide)) r5_A r5_n r5_c r5 32, .blk b1 ([.int .i64 a0_0, .int .i64 a0_1, .int .i64 a0_2, .int .i64 a0_3, .int .i64 a0_4]) 23] [.rowL (CI .u8) a1_A a1_n a1_c a1, .rowL (CI .u8) a2_A a2_n a2_c a2] w ∧ ∃ g25 : Nat → Value, a = ⟨#[.agg #[.int .i64 a0_0, .int .i64 a0_1, .int .i64 a0_2, .int .i64 a0_3, .int .i64 a0_4], .slice a1_A a1_n a1_c, .slice a2_A a2_n a2_c, .pointer (some ⟨b1, 0, none⟩), undef, undef, .slice none 0 0, .int .i64 0, .int .i64 r2, .int .i64 r3, .int .i64 r4, .slice r5_A r5_n r5_c, .bool true, .slice r7_A r7_n r7_c, .bool r8, (g25 15), (g25 16), undef, undef, undef, .tuple #[.int .i64 r2, .int .i64 r3, .int .i64 r4], .agg #[.int .i64 a0_0, .int .i64 a0_1, .int .i64 a0_2, .int .i64 a0_3, .int .i64 a0_4], .tuple #[.int .i64 r2, .int .i64 r3, .int .i64 r4], .int .i64 r2, .int .i64 r3, .int .i64 r4, .bool false, .int .i64 r3, .bool false, .bool false, .slice a1_A a1_n a1_c, .int .i64 (a1.length : Int), .int .i64 r3, .bool false, .tuple #[.slice r5_A r5_n r5_c, .bool true], .slice a1_A a1_n a1_c, .pointer (some ⟨b1, 0, none⟩), .int .i64 a0_0, .tuple #[.slice r5_A r5_n r5_c, .bool true], .slice r5_A r5_n r5_c, .bool true, .bool false, .bool true, .bool false, .bool false, .slice a2_A a2_n a2_c, .int .i64 (a2.length : Int), .int .i64 r4, .bool false, .tuple #[.slice r7_A r7_n r7_c, .bool r8], .slice a2_A a2_n a2_c, .pointer (some ⟨b1, 0, none⟩), .int .i64 a0_0, .pointer (some ⟨b1, 3, none⟩), .int .i64 a0_3, .tuple #[.slice r7_A r7_n r7_c, .bool r8], .slice r7_A r7_n r7_c, .bool r8, .slice r7_A r7_n r7_c, .int .i64 (r7.length : Int), (g25 60), (g25 61), (g25 62), (g25 63), (g25 64), (g25 65), (g25 66), (g25 67), (g25 68), (g25 69), (g25 70), (g25 71), (g25 72), undef, undef, undef, undef, undef, undef, undef, undef, undef, undef, undef, undef, undef, undef, undef, undef, undef, undef, undef, undef, undef, undef, undef, undef, undef, undef], []⟩) (fun N0 nn0 => ?_) ?_
    ·clear hk0
     refine xblock ?_
     refine wp_loop_k (fun n a w => ∃ z9 z10, kpke_Decrypt.l0 K n a0_3 r7 z9 z10 = some y11 ∧ St w0 [] [.ownL (CA .i32 256 (by decide)) r7_A r7_n r7_c z10 32, .ownL (CA .i32 256 (by decide)) r5_A r5_n r5_c r5 32, .blk b1 ([.int .i64 a0_0, .int .i64 a0_1, .int .i64 a0_2, .int .i64 a0_3, .int .i64 a0_4]) 23] [.rowL (CI .u8) a1_A a1_n a1_c a1, .rowL (CI .u8) a2_A a2_n a2_c a2] w ∧ ∃ g24 : Nat → Value, a = ⟨#[.agg #[.int .i64 a0_0, .int .i64 a0_1, .int .i64 a0_2, .int .i64 a0_3, .int .i64 a0_4], .slice a1_A a1_n a1_c, .slice a2_A a2_n a2_c, .pointer (some ⟨b1, 0, none⟩), undef, undef, .slice none 0 0, .int .i64 0, .int .i64 r2, .int .i64 r3, .int .i64 r4, .slice r5_A r5_n r5_c, .bool true, .slice r7_A r7_n r7_c, .bool r8, (g24 15), (g24 16), undef, undef, undef, .tuple #[.int .i64 r2, .int .i64 r3, .int .i64 r4], .agg #[.int .i64 a0_0, .int .i64 a0_1, .int .i64 a0_2, .int .i64 a0_3, .int .i64 a0_4], .tuple #[.int .i64 r2, .int .i64 r3, .int .i64 r4], .int .i64 r2, .int .i64 r3, .int .i64 r4, .bool false, .int .i64 r3, .bool false, .bool false, .slice a1_A a1_n a1_c, .int .i64 (a1.length : Int), .int .i64 r3, .bool false, .tuple #[.slice r5_A r5_n r5_c, .bool true], .slice a1_A a1_n a1_c, .pointer (some ⟨b1, 0, none⟩), .int .i64 a0_0, .tuple #[.slice r5_A r5_n r5_c, .bool true], .slice r5_A r5_n r5_c, .bool true, .bool false, .bool true, .bool false, .bool false, .slice a2_A a2_n a2_c, .int .i64 (a2.length : Int), .int .i64 r4, .bool false, .tuple #[.slice r7_A r7_n r7_c, .bool r8], .slice a2_A a2_n a2_c, .pointer (some ⟨b1, 0, none⟩), .int .i64 a0_0, .pointer (some ⟨b1, 3, none⟩), .int .i64 a0_3, .tuple #[.slice r7_A r7_n r7_c, .bool r8], .slice r7_A r7_n r7_c, .bool r8, .slice r7_A r7_n r7_c, .int .i64 (r7.length : Int), .int .i64 z9, (g24 61), (g24 62), (g24 63), (g24 64), (g24 65), (g24 66), (g24 67), (g24 68), (g24 69), (g24 70), (g24 71), (g24 72), undef, undef, undef, undef, undef, undef, undef, undef, undef, undef, undef, undef, undef, undef, undef, undef, undef, undef, undef, undef, undef, undef, undef, undef, undef, undef], []⟩) K ⟨0, r7, hy, hs.conv rfl, exg (by kernel_rfl)⟩ ?_
     clear hs h hy
     rintro n a w ⟨z9, z10, h, hs, g24, rfl⟩ KL0 kl0
     cases n with
     | zero => exact nomatch (show none = some _ from h)
     | succ n =>
      refine xseq_k fun KS26 ks26 => ?_
      refine xregS [0] fun KR27 kr27 => ?_
      rcases of_if h with ⟨hc, h⟩ | ⟨hc, h⟩
      ·refine wpS.tk 0 false (some 61) (.bool true) (yld_b (dt hc) (fun _ => by kernel_rfl)) ?_
       refine wpS.fin rfl (kr27 _ _ (then_n (ks26 _ _ (xseq_k fun KS28 ks28 => (wp_cond_t (by kernel_rfl) (xskip (then_n (ks28 _ _ (xseq_k fun KS29 ks29 => (xblock (xseq_k fun KS30 ks30 => (xregS [0, 1, 2, 3, 4, 5] fun KR31 kr31 => ?_))))))))))))
       refine wpS.q 0 62 (.int .i64 z9) ?_
       obtain ⟨h0, h⟩ := of_chk h
       obtain ⟨h1, h⟩ := of_chk h
       have i0_32 := h0
       have i1_32 := h1
       refine wpS.tk 1 false (some 63) (.pointer (adr r7_A ((z9 : Int).toNat * Cod.size (CA .i32 256 (by decide))))) (yld_idxL (C := (CA .i32 256 (by decide))) (t := 78) (e := 32) (k := .i64) (x := z9) (hs.rowL 0 rfl) (by kernel_rfl) (by kernel_rfl) (by kernel_rfl) h0 h1) ?_
       refine wpS.tk 2 true (some 64) (.agg (enc .i32 (rdL (CA .i32 256 (by decide)) z10 z9)).toArray) (yld_loadLA (C := (CA .i32 256 (by decide))) (e := 32) (x := z9) (hs.rowL 0 rfl) (by kernel_rfl) rfl (by kernel_rfl) (by kernel_rfl) i0_32 i1_32) ?_
       refine wpS.only 3 (op_alloc (t := 32) (d := (some 16)) (by kernel_rfl) hs (enc .i32 (zeroA 256)) (.agg (enc .i32 (zeroA 256)).toArray) (by kernel_rfl) (by kernel_rfl) (by kernel_rfl) ?_)
       intro b12 w gw hs
       refine ⟨fun _ => trivial, ?_⟩
       refine wpS.q 4 15 (.int .i64 z9) ?_
       refine wpS.only 5 (op_storeW (t := 32) (v := .agg (enc .i32 (rdL (CA .i32 256 (by decide)) z10 z9)).toArray) (d := none) (by kernel_rfl) hs 0 rfl (vs := enc .i32 (rdL (CA .i32 256 (by decide)) z10 z9)) (n := 256) (by kernel_rfl) (by kernel_rfl) (by kernel_rfl) (by simp [enc_len]) (by simp [enc_len]) (by intro u hu; exact enc_one _ _ u hu) ?_)
       intro w kp hs
       refine ⟨fun _ => trivial, ?_⟩
       refine wpS.fin rfl (kr31 _ _ (then_n (ks30 _ _ (xregS [0, 1, 2, 3, 4, 5, 6, 7] fun KR33 kr33 => ?_))))
       refine wpS.qs [(0, 65, .slice r7_A r7_n r7_c), (1, 66, .int .i64 z9)] ?_
       refine wpS.tk 2 true (some 67) (.agg (enc .i32 (rdL (CA .i32 256 (by decide)) z10 z9)).toArray) (yld_loadW (e := 32) (n := 256) hs 0 rfl (by kernel_rfl) (by kernel_rfl) (by kernel_rfl) (by exact enc_len _ _) .grow) ?_
       refine wpS.q 3 68 (.pointer (some ⟨b1, 3, none⟩)) ?_
       refine wpS.tk 4 true (some 69) (.int .i64 a0_3) (yld_load1 (e := 3) (o := 3) hs 3 rfl (by kernel_rfl) (by kernel_rfl) (by rfl) .grow) ?_
       obtain ⟨r13, hg, h⟩ := of_bind h
       refine wpS.only 5 (op_call (d := (some 70)) (by kernel_rfl) hs (fun _ => by kernel_rfl) (kq_Widen.ok hg _) ?_)
       intro w gw hs
       refine ⟨fun _ => trivial, ?_⟩
       obtain ⟨h0, h⟩ := of_chk h
       obtain ⟨h1, h⟩ := of_chk h
       have i0_34 := h0
       have i1_34 := h1
       refine wpS.tk 6 false (some 71) (.pointer (adr r7_A ((z9 : Int).toNat * Cod.size (CA .i32 256 (by decide))))) (yld_idxL (C := (CA .i32 256 (by decide))) (t := 78) (e := 32) (k := .i64) (x := z9) (hs.rowL 1 rfl) (by kernel_rfl) (by kernel_rfl) (by kernel_rfl) h0 h1) ?_
       refine wpS.only 7 (op_storeL (C := (CA .i32 256 (by decide))) (t := 32) (x := z9) (v := r13) (d := none) (by kernel_rfl) hs 1 rfl (by kernel_rfl) (by kernel_rfl) i0_34 i1_34 ?_)
       intro w hs
       refine ⟨fun _ => trivial, ?_⟩
       refine wpS.fin rfl (kr33 _ _ (inBlock_n (then_n (ks29 _ _ (xregS [0, 1] fun KR35 kr35 => ?_)))))
       refine wpS.qs [(0, 72, .int .i64 (iadd .i64 z9 1)), (1, 60, .int .i64 (iadd .i64 z9 1))] ?_
       refine wpS.fin rfl (kr35 _ _ ?_)
       exact then_n (kl0 _ _ ⟨n, Nat.lt_succ_self n, (iadd .i64 z9 1), (wrL z10 z9 r13), h, (hs.drop (.cons _ (.cons_cons _ (.cons_cons _ (.cons_cons _ .slnil))))), exg (by kernel_rfl)⟩)
      refine wpS.tk 0 false (some 61) (.bool false) (yld_b (df hc) (fun _ => by kernel_rfl)) ?_
      refine wpS.fin rfl (kr27 _ _ (then_n (ks26 _ _ (xseq_k fun KS36 ks36 => (wp_cond_f (by kernel_rfl) (xexit (then_x (then_x (inBlock_hit ?_)))))))))
      have q0 := of_some h
      subst q0
      exact exq_n (nn0 _ _ ⟨(hs.conv rfl), exg (by kernel_rfl)⟩)
    clear hs h hy
    rintro a w ⟨hs, g25, rfl⟩
    have h := hk0
    refine then_n (ks21 _ _ (xseq_k fun KS37 ks37 => ?_))
    obtain ⟨y15, hj, h⟩ := of_bind h
    refine wp_join (N := fun a w => ∃ (b14 : Nat), St w0 [] [.blk b14 (enc .i32 y15) 32, .ownL (CA .i32 256 (by decide)) r7_A r7_n r7_c y11 32, .ownL (CA .i32 256 (by decide)) r5_A r5_n r5_c r5 32, .blk b1 ([.int .i64 a0_0, .int .i64 a0_1, .int .i64 a0_2, .int .i64 a0_3, .int .i64 a0_4]) 23] [.rowL (CI .u8) a1_A a1_n a1_c a1, .rowL (CI .u8) a2_A a2_n a2_c a2] w ∧ ∃ g38 : Nat → Value, a = ⟨#[.agg #[.int .i64 a0_0, .int .i64 a0_1, .int .i64 a0_2, .int .i64 a0_3, .int .i64 a0_4], .slice a1_A a1_n a1_c, .slice a2_A a2_n a2_c, .pointer (some ⟨b1, 0, none⟩), undef, undef, .slice none 0 0, .int .i64 0, .int .i64 r2, .int .i64 r3, .int .i64 r4, .slice r5_A r5_n r5_c, .bool true, .slice r7_A r7_n r7_c, .bool r8, (g25 15), (g25 16), .pointer (some ⟨b14, 0, none⟩), (g38 18), undef, .tuple #[.int .i64 r2, .int .i64 r3, .int .i64 r4], .agg #[.int .i64 a0_0, .int .i64 a0_1, .int .i64 a0_2, .int .i64 a0_3, .int .i64 a0_4], .tuple #[.int .i64 r2, .int .i64 r3, .int .i64 r4], .int .i64 r2, .int .i64 r3, .int .i64 r4, .bool false, .int .i64 r3, .bool false, .bool false, .slice a1_A a1_n a1_c, .int .i64 (a1.length : Int), .int .i64 r3, .bool false, .tuple #[.slice r5_A r5_n r5_c, .bool true], .slice a1_A a1_n a1_c, .pointer (some ⟨b1, 0, none⟩), .int .i64 a0_0, .tuple #[.slice r5_A r5_n r5_c, .bool true], .slice r5_A r5_n r5_c, .bool true, .bool false, .bool true, .bool false, .bool false, .slice a2_A a2_n a2_c, .int .i64 (a2.length : Int), .int .i64 r4, .bool false, .tuple #[.slice r7_A r7_n r7_c, .bool r8], .slice a2_A a2_n a2_c, .pointer (some ⟨b1, 0, none⟩), .int .i64 a0_0, .pointer (some ⟨b1, 3, none⟩), .int .i64 a0_3, .tuple #[.slice r7_A r7_n r7_c, .bool r8], .slice r7_A r7_n r7_c, .bool r8, .slice r7_A r7_n r7_c, .int .i64 (r7.length : Int), (g25 60), (g25 61), (g25 62), (g25 63), (g25 64), (g25 65), (g25 66), (g25 67), (g25 68), (g25 69), (g25 70), (g25 71), (g25 72), (g38 73), (g38 74), (g38 75), (g38 76), (g38 77), (g38 78), (g38 79), (g38 80), (g38 81), (g38 82), (g38 83), (g38 84), (g38 85), undef, undef, undef, undef, undef, undef, undef, undef, undef, undef, undef, undef, undef], []⟩) (fun N nj => ?_) ?_
    ·clear h
     have h := hj
     refine wp_regG [14] (fun k => True) 16 (by kernel_rfl) (by kernel_rfl) (by kernel_rfl) fun KR39 kr39 => ?_
     have hs := hs.drawn1
     refine wpG.q 0 74 (.slice a2_A a2_n a2_c) ?_
     refine wpG.q 1 75 (.int .i64 r4) ?_
     refine wpG.q 2 76 (.pointer (some ⟨b1, 4, none⟩)) ?_
     refine wpG.tD 3 true (some 77) (.int .i64 a0_4) (yld_load1 (e := 3) (o := 4) hs 2 rfl (by kernel_rfl) (by kernel_rfl) (by rfl) .grow) ?_
     refine wpG.q 4 78 (.int .i64 (imul .i64 32 a0_4)) ?_
     refine wpG.q 5 79 (.int .i64 (isub .i64 r4 (imul .i64 32 a0_4))) ?_
     obtain ⟨h0, h⟩ := of_chk h
     obtain ⟨h1, h⟩ := of_chk h
     obtain ⟨h2, h⟩ := of_chk h
     obtain ⟨s16_A, hA⟩ : ∃ A, A = if a2_c = ((isub .i64 r4 (imul .i64 32 a0_4)) : Int).toNat then a2_A else adr a2_A (((isub .i64 r4 (imul .i64 32 a0_4)) : Int).toNat * Cod.size (CI .u8)) := ⟨_, rfl⟩
     obtain ⟨s16_n, hn⟩ : ∃ n, n = ((a2.length : Int) : Int).toNat - ((isub .i64 r4 (imul .i64 32 a0_4)) : Int).toNat := ⟨_, rfl⟩
     obtain ⟨s16_c, hc⟩ : ∃ c, c = a2_c - ((isub .i64 r4 (imul .i64 32 a0_4)) : Int).toNat := ⟨_, rfl⟩
     refine wpG.tD 6 false (some 80) (.slice s16_A s16_n s16_c) (yld_sub (C := (CI .u8)) (t := 24) (e := 5) (low := some (.int .i64 (isub .i64 r4 (imul .i64 32 a0_4)))) (high := none) (lo := (isub .i64 r4 (imul .i64 32 a0_4))) (hi := (a2.length : Int)) (hs.rowR 1 rfl) (by kernel_rfl) (by kernel_rfl) (by kernel_rfl) (.inr ⟨_, rfl⟩) (.inl ⟨rfl, rfl⟩) h0 h1 h2 hA hn hc) ?_
     have hs := hs.addSub (C := (CI .u8)) 1 rfl h0 h1 h2 hA hn hc
     refine wpG.q 7 81 (.pointer (some ⟨b1, 4, none⟩)) ?_
     refine wpG.tD 8 true (some 82) (.int .i64 a0_4) (yld_load1 (e := 3) (o := 4) hs 2 rfl (by kernel_rfl) (by kernel_rfl) (by rfl) .grow) ?_
     refine wpG.many [9, 13] (by kernel_rfl) (by decide) (forall_cons ?_ (forall_cons ?_ forall_nil))
     ·obtain ⟨⟨r17, r18⟩, hg, h⟩ := of_bind h
      refine (op_call (d := (some 83)) (by kernel_rfl) hs (fun _ => by kernel_rfl) (kq_Unpack.ok hg _ (hs.rowR 0 rfl)) ?_)
      intro w gw hs
      refine ⟨.of gw, ?_⟩
      refine wpG.q 10 73 (.tuple #[.agg (enc .i32 r17).toArray, .bool r18]) ?_
      refine wpG.q 11 84 (.agg (enc .i32 r17).toArray) ?_
      refine wpG.q 12 85 (.bool r18) ?_
      refine wpG.only 13 (by kernel_rfl) (op_alloc (t := 32) (d := (some 17)) (by kernel_rfl) hs (enc .i32 (zeroA 256)) (.agg (enc .i32 (zeroA 256)).toArray) (by kernel_rfl) (by kernel_rfl) (by kernel_rfl) ?_)
      intro b19 w gw hs
      refine ⟨.of gw, ?_⟩
      refine wpG.only 14 (by kernel_rfl) (op_storeW (t := 32) (v := .agg (enc .i32 r17).toArray) (d := none) (by kernel_rfl) hs 0 rfl (vs := enc .i32 r17) (n := 256) (by kernel_rfl) (by kernel_rfl) (by kernel_rfl) (by simp [enc_len]) (by simp [enc_len]) (by intro u hu; exact enc_one _ _ u hu) ?_)
      intro w kp hs
      refine ⟨⟨fun hf => absurd hf (by decide), .all _ _⟩, ?_⟩
      refine wpG.q 15 18 (.bool r18) ?_
      refine wpG.fin (by kernel_rfl) rfl (kr39 _ _ ?_)
      have q0 := of_some h
      subst q0
      exact nj _ _ ⟨b19, (hs.pickR (pick_cons 1 rfl (pick_cons 2 rfl pick_nil))), exg (by kernel_rfl)⟩
     refine (op_alloc (t := 32) (d := (some 17)) (by kernel_rfl) hs (enc .i32 (zeroA 256)) (.agg (enc .i32 (zeroA 256)).toArray) (by kernel_rfl) (by kernel_rfl) (by kernel_rfl) ?_)
     intro b20 w gw hs
     refine ⟨.of gw, ?_⟩
     obtain ⟨⟨r21, r22⟩, hg, h⟩ := of_bind h
     refine wpG.only 9 (by kernel_rfl) (op_call (d := (some 83)) (by kernel_rfl) hs (fun _ => by kernel_rfl) (kq_Unpack.ok hg _ (hs.rowR 0 rfl)) ?_)
     intro w gw hs
     refine ⟨.of gw, ?_⟩
     refine wpG.q 10 73 (.tuple #[.agg (enc .i32 r21).toArray, .bool r22]) ?_
     refine wpG.q 11 84 (.agg (enc .i32 r21).toArray) ?_
     refine wpG.q 12 85 (.bool r22) ?_
     refine wpG.only 14 (by kernel_rfl) (op_storeW (t := 32) (v := .agg (enc .i32 r21).toArray) (d := none) (by kernel_rfl) hs 0 rfl (vs := enc .i32 r21) (n := 256) (by kernel_rfl) (by kernel_rfl) (by kernel_rfl) (by simp [enc_len]) (by simp [enc_len]) (by intro u hu; exact enc_one _ _ u hu) ?_)
     intro w kp hs
     refine ⟨⟨fun hf => absurd hf (by decide), .all _ _⟩, ?_⟩
     refine wpG.q 15 18 (.bool r22) ?_
     refine wpG.fin (by kernel_rfl) rfl (kr39 _ _ ?_)
     have q0 := of_some h
     subst q0
     exact nj _ _ ⟨b20, (hs.pickR (pick_cons 1 rfl (pick_cons 2 rfl pick_nil))), exg (by kernel_rfl)⟩
    clear hj hs
    rintro a w ⟨b14, hs, g38, rfl⟩
    refine then_n (ks37 _ _ (xseq_k fun KS40 ks40 => (xregS [0, 1, 2, 3, 4, 5, 6, 7, 8, 9, 10, 11] fun KR41 kr41 => ?_)))
    refine wpS.tk 0 true (some 86) (.agg (enc .i32 y15).toArray) (yld_loadW (e := 32) (n := 256) hs 0 rfl (by kernel_rfl) (by kernel_rfl) (by kernel_rfl) (by exact enc_len _ _) .grow) ?_
    refine wpS.q 1 87 (.pointer (some ⟨b1, 4, none⟩)) ?_
    refine wpS.tk 2 true (some 88) (.int .i64 a0_4) (yld_load1 (e := 3) (o := 4) hs 3 rfl (by kernel_rfl) (by kernel_rfl) (by rfl) .grow) ?_
    obtain ⟨r23, hg, h⟩ := of_bind h
    refine wpS.only 3 (op_call (d := (some 89)) (by kernel_rfl) hs (fun _ => by kernel_rfl) (kq_Widen.ok hg _) ?_)
    intro w gw hs
    refine ⟨fun _ => trivial, ?_⟩
    refine wpS.qs [(4, 90, .slice r5_A r5_n r5_c), (5, 91, .slice r7_A r7_n r7_c)] ?_
    obtain ⟨r24, hg, h⟩ := of_bind h
    refine wpS.only 6 (op_callH (d := (some 92)) (by kernel_rfl) hs (fun _ => by kernel_rfl) (kpke_vector_parts.ok hg _ (hs.rowL 1 rfl)) ?_)
    rintro ⟨r24_A, r24_n, r24_c⟩ w gw hs
    have hs := hs.conv (L' := [.ownL (CA .i32 256 (by decide)) r24_A r24_n r24_c r24 32, .blk b14 (enc .i32 y15) 32, .ownL (CA .i32 256 (by decide)) r7_A r7_n r7_c y11 32, .ownL (CA .i32 256 (by decide)) r5_A r5_n r5_c r5 32, .blk b1 ([.int .i64 a0_0, .int .i64 a0_1, .int .i64 a0_2, .int .i64 a0_3, .int .i64 a0_4]) 23]) rfl
    refine ⟨fun _ => trivial, ?_⟩
    obtain ⟨r25, hg, h⟩ := of_bind h
    refine wpS.only 7 (op_call (d := (some 93)) (by kernel_rfl) hs (fun _ => by kernel_rfl) (kpke_vector_dot.ok hg _ (hs.rowL 3 rfl) (hs.rowL 0 rfl)) ?_)
    intro w gw hs
    refine ⟨fun _ => trivial, ?_⟩
    obtain ⟨r26, hg, h⟩ := of_bind h
    refine wpS.only 8 (op_call (d := (some 94)) (by kernel_rfl) hs (fun _ => by kernel_rfl) (kq_Back.ok hg _) ?_)
    intro w gw hs
    refine ⟨fun _ => trivial, ?_⟩
    obtain ⟨r27, hg, h⟩ := of_bind h
    refine wpS.only 9 (op_call (d := (some 95)) (by kernel_rfl) hs (fun _ => by kernel_rfl) (kq_Sub.ok hg _) ?_)
    intro w gw hs
    refine ⟨fun _ => trivial, ?_⟩
    refine wpS.only 10 (op_alloc (t := 32) (d := (some 19)) (by kernel_rfl) hs (enc .i32 (zeroA 256)) (.agg (enc .i32 (zeroA 256)).toArray) (by kernel_rfl) (by kernel_rfl) (by kernel_rfl) ?_)
    intro b28 w gw hs
    refine ⟨fun _ => trivial, ?_⟩
    refine wpS.only 11 (op_storeW (t := 32) (v := .agg (enc .i32 r27).toArray) (d := none) (by kernel_rfl) hs 0 rfl (vs := enc .i32 r27) (n := 256) (by kernel_rfl) (by kernel_rfl) (by kernel_rfl) (by simp [enc_len]) (by simp [enc_len]) (by intro u hu; exact enc_one _ _ u hu) ?_)
    intro w kp hs
    refine ⟨fun _ => trivial, ?_⟩
    refine wpS.fin rfl (kr41 _ _ (then_n (ks40 _ _ (xseq_k fun KS42 ks42 => (xregS [0, 1, 2, 3, 4] fun KR43 kr43 => ?_)))))
    refine wpS.tk 0 true (some 96) (.agg (enc .i32 r27).toArray) (yld_loadW (e := 32) (n := 256) hs 0 rfl (by kernel_rfl) (by kernel_rfl) (by kernel_rfl) (by exact enc_len _ _) .grow) ?_
    obtain ⟨r29, hg, h⟩ := of_bind h
    refine wpS.only 1 (op_call (d := (some 97)) (by kernel_rfl) hs (fun _ => by kernel_rfl) (kq_Squeeze.ok hg _) ?_)
    intro w gw hs
    refine ⟨fun _ => trivial, ?_⟩
    obtain ⟨r30, hg, h⟩ := of_bind h
    refine wpS.only 2 (op_callH (d := (some 98)) (by kernel_rfl) hs (fun _ => by kernel_rfl) (kq_Pack.ok hg _) ?_)
    rintro ⟨r30_A, r30_n, r30_c⟩ w gw hs
    have hs := hs.conv (L' := [.ownL (CI .u8) r30_A r30_n r30_c r30 5, .blk b28 (enc .i32 r27) 32, .ownL (CA .i32 256 (by decide)) r24_A r24_n r24_c r24 32, .blk b14 (enc .i32 y15) 32, .ownL (CA .i32 256 (by decide)) r7_A r7_n r7_c y11 32, .ownL (CA .i32 256 (by decide)) r5_A r5_n r5_c r5 32, .blk b1 ([.int .i64 a0_0, .int .i64 a0_1, .int .i64 a0_2, .int .i64 a0_3, .int .i64 a0_4]) 23]) rfl
    refine ⟨fun _ => trivial, ?_⟩
    refine wpS.qs [(3, 6, .slice r30_A r30_n r30_c), (4, 7, .int .i64 0)] ?_
    refine wpS.fin rfl (kr43 _ _ (then_n (ks42 _ _ (xret ?_))))
    obtain ⟨q0, qr0⟩ := Prod.mk.inj (of_some h)
    have q1 := qr0
    subst q0
    subst q1
    exact qq _ _ (post_ret (by kernel_rfl) (run_results [.tmp 6, .tmp 7] [.slice r30_A r30_n r30_c, .int .i64 0] (by kernel_rfl) (.cons (res_tmp (by kernel_rfl)) (.cons (res_tmp (by kernel_rfl)) .nil))) ⟨⟨r30_A, r30_n, r30_c⟩, congrArg Ending.returned (by kernel_rfl), ((hs.drop (.cons_cons _ (.cons _ (.cons _ (.cons _ (.cons _ (.cons _ (.cons _ .slnil)))))))).pickR pick_nil)⟩)
   refine wpS.tk 3 false (some 48) (.bool true) (yld_b (nt hc) (fun _ => by kernel_rfl)) ?_
   refine wpS.q 4 44 (.bool true) ?_
   refine wpS.fin rfl (kr18 _ _ (then_n (ks17 _ _ (wp_cond_t (by kernel_rfl) (xseq_k fun KS44 ks44 => (xregS [0, 1] fun KR45 kr45 => ?_))))))
   refine wpS.qs [(0, 6, .slice none 0 0), (1, 7, .int .i64 14)] ?_
   refine wpS.fin rfl (kr45 _ _ (then_n (ks44 _ _ (xret (inBlock_r (then_r ?_))))))
   obtain ⟨q0, qr0⟩ := Prod.mk.inj (of_some h)
   have q1 := qr0
   subst q0
   subst q1
   have hs := hs.addNilL (CI .u8) 5
   exact qq _ _ (post_ret (by kernel_rfl) (run_results [.tmp 6, .tmp 7] [.slice none 0 0, .int .i64 14] (by kernel_rfl) (.cons (res_tmp (by kernel_rfl)) (.cons (res_tmp (by kernel_rfl)) .nil))) ⟨⟨none, 0, 0⟩, congrArg Ending.returned (by kernel_rfl), ((hs.drop (.cons_cons _ (.cons _ (.cons _ .slnil)))).pickR pick_nil)⟩)
  | false =>
   have h := of_if_f h
   refine wpS.qs [(6, 40, .bool false), (7, 11, .slice r5_A r5_n r5_c), (8, 12, .bool false)] ?_
   refine wpS.fin rfl (kr13 _ _ (then_n (ks12 _ _ (xseq_k fun KS46 ks46 => (xblock (xseq_k fun KS47 ks47 => (xregS [0, 1, 2] fun KR48 kr48 => ?_)))))))
   refine wpS.qs [(0, 42, .bool false), (1, 43, .bool true), (2, 41, .bool true)] ?_
   refine wpS.fin rfl (kr48 _ _ (then_n (ks47 _ _ (wp_cond_t (by kernel_rfl) (xseq_k fun KS49 ks49 => (xregS [0, 1] fun KR50 kr50 => ?_))))))
   refine wpS.qs [(0, 6, .slice none 0 0), (1, 7, .int .i64 10)] ?_
   refine wpS.fin rfl (kr50 _ _ (then_n (ks49 _ _ (xret (inBlock_r (then_r ?_))))))
   obtain ⟨q0, qr0⟩ := Prod.mk.inj (of_some h)
   have q1 := qr0
   subst q0
   subst q1
   have hs := hs.addNilL (CI .u8) 5
   exact qq _ _ (post_ret (by kernel_rfl) (run_results [.tmp 6, .tmp 7] [.slice none 0 0, .int .i64 10] (by kernel_rfl) (.cons (res_tmp (by kernel_rfl)) (.cons (res_tmp (by kernel_rfl)) .nil))) ⟨⟨none, 0, 0⟩, congrArg Ending.returned (by kernel_rfl), ((hs.drop (.cons_cons _ (.cons _ (.cons _ .slnil)))).pickR pick_nil)⟩)
 refine wpS.tk 3 false (some 33) (.bool true) (yld_b (nt hc) (fun _ => by kernel_rfl)) ?_
 refine wpS.q 4 29 (.bool true) ?_
 refine wpS.fin rfl (kr11 _ _ (then_n (ks10 _ _ (wp_cond_t (by kernel_rfl) (xseq_k fun KS51 ks51 => (xregS [0, 1] fun KR52 kr52 => ?_))))))
 refine wpS.qs [(0, 6, .slice none 0 0), (1, 7, .int .i64 10)] ?_
 refine wpS.fin rfl (kr52 _ _ (then_n (ks51 _ _ (xret (inBlock_r (then_r ?_))))))
 obtain ⟨q0, qr0⟩ := Prod.mk.inj (of_some h)
 have q1 := qr0
 subst q0
 subst q1
 have hs := hs.addNilL (CI .u8) 5
 exact qq _ _ (post_ret (by kernel_rfl) (run_results [.tmp 6, .tmp 7] [.slice none 0 0, .int .i64 10] (by kernel_rfl) (.cons (res_tmp (by kernel_rfl)) (.cons (res_tmp (by kernel_rfl)) .nil))) ⟨⟨none, 0, 0⟩, congrArg Ending.returned (by kernel_rfl), ((hs.drop (.cons_cons _ (.cons _ .slnil))).pickR pick_nil)⟩)
end Go.Proofs.YtemdbgmldljbpaaDoor
