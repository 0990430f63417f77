/- Printed by this work's own program: the code of each function below comes to the answer that its plain form tells. -/
import Derived.Test.YtmpagpbnpgcecaaMd
import Derived.Test.YtmpagpbnpgcecaaProg
import Derived.Test.YtmpagpbnpgcecaaLGcmBack
import Derived.Test.YtmpagpbnpgcecaaGX0
import Derived.Test.YtmpagpbnpgcecaaGX2
import Derived.Test.YtmpagpbnpgcecaaGX3
import Derived.Test.YtmpagpbnpgcecaaGX7
import Derived.Test.YtmpagpbnpgcecaaGX8
import Derived.Test.YtmpagpbnpgcecaaGX9
set_option linter.unusedVariables false
set_option linter.unusedSimpArgs false
set_option maxRecDepth 100000
set_option maxHeartbeats 4000000
namespace Go.Proofs.Ytmpagpbnpgcecaa
open Go.Mx
attribute [local irreducible] wpOp

theorem law12_GcmBack.ok {K : Nat} {a0 : List Int} {a1 : List Int} {a2 : List Int} {a3 : List Int} {a4 : List Int} {r0 : Bool} {a0_A : Option Addr} {a0_n : Nat} {a0_c : Nat} {a1_A : Option Addr} {a1_n : Nat} {a1_c : Nat} {a2_A : Option Addr} {a2_n : Nat} {a2_c : Nat} {a3_A : Option Addr} {a3_n : Nat} {a3_c : Nat} {a4_A : Option Addr} {a4_n : Nat} {a4_c : Nat} (h : law12_GcmBack.f K a0 a1 a2 a3 a4 = some r0) (w0 : World) (hp0 : RowL (CI .u8) w0 a0_A a0_n a0_c a0) (hp1 : RowL (CI .u8) w0 a1_A a1_n a1_c a1) (hp2 : RowL (CI .u8) w0 a2_A a2_n a2_c a2) (hp3 : RowL (CI .u8) w0 a3_A a3_n a3_c a3) (hp4 : RowL (CI .u8) w0 a4_A a4_n a4_c a4) : Ret Try.prog 8 #[.slice a0_A a0_n a0_c, .slice a1_A a1_n a1_c, .slice a2_A a2_n a2_c, .slice a3_A a3_n a3_c, .slice a4_A a4_n a4_c] w0 (.bool r0) := by
 refine calls_k Try.func8 rfl fun Q qq => ?_
 have hs := St.startR (all_cons (RowP.ent hp0) (all_cons (RowP.ent hp1) (all_cons (RowP.ent hp2) (all_cons (RowP.ent hp3) (all_cons (RowP.ent hp4) all_nil)))))
 refine wp_conv (a' := ⟨#[.slice a0_A a0_n a0_c, .slice a1_A a1_n a1_c, .slice a2_A a2_n a2_c, .slice a3_A a3_n a3_c, .slice a4_A a4_n a4_c, undef, undef, undef, undef, undef, undef, undef, undef, undef, undef, undef, undef, undef, undef, undef, undef, undef, undef, undef, undef, undef, undef, undef, undef, undef, undef, undef, undef, undef, undef, undef, undef, undef, undef, undef, undef, undef, undef, undef, undef, undef, undef, undef, undef, undef, undef, undef, undef, undef, undef, undef, undef, undef, undef, undef, undef, undef, undef, undef, undef, undef, undef, undef, undef, undef, undef, undef, undef, undef, undef, undef, undef, undef, undef, undef, undef, undef, undef, undef, undef, undef, undef, undef, undef, undef, undef, undef, undef, undef, undef, undef, undef, undef, undef, undef, undef, undef, undef, undef, undef, undef, undef, undef, undef, undef, undef, undef, undef, undef, undef, undef, undef, undef, undef, undef, undef, undef, undef, undef, undef, undef, undef, undef], []⟩) (by kernel_rfl) ?_
 refine xseq_k fun KS1 ks1 => ?_
 refine xregS [0] fun KR2 kr2 => ?_
 refine wpS.q 0 10 (.bool false) ?_
 refine wpS.fin rfl (kr2 _ _ (then_n (ks1 _ _ (xseq_k fun KS3 ks3 => (xseq_k fun KS4 ks4 => (xregS [0, 1, 2, 3, 4, 5, 6, 7] fun KR5 kr5 => ?_))))))
 refine wpS.qs [(0, 22, .slice a0_A a0_n a0_c), (1, 23, .slice a1_A a1_n a1_c), (2, 24, .slice a2_A a2_n a2_c), (3, 25, .slice a3_A a3_n a3_c), (4, 26, .slice a4_A a4_n a4_c)] ?_
 refine wpS.only 5 (op_lit (C := CS) (t := 44) (e := 26) (len := 5) (parts := #[(0, .slice a0_A a0_n a0_c), (1, .slice a1_A a1_n a1_c), (2, .slice a2_A a2_n a2_c), (3, .slice a3_A a3_n a3_c), (4, .slice a4_A a4_n a4_c)]) (l := ([(a0_A, a0_n, a0_c), (a1_A, a1_n, a1_c), (a2_A, a2_n, a2_c), (a3_A, a3_n, a3_c), (a4_A, a4_n, a4_c)] : List HS)) (d := (some 27)) (by kernel_rfl) hs (by kernel_rfl) (by kernel_rfl) (by kernel_rfl) (z := .slice none 0 0) (by kernel_rfl) rfl (by decide) (by decide) (by kernel_rfl) ?_)
 intro s1_A s1_n s1_c w gw hs
 refine ⟨fun _ => trivial, ?_⟩
 obtain ⟨r2, hg, h⟩ := of_bind h
 cases r2 with
 | true =>
  have h := of_if_t h
  refine wpS.only 6 (op_call (d := (some 28)) (by kernel_rfl) hs (fun _ => by kernel_rfl) (law12_few.ok hg _ (LLP.mk (hs.rowL 0 rfl) (inn_cons (hs.rowR 0 rfl) (inn_cons (hs.rowR 1 rfl) (inn_cons (hs.rowR 2 rfl) (inn_cons (hs.rowR 3 rfl) (inn_cons (hs.rowR 4 rfl) inn_nil))))))) ?_)
  intro w gw hs
  refine ⟨fun _ => trivial, ?_⟩
  refine wpS.q 7 29 (.bool false) ?_
  refine wpS.fin rfl (kr5 _ _ (then_n (ks4 _ _ (wp_cond_f (by kernel_rfl) (xskip (then_n (ks3 _ _ ?_)))))))
  obtain ⟨tv7, hj, hk_7⟩ := of_bind h
  refine xseq_k fun KS7 ks7 => wp_exj (N := fun a w => tv7 = .inl () ∧ St w0 [] [.ownL CS s1_A s1_n s1_c ([(a0_A, a0_n, a0_c), (a1_A, a1_n, a1_c), (a2_A, a2_n, a2_c), (a3_A, a3_n, a3_c), (a4_A, a4_n, a4_c)] : List HS) 26] [.rowL (CI .u8) a0_A a0_n a0_c a0, .rowL (CI .u8) a1_A a1_n a1_c a1, .rowL (CI .u8) a2_A a2_n a2_c a2, .rowL (CI .u8) a3_A a3_n a3_c a3, .rowL (CI .u8) a4_A a4_n a4_c a4] w ∧ ∃ g6 : Nat → Value, a = ⟨#[.slice a0_A a0_n a0_c, .slice a1_A a1_n a1_c, .slice a2_A a2_n a2_c, .slice a3_A a3_n a3_c, .slice a4_A a4_n a4_c, undef, undef, undef, undef, undef, (g6 10), (g6 11), (g6 12), (g6 13), (g6 14), (g6 15), (g6 16), (g6 17), undef, undef, undef, undef, .slice a0_A a0_n a0_c, .slice a1_A a1_n a1_c, .slice a2_A a2_n a2_c, .slice a3_A a3_n a3_c, .slice a4_A a4_n a4_c, .slice s1_A s1_n s1_c, .bool true, .bool false, undef, (g6 31), (g6 32), (g6 33), (g6 34), (g6 35), (g6 36), (g6 37), (g6 38), (g6 39), (g6 40), (g6 41), (g6 42), (g6 43), (g6 44), (g6 45), (g6 46), (g6 47), (g6 48), (g6 49), (g6 50), (g6 51), (g6 52), (g6 53), (g6 54), (g6 55), (g6 56), (g6 57), (g6 58), (g6 59), (g6 60), (g6 61), (g6 62), (g6 63), (g6 64), (g6 65), (g6 66), (g6 67), (g6 68), (g6 69), (g6 70), (g6 71), (g6 72), (g6 73), (g6 74), (g6 75), (g6 76), (g6 77), (g6 78), (g6 79), (g6 80), (g6 81), (g6 82), (g6 83), (g6 84), (g6 85), (g6 86), (g6 87), (g6 88), (g6 89), (g6 90), (g6 91), (g6 92), (g6 93), undef, undef, undef, undef, undef, undef, undef, undef, undef, undef, undef, undef, undef, undef, undef, undef, undef, undef, undef, undef, undef, undef, undef, undef, undef, undef, undef, undef, undef, undef, undef, undef, undef, undef], []⟩) (fun N nj => ?_) ?_
  ·clear h
   have h := hj
   refine xseq_k fun KS8 ks8 => ?_
   refine xregS [0, 1, 2, 3, 4, 5, 6, 7, 8, 9] fun KR9 kr9 => ?_
   refine wpS.qs [(0, 32, .slice a0_A a0_n a0_c), (1, 33, .slice a1_A a1_n a1_c), (2, 34, .slice a2_A a2_n a2_c), (3, 35, .slice a3_A a3_n a3_c)] ?_
   obtain ⟨⟨r3, r4⟩, hg, h⟩ := of_bind h
   refine wpS.only 4 (op_callH (d := (some 36)) (by kernel_rfl) hs (fun _ => by kernel_rfl) (gcm_Seal.ok hg _ (hs.rowR 0 rfl) (hs.rowR 1 rfl) (hs.rowR 2 rfl) (hs.rowR 3 rfl)) ?_)
   rintro ⟨r3_A, r3_n, r3_c⟩ w gw hs
   have hs := hs.conv (L' := [.ownL (CI .u8) r3_A r3_n r3_c r3 5, .ownL CS s1_A s1_n s1_c ([(a0_A, a0_n, a0_c), (a1_A, a1_n, a1_c), (a2_A, a2_n, a2_c), (a3_A, a3_n, a3_c), (a4_A, a4_n, a4_c)] : List HS) 26]) rfl
   refine ⟨fun _ => trivial, ?_⟩
   refine wpS.qs [(5, 31, .tuple #[.slice r3_A r3_n r3_c, .int .i64 r4]), (6, 37, .slice r3_A r3_n r3_c), (7, 38, .int .i64 r4), (8, 11, .slice r3_A r3_n r3_c), (9, 12, .int .i64 r4)] ?_
   refine wpS.fin rfl (kr9 _ _ (then_n (ks8 _ _ (xseq_k fun KS10 ks10 => (xregS [0, 1] fun KR11 kr11 => ?_)))))
   refine wpS.q 0 39 (.int .i64 r4) ?_
   rcases of_if h with ⟨hc, h⟩ | ⟨hc, h⟩
   ·refine wpS.tk 1 false (some 40) (.bool true) (yld_b (et hc) (fun _ => by kernel_rfl)) ?_
    refine wpS.fin rfl (kr11 _ _ (then_n (ks10 _ _ (wp_cond_t (by kernel_rfl) (xseq_k fun KS12 ks12 => (xregS [0, 1, 2, 3, 4, 5, 6, 7, 8, 9] fun KR13 kr13 => ?_))))))
    refine wpS.qs [(0, 42, .slice a0_A a0_n a0_c), (1, 43, .slice a1_A a1_n a1_c), (2, 44, .slice a2_A a2_n a2_c), (3, 45, .slice r3_A r3_n r3_c)] ?_
    obtain ⟨⟨r5, r6⟩, hg, h⟩ := of_bind h
    refine wpS.only 4 (op_callH (d := (some 46)) (by kernel_rfl) hs (fun _ => by kernel_rfl) (gcm_Open.ok hg _ (hs.rowR 0 rfl) (hs.rowR 1 rfl) (hs.rowR 2 rfl) (hs.rowL 0 rfl)) ?_)
    rintro ⟨r5_A, r5_n, r5_c⟩ w gw hs
    have hs := hs.conv (L' := [.ownL (CI .u8) r5_A r5_n r5_c r5 5, .ownL (CI .u8) r3_A r3_n r3_c r3 5, .ownL CS s1_A s1_n s1_c ([(a0_A, a0_n, a0_c), (a1_A, a1_n, a1_c), (a2_A, a2_n, a2_c), (a3_A, a3_n, a3_c), (a4_A, a4_n, a4_c)] : List HS) 26]) rfl
    refine ⟨fun _ => trivial, ?_⟩
    refine wpS.qs [(5, 41, .tuple #[.slice r5_A r5_n r5_c, .int .i64 r6]), (6, 47, .slice r5_A r5_n r5_c), (7, 48, .int .i64 r6), (8, 13, .slice r5_A r5_n r5_c), (9, 14, .int .i64 r6)] ?_
    refine wpS.fin rfl (kr13 _ _ (then_n (ks12 _ _ (xseq_k fun KS14 ks14 => (xseq_k fun KS15 ks15 => (xregS [0, 1, 2, 3, 4, 5, 6, 7, 8, 9, 10, 11, 12, 13, 14, 15] fun KR16 kr16 => ?_))))))
    refine wpS.q 0 49 (.int .i64 r6) ?_
    rcases of_if h with ⟨hc, h⟩ | ⟨hc, h⟩
    ·refine wpS.tk 1 false (some 50) (.bool false) (yld_b (nf hc) (fun _ => by kernel_rfl)) ?_
     refine wpS.qs [(2, 51, .bool false), (3, 52, .slice r5_A r5_n r5_c), (4, 53, .slice a3_A a3_n a3_c)] ?_
     obtain ⟨r7, hg, h⟩ := of_bind h
     cases r7 with
     | true =>
      have h := of_if_t h
      refine wpS.only 5 (op_call (d := (some 54)) (by kernel_rfl) hs (fun _ => by kernel_rfl) (ref01_Same.ok hg _ (hs.rowL 0 rfl) (hs.rowR 3 rfl)) ?_)
      intro w gw hs
      refine ⟨fun _ => trivial, ?_⟩
      refine wpS.qs [(6, 55, .bool false), (7, 56, .bool false), (8, 57, .bool false), (9, 58, .slice r3_A r3_n r3_c)] ?_
      refine wpS.tk 10 false (some 59) (.int .i64 (r3.length : Int)) (yld_lenL (hs.rowL 1 rfl) (fun _ => by kernel_rfl)) ?_
      refine wpS.q 11 60 (.slice a3_A a3_n a3_c) ?_
      refine wpS.tk 12 false (some 61) (.int .i64 (a3.length : Int)) (yld_lenL (hs.rowR 3 rfl) (fun _ => by kernel_rfl)) ?_
      refine wpS.q 13 62 (.int .i64 (iadd .i64 (a3.length : Int) 16)) ?_
      rcases of_if h with ⟨hc, h⟩ | ⟨hc, h⟩
      ·refine wpS.tk 14 false (some 63) (.bool false) (yld_b (nf hc) (fun _ => by kernel_rfl)) ?_
       refine wpS.q 15 64 (.bool false) ?_
       refine wpS.fin rfl (kr16 _ _ (then_n (ks15 _ _ (wp_cond_f (by kernel_rfl) (xskip (then_n (ks14 _ _ (xseq_k fun KS17 ks17 => (xregS [0, 1, 2, 3] fun KR18 kr18 => ?_)))))))))
       refine wpS.only 0 (op_lit0 (C := (CI .u8)) (t := 26) (e := 5) (parts := #[]) (d := (some 65)) (by kernel_rfl) hs rfl (by kernel_rfl) (by kernel_rfl) (by kernel_rfl) ?_)
       intro s8_A s8_n s8_c w gw hs
       refine ⟨fun _ => trivial, ?_⟩
       refine wpS.q 1 66 (.slice r3_A r3_n r3_c) ?_
       obtain ⟨h0, h⟩ := of_chk h
       refine wpS.only 2 (op_appendT (C := (CI .u8)) (t := 26) (ty := 26) (e := 5) (bytes := 1) (B := 140737488355328) (d := (some 67)) (by kernel_rfl) hs 0 rfl (hs.rowL 2 rfl) (by kernel_rfl) (by kernel_rfl) (by kernel_rfl) (by kernel_rfl) (by kernel_rfl) h0 (by decide) (by decide) ?_)
       intro s9_A s9_n s9_c w hs
       refine ⟨fun _ => trivial, ?_⟩
       refine wpS.q 3 15 (.slice s9_A s9_n s9_c) ?_
       refine wpS.fin rfl (kr18 _ _ (then_n (ks17 _ _ (xseq_k fun KS19 ks19 => (xregS [0, 1, 2, 3, 4, 5, 6, 7, 8] fun KR20 kr20 => ?_)))))
       refine wpS.qs [(0, 68, .slice s9_A s9_n s9_c), (1, 69, .slice r3_A r3_n r3_c)] ?_
       refine wpS.tk 2 false (some 70) (.int .i64 (r3.length : Int)) (yld_lenL (hs.rowL 2 rfl) (fun _ => by kernel_rfl)) ?_
       refine wpS.q 3 71 (.int .i64 (isub .i64 (r3.length : Int) 1)) ?_
       obtain ⟨x10, hx, h⟩ := of_bind h
       have hx := of_some hx
       subst hx
       obtain ⟨h0, h⟩ := of_chk h
       obtain ⟨h1, h⟩ := of_chk h
       have i0_21 := h0
       have i1_21 := h1
       refine wpS.tk 4 false (some 72) (.pointer (adr s9_A (((isub .i64 (r3.length : Int) 1) : Int).toNat * Cod.size (CI .u8)))) (yld_idxL (C := (CI .u8)) (t := 26) (e := 5) (k := .i64) (x := (isub .i64 (r3.length : Int) 1)) (hs.rowL 0 rfl) (by kernel_rfl) (by kernel_rfl) (by kernel_rfl) h0 h1) ?_
       refine wpS.tk 5 true (some 73) (.int .u8 (rdL (CI .u8) (([] : List Int) ++ r3) (isub .i64 (r3.length : Int) 1))) (yld_loadL (C := (CI .u8)) (e := 5) (x := (isub .i64 (r3.length : Int) 1)) (hs.rowL 0 rfl) (by kernel_rfl) rfl (by kernel_rfl) i0_21 i1_21) ?_
       refine wpS.q 6 74 (.int .u8 (ixor .u8 (rdL (CI .u8) (([] : List Int) ++ r3) (isub .i64 (r3.length : Int) 1)) 1)) ?_
       obtain ⟨x11, hx, h⟩ := of_bind h
       have hx := of_some hx
       subst hx
       obtain ⟨h0, h⟩ := of_chk h
       obtain ⟨h1, h⟩ := of_chk h
       have i0_22 := h0
       have i1_22 := h1
       refine wpS.tk 7 false (some 75) (.pointer (adr s9_A (((isub .i64 (r3.length : Int) 1) : Int).toNat * Cod.size (CI .u8)))) (yld_idxL (C := (CI .u8)) (t := 26) (e := 5) (k := .i64) (x := (isub .i64 (r3.length : Int) 1)) (hs.rowL 0 rfl) (by kernel_rfl) (by kernel_rfl) (by kernel_rfl) h0 h1) ?_
       obtain ⟨x12, hx, h⟩ := of_bind h
       refine wpS.only 8 (op_storeL (C := (CI .u8)) (t := 5) (x := (isub .i64 (r3.length : Int) 1)) (v := x12) (d := none) (by kernel_rfl) hs 0 rfl (by cases hx; kernel_rfl) (by kernel_rfl) i0_22 i1_22 ?_)
       intro w hs
       refine ⟨fun _ => trivial, ?_⟩
       refine wpS.fin rfl (kr20 _ _ (then_n (ks19 _ _ (xseq_k fun KS23 ks23 => (xregS [0, 1, 2, 3, 4, 5, 6, 7, 8, 9] fun KR24 kr24 => ?_)))))
       refine wpS.qs [(0, 77, .slice a0_A a0_n a0_c), (1, 78, .slice a1_A a1_n a1_c), (2, 79, .slice a2_A a2_n a2_c), (3, 80, .slice s9_A s9_n s9_c)] ?_
       obtain ⟨⟨r13, r14⟩, hg, h⟩ := of_bind h
       refine wpS.only 4 (op_callH (d := (some 81)) (by kernel_rfl) hs (fun _ => by kernel_rfl) (gcm_Open.ok hg _ (hs.rowR 0 rfl) (hs.rowR 1 rfl) (hs.rowR 2 rfl) (hs.rowL 0 rfl)) ?_)
       rintro ⟨r13_A, r13_n, r13_c⟩ w gw hs
       have hs := hs.conv (L' := [.ownL (CI .u8) r13_A r13_n r13_c r13 5, .ownL (CI .u8) s9_A s9_n s9_c (wrL (([] : List Int) ++ r3) (isub .i64 (r3.length : Int) 1) x12) 5, .ownL (CI .u8) r5_A r5_n r5_c r5 5, .ownL (CI .u8) r3_A r3_n r3_c r3 5, .ownL CS s1_A s1_n s1_c ([(a0_A, a0_n, a0_c), (a1_A, a1_n, a1_c), (a2_A, a2_n, a2_c), (a3_A, a3_n, a3_c), (a4_A, a4_n, a4_c)] : List HS) 26]) rfl
       refine ⟨fun _ => trivial, ?_⟩
       refine wpS.qs [(5, 76, .tuple #[.slice r13_A r13_n r13_c, .int .i64 r14]), (6, 82, .slice r13_A r13_n r13_c), (7, 83, .int .i64 r14), (8, 16, .slice r13_A r13_n r13_c), (9, 17, .int .i64 r14)] ?_
       refine wpS.fin rfl (kr24 _ _ (then_n (ks23 _ _ (xseq_k fun KS25 ks25 => (xregS [0, 1, 2, 3, 4, 5, 6] fun KR26 kr26 => ?_)))))
       refine wpS.q 0 84 (.int .i64 r14) ?_
       rcases of_if h with ⟨hc, h⟩ | ⟨hc, h⟩
       ·refine wpS.tk 1 false (some 85) (.bool false) (yld_b (nf hc) (fun _ => by kernel_rfl)) ?_
        refine wpS.qs [(2, 86, .bool false), (3, 87, .slice r13_A r13_n r13_c)] ?_
        refine wpS.tk 4 false (some 88) (.int .i64 (r13.length : Int)) (yld_lenL (hs.rowL 0 rfl) (fun _ => by kernel_rfl)) ?_
        rcases of_if h with ⟨hc, h⟩ | ⟨hc, h⟩
        ·refine wpS.tk 5 false (some 89) (.bool true) (yld_b (dt hc) (fun _ => by kernel_rfl)) ?_
         refine wpS.q 6 90 (.bool true) ?_
         refine wpS.fin rfl (kr26 _ _ (then_n (ks25 _ _ (wp_cond_t (by kernel_rfl) (xseq_k fun KS27 ks27 => (xregS [0] fun KR28 kr28 => ?_))))))
         refine wpS.q 0 10 (.bool false) ?_
         refine wpS.fin rfl (kr28 _ _ (then_n (ks27 _ _ (xret ?_))))
         have q0 := of_some h
         subst q0
         have h := hk_7
         refine exj_r ?_
         refine then_r ?_
         have q0 := of_some h
         subst q0
         exact qq _ _ (post_ret (by kernel_rfl) (run_results [.tmp 10] [.bool false] (by kernel_rfl) (.cons (res_tmp (by kernel_rfl)) .nil)) ⟨congrArg Ending.returned (by kernel_rfl), hs.none⟩)
        refine wpS.tk 5 false (some 89) (.bool false) (yld_b (df hc) (fun _ => by kernel_rfl)) ?_
        refine wpS.q 6 90 (.bool false) ?_
        refine wpS.fin rfl (kr26 _ _ (then_n (ks25 _ _ (wp_cond_f (by kernel_rfl) (xskip ?_)))))
        have q0 := of_some h
        subst q0
        exact exj_n (nj _ _ ⟨rfl, (hs.drop (.cons _ (.cons _ (.cons _ (.cons _ (.cons_cons _ .slnil)))))), exg (by kernel_rfl)⟩)
       refine wpS.tk 1 false (some 85) (.bool true) (yld_b (nt hc) (fun _ => by kernel_rfl)) ?_
       refine wpS.qs [(2, 86, .bool true), (3, 87, undef), (4, 88, undef), (5, 89, undef), (6, 90, .bool true)] ?_
       refine wpS.fin rfl (kr26 _ _ (then_n (ks25 _ _ (wp_cond_t (by kernel_rfl) (xseq_k fun KS29 ks29 => (xregS [0] fun KR30 kr30 => ?_))))))
       refine wpS.q 0 10 (.bool false) ?_
       refine wpS.fin rfl (kr30 _ _ (then_n (ks29 _ _ (xret ?_))))
       have q0 := of_some h
       subst q0
       have h := hk_7
       refine exj_r ?_
       refine then_r ?_
       have q0 := of_some h
       subst q0
       exact qq _ _ (post_ret (by kernel_rfl) (run_results [.tmp 10] [.bool false] (by kernel_rfl) (.cons (res_tmp (by kernel_rfl)) .nil)) ⟨congrArg Ending.returned (by kernel_rfl), hs.none⟩)
      refine wpS.tk 14 false (some 63) (.bool true) (yld_b (nt hc) (fun _ => by kernel_rfl)) ?_
      refine wpS.q 15 64 (.bool true) ?_
      refine wpS.fin rfl (kr16 _ _ (then_n (ks15 _ _ (wp_cond_t (by kernel_rfl) (xseq_k fun KS31 ks31 => (xregS [0] fun KR32 kr32 => ?_))))))
      refine wpS.q 0 10 (.bool false) ?_
      refine wpS.fin rfl (kr32 _ _ (then_n (ks31 _ _ (xret (then_r ?_)))))
      have q0 := of_some h
      subst q0
      have h := hk_7
      refine exj_r ?_
      refine then_r ?_
      have q0 := of_some h
      subst q0
      exact qq _ _ (post_ret (by kernel_rfl) (run_results [.tmp 10] [.bool false] (by kernel_rfl) (.cons (res_tmp (by kernel_rfl)) .nil)) ⟨congrArg Ending.returned (by kernel_rfl), hs.none⟩)
     | false =>
      have h := of_if_f h
      refine wpS.only 5 (op_call (d := (some 54)) (by kernel_rfl) hs (fun _ => by kernel_rfl) (ref01_Same.ok hg _ (hs.rowL 0 rfl) (hs.rowR 3 rfl)) ?_)
      intro w gw hs
      refine ⟨fun _ => trivial, ?_⟩
      refine wpS.qs [(6, 55, .bool true), (7, 56, .bool true), (8, 57, .bool true), (9, 58, undef), (10, 59, undef), (11, 60, undef), (12, 61, undef), (13, 62, undef), (14, 63, undef), (15, 64, .bool true)] ?_
      refine wpS.fin rfl (kr16 _ _ (then_n (ks15 _ _ (wp_cond_t (by kernel_rfl) (xseq_k fun KS33 ks33 => (xregS [0] fun KR34 kr34 => ?_))))))
      refine wpS.q 0 10 (.bool false) ?_
      refine wpS.fin rfl (kr34 _ _ (then_n (ks33 _ _ (xret (then_r ?_)))))
      have q0 := of_some h
      subst q0
      have h := hk_7
      refine exj_r ?_
      refine then_r ?_
      have q0 := of_some h
      subst q0
      exact qq _ _ (post_ret (by kernel_rfl) (run_results [.tmp 10] [.bool false] (by kernel_rfl) (.cons (res_tmp (by kernel_rfl)) .nil)) ⟨congrArg Ending.returned (by kernel_rfl), hs.none⟩)
    refine wpS.tk 1 false (some 50) (.bool true) (yld_b (nt hc) (fun _ => by kernel_rfl)) ?_
    refine wpS.qs [(2, 51, .bool true), (3, 52, undef), (4, 53, undef), (5, 54, undef), (6, 55, undef), (7, 56, .bool true), (8, 57, .bool true), (9, 58, undef), (10, 59, undef), (11, 60, undef), (12, 61, undef), (13, 62, undef), (14, 63, undef), (15, 64, .bool true)] ?_
    refine wpS.fin rfl (kr16 _ _ (then_n (ks15 _ _ (wp_cond_t (by kernel_rfl) (xseq_k fun KS35 ks35 => (xregS [0] fun KR36 kr36 => ?_))))))
    refine wpS.q 0 10 (.bool false) ?_
    refine wpS.fin rfl (kr36 _ _ (then_n (ks35 _ _ (xret (then_r ?_)))))
    have q0 := of_some h
    subst q0
    have h := hk_7
    refine exj_r ?_
    refine then_r ?_
    have q0 := of_some h
    subst q0
    exact qq _ _ (post_ret (by kernel_rfl) (run_results [.tmp 10] [.bool false] (by kernel_rfl) (.cons (res_tmp (by kernel_rfl)) .nil)) ⟨congrArg Ending.returned (by kernel_rfl), hs.none⟩)
   refine wpS.tk 1 false (some 40) (.bool false) (yld_b (ef hc) (fun _ => by kernel_rfl)) ?_
   refine wpS.fin rfl (kr11 _ _ (then_n (ks10 _ _ (wp_cond_f (by kernel_rfl) (xseq_k fun KS37 ks37 => (xregS [0, 1, 2] fun KR38 kr38 => ?_))))))
   refine wpS.q 0 91 (.slice r3_A r3_n r3_c) ?_
   refine wpS.tk 1 false (some 92) (.int .i64 (r3.length : Int)) (yld_lenL (hs.rowL 0 rfl) (fun _ => by kernel_rfl)) ?_
   rcases of_if h with ⟨hc, h⟩ | ⟨hc, h⟩
   ·refine wpS.tk 2 false (some 93) (.bool true) (yld_b (dt hc) (fun _ => by kernel_rfl)) ?_
    refine wpS.fin rfl (kr38 _ _ (then_n (ks37 _ _ (wp_cond_t (by kernel_rfl) (xseq_k fun KS39 ks39 => (xregS [0] fun KR40 kr40 => ?_))))))
    refine wpS.q 0 10 (.bool false) ?_
    refine wpS.fin rfl (kr40 _ _ (then_n (ks39 _ _ (xret ?_))))
    have q0 := of_some h
    subst q0
    have h := hk_7
    refine exj_r ?_
    refine then_r ?_
    have q0 := of_some h
    subst q0
    exact qq _ _ (post_ret (by kernel_rfl) (run_results [.tmp 10] [.bool false] (by kernel_rfl) (.cons (res_tmp (by kernel_rfl)) .nil)) ⟨congrArg Ending.returned (by kernel_rfl), hs.none⟩)
   refine wpS.tk 2 false (some 93) (.bool false) (yld_b (df hc) (fun _ => by kernel_rfl)) ?_
   refine wpS.fin rfl (kr38 _ _ (then_n (ks37 _ _ (wp_cond_f (by kernel_rfl) (xskip ?_)))))
   have q0 := of_some h
   subst q0
   exact exj_n (nj _ _ ⟨rfl, (hs.drop (.cons _ (.cons_cons _ .slnil))), exg (by kernel_rfl)⟩)
  clear hj hs
  rintro a w ⟨rfl, hs, g6, rfl⟩
  have h := hk_7
  refine then_n (ks7 _ _ (xseq_k fun KS41 ks41 => (xregS [0, 1, 2, 3, 4, 5, 6, 7, 8, 9] fun KR42 kr42 => ?_)))
  refine wpS.qs [(0, 95, .slice a0_A a0_n a0_c), (1, 96, .slice a1_A a1_n a1_c), (2, 97, .slice a2_A a2_n a2_c), (3, 98, .slice a4_A a4_n a4_c)] ?_
  obtain ⟨⟨r15, r16⟩, hg, h⟩ := of_bind h
  refine wpS.only 4 (op_callH (d := (some 99)) (by kernel_rfl) hs (fun _ => by kernel_rfl) (gcm_Open.ok hg _ (hs.rowR 0 rfl) (hs.rowR 1 rfl) (hs.rowR 2 rfl) (hs.rowR 4 rfl)) ?_)
  rintro ⟨r15_A, r15_n, r15_c⟩ w gw hs
  have hs := hs.conv (L' := [.ownL (CI .u8) r15_A r15_n r15_c r15 5, .ownL CS s1_A s1_n s1_c ([(a0_A, a0_n, a0_c), (a1_A, a1_n, a1_c), (a2_A, a2_n, a2_c), (a3_A, a3_n, a3_c), (a4_A, a4_n, a4_c)] : List HS) 26]) rfl
  refine ⟨fun _ => trivial, ?_⟩
  refine wpS.qs [(5, 94, .tuple #[.slice r15_A r15_n r15_c, .int .i64 r16]), (6, 100, .slice r15_A r15_n r15_c), (7, 101, .int .i64 r16), (8, 18, .slice r15_A r15_n r15_c), (9, 19, .int .i64 r16)] ?_
  refine wpS.fin rfl (kr42 _ _ (then_n (ks41 _ _ (xseq_k fun KS43 ks43 => (xseq_k fun KS44 ks44 => (xregS [0, 1] fun KR45 kr45 => ?_))))))
  refine wpS.q 0 102 (.int .i64 r16) ?_
  rcases of_if h with ⟨hc, h⟩ | ⟨hc, h⟩
  ·refine wpS.tk 1 false (some 103) (.bool false) (yld_b (nf hc) (fun _ => by kernel_rfl)) ?_
   refine wpS.fin rfl (kr45 _ _ (then_n (ks44 _ _ (wp_cond_f (by kernel_rfl) (xskip (then_n (ks43 _ _ (xseq_k fun KS46 ks46 => (xregS [0, 1, 2, 3, 4, 5, 6, 7, 8, 9] fun KR47 kr47 => ?_)))))))))
   refine wpS.qs [(0, 111, .slice a0_A a0_n a0_c), (1, 112, .slice a1_A a1_n a1_c), (2, 113, .slice a2_A a2_n a2_c), (3, 114, .slice r15_A r15_n r15_c)] ?_
   obtain ⟨⟨r17, r18⟩, hg, h⟩ := of_bind h
   refine wpS.only 4 (op_callH (d := (some 115)) (by kernel_rfl) hs (fun _ => by kernel_rfl) (gcm_Seal.ok hg _ (hs.rowR 0 rfl) (hs.rowR 1 rfl) (hs.rowR 2 rfl) (hs.rowL 0 rfl)) ?_)
   rintro ⟨r17_A, r17_n, r17_c⟩ w gw hs
   have hs := hs.conv (L' := [.ownL (CI .u8) r17_A r17_n r17_c r17 5, .ownL (CI .u8) r15_A r15_n r15_c r15 5, .ownL CS s1_A s1_n s1_c ([(a0_A, a0_n, a0_c), (a1_A, a1_n, a1_c), (a2_A, a2_n, a2_c), (a3_A, a3_n, a3_c), (a4_A, a4_n, a4_c)] : List HS) 26]) rfl
   refine ⟨fun _ => trivial, ?_⟩
   refine wpS.qs [(5, 110, .tuple #[.slice r17_A r17_n r17_c, .int .i64 r18]), (6, 116, .slice r17_A r17_n r17_c), (7, 117, .int .i64 r18), (8, 20, .slice r17_A r17_n r17_c), (9, 21, .int .i64 r18)] ?_
   refine wpS.fin rfl (kr47 _ _ (then_n (ks46 _ _ (xseq_k fun KS48 ks48 => (xregS [0, 1, 2, 3, 4, 5, 6, 7, 8, 9, 10] fun KR49 kr49 => ?_)))))
   refine wpS.q 0 118 (.int .i64 r18) ?_
   rcases of_if h with ⟨hc, h⟩ | ⟨hc, h⟩
   ·refine wpS.tk 1 false (some 119) (.bool true) (yld_b (et hc) (fun _ => by kernel_rfl)) ?_
    refine wpS.qs [(2, 120, .bool true), (3, 121, .slice r17_A r17_n r17_c), (4, 122, .slice a4_A a4_n a4_c)] ?_
    obtain ⟨r19, hg, h⟩ := of_bind h
    cases r19 with
    | true =>
     have h := of_if_t h
     refine wpS.only 5 (op_call (d := (some 123)) (by kernel_rfl) hs (fun _ => by kernel_rfl) (ref01_Same.ok hg _ (hs.rowL 0 rfl) (hs.rowR 4 rfl)) ?_)
     intro w gw hs
     refine ⟨fun _ => trivial, ?_⟩
     refine wpS.qs [(6, 124, .bool true), (7, 125, .bool true)] ?_
     obtain ⟨r20, hg, h⟩ := of_bind h
     refine wpS.only 8 (op_call (d := (some 126)) (by kernel_rfl) hs (fun _ => by kernel_rfl) (law12_awake.ok hg _) ?_)
     intro w gw hs
     refine ⟨fun _ => trivial, ?_⟩
     refine wpS.qs [(9, 127, .bool r20), (10, 10, .bool r20)] ?_
     refine wpS.fin rfl (kr49 _ _ (then_n (ks48 _ _ (xret ?_))))
     have q0 := of_some h
     subst q0
     exact qq _ _ (post_ret (by kernel_rfl) (run_results [.tmp 10] [.bool r20] (by kernel_rfl) (.cons (res_tmp (by kernel_rfl)) .nil)) ⟨congrArg Ending.returned (by kernel_rfl), hs.none⟩)
    | false =>
     have h := of_if_f h
     refine wpS.only 5 (op_call (d := (some 123)) (by kernel_rfl) hs (fun _ => by kernel_rfl) (ref01_Same.ok hg _ (hs.rowL 0 rfl) (hs.rowR 4 rfl)) ?_)
     intro w gw hs
     refine ⟨fun _ => trivial, ?_⟩
     refine wpS.qs [(6, 124, .bool false), (7, 125, .bool false), (8, 126, undef), (9, 127, .bool false), (10, 10, .bool false)] ?_
     refine wpS.fin rfl (kr49 _ _ (then_n (ks48 _ _ (xret ?_))))
     have q0 := of_some h
     subst q0
     exact qq _ _ (post_ret (by kernel_rfl) (run_results [.tmp 10] [.bool false] (by kernel_rfl) (.cons (res_tmp (by kernel_rfl)) .nil)) ⟨congrArg Ending.returned (by kernel_rfl), hs.none⟩)
   refine wpS.tk 1 false (some 119) (.bool false) (yld_b (ef hc) (fun _ => by kernel_rfl)) ?_
   refine wpS.qs [(2, 120, .bool false), (3, 121, undef), (4, 122, undef), (5, 123, undef), (6, 124, .bool false), (7, 125, .bool false), (8, 126, undef), (9, 127, .bool false), (10, 10, .bool false)] ?_
   refine wpS.fin rfl (kr49 _ _ (then_n (ks48 _ _ (xret ?_))))
   have q0 := of_some h
   subst q0
   exact qq _ _ (post_ret (by kernel_rfl) (run_results [.tmp 10] [.bool false] (by kernel_rfl) (.cons (res_tmp (by kernel_rfl)) .nil)) ⟨congrArg Ending.returned (by kernel_rfl), hs.none⟩)
  refine wpS.tk 1 false (some 103) (.bool true) (yld_b (nt hc) (fun _ => by kernel_rfl)) ?_
  refine wpS.fin rfl (kr45 _ _ (then_n (ks44 _ _ (wp_cond_t (by kernel_rfl) (xseq_k fun KS50 ks50 => (xregS [0, 1, 2, 3, 4, 5, 6] fun KR51 kr51 => ?_))))))
  refine wpS.q 0 104 (.slice r15_A r15_n r15_c) ?_
  refine wpS.tk 1 false (some 105) (.int .i64 (r15.length : Int)) (yld_lenL (hs.rowL 0 rfl) (fun _ => by kernel_rfl)) ?_
  rcases of_if h with ⟨hc, h⟩ | ⟨hc, h⟩
  ·refine wpS.tk 2 false (some 106) (.bool true) (yld_b (et hc) (fun _ => by kernel_rfl)) ?_
   refine wpS.q 3 107 (.bool true) ?_
   obtain ⟨r21, hg, h⟩ := of_bind h
   refine wpS.only 4 (op_call (d := (some 108)) (by kernel_rfl) hs (fun _ => by kernel_rfl) (law12_awake.ok hg _) ?_)
   intro w gw hs
   refine ⟨fun _ => trivial, ?_⟩
   refine wpS.qs [(5, 109, .bool r21), (6, 10, .bool r21)] ?_
   refine wpS.fin rfl (kr51 _ _ (then_n (ks50 _ _ (xret (then_r ?_)))))
   have q0 := of_some h
   subst q0
   exact qq _ _ (post_ret (by kernel_rfl) (run_results [.tmp 10] [.bool r21] (by kernel_rfl) (.cons (res_tmp (by kernel_rfl)) .nil)) ⟨congrArg Ending.returned (by kernel_rfl), hs.none⟩)
  refine wpS.tk 2 false (some 106) (.bool false) (yld_b (ef hc) (fun _ => by kernel_rfl)) ?_
  refine wpS.qs [(3, 107, .bool false), (4, 108, undef), (5, 109, .bool false), (6, 10, .bool false)] ?_
  refine wpS.fin rfl (kr51 _ _ (then_n (ks50 _ _ (xret (then_r ?_)))))
  have q0 := of_some h
  subst q0
  exact qq _ _ (post_ret (by kernel_rfl) (run_results [.tmp 10] [.bool false] (by kernel_rfl) (.cons (res_tmp (by kernel_rfl)) .nil)) ⟨congrArg Ending.returned (by kernel_rfl), hs.none⟩)
 | false =>
  have h := of_if_f h
  refine wpS.only 6 (op_call (d := (some 28)) (by kernel_rfl) hs (fun _ => by kernel_rfl) (law12_few.ok hg _ (LLP.mk (hs.rowL 0 rfl) (inn_cons (hs.rowR 0 rfl) (inn_cons (hs.rowR 1 rfl) (inn_cons (hs.rowR 2 rfl) (inn_cons (hs.rowR 3 rfl) (inn_cons (hs.rowR 4 rfl) inn_nil))))))) ?_)
  intro w gw hs
  refine ⟨fun _ => trivial, ?_⟩
  refine wpS.q 7 29 (.bool true) ?_
  refine wpS.fin rfl (kr5 _ _ (then_n (ks4 _ _ (wp_cond_t (by kernel_rfl) (xseq_k fun KS52 ks52 => (xregS [0, 1] fun KR53 kr53 => ?_))))))
  obtain ⟨r22, hg, h⟩ := of_bind h
  refine wpS.only 0 (op_call (d := (some 30)) (by kernel_rfl) hs (fun _ => by kernel_rfl) (law12_awake.ok hg _) ?_)
  intro w gw hs
  refine ⟨fun _ => trivial, ?_⟩
  refine wpS.q 1 10 (.bool r22) ?_
  refine wpS.fin rfl (kr53 _ _ (then_n (ks52 _ _ (xret (then_r ?_)))))
  have q0 := of_some h
  subst q0
  exact qq _ _ (post_ret (by kernel_rfl) (run_results [.tmp 10] [.bool r22] (by kernel_rfl) (.cons (res_tmp (by kernel_rfl)) .nil)) ⟨congrArg Ending.returned (by kernel_rfl), hs.none⟩)
end Go.Proofs.Ytmpagpbnpgcecaa
