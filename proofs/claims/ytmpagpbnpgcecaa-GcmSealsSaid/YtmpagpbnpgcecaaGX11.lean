/- Printed by this work's own program: the code of each function below comes to the answer that its plain form tells. -/
import Derived.Test.YtmpagpbnpgcecaaMd
import Derived.Test.YtmpagpbnpgcecaaProg
import Derived.Test.YtmpagpbnpgcecaaGF0
import Derived.Test.YtmpagpbnpgcecaaGX5
set_option linter.unusedVariables false
set_option linter.unusedSimpArgs false
set_option maxRecDepth 100000
set_option maxHeartbeats 4000000
namespace Go.Proofs.Ytmpagpbnpgcecaa
open Go.Mx
attribute [local irreducible] wpOp

theorem ref12_bit.ok {K : Nat} {a0 : List Int} {a1 : Int} {r0 : Int} {a0_A : Option Addr} {a0_n : Nat} {a0_c : Nat} (h : ref12_bit.f K a0 a1 = some r0) (w0 : World) (hp0 : RowL (CI .u8) w0 a0_A a0_n a0_c a0) : Ret Try.prog 78 #[.slice a0_A a0_n a0_c, .int .i64 a1] w0 (.int .u8 r0) := by
 refine calls_k Try.func78 rfl fun Q qq => ?_
 have hs := St.startR (all_cons (RowP.ent hp0) all_nil)
 refine wp_conv (a' := ⟨#[.slice a0_A a0_n a0_c, .int .i64 a1, undef, undef, undef, undef, undef, undef, undef, undef, undef, undef, undef, undef, undef], []⟩) (by kernel_rfl) ?_
 refine xseq_k fun KS1 ks1 => ?_
 refine xregS [0] fun KR2 kr2 => ?_
 refine wpS.q 0 4 (.int .u8 0) ?_
 refine wpS.fin rfl (kr2 _ _ (then_n (ks1 _ _ (xseq_k fun KS3 ks3 => (xregS [0, 1, 2, 3, 4, 5, 6, 7, 8, 9, 10] fun KR4 kr4 => ?_)))))
 refine wpS.qs [(0, 5, .slice a0_A a0_n a0_c), (1, 6, .int .i64 a1), (2, 7, .int .i64 (iquo .i64 a1 8))] ?_
 obtain ⟨x1, hx, h⟩ := of_bind h
 have hx := of_some hx
 subst hx
 obtain ⟨h0, h⟩ := of_chk h
 obtain ⟨h1, h⟩ := of_chk h
 have i0_5 := h0
 have i1_5 := h1
 refine wpS.tk 3 false (some 8) (.pointer (adr a0_A (((iquo .i64 a1 8) : Int).toNat * Cod.size (CI .u8)))) (yld_idxL (C := (CI .u8)) (t := 26) (e := 5) (k := .i64) (x := (iquo .i64 a1 8)) (hs.rowR 0 rfl) (by kernel_rfl) (by kernel_rfl) (by kernel_rfl) h0 h1) ?_
 refine wpS.tk 4 true (some 9) (.int .u8 (rdL (CI .u8) a0 (iquo .i64 a1 8))) (yld_loadL (C := (CI .u8)) (e := 5) (x := (iquo .i64 a1 8)) (hs.rowR 0 rfl) (by kernel_rfl) rfl (by kernel_rfl) i0_5 i1_5) ?_
 refine wpS.qs [(5, 10, .int .i64 a1), (6, 11, .int .i64 (irem .i64 a1 8)), (7, 12, .int .i64 (isub .i64 7 (irem .i64 a1 8)))] ?_
 obtain ⟨h0, h⟩ := of_chk h
 refine wpS.tk 8 false (some 13) (.int .u8 (ishr .u8 (rdL (CI .u8) a0 (iquo .i64 a1 8)) (isub .i64 7 (irem .i64 a1 8)))) (yld_shr (t := 5) (k' := .i64) (by kernel_rfl) h0) ?_
 refine wpS.q 9 14 (.int .u8 (iand .u8 (ishr .u8 (rdL (CI .u8) a0 (iquo .i64 a1 8)) (isub .i64 7 (irem .i64 a1 8))) 1)) ?_
 obtain ⟨x2, hx, h⟩ := of_bind h
 refine wpS.tk 10 false (some 4) (.int .u8 x2) (yld_int hx (fun _ => by kernel_rfl)) ?_
 refine wpS.fin rfl (kr4 _ _ (then_n (ks3 _ _ (xret ?_))))
 have q0 := of_some h
 subst q0
 exact qq _ _ (post_ret (by kernel_rfl) (run_results [.tmp 4] [.int .u8 x2] (by kernel_rfl) (.cons (res_tmp (by kernel_rfl)) .nil)) ⟨congrArg Ending.returned (by kernel_rfl), hs.none⟩)

theorem ref12_Mul.ok {K : Nat} {a0 : List Int} {a1 : List Int} {r0 : List Int} {a0_A : Option Addr} {a0_n : Nat} {a0_c : Nat} {a1_A : Option Addr} {a1_n : Nat} {a1_c : Nat} (h : ref12_Mul.f K a0 a1 = some r0) (w0 : World) (hp0 : RowL (CI .u8) w0 a0_A a0_n a0_c a0) (hp1 : RowL (CI .u8) w0 a1_A a1_n a1_c a1) : Calls Try.prog 39 #[.slice a0_A a0_n a0_c, .slice a1_A a1_n a1_c] w0 fun e w' => ∃ h : (Option Addr × Nat × Nat), e = .returned (.slice h.1 h.2.1 h.2.2) ∧ St w0 [] [.ownL (CI .u8) h.1 h.2.1 h.2.2 r0 5] [] w' := by
 refine calls_k Try.func39 rfl fun Q qq => ?_
 have hs := St.startR (all_cons (RowP.ent hp0) (all_cons (RowP.ent hp1) all_nil))
 refine wp_conv (a' := ⟨#[.slice a0_A a0_n a0_c, .slice a1_A a1_n a1_c, undef, undef, undef, undef, undef, undef, undef, undef, undef, undef, undef, undef, undef, undef, undef, undef, undef, undef, undef, undef, undef, undef, undef, undef, undef, undef, undef, undef, undef, undef, undef, undef, undef, undef, undef, undef, undef, undef, undef, undef, undef, undef, undef, undef, undef, undef, undef, undef, undef, undef, undef, undef, undef, undef, undef, undef, undef, undef, undef, undef, undef, undef, undef, undef, undef, undef, undef, undef, undef, undef, undef, undef, undef, undef, undef, undef, undef, undef, undef, undef, undef, undef, undef, undef, undef, undef, undef, undef, undef, undef, undef, undef, undef, undef, undef, undef, undef, undef, undef, undef, undef, undef, undef, undef, undef, undef, undef, undef, undef, undef, undef, undef, undef, undef, undef, undef, undef, undef], []⟩) (by kernel_rfl) ?_
 refine xseq_k fun KS1 ks1 => ?_
 refine xregS [0] fun KR2 kr2 => ?_
 refine wpS.q 0 4 (.slice none 0 0) ?_
 refine wpS.fin rfl (kr2 _ _ (then_n (ks1 _ _ (xseq_k fun KS3 ks3 => (xseq_k fun KS4 ks4 => (xregS [0, 1, 2, 3, 4, 5, 6, 7] fun KR5 kr5 => ?_))))))
 refine wpS.q 0 11 (.slice a0_A a0_n a0_c) ?_
 refine wpS.tk 1 false (some 12) (.int .i64 (a0.length : Int)) (yld_lenL (hs.rowR 0 rfl) (fun _ => by kernel_rfl)) ?_
 rcases of_if h with ⟨hc, h⟩ | ⟨hc, h⟩
 ·refine wpS.tk 2 false (some 13) (.bool false) (yld_b (nf hc) (fun _ => by kernel_rfl)) ?_
  refine wpS.qs [(3, 14, .bool false), (4, 15, .slice a1_A a1_n a1_c)] ?_
  refine wpS.tk 5 false (some 16) (.int .i64 (a1.length : Int)) (yld_lenL (hs.rowR 1 rfl) (fun _ => by kernel_rfl)) ?_
  rcases of_if h with ⟨hc, h⟩ | ⟨hc, h⟩
  ·refine wpS.tk 6 false (some 17) (.bool false) (yld_b (nf hc) (fun _ => by kernel_rfl)) ?_
   refine wpS.q 7 18 (.bool false) ?_
   refine wpS.fin rfl (kr5 _ _ (then_n (ks4 _ _ (wp_cond_f (by kernel_rfl) (xskip (then_n (ks3 _ _ (xseq_k fun KS6 ks6 => (xregS [0, 1] fun KR7 kr7 => ?_)))))))))
   refine wpS.only 0 (op_makeT (C := (CI .u8)) (t := 26) (e := 5) (bytes := 1) (B := 140737488355328) (kl := .i64) (kc := .i64) (x := 255) (d := (some 19)) (by kernel_rfl) hs (by kernel_rfl) (by kernel_rfl) (by kernel_rfl) (by kernel_rfl) (by kernel_rfl) (by decide) (by decide) (by decide) (by decide) ?_)
   intro s1_A s1_n s1_c w gw hs
   refine ⟨fun _ => trivial, ?_⟩
   refine wpS.q 1 5 (.slice s1_A s1_n s1_c) ?_
   refine wpS.fin rfl (kr7 _ _ (then_n (ks6 _ _ (xseq_k fun KS8 ks8 => (xseq_k fun KS9 ks9 => (xregS [0] fun KR10 kr10 => ?_))))))
   refine wpS.q 0 6 (.int .i64 0) ?_
   refine wpS.fin rfl (kr10 _ _ (then_n (ks9 _ _ ?_)))
   obtain ⟨y4, hy, hk0⟩ := of_bind h
   refine wp_exq (N := fun a w => St w0 [] [.ownL (CI .u8) s1_A s1_n s1_c y4 5] [.rowL (CI .u8) a0_A a0_n a0_c a0, .rowL (CI .u8) a1_A a1_n a1_c a1] w ∧ ∃ g12 : Nat → Value, a = ⟨#[.slice a0_A a0_n a0_c, .slice a1_A a1_n a1_c, undef, undef, .slice none 0 0, .slice s1_A s1_n s1_c, (g12 6), (g12 7), undef, undef, undef, .slice a0_A a0_n a0_c, .int .i64 (a0.length : Int), .bool false, .bool false, .slice a1_A a1_n a1_c, .int .i64 (a1.length : Int), .bool false, .bool false, .slice s1_A s1_n s1_c, (g12 20), (g12 21), (g12 22), (g12 23), (g12 24), (g12 25), (g12 26), (g12 27), (g12 28), (g12 29), (g12 30), (g12 31), (g12 32), (g12 33), (g12 34), (g12 35), (g12 36), (g12 37), (g12 38), (g12 39), (g12 40), (g12 41), (g12 42), (g12 43), (g12 44), (g12 45), (g12 46), undef, undef, undef, undef, undef, undef, undef, undef, undef, undef, undef, undef, undef, undef, undef, undef, undef, undef, undef, undef, undef, undef, undef, undef, undef, undef, undef, undef, undef, undef, undef, undef, undef, undef, undef, undef, undef, undef, undef, undef, undef, undef, undef, undef, undef, undef, undef, undef, undef, undef, undef, undef, undef, undef, undef, undef, undef, undef, undef, undef, undef, undef, undef, undef, undef, undef, undef, undef, undef, undef, undef, undef, undef], []⟩) (fun N0 nn0 => ?_) ?_
   ·clear hk0
    refine xblock ?_
    refine wp_loop_k (fun n a w => ∃ z2 z3, ref12_Mul.l0 K n a0 a1 z2 z3 = some y4 ∧ St w0 [] [.ownL (CI .u8) s1_A s1_n s1_c z3 5] [.rowL (CI .u8) a0_A a0_n a0_c a0, .rowL (CI .u8) a1_A a1_n a1_c a1] w ∧ ∃ g11 : Nat → Value, a = ⟨#[.slice a0_A a0_n a0_c, .slice a1_A a1_n a1_c, undef, undef, .slice none 0 0, .slice s1_A s1_n s1_c, .int .i64 z2, (g11 7), undef, undef, undef, .slice a0_A a0_n a0_c, .int .i64 (a0.length : Int), .bool false, .bool false, .slice a1_A a1_n a1_c, .int .i64 (a1.length : Int), .bool false, .bool false, .slice s1_A s1_n s1_c, (g11 20), (g11 21), (g11 22), (g11 23), (g11 24), (g11 25), (g11 26), (g11 27), (g11 28), (g11 29), (g11 30), (g11 31), (g11 32), (g11 33), (g11 34), (g11 35), (g11 36), (g11 37), (g11 38), (g11 39), (g11 40), (g11 41), (g11 42), (g11 43), (g11 44), (g11 45), (g11 46), undef, undef, undef, undef, undef, undef, undef, undef, undef, undef, undef, undef, undef, undef, undef, undef, undef, undef, undef, undef, undef, undef, undef, undef, undef, undef, undef, undef, undef, undef, undef, undef, undef, undef, undef, undef, undef, undef, undef, undef, undef, undef, undef, undef, undef, undef, undef, undef, undef, undef, undef, undef, undef, undef, undef, undef, undef, undef, undef, undef, undef, undef, undef, undef, undef, undef, undef, undef, undef, undef, undef, undef, undef], []⟩) K ⟨0, (List.replicate (255 : Int).toNat (Cod.zero (CI .u8))), hy, hs.conv rfl, exg (by kernel_rfl)⟩ ?_
    clear hs h hy
    rintro n a w ⟨z2, z3, h, hs, g11, rfl⟩ KL0 kl0
    cases n with
    | zero => exact nomatch (show none = some _ from h)
    | succ n =>
     refine xseq_k fun KS13 ks13 => ?_
     refine xseq_k fun KS14 ks14 => ?_
     refine xregS [0, 1] fun KR15 kr15 => ?_
     refine wpS.q 0 20 (.int .i64 z2) ?_
     rcases of_if h with ⟨hc, h⟩ | ⟨hc, h⟩
     ·refine wpS.tk 1 false (some 21) (.bool true) (yld_b (dt hc) (fun _ => by kernel_rfl)) ?_
      refine wpS.fin rfl (kr15 _ _ (then_n (ks14 _ _ (wp_cond_t (by kernel_rfl) (xskip (then_n (ks13 _ _ (xseq_k fun KS16 ks16 => (xblock (xseq_k fun KS17 ks17 => (xregS [0] fun KR18 kr18 => ?_)))))))))))
      refine wpS.q 0 7 (.int .i64 0) ?_
      refine wpS.fin rfl (kr18 _ _ (then_n (ks17 _ _ ?_)))
      obtain ⟨y7, hy, hk1⟩ := of_bind h
      refine wp_exq (N := fun a w => St w0 [] [.ownL (CI .u8) s1_A s1_n s1_c y7 5] [.rowL (CI .u8) a0_A a0_n a0_c a0, .rowL (CI .u8) a1_A a1_n a1_c a1] w ∧ ∃ g20 : Nat → Value, a = ⟨#[.slice a0_A a0_n a0_c, .slice a1_A a1_n a1_c, undef, undef, .slice none 0 0, .slice s1_A s1_n s1_c, .int .i64 z2, (g20 7), undef, undef, undef, .slice a0_A a0_n a0_c, .int .i64 (a0.length : Int), .bool false, .bool false, .slice a1_A a1_n a1_c, .int .i64 (a1.length : Int), .bool false, .bool false, .slice s1_A s1_n s1_c, .int .i64 z2, .bool true, (g11 22), (g11 23), (g20 24), (g20 25), (g20 26), (g20 27), (g20 28), (g20 29), (g20 30), (g20 31), (g20 32), (g20 33), (g20 34), (g20 35), (g20 36), (g20 37), (g20 38), (g20 39), (g20 40), (g20 41), (g20 42), (g20 43), (g20 44), (g20 45), (g20 46), undef, undef, undef, undef, undef, undef, undef, undef, undef, undef, undef, undef, undef, undef, undef, undef, undef, undef, undef, undef, undef, undef, undef, undef, undef, undef, undef, undef, undef, undef, undef, undef, undef, undef, undef, undef, undef, undef, undef, undef, undef, undef, undef, undef, undef, undef, undef, undef, undef, undef, undef, undef, undef, undef, undef, undef, undef, undef, undef, undef, undef, undef, undef, undef, undef, undef, undef, undef, undef, undef, undef, undef, undef], []⟩) (fun N1 nn1 => ?_) ?_
      ·clear hk1
       refine xblock ?_
       refine wp_loop_k (fun n a w => ∃ z5 z6, ref12_Mul.l1 K n a0 a1 z2 z5 z6 = some y7 ∧ St w0 [] [.ownL (CI .u8) s1_A s1_n s1_c z6 5] [.rowL (CI .u8) a0_A a0_n a0_c a0, .rowL (CI .u8) a1_A a1_n a1_c a1] w ∧ ∃ g19 : Nat → Value, a = ⟨#[.slice a0_A a0_n a0_c, .slice a1_A a1_n a1_c, undef, undef, .slice none 0 0, .slice s1_A s1_n s1_c, .int .i64 z2, .int .i64 z5, undef, undef, undef, .slice a0_A a0_n a0_c, .int .i64 (a0.length : Int), .bool false, .bool false, .slice a1_A a1_n a1_c, .int .i64 (a1.length : Int), .bool false, .bool false, .slice s1_A s1_n s1_c, .int .i64 z2, .bool true, (g11 22), (g11 23), (g19 24), (g19 25), (g19 26), (g19 27), (g19 28), (g19 29), (g19 30), (g19 31), (g19 32), (g19 33), (g19 34), (g19 35), (g19 36), (g19 37), (g19 38), (g19 39), (g19 40), (g19 41), (g19 42), (g19 43), (g19 44), (g19 45), (g19 46), undef, undef, undef, undef, undef, undef, undef, undef, undef, undef, undef, undef, undef, undef, undef, undef, undef, undef, undef, undef, undef, undef, undef, undef, undef, undef, undef, undef, undef, undef, undef, undef, undef, undef, undef, undef, undef, undef, undef, undef, undef, undef, undef, undef, undef, undef, undef, undef, undef, undef, undef, undef, undef, undef, undef, undef, undef, undef, undef, undef, undef, undef, undef, undef, undef, undef, undef, undef, undef, undef, undef, undef, undef], []⟩) K ⟨0, z3, hy, hs.conv rfl, exg (by kernel_rfl)⟩ ?_
       clear hs h hy
       rintro n a w ⟨z5, z6, h, hs, g19, rfl⟩ KL1 kl1
       cases n with
       | zero => exact nomatch (show none = some _ from h)
       | succ n =>
        refine xseq_k fun KS21 ks21 => ?_
        refine xseq_k fun KS22 ks22 => ?_
        refine xregS [0, 1] fun KR23 kr23 => ?_
        refine wpS.q 0 24 (.int .i64 z5) ?_
        rcases of_if h with ⟨hc, h⟩ | ⟨hc, h⟩
        ·refine wpS.tk 1 false (some 25) (.bool true) (yld_b (dt hc) (fun _ => by kernel_rfl)) ?_
         refine wpS.fin rfl (kr23 _ _ (then_n (ks22 _ _ (wp_cond_t (by kernel_rfl) (xskip (then_n (ks21 _ _ (xseq_k fun KS24 ks24 => (xblock ?_)))))))))
         refine wp_regG [19] (fun k => True) 20 (by kernel_rfl) (by kernel_rfl) (by kernel_rfl) fun KR25 kr25 => ?_
         have hs := hs.drawn1
         refine wpG.q 0 28 (.slice s1_A s1_n s1_c) ?_
         refine wpG.q 1 29 (.int .i64 z2) ?_
         refine wpG.q 2 30 (.int .i64 z5) ?_
         refine wpG.q 3 31 (.int .i64 (iadd .i64 z2 z5)) ?_
         refine wpG.q 4 32 (.slice s1_A s1_n s1_c) ?_
         refine wpG.q 5 33 (.int .i64 z2) ?_
         refine wpG.q 6 34 (.int .i64 z5) ?_
         refine wpG.q 7 35 (.int .i64 (iadd .i64 z2 z5)) ?_
         obtain ⟨x8, hx, h⟩ := of_bind h
         have hx := of_some hx
         subst hx
         obtain ⟨h0, h⟩ := of_chk h
         obtain ⟨h1, h⟩ := of_chk h
         have i0_26 := h0
         have i1_26 := h1
         refine wpG.tD 8 false (some 36) (.pointer (adr s1_A (((iadd .i64 z2 z5) : Int).toNat * Cod.size (CI .u8)))) (yld_idxL (C := (CI .u8)) (t := 26) (e := 5) (k := .i64) (x := (iadd .i64 z2 z5)) (hs.rowL 0 rfl) (by kernel_rfl) (by kernel_rfl) (by kernel_rfl) h0 h1) ?_
         refine wpG.tD 9 true (some 37) (.int .u8 (rdL (CI .u8) z6 (iadd .i64 z2 z5))) (yld_loadL (C := (CI .u8)) (e := 5) (x := (iadd .i64 z2 z5)) (hs.rowL 0 rfl) (by kernel_rfl) rfl (by kernel_rfl) i0_26 i1_26) ?_
         refine wpG.q 10 38 (.slice a0_A a0_n a0_c) ?_
         refine wpG.q 11 39 (.int .i64 z2) ?_
         refine wpG.q 13 41 (.slice a1_A a1_n a1_c) ?_
         refine wpG.q 14 42 (.int .i64 z5) ?_
         obtain ⟨r9, hg, h⟩ := of_bind h
         refine wpG.only 12 (by kernel_rfl) (op_call (d := (some 40)) (by kernel_rfl) hs (fun _ => by kernel_rfl) (ref12_bit.ok hg _ (hs.rowR 0 rfl)) ?_)
         intro w gw hs
         refine ⟨.of gw, ?_⟩
         obtain ⟨r10, hg, h⟩ := of_bind h
         refine wpG.only 15 (by kernel_rfl) (op_call (d := (some 43)) (by kernel_rfl) hs (fun _ => by kernel_rfl) (ref12_bit.ok hg _ (hs.rowR 1 rfl)) ?_)
         intro w gw hs
         refine ⟨.of gw, ?_⟩
         refine wpG.q 16 44 (.int .u8 (iand .u8 r9 r10)) ?_
         refine wpG.q 17 45 (.int .u8 (ixor .u8 (rdL (CI .u8) z6 (iadd .i64 z2 z5)) (iand .u8 r9 r10))) ?_
         obtain ⟨x11, hx, h⟩ := of_bind h
         have hx := of_some hx
         subst hx
         obtain ⟨h0, h⟩ := of_chk h
         obtain ⟨h1, h⟩ := of_chk h
         have i0_27 := h0
         have i1_27 := h1
         refine wpG.tD 18 false (some 46) (.pointer (adr s1_A (((iadd .i64 z2 z5) : Int).toNat * Cod.size (CI .u8)))) (yld_idxL (C := (CI .u8)) (t := 26) (e := 5) (k := .i64) (x := (iadd .i64 z2 z5)) (hs.rowL 0 rfl) (by kernel_rfl) (by kernel_rfl) (by kernel_rfl) h0 h1) ?_
         obtain ⟨x12, hx, h⟩ := of_bind h
         refine wpG.only 19 (by kernel_rfl) (op_storeL (C := (CI .u8)) (t := 5) (x := (iadd .i64 z2 z5)) (v := x12) (d := none) (by kernel_rfl) hs 0 rfl (by cases hx; kernel_rfl) (by kernel_rfl) i0_27 i1_27 ?_)
         intro w hs
         refine ⟨⟨fun hf => absurd hf (by decide), .all _ _⟩, ?_⟩
         refine wpG.fin (by kernel_rfl) rfl (kr25 _ _ ?_)
         refine inBlock_n (then_n (ks24 _ _ (xregS [0, 1, 2] fun KR28 kr28 => ?_)))
         refine wpS.qs [(0, 26, .int .i64 z5), (1, 27, .int .i64 (iadd .i64 z5 1))] ?_
         obtain ⟨x13, hx, h⟩ := of_bind h
         refine wpS.tk 2 false (some 7) (.int .i64 x13) (yld_int hx (fun _ => by kernel_rfl)) ?_
         refine wpS.fin rfl (kr28 _ _ ?_)
         exact then_n (kl1 _ _ ⟨n, Nat.lt_succ_self n, x13, (wrL z6 (iadd .i64 z2 z5) x12), h, (hs.conv rfl), exg (by kernel_rfl)⟩)
        refine wpS.tk 1 false (some 25) (.bool false) (yld_b (df hc) (fun _ => by kernel_rfl)) ?_
        refine wpS.fin rfl (kr23 _ _ (then_n (ks22 _ _ (wp_cond_f (by kernel_rfl) (xexit (then_x (then_x (inBlock_hit ?_))))))))
        have q0 := of_some h
        subst q0
        exact exq_n (nn1 _ _ ⟨(hs.conv rfl), exg (by kernel_rfl)⟩)
      clear hs h hy
      rintro a w ⟨hs, g20, rfl⟩
      have h := hk1
      refine inBlock_n (then_n (ks16 _ _ (xregS [0, 1, 2] fun KR29 kr29 => ?_)))
      refine wpS.qs [(0, 22, .int .i64 z2), (1, 23, .int .i64 (iadd .i64 z2 1))] ?_
      obtain ⟨x14, hx, h⟩ := of_bind h
      refine wpS.tk 2 false (some 6) (.int .i64 x14) (yld_int hx (fun _ => by kernel_rfl)) ?_
      refine wpS.fin rfl (kr29 _ _ ?_)
      exact then_n (kl0 _ _ ⟨n, Nat.lt_succ_self n, x14, y7, h, (hs.conv rfl), exg (by kernel_rfl)⟩)
     refine wpS.tk 1 false (some 21) (.bool false) (yld_b (df hc) (fun _ => by kernel_rfl)) ?_
     refine wpS.fin rfl (kr15 _ _ (then_n (ks14 _ _ (wp_cond_f (by kernel_rfl) (xexit (then_x (then_x (inBlock_hit ?_))))))))
     have q0 := of_some h
     subst q0
     exact exq_n (nn0 _ _ ⟨(hs.conv rfl), exg (by kernel_rfl)⟩)
   clear hs h hy
   rintro a w ⟨hs, g12, rfl⟩
   have h := hk0
   refine then_n (ks8 _ _ (xseq_k fun KS30 ks30 => (xseq_k fun KS31 ks31 => (xregS [0] fun KR32 kr32 => ?_))))
   refine wpS.q 0 8 (.int .i64 254) ?_
   refine wpS.fin rfl (kr32 _ _ (then_n (ks31 _ _ ?_)))
   obtain ⟨y17, hy, hk2⟩ := of_bind h
   refine wp_exq (N := fun a w => St w0 [] [.ownL (CI .u8) s1_A s1_n s1_c y17 5] [.rowL (CI .u8) a0_A a0_n a0_c a0, .rowL (CI .u8) a1_A a1_n a1_c a1] w ∧ ∃ g34 : Nat → Value, a = ⟨#[.slice a0_A a0_n a0_c, .slice a1_A a1_n a1_c, undef, undef, .slice none 0 0, .slice s1_A s1_n s1_c, (g12 6), (g12 7), (g34 8), undef, undef, .slice a0_A a0_n a0_c, .int .i64 (a0.length : Int), .bool false, .bool false, .slice a1_A a1_n a1_c, .int .i64 (a1.length : Int), .bool false, .bool false, .slice s1_A s1_n s1_c, (g12 20), (g12 21), (g12 22), (g12 23), (g12 24), (g12 25), (g12 26), (g12 27), (g12 28), (g12 29), (g12 30), (g12 31), (g12 32), (g12 33), (g12 34), (g12 35), (g12 36), (g12 37), (g12 38), (g12 39), (g12 40), (g12 41), (g12 42), (g12 43), (g12 44), (g12 45), (g12 46), (g34 47), (g34 48), (g34 49), (g34 50), (g34 51), (g34 52), (g34 53), (g34 54), (g34 55), (g34 56), (g34 57), (g34 58), (g34 59), (g34 60), (g34 61), (g34 62), (g34 63), (g34 64), (g34 65), (g34 66), (g34 67), (g34 68), (g34 69), (g34 70), (g34 71), (g34 72), (g34 73), (g34 74), (g34 75), (g34 76), (g34 77), (g34 78), (g34 79), (g34 80), (g34 81), (g34 82), (g34 83), (g34 84), (g34 85), (g34 86), (g34 87), (g34 88), (g34 89), (g34 90), (g34 91), (g34 92), (g34 93), (g34 94), (g34 95), undef, undef, undef, undef, undef, undef, undef, undef, undef, undef, undef, undef, undef, undef, undef, undef, undef, undef, undef, undef, undef, undef, undef, undef], []⟩) (fun N2 nn2 => ?_) ?_
   ·clear hk2
    refine xblock ?_
    refine wp_loop_k (fun n a w => ∃ z15 z16, ref12_Mul.l2 K n z15 z16 = some y17 ∧ St w0 [] [.ownL (CI .u8) s1_A s1_n s1_c z16 5] [.rowL (CI .u8) a0_A a0_n a0_c a0, .rowL (CI .u8) a1_A a1_n a1_c a1] w ∧ ∃ g33 : Nat → Value, a = ⟨#[.slice a0_A a0_n a0_c, .slice a1_A a1_n a1_c, undef, undef, .slice none 0 0, .slice s1_A s1_n s1_c, (g12 6), (g12 7), .int .i64 z15, undef, undef, .slice a0_A a0_n a0_c, .int .i64 (a0.length : Int), .bool false, .bool false, .slice a1_A a1_n a1_c, .int .i64 (a1.length : Int), .bool false, .bool false, .slice s1_A s1_n s1_c, (g12 20), (g12 21), (g12 22), (g12 23), (g12 24), (g12 25), (g12 26), (g12 27), (g12 28), (g12 29), (g12 30), (g12 31), (g12 32), (g12 33), (g12 34), (g12 35), (g12 36), (g12 37), (g12 38), (g12 39), (g12 40), (g12 41), (g12 42), (g12 43), (g12 44), (g12 45), (g12 46), (g33 47), (g33 48), (g33 49), (g33 50), (g33 51), (g33 52), (g33 53), (g33 54), (g33 55), (g33 56), (g33 57), (g33 58), (g33 59), (g33 60), (g33 61), (g33 62), (g33 63), (g33 64), (g33 65), (g33 66), (g33 67), (g33 68), (g33 69), (g33 70), (g33 71), (g33 72), (g33 73), (g33 74), (g33 75), (g33 76), (g33 77), (g33 78), (g33 79), (g33 80), (g33 81), (g33 82), (g33 83), (g33 84), (g33 85), (g33 86), (g33 87), (g33 88), (g33 89), (g33 90), (g33 91), (g33 92), (g33 93), (g33 94), (g33 95), undef, undef, undef, undef, undef, undef, undef, undef, undef, undef, undef, undef, undef, undef, undef, undef, undef, undef, undef, undef, undef, undef, undef, undef], []⟩) K ⟨254, y4, hy, hs.conv rfl, exg (by kernel_rfl)⟩ ?_
    clear hs h hy
    rintro n a w ⟨z15, z16, h, hs, g33, rfl⟩ KL2 kl2
    cases n with
    | zero => exact nomatch (show none = some _ from h)
    | succ n =>
     refine xseq_k fun KS35 ks35 => ?_
     refine xseq_k fun KS36 ks36 => ?_
     refine xregS [0, 1] fun KR37 kr37 => ?_
     refine wpS.q 0 47 (.int .i64 z15) ?_
     rcases of_if h with ⟨hc, h⟩ | ⟨hc, h⟩
     ·refine wpS.tk 1 false (some 48) (.bool true) (yld_b (dt hc) (fun _ => by kernel_rfl)) ?_
      refine wpS.fin rfl (kr37 _ _ (then_n (ks36 _ _ (wp_cond_t (by kernel_rfl) (xskip (then_n (ks35 _ _ ?_)))))))
      obtain ⟨y18, hj, h⟩ := of_bind h
      refine xseq_k fun KS39 ks39 => wp_join (N := fun a w => St w0 [] [.ownL (CI .u8) s1_A s1_n s1_c y18 5] [.rowL (CI .u8) a0_A a0_n a0_c a0, .rowL (CI .u8) a1_A a1_n a1_c a1] w ∧ ∃ g38 : Nat → Value, a = ⟨#[.slice a0_A a0_n a0_c, .slice a1_A a1_n a1_c, undef, undef, .slice none 0 0, .slice s1_A s1_n s1_c, (g12 6), (g12 7), .int .i64 z15, undef, undef, .slice a0_A a0_n a0_c, .int .i64 (a0.length : Int), .bool false, .bool false, .slice a1_A a1_n a1_c, .int .i64 (a1.length : Int), .bool false, .bool false, .slice s1_A s1_n s1_c, (g12 20), (g12 21), (g12 22), (g12 23), (g12 24), (g12 25), (g12 26), (g12 27), (g12 28), (g12 29), (g12 30), (g12 31), (g12 32), (g12 33), (g12 34), (g12 35), (g12 36), (g12 37), (g12 38), (g12 39), (g12 40), (g12 41), (g12 42), (g12 43), (g12 44), (g12 45), (g12 46), .int .i64 z15, .bool true, (g33 49), (g33 50), (g38 51), (g38 52), (g38 53), (g38 54), (g38 55), (g38 56), (g38 57), (g38 58), (g38 59), (g38 60), (g38 61), (g38 62), (g38 63), (g38 64), (g38 65), (g38 66), (g38 67), (g38 68), (g38 69), (g38 70), (g38 71), (g38 72), (g38 73), (g38 74), (g38 75), (g38 76), (g38 77), (g38 78), (g38 79), (g38 80), (g38 81), (g38 82), (g38 83), (g38 84), (g38 85), (g38 86), (g38 87), (g38 88), (g38 89), (g38 90), (g38 91), (g38 92), (g38 93), (g38 94), (g38 95), undef, undef, undef, undef, undef, undef, undef, undef, undef, undef, undef, undef, undef, undef, undef, undef, undef, undef, undef, undef, undef, undef, undef, undef], []⟩) (fun N nj => ?_) ?_
      ·clear h
       have h := hj
       refine xblock (xseq_k fun KS40 ks40 => (xregS [0, 1, 2, 3, 4] fun KR41 kr41 => ?_))
       refine wpS.qs [(0, 51, .slice s1_A s1_n s1_c), (1, 52, .int .i64 z15)] ?_
       obtain ⟨h0, h⟩ := of_chk h
       obtain ⟨h1, h⟩ := of_chk h
       have i0_42 := h0
       have i1_42 := h1
       refine wpS.tk 2 false (some 53) (.pointer (adr s1_A ((z15 : Int).toNat * Cod.size (CI .u8)))) (yld_idxL (C := (CI .u8)) (t := 26) (e := 5) (k := .i64) (x := z15) (hs.rowL 0 rfl) (by kernel_rfl) (by kernel_rfl) (by kernel_rfl) h0 h1) ?_
       refine wpS.tk 3 true (some 54) (.int .u8 (rdL (CI .u8) z16 z15)) (yld_loadL (C := (CI .u8)) (e := 5) (x := z15) (hs.rowL 0 rfl) (by kernel_rfl) rfl (by kernel_rfl) i0_42 i1_42) ?_
       rcases of_if h with ⟨hc, h⟩ | ⟨hc, h⟩
       ·refine wpS.tk 4 false (some 55) (.bool true) (yld_b (et hc) (fun _ => by kernel_rfl)) ?_
        refine wpS.fin rfl (kr41 _ _ (then_n (ks40 _ _ (wp_cond_t (by kernel_rfl) (xseq_k fun KS43 ks43 => (xregS [0, 1, 2, 3, 4, 5, 6, 7, 8, 9, 10] fun KR44 kr44 => ?_))))))
        refine wpS.qs [(0, 56, .slice s1_A s1_n s1_c), (1, 57, .int .i64 z15), (2, 58, .int .i64 (isub .i64 z15 128)), (3, 59, .slice s1_A s1_n s1_c), (4, 60, .int .i64 z15), (5, 61, .int .i64 (isub .i64 z15 128))] ?_
        obtain ⟨x19, hx, h⟩ := of_bind h
        have hx := of_some hx
        subst hx
        obtain ⟨h0, h⟩ := of_chk h
        obtain ⟨h1, h⟩ := of_chk h
        have i0_45 := h0
        have i1_45 := h1
        refine wpS.tk 6 false (some 62) (.pointer (adr s1_A (((isub .i64 z15 128) : Int).toNat * Cod.size (CI .u8)))) (yld_idxL (C := (CI .u8)) (t := 26) (e := 5) (k := .i64) (x := (isub .i64 z15 128)) (hs.rowL 0 rfl) (by kernel_rfl) (by kernel_rfl) (by kernel_rfl) h0 h1) ?_
        refine wpS.tk 7 true (some 63) (.int .u8 (rdL (CI .u8) z16 (isub .i64 z15 128))) (yld_loadL (C := (CI .u8)) (e := 5) (x := (isub .i64 z15 128)) (hs.rowL 0 rfl) (by kernel_rfl) rfl (by kernel_rfl) i0_45 i1_45) ?_
        refine wpS.q 8 64 (.int .u8 (ixor .u8 (rdL (CI .u8) z16 (isub .i64 z15 128)) 1)) ?_
        obtain ⟨x20, hx, h⟩ := of_bind h
        have hx := of_some hx
        subst hx
        obtain ⟨h0, h⟩ := of_chk h
        obtain ⟨h1, h⟩ := of_chk h
        have i0_46 := h0
        have i1_46 := h1
        refine wpS.tk 9 false (some 65) (.pointer (adr s1_A (((isub .i64 z15 128) : Int).toNat * Cod.size (CI .u8)))) (yld_idxL (C := (CI .u8)) (t := 26) (e := 5) (k := .i64) (x := (isub .i64 z15 128)) (hs.rowL 0 rfl) (by kernel_rfl) (by kernel_rfl) (by kernel_rfl) h0 h1) ?_
        obtain ⟨x21, hx, h⟩ := of_bind h
        refine wpS.only 10 (op_storeL (C := (CI .u8)) (t := 5) (x := (isub .i64 z15 128)) (v := x21) (d := none) (by kernel_rfl) hs 0 rfl (by cases hx; kernel_rfl) (by kernel_rfl) i0_46 i1_46 ?_)
        intro w hs
        refine ⟨fun _ => trivial, ?_⟩
        refine wpS.fin rfl (kr44 _ _ (then_n (ks43 _ _ (xseq_k fun KS47 ks47 => (xregS [0, 1, 2, 3, 4, 5, 6, 7, 8, 9, 10] fun KR48 kr48 => ?_)))))
        refine wpS.qs [(0, 66, .slice s1_A s1_n s1_c), (1, 67, .int .i64 z15), (2, 68, .int .i64 (isub .i64 z15 127)), (3, 69, .slice s1_A s1_n s1_c), (4, 70, .int .i64 z15), (5, 71, .int .i64 (isub .i64 z15 127))] ?_
        obtain ⟨x22, hx, h⟩ := of_bind h
        have hx := of_some hx
        subst hx
        obtain ⟨h0, h⟩ := of_chk h
        obtain ⟨h1, h⟩ := of_chk h
        have i0_49 := h0
        have i1_49 := h1
        refine wpS.tk 6 false (some 72) (.pointer (adr s1_A (((isub .i64 z15 127) : Int).toNat * Cod.size (CI .u8)))) (yld_idxL (C := (CI .u8)) (t := 26) (e := 5) (k := .i64) (x := (isub .i64 z15 127)) (hs.rowL 0 rfl) (by kernel_rfl) (by kernel_rfl) (by kernel_rfl) h0 h1) ?_
        refine wpS.tk 7 true (some 73) (.int .u8 (rdL (CI .u8) (wrL z16 (isub .i64 z15 128) x21) (isub .i64 z15 127))) (yld_loadL (C := (CI .u8)) (e := 5) (x := (isub .i64 z15 127)) (hs.rowL 0 rfl) (by kernel_rfl) rfl (by kernel_rfl) i0_49 i1_49) ?_
        refine wpS.q 8 74 (.int .u8 (ixor .u8 (rdL (CI .u8) (wrL z16 (isub .i64 z15 128) x21) (isub .i64 z15 127)) 1)) ?_
        obtain ⟨x23, hx, h⟩ := of_bind h
        have hx := of_some hx
        subst hx
        obtain ⟨h0, h⟩ := of_chk h
        obtain ⟨h1, h⟩ := of_chk h
        have i0_50 := h0
        have i1_50 := h1
        refine wpS.tk 9 false (some 75) (.pointer (adr s1_A (((isub .i64 z15 127) : Int).toNat * Cod.size (CI .u8)))) (yld_idxL (C := (CI .u8)) (t := 26) (e := 5) (k := .i64) (x := (isub .i64 z15 127)) (hs.rowL 0 rfl) (by kernel_rfl) (by kernel_rfl) (by kernel_rfl) h0 h1) ?_
        obtain ⟨x24, hx, h⟩ := of_bind h
        refine wpS.only 10 (op_storeL (C := (CI .u8)) (t := 5) (x := (isub .i64 z15 127)) (v := x24) (d := none) (by kernel_rfl) hs 0 rfl (by cases hx; kernel_rfl) (by kernel_rfl) i0_50 i1_50 ?_)
        intro w hs
        refine ⟨fun _ => trivial, ?_⟩
        refine wpS.fin rfl (kr48 _ _ (then_n (ks47 _ _ (xseq_k fun KS51 ks51 => (xregS [0, 1, 2, 3, 4, 5, 6, 7, 8, 9, 10] fun KR52 kr52 => ?_)))))
        refine wpS.qs [(0, 76, .slice s1_A s1_n s1_c), (1, 77, .int .i64 z15), (2, 78, .int .i64 (isub .i64 z15 126)), (3, 79, .slice s1_A s1_n s1_c), (4, 80, .int .i64 z15), (5, 81, .int .i64 (isub .i64 z15 126))] ?_
        obtain ⟨x25, hx, h⟩ := of_bind h
        have hx := of_some hx
        subst hx
        obtain ⟨h0, h⟩ := of_chk h
        obtain ⟨h1, h⟩ := of_chk h
        have i0_53 := h0
        have i1_53 := h1
        refine wpS.tk 6 false (some 82) (.pointer (adr s1_A (((isub .i64 z15 126) : Int).toNat * Cod.size (CI .u8)))) (yld_idxL (C := (CI .u8)) (t := 26) (e := 5) (k := .i64) (x := (isub .i64 z15 126)) (hs.rowL 0 rfl) (by kernel_rfl) (by kernel_rfl) (by kernel_rfl) h0 h1) ?_
        refine wpS.tk 7 true (some 83) (.int .u8 (rdL (CI .u8) (wrL (wrL z16 (isub .i64 z15 128) x21) (isub .i64 z15 127) x24) (isub .i64 z15 126))) (yld_loadL (C := (CI .u8)) (e := 5) (x := (isub .i64 z15 126)) (hs.rowL 0 rfl) (by kernel_rfl) rfl (by kernel_rfl) i0_53 i1_53) ?_
        refine wpS.q 8 84 (.int .u8 (ixor .u8 (rdL (CI .u8) (wrL (wrL z16 (isub .i64 z15 128) x21) (isub .i64 z15 127) x24) (isub .i64 z15 126)) 1)) ?_
        obtain ⟨x26, hx, h⟩ := of_bind h
        have hx := of_some hx
        subst hx
        obtain ⟨h0, h⟩ := of_chk h
        obtain ⟨h1, h⟩ := of_chk h
        have i0_54 := h0
        have i1_54 := h1
        refine wpS.tk 9 false (some 85) (.pointer (adr s1_A (((isub .i64 z15 126) : Int).toNat * Cod.size (CI .u8)))) (yld_idxL (C := (CI .u8)) (t := 26) (e := 5) (k := .i64) (x := (isub .i64 z15 126)) (hs.rowL 0 rfl) (by kernel_rfl) (by kernel_rfl) (by kernel_rfl) h0 h1) ?_
        obtain ⟨x27, hx, h⟩ := of_bind h
        refine wpS.only 10 (op_storeL (C := (CI .u8)) (t := 5) (x := (isub .i64 z15 126)) (v := x27) (d := none) (by kernel_rfl) hs 0 rfl (by cases hx; kernel_rfl) (by kernel_rfl) i0_54 i1_54 ?_)
        intro w hs
        refine ⟨fun _ => trivial, ?_⟩
        refine wpS.fin rfl (kr52 _ _ (then_n (ks51 _ _ (xregS [0, 1, 2, 3, 4, 5, 6, 7, 8, 9, 10] fun KR55 kr55 => ?_))))
        refine wpS.qs [(0, 86, .slice s1_A s1_n s1_c), (1, 87, .int .i64 z15), (2, 88, .int .i64 (isub .i64 z15 121)), (3, 89, .slice s1_A s1_n s1_c), (4, 90, .int .i64 z15), (5, 91, .int .i64 (isub .i64 z15 121))] ?_
        obtain ⟨x28, hx, h⟩ := of_bind h
        have hx := of_some hx
        subst hx
        obtain ⟨h0, h⟩ := of_chk h
        obtain ⟨h1, h⟩ := of_chk h
        have i0_56 := h0
        have i1_56 := h1
        refine wpS.tk 6 false (some 92) (.pointer (adr s1_A (((isub .i64 z15 121) : Int).toNat * Cod.size (CI .u8)))) (yld_idxL (C := (CI .u8)) (t := 26) (e := 5) (k := .i64) (x := (isub .i64 z15 121)) (hs.rowL 0 rfl) (by kernel_rfl) (by kernel_rfl) (by kernel_rfl) h0 h1) ?_
        refine wpS.tk 7 true (some 93) (.int .u8 (rdL (CI .u8) (wrL (wrL (wrL z16 (isub .i64 z15 128) x21) (isub .i64 z15 127) x24) (isub .i64 z15 126) x27) (isub .i64 z15 121))) (yld_loadL (C := (CI .u8)) (e := 5) (x := (isub .i64 z15 121)) (hs.rowL 0 rfl) (by kernel_rfl) rfl (by kernel_rfl) i0_56 i1_56) ?_
        refine wpS.q 8 94 (.int .u8 (ixor .u8 (rdL (CI .u8) (wrL (wrL (wrL z16 (isub .i64 z15 128) x21) (isub .i64 z15 127) x24) (isub .i64 z15 126) x27) (isub .i64 z15 121)) 1)) ?_
        obtain ⟨x29, hx, h⟩ := of_bind h
        have hx := of_some hx
        subst hx
        obtain ⟨h0, h⟩ := of_chk h
        obtain ⟨h1, h⟩ := of_chk h
        have i0_57 := h0
        have i1_57 := h1
        refine wpS.tk 9 false (some 95) (.pointer (adr s1_A (((isub .i64 z15 121) : Int).toNat * Cod.size (CI .u8)))) (yld_idxL (C := (CI .u8)) (t := 26) (e := 5) (k := .i64) (x := (isub .i64 z15 121)) (hs.rowL 0 rfl) (by kernel_rfl) (by kernel_rfl) (by kernel_rfl) h0 h1) ?_
        obtain ⟨x30, hx, h⟩ := of_bind h
        refine wpS.only 10 (op_storeL (C := (CI .u8)) (t := 5) (x := (isub .i64 z15 121)) (v := x30) (d := none) (by kernel_rfl) hs 0 rfl (by cases hx; kernel_rfl) (by kernel_rfl) i0_57 i1_57 ?_)
        intro w hs
        refine ⟨fun _ => trivial, ?_⟩
        refine wpS.fin rfl (kr55 _ _ (inBlock_n ?_))
        have q0 := of_some h
        subst q0
        exact nj _ _ ⟨(hs.conv rfl), exg (by kernel_rfl)⟩
       refine wpS.tk 4 false (some 55) (.bool false) (yld_b (ef hc) (fun _ => by kernel_rfl)) ?_
       refine wpS.fin rfl (kr41 _ _ (then_n (ks40 _ _ (wp_cond_f (by kernel_rfl) (xskip (inBlock_n ?_))))))
       have q0 := of_some h
       subst q0
       exact nj _ _ ⟨(hs.conv rfl), exg (by kernel_rfl)⟩
      clear hj hs
      rintro a w ⟨hs, g38, rfl⟩
      refine then_n (ks39 _ _ (xregS [0, 1, 2] fun KR58 kr58 => ?_))
      refine wpS.qs [(0, 49, .int .i64 z15), (1, 50, .int .i64 (isub .i64 z15 1))] ?_
      obtain ⟨x31, hx, h⟩ := of_bind h
      refine wpS.tk 2 false (some 8) (.int .i64 x31) (yld_int hx (fun _ => by kernel_rfl)) ?_
      refine wpS.fin rfl (kr58 _ _ ?_)
      exact then_n (kl2 _ _ ⟨n, Nat.lt_succ_self n, x31, y18, h, (hs.conv rfl), exg (by kernel_rfl)⟩)
     refine wpS.tk 1 false (some 48) (.bool false) (yld_b (df hc) (fun _ => by kernel_rfl)) ?_
     refine wpS.fin rfl (kr37 _ _ (then_n (ks36 _ _ (wp_cond_f (by kernel_rfl) (xexit (then_x (then_x (inBlock_hit ?_))))))))
     have q0 := of_some h
     subst q0
     exact exq_n (nn2 _ _ ⟨(hs.conv rfl), exg (by kernel_rfl)⟩)
   clear hs h hy
   rintro a w ⟨hs, g34, rfl⟩
   have h := hk2
   refine then_n (ks30 _ _ (xseq_k fun KS59 ks59 => (xregS [0, 1] fun KR60 kr60 => ?_)))
   refine wpS.only 0 (op_makeT (C := (CI .u8)) (t := 26) (e := 5) (bytes := 1) (B := 140737488355328) (kl := .i64) (kc := .i64) (x := 16) (d := (some 96)) (by kernel_rfl) hs (by kernel_rfl) (by kernel_rfl) (by kernel_rfl) (by kernel_rfl) (by kernel_rfl) (by decide) (by decide) (by decide) (by decide) ?_)
   intro s32_A s32_n s32_c w gw hs
   refine ⟨fun _ => trivial, ?_⟩
   refine wpS.q 1 9 (.slice s32_A s32_n s32_c) ?_
   refine wpS.fin rfl (kr60 _ _ (then_n (ks59 _ _ (xseq_k fun KS61 ks61 => (xseq_k fun KS62 ks62 => (xregS [0] fun KR63 kr63 => ?_))))))
   refine wpS.q 0 10 (.int .i64 0) ?_
   refine wpS.fin rfl (kr63 _ _ (then_n (ks62 _ _ ?_)))
   obtain ⟨y35, hy, hk3⟩ := of_bind h
   refine wp_exq (N := fun a w => St w0 [] [.ownL (CI .u8) s32_A s32_n s32_c y35 5, .ownL (CI .u8) s1_A s1_n s1_c y17 5] [.rowL (CI .u8) a0_A a0_n a0_c a0, .rowL (CI .u8) a1_A a1_n a1_c a1] w ∧ ∃ g65 : Nat → Value, a = ⟨#[.slice a0_A a0_n a0_c, .slice a1_A a1_n a1_c, undef, undef, .slice none 0 0, .slice s1_A s1_n s1_c, (g12 6), (g12 7), (g34 8), .slice s32_A s32_n s32_c, (g65 10), .slice a0_A a0_n a0_c, .int .i64 (a0.length : Int), .bool false, .bool false, .slice a1_A a1_n a1_c, .int .i64 (a1.length : Int), .bool false, .bool false, .slice s1_A s1_n s1_c, (g12 20), (g12 21), (g12 22), (g12 23), (g12 24), (g12 25), (g12 26), (g12 27), (g12 28), (g12 29), (g12 30), (g12 31), (g12 32), (g12 33), (g12 34), (g12 35), (g12 36), (g12 37), (g12 38), (g12 39), (g12 40), (g12 41), (g12 42), (g12 43), (g12 44), (g12 45), (g12 46), (g34 47), (g34 48), (g34 49), (g34 50), (g34 51), (g34 52), (g34 53), (g34 54), (g34 55), (g34 56), (g34 57), (g34 58), (g34 59), (g34 60), (g34 61), (g34 62), (g34 63), (g34 64), (g34 65), (g34 66), (g34 67), (g34 68), (g34 69), (g34 70), (g34 71), (g34 72), (g34 73), (g34 74), (g34 75), (g34 76), (g34 77), (g34 78), (g34 79), (g34 80), (g34 81), (g34 82), (g34 83), (g34 84), (g34 85), (g34 86), (g34 87), (g34 88), (g34 89), (g34 90), (g34 91), (g34 92), (g34 93), (g34 94), (g34 95), .slice s32_A s32_n s32_c, (g65 97), (g65 98), (g65 99), (g65 100), (g65 101), (g65 102), (g65 103), (g65 104), (g65 105), (g65 106), (g65 107), (g65 108), (g65 109), (g65 110), (g65 111), (g65 112), (g65 113), (g65 114), (g65 115), (g65 116), (g65 117), (g65 118), undef], []⟩) (fun N3 nn3 => ?_) ?_
   ·clear hk3
    refine xblock ?_
    refine wp_loop_k (fun n a w => ∃ z33 z34, ref12_Mul.l3 K n y17 z33 z34 = some y35 ∧ St w0 [] [.ownL (CI .u8) s32_A s32_n s32_c z34 5, .ownL (CI .u8) s1_A s1_n s1_c y17 5] [.rowL (CI .u8) a0_A a0_n a0_c a0, .rowL (CI .u8) a1_A a1_n a1_c a1] w ∧ ∃ g64 : Nat → Value, a = ⟨#[.slice a0_A a0_n a0_c, .slice a1_A a1_n a1_c, undef, undef, .slice none 0 0, .slice s1_A s1_n s1_c, (g12 6), (g12 7), (g34 8), .slice s32_A s32_n s32_c, .int .i64 z33, .slice a0_A a0_n a0_c, .int .i64 (a0.length : Int), .bool false, .bool false, .slice a1_A a1_n a1_c, .int .i64 (a1.length : Int), .bool false, .bool false, .slice s1_A s1_n s1_c, (g12 20), (g12 21), (g12 22), (g12 23), (g12 24), (g12 25), (g12 26), (g12 27), (g12 28), (g12 29), (g12 30), (g12 31), (g12 32), (g12 33), (g12 34), (g12 35), (g12 36), (g12 37), (g12 38), (g12 39), (g12 40), (g12 41), (g12 42), (g12 43), (g12 44), (g12 45), (g12 46), (g34 47), (g34 48), (g34 49), (g34 50), (g34 51), (g34 52), (g34 53), (g34 54), (g34 55), (g34 56), (g34 57), (g34 58), (g34 59), (g34 60), (g34 61), (g34 62), (g34 63), (g34 64), (g34 65), (g34 66), (g34 67), (g34 68), (g34 69), (g34 70), (g34 71), (g34 72), (g34 73), (g34 74), (g34 75), (g34 76), (g34 77), (g34 78), (g34 79), (g34 80), (g34 81), (g34 82), (g34 83), (g34 84), (g34 85), (g34 86), (g34 87), (g34 88), (g34 89), (g34 90), (g34 91), (g34 92), (g34 93), (g34 94), (g34 95), .slice s32_A s32_n s32_c, (g64 97), (g64 98), (g64 99), (g64 100), (g64 101), (g64 102), (g64 103), (g64 104), (g64 105), (g64 106), (g64 107), (g64 108), (g64 109), (g64 110), (g64 111), (g64 112), (g64 113), (g64 114), (g64 115), (g64 116), (g64 117), (g64 118), undef], []⟩) K ⟨0, (List.replicate (16 : Int).toNat (Cod.zero (CI .u8))), hy, hs.conv rfl, exg (by kernel_rfl)⟩ ?_
    clear hs h hy
    rintro n a w ⟨z33, z34, h, hs, g64, rfl⟩ KL3 kl3
    cases n with
    | zero => exact nomatch (show none = some _ from h)
    | succ n =>
     refine xseq_k fun KS66 ks66 => ?_
     refine xseq_k fun KS67 ks67 => ?_
     refine xregS [0, 1] fun KR68 kr68 => ?_
     refine wpS.q 0 97 (.int .i64 z33) ?_
     rcases of_if h with ⟨hc, h⟩ | ⟨hc, h⟩
     ·refine wpS.tk 1 false (some 98) (.bool true) (yld_b (dt hc) (fun _ => by kernel_rfl)) ?_
      refine wpS.fin rfl (kr68 _ _ (then_n (ks67 _ _ (wp_cond_t (by kernel_rfl) (xskip (then_n (ks66 _ _ (xseq_k fun KS69 ks69 => (xblock ?_)))))))))
      refine wp_regG [18] (fun k => True) 19 (by kernel_rfl) (by kernel_rfl) (by kernel_rfl) fun KR70 kr70 => ?_
      have hs := hs.drawn1
      refine wpG.q 0 101 (.slice s32_A s32_n s32_c) ?_
      refine wpG.q 1 102 (.int .i64 z33) ?_
      refine wpG.q 2 103 (.int .i64 (iquo .i64 z33 8)) ?_
      refine wpG.q 3 104 (.slice s32_A s32_n s32_c) ?_
      refine wpG.q 4 105 (.int .i64 z33) ?_
      refine wpG.q 5 106 (.int .i64 (iquo .i64 z33 8)) ?_
      obtain ⟨x36, hx, h⟩ := of_bind h
      have hx := of_some hx
      subst hx
      obtain ⟨h0, h⟩ := of_chk h
      obtain ⟨h1, h⟩ := of_chk h
      have i0_71 := h0
      have i1_71 := h1
      refine wpG.tD 6 false (some 107) (.pointer (adr s32_A (((iquo .i64 z33 8) : Int).toNat * Cod.size (CI .u8)))) (yld_idxL (C := (CI .u8)) (t := 26) (e := 5) (k := .i64) (x := (iquo .i64 z33 8)) (hs.rowL 0 rfl) (by kernel_rfl) (by kernel_rfl) (by kernel_rfl) h0 h1) ?_
      refine wpG.tD 7 true (some 108) (.int .u8 (rdL (CI .u8) z34 (iquo .i64 z33 8))) (yld_loadL (C := (CI .u8)) (e := 5) (x := (iquo .i64 z33 8)) (hs.rowL 0 rfl) (by kernel_rfl) rfl (by kernel_rfl) i0_71 i1_71) ?_
      refine wpG.q 8 109 (.slice s1_A s1_n s1_c) ?_
      refine wpG.q 9 110 (.int .i64 z33) ?_
      obtain ⟨h0, h⟩ := of_chk h
      obtain ⟨h1, h⟩ := of_chk h
      have i0_72 := h0
      have i1_72 := h1
      refine wpG.tD 10 false (some 111) (.pointer (adr s1_A ((z33 : Int).toNat * Cod.size (CI .u8)))) (yld_idxL (C := (CI .u8)) (t := 26) (e := 5) (k := .i64) (x := z33) (hs.rowL 1 rfl) (by kernel_rfl) (by kernel_rfl) (by kernel_rfl) h0 h1) ?_
      refine wpG.tD 11 true (some 112) (.int .u8 (rdL (CI .u8) y17 z33)) (yld_loadL (C := (CI .u8)) (e := 5) (x := z33) (hs.rowL 1 rfl) (by kernel_rfl) rfl (by kernel_rfl) i0_72 i1_72) ?_
      refine wpG.q 12 113 (.int .i64 z33) ?_
      refine wpG.q 13 114 (.int .i64 (irem .i64 z33 8)) ?_
      refine wpG.q 14 115 (.int .i64 (isub .i64 7 (irem .i64 z33 8))) ?_
      obtain ⟨h0, h⟩ := of_chk h
      refine wpG.tD 15 false (some 116) (.int .u8 (ishl .u8 (rdL (CI .u8) y17 z33) (isub .i64 7 (irem .i64 z33 8)))) (yld_shl (t := 5) (k' := .i64) (by kernel_rfl) h0) ?_
      refine wpG.q 16 117 (.int .u8 (ior .u8 (rdL (CI .u8) z34 (iquo .i64 z33 8)) (ishl .u8 (rdL (CI .u8) y17 z33) (isub .i64 7 (irem .i64 z33 8))))) ?_
      obtain ⟨x37, hx, h⟩ := of_bind h
      have hx := of_some hx
      subst hx
      obtain ⟨h0, h⟩ := of_chk h
      obtain ⟨h1, h⟩ := of_chk h
      have i0_73 := h0
      have i1_73 := h1
      refine wpG.tD 17 false (some 118) (.pointer (adr s32_A (((iquo .i64 z33 8) : Int).toNat * Cod.size (CI .u8)))) (yld_idxL (C := (CI .u8)) (t := 26) (e := 5) (k := .i64) (x := (iquo .i64 z33 8)) (hs.rowL 0 rfl) (by kernel_rfl) (by kernel_rfl) (by kernel_rfl) h0 h1) ?_
      obtain ⟨x38, hx, h⟩ := of_bind h
      refine wpG.only 18 (by kernel_rfl) (op_storeL (C := (CI .u8)) (t := 5) (x := (iquo .i64 z33 8)) (v := x38) (d := none) (by kernel_rfl) hs 0 rfl (by cases hx; kernel_rfl) (by kernel_rfl) i0_73 i1_73 ?_)
      intro w hs
      refine ⟨⟨fun hf => absurd hf (by decide), .all _ _⟩, ?_⟩
      refine wpG.fin (by kernel_rfl) rfl (kr70 _ _ ?_)
      refine inBlock_n (then_n (ks69 _ _ (xregS [0, 1, 2] fun KR74 kr74 => ?_)))
      refine wpS.qs [(0, 99, .int .i64 z33), (1, 100, .int .i64 (iadd .i64 z33 1))] ?_
      obtain ⟨x39, hx, h⟩ := of_bind h
      refine wpS.tk 2 false (some 10) (.int .i64 x39) (yld_int hx (fun _ => by kernel_rfl)) ?_
      refine wpS.fin rfl (kr74 _ _ ?_)
      exact then_n (kl3 _ _ ⟨n, Nat.lt_succ_self n, x39, (wrL z34 (iquo .i64 z33 8) x38), h, (hs.conv rfl), exg (by kernel_rfl)⟩)
     refine wpS.tk 1 false (some 98) (.bool false) (yld_b (df hc) (fun _ => by kernel_rfl)) ?_
     refine wpS.fin rfl (kr68 _ _ (then_n (ks67 _ _ (wp_cond_f (by kernel_rfl) (xexit (then_x (then_x (inBlock_hit ?_))))))))
     have q0 := of_some h
     subst q0
     exact exq_n (nn3 _ _ ⟨(hs.conv rfl), exg (by kernel_rfl)⟩)
   clear hs h hy
   rintro a w ⟨hs, g65, rfl⟩
   have h := hk3
   refine then_n (ks61 _ _ (xseq_k fun KS75 ks75 => (xregS [0, 1] fun KR76 kr76 => ?_)))
   refine wpS.qs [(0, 119, .slice s32_A s32_n s32_c), (1, 4, .slice s32_A s32_n s32_c)] ?_
   refine wpS.fin rfl (kr76 _ _ (then_n (ks75 _ _ (xret ?_))))
   have q0 := of_some h
   subst q0
   exact qq _ _ (post_ret (by kernel_rfl) (run_results [.tmp 4] [.slice s32_A s32_n s32_c] (by kernel_rfl) (.cons (res_tmp (by kernel_rfl)) .nil)) ⟨⟨s32_A, s32_n, s32_c⟩, congrArg Ending.returned (by kernel_rfl), ((hs.drop (.cons_cons _ (.cons _ .slnil))).pickR pick_nil)⟩)
  refine wpS.tk 6 false (some 17) (.bool true) (yld_b (nt hc) (fun _ => by kernel_rfl)) ?_
  refine wpS.q 7 18 (.bool true) ?_
  refine wpS.fin rfl (kr5 _ _ (then_n (ks4 _ _ (wp_cond_t (by kernel_rfl) (xseq_k fun KS77 ks77 => (xregS [0] fun KR78 kr78 => ?_))))))
  refine wpS.q 0 4 (.slice none 0 0) ?_
  refine wpS.fin rfl (kr78 _ _ (then_n (ks77 _ _ (xret (then_r ?_)))))
  have q0 := of_some h
  subst q0
  have hs := hs.addNilL (CI .u8) 5
  exact qq _ _ (post_ret (by kernel_rfl) (run_results [.tmp 4] [.slice none 0 0] (by kernel_rfl) (.cons (res_tmp (by kernel_rfl)) .nil)) ⟨⟨none, 0, 0⟩, congrArg Ending.returned (by kernel_rfl), (hs.pickR pick_nil)⟩)
 refine wpS.tk 2 false (some 13) (.bool true) (yld_b (nt hc) (fun _ => by kernel_rfl)) ?_
 refine wpS.qs [(3, 14, .bool true), (4, 15, undef), (5, 16, undef), (6, 17, undef), (7, 18, .bool true)] ?_
 refine wpS.fin rfl (kr5 _ _ (then_n (ks4 _ _ (wp_cond_t (by kernel_rfl) (xseq_k fun KS79 ks79 => (xregS [0] fun KR80 kr80 => ?_))))))
 refine wpS.q 0 4 (.slice none 0 0) ?_
 refine wpS.fin rfl (kr80 _ _ (then_n (ks79 _ _ (xret (then_r ?_)))))
 have q0 := of_some h
 subst q0
 have hs := hs.addNilL (CI .u8) 5
 exact qq _ _ (post_ret (by kernel_rfl) (run_results [.tmp 4] [.slice none 0 0] (by kernel_rfl) (.cons (res_tmp (by kernel_rfl)) .nil)) ⟨⟨none, 0, 0⟩, congrArg Ending.returned (by kernel_rfl), (hs.pickR pick_nil)⟩)

theorem ref12_Ghash.ok {K : Nat} {a0 : List Int} {a1 : List Int} {r0 : List Int} {a0_A : Option Addr} {a0_n : Nat} {a0_c : Nat} {a1_A : Option Addr} {a1_n : Nat} {a1_c : Nat} (h : ref12_Ghash.f K a0 a1 = some r0) (w0 : World) (hp0 : RowL (CI .u8) w0 a0_A a0_n a0_c a0) (hp1 : RowL (CI .u8) w0 a1_A a1_n a1_c a1) : Calls Try.prog 41 #[.slice a0_A a0_n a0_c, .slice a1_A a1_n a1_c] w0 fun e w' => ∃ h : (Option Addr × Nat × Nat), e = .returned (.slice h.1 h.2.1 h.2.2) ∧ St w0 [] [.ownL (CI .u8) h.1 h.2.1 h.2.2 r0 5] [] w' := by
 refine calls_k Try.func41 rfl fun Q qq => ?_
 have hs := St.startR (all_cons (RowP.ent hp0) (all_cons (RowP.ent hp1) all_nil))
 refine wp_conv (a' := ⟨#[.slice a0_A a0_n a0_c, .slice a1_A a1_n a1_c, undef, undef, undef, undef, undef, undef, undef, undef, undef, undef, undef, undef, undef, undef, undef, undef, undef, undef, undef, undef, undef, undef, undef, undef, undef, undef, undef, undef, undef, undef, undef], []⟩) (by kernel_rfl) ?_
 refine xseq_k fun KS1 ks1 => ?_
 refine xregS [0] fun KR2 kr2 => ?_
 refine wpS.q 0 4 (.slice none 0 0) ?_
 refine wpS.fin rfl (kr2 _ _ (then_n (ks1 _ _ (xseq_k fun KS3 ks3 => (xseq_k fun KS4 ks4 => (xregS [0, 1, 2, 3, 4, 5, 6, 7, 8] fun KR5 kr5 => ?_))))))
 refine wpS.q 0 7 (.slice a0_A a0_n a0_c) ?_
 refine wpS.tk 1 false (some 8) (.int .i64 (a0.length : Int)) (yld_lenL (hs.rowR 0 rfl) (fun _ => by kernel_rfl)) ?_
 rcases of_if h with ⟨hc, h⟩ | ⟨hc, h⟩
 ·refine wpS.tk 2 false (some 9) (.bool false) (yld_b (nf hc) (fun _ => by kernel_rfl)) ?_
  refine wpS.qs [(3, 10, .bool false), (4, 11, .slice a1_A a1_n a1_c)] ?_
  refine wpS.tk 5 false (some 12) (.int .i64 (a1.length : Int)) (yld_lenL (hs.rowR 1 rfl) (fun _ => by kernel_rfl)) ?_
  refine wpS.q 6 13 (.int .i64 (irem .i64 (a1.length : Int) 16)) ?_
  rcases of_if h with ⟨hc, h⟩ | ⟨hc, h⟩
  ·refine wpS.tk 7 false (some 14) (.bool false) (yld_b (nf hc) (fun _ => by kernel_rfl)) ?_
   refine wpS.q 8 15 (.bool false) ?_
   refine wpS.fin rfl (kr5 _ _ (then_n (ks4 _ _ (wp_cond_f (by kernel_rfl) (xskip (then_n (ks3 _ _ (xseq_k fun KS6 ks6 => (xregS [0, 1] fun KR7 kr7 => ?_)))))))))
   refine wpS.only 0 (op_makeT (C := (CI .u8)) (t := 26) (e := 5) (bytes := 1) (B := 140737488355328) (kl := .i64) (kc := .i64) (x := 16) (d := (some 16)) (by kernel_rfl) hs (by kernel_rfl) (by kernel_rfl) (by kernel_rfl) (by kernel_rfl) (by kernel_rfl) (by decide) (by decide) (by decide) (by decide) ?_)
   intro s1_A s1_n s1_c w gw hs
   refine ⟨fun _ => trivial, ?_⟩
   refine wpS.q 1 5 (.slice s1_A s1_n s1_c) ?_
   refine wpS.fin rfl (kr7 _ _ (then_n (ks6 _ _ (xseq_k fun KS8 ks8 => (xseq_k fun KS9 ks9 => (xregS [0] fun KR10 kr10 => ?_))))))
   refine wpS.q 0 6 (.int .i64 0) ?_
   refine wpS.fin rfl (kr10 _ _ (then_n (ks9 _ _ ?_)))
   obtain ⟨y4, hy, hk0⟩ := of_bind h
   refine wp_exq (N := fun a w => ∃ (y4_A : Option Addr) (y4_n : Nat) (y4_c : Nat), St w0 [] [.ownL (CI .u8) y4_A y4_n y4_c y4 5] [.rowL (CI .u8) a0_A a0_n a0_c a0, .rowL (CI .u8) a1_A a1_n a1_c a1] w ∧ ∃ g12 : Nat → Value, a = ⟨#[.slice a0_A a0_n a0_c, .slice a1_A a1_n a1_c, undef, undef, .slice none 0 0, .slice y4_A y4_n y4_c, (g12 6), .slice a0_A a0_n a0_c, .int .i64 (a0.length : Int), .bool false, .bool false, .slice a1_A a1_n a1_c, .int .i64 (a1.length : Int), .int .i64 (irem .i64 (a1.length : Int) 16), .bool false, .bool false, .slice s1_A s1_n s1_c, (g12 17), (g12 18), (g12 19), (g12 20), (g12 21), (g12 22), (g12 23), (g12 24), (g12 25), (g12 26), (g12 27), (g12 28), (g12 29), (g12 30), (g12 31), undef], []⟩) (fun N0 nn0 => ?_) ?_
   ·clear hk0
    refine xblock ?_
    refine wp_loop_k (fun n a w => ∃ z2 z3, ∃ (z3_A : Option Addr) (z3_n : Nat) (z3_c : Nat), ref12_Ghash.l0 K n a0 a1 z2 z3 = some y4 ∧ St w0 [] [.ownL (CI .u8) z3_A z3_n z3_c z3 5] [.rowL (CI .u8) a0_A a0_n a0_c a0, .rowL (CI .u8) a1_A a1_n a1_c a1] w ∧ ∃ g11 : Nat → Value, a = ⟨#[.slice a0_A a0_n a0_c, .slice a1_A a1_n a1_c, undef, undef, .slice none 0 0, .slice z3_A z3_n z3_c, .int .i64 z2, .slice a0_A a0_n a0_c, .int .i64 (a0.length : Int), .bool false, .bool false, .slice a1_A a1_n a1_c, .int .i64 (a1.length : Int), .int .i64 (irem .i64 (a1.length : Int) 16), .bool false, .bool false, .slice s1_A s1_n s1_c, (g11 17), (g11 18), (g11 19), (g11 20), (g11 21), (g11 22), (g11 23), (g11 24), (g11 25), (g11 26), (g11 27), (g11 28), (g11 29), (g11 30), (g11 31), undef], []⟩) K ⟨0, (List.replicate (16 : Int).toNat (Cod.zero (CI .u8))), s1_A, s1_n, s1_c, hy, hs.conv rfl, exg (by kernel_rfl)⟩ ?_
    clear hs h hy
    rintro n a w ⟨z2, z3, z3_A, z3_n, z3_c, h, hs, g11, rfl⟩ KL0 kl0
    cases n with
    | zero => exact nomatch (show none = some _ from h)
    | succ n =>
     refine xseq_k fun KS13 ks13 => ?_
     refine xseq_k fun KS14 ks14 => ?_
     refine xregS [0, 1, 2, 3] fun KR15 kr15 => ?_
     refine wpS.qs [(0, 17, .int .i64 z2), (1, 18, .slice a1_A a1_n a1_c)] ?_
     refine wpS.tk 2 false (some 19) (.int .i64 (a1.length : Int)) (yld_lenL (hs.rowR 1 rfl) (fun _ => by kernel_rfl)) ?_
     rcases of_if h with ⟨hc, h⟩ | ⟨hc, h⟩
     ·refine wpS.tk 3 false (some 20) (.bool true) (yld_b (dt hc) (fun _ => by kernel_rfl)) ?_
      refine wpS.fin rfl (kr15 _ _ (then_n (ks14 _ _ (wp_cond_t (by kernel_rfl) (xskip (then_n (ks13 _ _ (xseq_k fun KS16 ks16 => (xblock (xregS [0, 1, 2, 3, 4, 5, 6, 7, 8, 9] fun KR17 kr17 => ?_))))))))))
      refine wpS.qs [(0, 23, .slice z3_A z3_n z3_c), (1, 24, .slice a1_A a1_n a1_c), (2, 25, .int .i64 z2), (3, 26, .int .i64 z2), (4, 27, .int .i64 (iadd .i64 z2 16))] ?_
      obtain ⟨h0, h⟩ := of_chk h
      obtain ⟨h1, h⟩ := of_chk h
      obtain ⟨h2, h⟩ := of_chk h
      obtain ⟨s5_A, hA⟩ : ∃ A, A = if a1_c = (z2 : Int).toNat then a1_A else adr a1_A ((z2 : Int).toNat * Cod.size (CI .u8)) := ⟨_, rfl⟩
      obtain ⟨s5_n, hn⟩ : ∃ n, n = ((iadd .i64 z2 16) : Int).toNat - (z2 : Int).toNat := ⟨_, rfl⟩
      obtain ⟨s5_c, hc⟩ : ∃ c, c = a1_c - (z2 : Int).toNat := ⟨_, rfl⟩
      refine wpS.tk 5 false (some 28) (.slice s5_A s5_n s5_c) (yld_sub (C := (CI .u8)) (t := 26) (e := 5) (low := some (.int .i64 z2)) (high := some (.int .i64 (iadd .i64 z2 16))) (lo := z2) (hi := (iadd .i64 z2 16)) (hs.rowR 1 rfl) (by kernel_rfl) (by kernel_rfl) (by kernel_rfl) (.inr ⟨_, rfl⟩) (.inr ⟨_, rfl⟩) h0 h1 h2 hA hn hc) ?_
      have hs := hs.addSub (C := (CI .u8)) 1 rfl h0 h1 h2 hA hn hc
      obtain ⟨r6, hg, h⟩ := of_bind h
      refine wpS.only 6 (op_callH (d := (some 29)) (by kernel_rfl) hs (fun _ => by kernel_rfl) (ref01_Xor.ok hg _ (hs.rowL 0 rfl) (hs.rowR 0 rfl)) ?_)
      rintro ⟨r6_A, r6_n, r6_c⟩ w gw hs
      have hs := hs.conv (L' := [.ownL (CI .u8) r6_A r6_n r6_c r6 5, .ownL (CI .u8) z3_A z3_n z3_c z3 5]) rfl
      refine ⟨fun _ => trivial, ?_⟩
      refine wpS.q 7 30 (.slice a0_A a0_n a0_c) ?_
      obtain ⟨r7, hg, h⟩ := of_bind h
      refine wpS.only 8 (op_callH (d := (some 31)) (by kernel_rfl) hs (fun _ => by kernel_rfl) (ref12_Mul.ok hg _ (hs.rowL 0 rfl) (hs.rowR 1 rfl)) ?_)
      rintro ⟨r7_A, r7_n, r7_c⟩ w gw hs
      have hs := hs.conv (L' := [.ownL (CI .u8) r7_A r7_n r7_c r7 5, .ownL (CI .u8) r6_A r6_n r6_c r6 5, .ownL (CI .u8) z3_A z3_n z3_c z3 5]) rfl
      refine ⟨fun _ => trivial, ?_⟩
      refine wpS.q 9 5 (.slice r7_A r7_n r7_c) ?_
      refine wpS.fin rfl (kr17 _ _ (inBlock_n (then_n (ks16 _ _ (xregS [0, 1, 2] fun KR18 kr18 => ?_)))))
      refine wpS.qs [(0, 21, .int .i64 z2), (1, 22, .int .i64 (iadd .i64 z2 16))] ?_
      obtain ⟨x8, hx, h⟩ := of_bind h
      refine wpS.tk 2 false (some 6) (.int .i64 x8) (yld_int hx (fun _ => by kernel_rfl)) ?_
      refine wpS.fin rfl (kr18 _ _ ?_)
      exact then_n (kl0 _ _ ⟨n, Nat.lt_succ_self n, x8, r7, r7_A, r7_n, r7_c, h, ((hs.drop (.cons_cons _ (.cons _ (.cons _ .slnil)))).pickR (pick_cons 1 rfl (pick_cons 2 rfl pick_nil))), exg (by kernel_rfl)⟩)
     refine wpS.tk 3 false (some 20) (.bool false) (yld_b (df hc) (fun _ => by kernel_rfl)) ?_
     refine wpS.fin rfl (kr15 _ _ (then_n (ks14 _ _ (wp_cond_f (by kernel_rfl) (xexit (then_x (then_x (inBlock_hit ?_))))))))
     have q0 := of_some h
     subst q0
     exact exq_n (nn0 _ _ ⟨z3_A, z3_n, z3_c, (hs.conv rfl), exg (by kernel_rfl)⟩)
   clear hs h hy
   rintro a w ⟨y4_A, y4_n, y4_c, hs, g12, rfl⟩
   have h := hk0
   refine then_n (ks8 _ _ (xseq_k fun KS19 ks19 => (xregS [0, 1] fun KR20 kr20 => ?_)))
   refine wpS.qs [(0, 32, .slice y4_A y4_n y4_c), (1, 4, .slice y4_A y4_n y4_c)] ?_
   refine wpS.fin rfl (kr20 _ _ (then_n (ks19 _ _ (xret ?_))))
   have q0 := of_some h
   subst q0
   exact qq _ _ (post_ret (by kernel_rfl) (run_results [.tmp 4] [.slice y4_A y4_n y4_c] (by kernel_rfl) (.cons (res_tmp (by kernel_rfl)) .nil)) ⟨⟨y4_A, y4_n, y4_c⟩, congrArg Ending.returned (by kernel_rfl), (hs.pickR pick_nil)⟩)
  refine wpS.tk 7 false (some 14) (.bool true) (yld_b (nt hc) (fun _ => by kernel_rfl)) ?_
  refine wpS.q 8 15 (.bool true) ?_
  refine wpS.fin rfl (kr5 _ _ (then_n (ks4 _ _ (wp_cond_t (by kernel_rfl) (xseq_k fun KS21 ks21 => (xregS [0] fun KR22 kr22 => ?_))))))
  refine wpS.q 0 4 (.slice none 0 0) ?_
  refine wpS.fin rfl (kr22 _ _ (then_n (ks21 _ _ (xret (then_r ?_)))))
  have q0 := of_some h
  subst q0
  have hs := hs.addNilL (CI .u8) 5
  exact qq _ _ (post_ret (by kernel_rfl) (run_results [.tmp 4] [.slice none 0 0] (by kernel_rfl) (.cons (res_tmp (by kernel_rfl)) .nil)) ⟨⟨none, 0, 0⟩, congrArg Ending.returned (by kernel_rfl), (hs.pickR pick_nil)⟩)
 refine wpS.tk 2 false (some 9) (.bool true) (yld_b (nt hc) (fun _ => by kernel_rfl)) ?_
 refine wpS.qs [(3, 10, .bool true), (4, 11, undef), (5, 12, undef), (6, 13, undef), (7, 14, undef), (8, 15, .bool true)] ?_
 refine wpS.fin rfl (kr5 _ _ (then_n (ks4 _ _ (wp_cond_t (by kernel_rfl) (xseq_k fun KS23 ks23 => (xregS [0] fun KR24 kr24 => ?_))))))
 refine wpS.q 0 4 (.slice none 0 0) ?_
 refine wpS.fin rfl (kr24 _ _ (then_n (ks23 _ _ (xret (then_r ?_)))))
 have q0 := of_some h
 subst q0
 have hs := hs.addNilL (CI .u8) 5
 exact qq _ _ (post_ret (by kernel_rfl) (run_results [.tmp 4] [.slice none 0 0] (by kernel_rfl) (.cons (res_tmp (by kernel_rfl)) .nil)) ⟨⟨none, 0, 0⟩, congrArg Ending.returned (by kernel_rfl), (hs.pickR pick_nil)⟩)
end Go.Proofs.Ytmpagpbnpgcecaa
