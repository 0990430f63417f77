/- Layer 25: there and back: the polynomial of a polynomial's parts is it, and the other way round; products of parts are those of the product; products go over sums; x to the 256 is -1; bytes of numbers are read as they, and the other way round; in plain Lean. -/
import Derived.Test.YtijahfdldlmnhabLKqBack
import Derived.Test.YtijahfdldlmnhabKw
import Derived.Test.YtijahfdldlmnhabKx
import Derived.Test.YtijahfdldlmnhabKc
set_option linter.unusedSimpArgs false
set_option linter.unusedVariables false
namespace Go.Proofs.Ytijahfdldlmnhab.Pure
open Go Go.Mx
set_option maxHeartbeats 4000000 in
theorem back_core (N B : Arr 256 → Option (Arr 256)) (T M A S : Arr 256 → Arr 256 → Option (Arr 256)) (W : Option Bool) (P : Arr 256 → Int → Option (List Int)) (U : List Int → Int → Option (Arr 256 × Bool)) (E : List Int → List Int → Option Bool)
    (a b c x z : Arr 256) (t : List Int) (d : Int) (na ba nb tab nt s1 t1 tac d1 u1 u2 : Arr 256) (p : List Int) (r : Arr 256 × Bool) (C : Prop) [Decidable C]
    (hW : W = some true) (h1 : N a = some na) (h2 : B na = some a) (h3 : B a = some ba) (h4 : N ba = some a) (h5 : T a b = some tab) (h6 : N tab = some nt) (h7 : N b = some nb) (h8 : M na nb = some nt)
    (h9 : A b c = some s1) (h10 : T a s1 = some t1) (h11 : T a c = some tac) (h12 : A tab tac = some t1) (h13 : S a b = some d1) (h14 : A d1 b = some a) (h15 : T x a = some u1) (h16 : T x u1 = some u2) (h17 : A u2 a = some z)
    (h18 : P a 12 = some p) (h19 : U p 12 = some (a, true)) (h20 : U t d = some r) (h21 : r.2 = true → ∃ q, P r.1 d = some q ∧ E q t = some true) :
    (if C then (W.bind fun r7 => some r7) else ((N a).bind fun r8 => (B r8).bind fun r9 => if (!(eqA r9 a)) = true then (some false) else ((B a).bind fun r10 => (N r10).bind fun r11 => if (!(eqA r11 a)) = true then (some false) else ((T a b).bind fun r12 => (N r12).bind fun r13 => (N a).bind fun r14 => (N b).bind fun r15 => (M r14 r15).bind fun r16 => if (!(eqA r13 r16)) = true then (some false) else ((A b c).bind fun r17 => (T a r17).bind fun r18 => (T a b).bind fun r19 => (T a c).bind fun r20 => (A r19 r20).bind fun r21 => if (!(eqA r18 r21)) = true then (some false) else ((S a b).bind fun r22 => (A r22 b).bind fun r23 => if (!(eqA r23 a)) = true then (some false) else ((T x a).bind fun r25 => (T x r25).bind fun r26 => (A r26 a).bind fun r27 => if (!(eqA r27 z)) = true then (some false) else ((P a 12).bind fun r28 => (U r28 12).bind fun (r29, r30) => if r30 = true then ((U t d).bind fun (r32, r33) => if r33 = true then (if (eqA r29 a) = true then ((P r32 d).bind fun r35 => (E r35 t).bind fun r36 => if r36 = true then (W.bind fun r37 => some r37) else (some false)) else (some false)) else (if (eqA r29 a) = true then (W.bind fun r39 => some r39) else (some false))) else ((U t d).bind fun (r41, r42) => if r42 = true then (some false) else (some false))))))))) ) = some true := by
  subst hW
  split
  · rfl
  · obtain ⟨q, ok⟩ := r
    simp only [h1, h2, h3, h4, h5, h6, h7, h8, h9, h10, h11, h12, h13, h14, h15, h16, h17, h18, h19, h20, Option.bind_some, eqA_self, Bool.not_true, Bool.false_eq_true, if_false, if_true]
    cases ok with
    | false => rfl
    | true =>
      obtain ⟨w, e1, e2⟩ := h21 rfl
      simp only [e1, e2, Option.bind_some, if_true]
theorem byt_packV (a : Arr 256) (d : Int) : Byt (packV a d) := by
  unfold packV
  by_cases h : 1 ≤ d ∧ d ≤ 12 ∧ allA (belowB (if d.toNat = 12 then 3329 else ((2 ^ d.toNat : Nat) : Int))) a = true
  · rw [if_pos h]; exact dig_byt _ _
  · rw [if_neg h]; exact Byt.nil
theorem same_pack (t : List Int) (hB : Byt t) (d : Int) (h : (unpV t d).2 = true) (hs : (packV (unpV t d).1 d).length ≤ 384) : ref01_Same.f 1000 (packV (unpV t d).1 d) t = some true := by
  have e := pack_unp t hB d h
  rw [e] at hs ⊢
  exact ref01_Same_self 1000 t (by omega) (by omega)
theorem KqBack : law25_KqBack.Pure := by
  intro a _ b _ c _ d _ t ht
  refine ⟨1000, ?_⟩
  have hB : Byt t := fun x hx => ht x hx
  unfold law25_KqBack.f
  rw [ref25_Fit_eq 1000 (by omega) a, ref25_Fit_eq 1000 (by omega) b, ref25_Fit_eq 1000 (by omega) c, Option.bind_some]
  by_cases ha : allA (belowB 3329) a = true
  · rw [if_pos ha, Option.bind_some]
    by_cases hb : allA (belowB 3329) b = true
    · rw [if_pos hb, Option.bind_some]
      by_cases hc : allA (belowB 3329) c = true
      · rw [if_pos hc]
        have fa : FitK a := bel_of ha
        have fb : FitK b := bel_of hb
        have fc : FitK c := bel_of hc
        by_cases hl : (t.length : Int) > 1000
        · rw [if_pos hl, awake25]
          rfl
        have hs : (packV (unpV t d).1 d).length ≤ 384 := packV_len _ _
        exact back_core (kq_Ntt.f 1000) (kq_Back.f 1000) (kq_Times.f 1000) (kq_Mul.f 1000) (kq_Add.f 1000) (kq_Sub.f 1000) (law25_awake.f 1000) (kq_Pack.f 1000) (kq_Unpack.f 1000) (ref01_Same.f 1000)
          a b c (wr (zeroA 256) 128 1) (zeroA 256) t d (pntt a) (pback a) (pntt b) (ptimes a b) (pmul (pntt a) (pntt b)) (padd b c) (padd (ptimes a b) (ptimes a c)) (ptimes a c) (ksub a b) (ptimes pX a) (ptimes pX (ptimes pX a)) (packV a 12) (unpV t d) _
          awake25 (kq_Ntt_eq a fa) ((kq_Back_eq _ (fit_pntt fa)).trans (congrArg some (pback_pntt a fa))) (kq_Back_eq a fa) ((kq_Ntt_eq _ (fit_pback _)).trans (congrArg some (pntt_pback a fa)))
          (kq_Times_eq a b fa fb) ((kq_Ntt_eq _ (fit_ptimes a b)).trans (congrArg some (pntt_ptimes a b))) (kq_Ntt_eq b fb) (kq_Mul_eq _ _ (fit_pntt fa) (fit_pntt fb))
          (kq_Add_eq 1000 (by omega) b c fb fc) ((kq_Times_eq a _ fa (fit_padd b c)).trans (congrArg some (ptimes_padd a b c fa fb fc))) (kq_Times_eq a c fa fc) (kq_Add_eq 1000 (by omega) _ _ (fit_ptimes _ _) (fit_ptimes _ _))
          (kq_Sub_eq 1000 (by omega) a b fa fb) ((kq_Add_eq 1000 (by omega) _ _ (fit_ksub a b) fb).trans (congrArg some (padd_psub a b fa fb))) (kq_Times_eq pX a fit_pX fa) (kq_Times_eq pX _ fit_pX (fit_ptimes _ _))
          ((kq_Add_eq 1000 (by omega) _ _ (fit_ptimes _ _) fa).trans (congrArg some (pX_pX a fa)))
          (kq_Pack_eq 1000 (by omega) a 12) ((kq_Unpack_eq 1000 (by omega) _ (byt_packV a 12) 12).trans (congrArg some (unp_pack a fa))) (kq_Unpack_eq 1000 (by omega) t hB d)
          (fun h => ⟨_, kq_Pack_eq 1000 (by omega) _ d, same_pack t hB d h hs⟩)
      · rw [if_neg hc, awake25]
        rfl
    · rw [if_neg hb, awake25]
      rfl
  · rw [if_neg ha, awake25]
    rfl
end Go.Proofs.Ytijahfdldlmnhab.Pure
