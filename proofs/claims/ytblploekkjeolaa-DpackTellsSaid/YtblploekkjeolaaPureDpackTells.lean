/- Layer 22: kinds, sizes, numbers as bytes and back, and hints as bytes and back, are the document's; in plain Lean. -/
import Derived.Test.YtblploekkjeolaaLDpackTells
import Derived.Test.YtblploekkjeolaaDg
set_option linter.unusedSimpArgs false
set_option linter.unusedVariables false
namespace Go.Proofs.Ytblploekkjeolaa.Pure
open Go Go.Mx
theorem byt_of {l : List Int} (h : InL .u8 l) : Byt l := fun x hx => by
  have h1 : 0 ≤ x ∧ x ≤ 255 := h x hx
  exact h1
theorem tells_core (W : Option Bool) (S S' : Option (Int × Int × Int × Int × Int × Int × Int × Int × Bool)) (Z Z' : Option (Int × Int × Int)) (U U' : Option (Arr 256 × Bool)) (H H' : Option (List (Arr 256) × Bool)) (E : List (Arr 256) → List (Arr 256) → Option Bool) (P P' Q Q' : Option (List Int)) (M : List Int → List Int → Option Bool)
    (s : Int × Int × Int × Int × Int × Int × Int × Int × Bool) (z1 z2 z3 : Int) (u : Arr 256 × Bool) (h : List (Arr 256) × Bool) (p q : List Int)
    (hW : W = some true) (hS : S = some s) (hS' : S' = some s) (hZ : Z = some (z1, z2, z3)) (hZ' : Z' = some (z1, z2, z3)) (hU : U = some u) (hU' : U' = some u) (hH : H = some h) (hH' : H' = some h) (hE : E h.1 h.1 = some true) (hP : P = some p) (hP' : P' = some p) (hQ : Q = some q) (hQ' : Q' = some q) (hM1 : M p p = some true) (hM2 : M q q = some true) :
    (S.bind fun (r5_0, r5_1, r5_2, r5_3, r5_4, r5_5, r5_6, r5_7, r6) => S'.bind fun (r8_0, r8_1, r8_2, r8_3, r8_4, r8_5, r8_6, r8_7, r9) => Z.bind fun (r11, r12, r13) => Z'.bind fun (r14, r15, r16) => U.bind fun (r17, r18) => U'.bind fun (r20, r21) => H.bind fun (r23, r24) => H'.bind fun (r25, r26) => if (!((r5_0 == r8_0) && ((r5_1 == r8_1) && ((r5_2 == r8_2) && ((r5_3 == r8_3) && ((r5_4 == r8_4) && ((r5_5 == r8_5) && ((r5_6 == r8_6) && ((r5_7 == r8_7) && true))))))))) = true then (some false) else (if (!(r6 == r9)) = true then (some false) else (if r11 = r14 then (if r12 = r15 then (if r13 = r16 then (if (!(eqA r17 r20)) = true then (some false) else (if (!(r18 == r21)) = true then (some false) else ((E r23 r25).bind fun r27 => if r27 = true then (if (!(r24 == r26)) = true then (some false) else (P.bind fun r28 => P'.bind fun r29 => (M r28 r29).bind fun r30 => if r30 = true then (Q.bind fun r31 => Q'.bind fun r32 => (M r31 r32).bind fun r33 => if r33 = true then (W.bind fun r34 => some r34) else (some false)) else (some false))) else (some false)))) else (some false)) else (some false)) else (some false)))) = some true := by
  obtain ⟨s0, s1, s2, s3, s4, s5, s6, s7, sb⟩ := s
  obtain ⟨u1, u2⟩ := u
  obtain ⟨h1, h2⟩ := h
  subst hW hS hS' hZ hZ' hU hU' hH hH' hP hP' hQ hQ'
  have hE' : E h1 h1 = some true := hE
  simp only [Option.bind_some, beq_self_eq_true, Bool.and_self, Bool.not_true, Bool.false_eq_true, if_false, if_true, eqA_self, hE', hM1, hM2]
theorem DpackTells : law22_DpackTells.Pure := by
  intro k _ a1_0 a1_1 a1_2 a1_3 a1_4 a1_5 a1_6 a1_7 _ _ _ _ _ _ _ _ a ha low _ high _ b hb h _ omega _
  refine ⟨2000, ?_⟩
  have hb' := byt_of hb
  unfold law22_DpackTells.f
  by_cases c1 : (b.length : Int) > 1000
  · rw [if_pos c1, awake22]; rfl
  rw [if_neg c1]
  by_cases c2 : (h.length : Int) > 10
  · rw [if_pos c2, awake22]; rfl
  rw [if_neg c2]
  obtain ⟨z1, z2, z3, hz, hz'⟩ := sizes_both a1_0 a1_1 a1_2 a1_3 a1_4 a1_5 a1_6 a1_7
  have hset : ∃ s, dpack_Set.f 2000 k = some s := by
    unfold dpack_Set.f
    (repeat' split) <;> exact ⟨_, rfl⟩
  obtain ⟨s, hs⟩ := hset
  have l1 := unhV_len b (h.length : Int) omega
  have l2 := packS_len low high a
  have l3 := hintS_len h omega
  exact tells_core _ _ _ _ _ _ _ _ _ (ref22_Same.f 2000) _ _ _ _ (ref01_Same.f 2000) s z1 z2 z3 (unpS low high b) (unhV b (h.length : Int) omega) (packS low high a) (hintS h omega)
    awake22 hs ((set_eq 2000 k).trans hs) hz hz' (dUnpack 2000 (by decide) b hb' (by omega) low high) (rUnpack 2000 (by decide) b hb' (by omega) low high) (dUnhints 2000 (by decide) b hb' _ _) (rUnhints 2000 (by decide) b hb' _ _) (sameP 2000 _ (by omega) (by omega))
    (dPack 2000 (by decide) a low high) (rPack 2000 (by decide) a low high) (dHints 2000 (by decide) h omega) (rHints 2000 (by decide) h omega) (ref01_Same_self 2000 _ (by omega) (by omega)) (ref01_Same_self 2000 _ (by omega) (by omega))
end Go.Proofs.Ytblploekkjeolaa.Pure
