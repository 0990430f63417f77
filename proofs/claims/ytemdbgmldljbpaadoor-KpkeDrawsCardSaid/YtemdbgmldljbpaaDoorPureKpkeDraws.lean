/- Layer 26: kinds, sizes, noise, and what seeds draw, are the document's; in plain Lean. -/
import Derived.Test.YtemdbgmldljbpaaDoorLKpkeDraws
import Derived.Test.YtemdbgmldljbpaaDoorUb
set_option linter.unusedSimpArgs false
set_option linter.unusedVariables false
set_option maxRecDepth 100000
namespace Go.Proofs.YtemdbgmldljbpaaDoor.Pure
open Go Go.Mx
theorem draws26_core {F W : Option Bool} (hW : W = some true) {S1 S2 : Option (Int × Int × Int × Int × Int × Bool)} {Z1 Z2 : Option (Int × Int × Int)} {P1 P2 : Option (Arr 256 × Int)} {N1 N2 : Option (Arr 256)} {s : Int × Int × Int × Int × Int × Bool} {z : Int × Int × Int} {v : Arr 256 × Int} {n : Arr 256}
    (hF : F = some true) (s1 : S1 = some s) (s2 : S2 = some s) (z1 : Z1 = some z) (z2 : Z2 = some z) (p1 : P1 = some v) (p2 : P2 = some v) (n1 : N1 = some n) (n2 : N2 = some n) :
    (F.bind fun r3 => if r3 = true then (S1.bind fun (r4_0, r4_1, r4_2, r4_3, r4_4, r5) => S2.bind fun (r7_0, r7_1, r7_2, r7_3, r7_4, r8) => Z1.bind fun (r10, r11, r12) => Z2.bind fun (r13, r14, r15) => P1.bind fun (r16, r17) => P2.bind fun (r19, r20) => if ((r4_0 == r7_0) && ((r4_1 == r7_1) && ((r4_2 == r7_2) && ((r4_3 == r7_3) && ((r4_4 == r7_4) && true))))) = true then (if (r5 == r8) = true then (if r10 = r13 then (if r11 = r14 then (if r12 = r15 then (if (eqA r16 r19) = true then (if r17 = r20 then (N1.bind fun r22 => N2.bind fun r23 => if (eqA r22 r23) = true then (W.bind fun r24 => some r24) else (some false)) else (some false)) else (some false)) else (some false)) else (some false)) else (some false)) else (some false)) else (some false)) else (W.bind fun r25 => some r25)) = some true := by
  subst hW hF s1 s2 z1 z2 p1 p2 n1 n2
  obtain ⟨a, b, c, d, e, f⟩ := s
  obtain ⟨p, q, r⟩ := z
  obtain ⟨x, y⟩ := v
  simp only [Option.bind_some, if_true, beq_self_eq_true, Bool.and_self, eqA_self]
theorem set_some (K : Nat) (k : Int) : ∃ s, kpke_Set.f K k = some s := by
  unfold kpke_Set.f
  by_cases h1 : k = 512
  · rw [if_pos h1]; exact ⟨_, rfl⟩
  · rw [if_neg h1]
    by_cases h2 : k = 768
    · rw [if_pos h2]; exact ⟨_, rfl⟩
    · rw [if_neg h2]
      by_cases h3 : k = 1024
      · rw [if_pos h3]; exact ⟨_, rfl⟩
      · rw [if_neg h3]; exact ⟨_, rfl⟩
theorem KpkeDraws : law26_KpkeDraws.Pure := by
  intro k _ a b c d e _ _ _ _ _ eta _ s hs i _ j _
  refine ⟨60000, ?_⟩
  unfold law26_KpkeDraws.f
  rcases few26 (W := [s]) (show 1 < 900 by decide) with hf | ⟨hf, hl⟩
  · rw [hf, Option.bind_some, if_neg (by decide), awake26]
    rfl
  · have ls : s.length ≤ 300 := hl s (by simp)
    obtain ⟨st, h1⟩ := set_some 60000 k
    obtain ⟨p, q, r, h2⟩ := sizes_some 60000 a b c d e
    obtain ⟨n, h3, h4⟩ := noiseBoth ls eta i
    exact draws26_core awake26 hf h1 ((set_same 60000 k).trans h1) h2 ((sizes_same 60000 a b c d e).trans h2) (kParts ls) (rParts ls) h3 h4
end Go.Proofs.YtemdbgmldljbpaaDoor.Pure
