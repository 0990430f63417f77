/- Layer 22: the keys, and the signature, that bytes are, are the document's; in plain Lean. -/
import Derived.Test.YtblploekkjeolaaLDpackReads
import Derived.Test.YtblploekkjeolaaDi
set_option linter.unusedSimpArgs false
set_option linter.unusedVariables false
namespace Go.Proofs.Ytblploekkjeolaa.Pure
open Go Go.Mx
theorem kind_someR (a0 : Int) (h : InR .u8 a0) (a1 a2 a3 a4 a5 a6 a7 a8 : Int) : ∃ b1 b2 b3 b4 b5 b6 b7 b8, law22_kind.f 60000 a0 a1 a2 a3 a4 a5 a6 a7 a8 = some (b1, b2, b3, b4, b5, b6, b7, b8) := by
  have h0 : 0 ≤ a0 ∧ a0 ≤ 255 := h
  have e : irem .u8 a0 4 = a0 % 4 := by unfold irem; rw [tmodN h0.1]
  unfold law22_kind.f
  rw [e, Option.bind_some, if_pos (by omega), if_pos (by show a0 % 4 < 4; omega)]
  obtain ⟨q, hq⟩ : ∃ q, ref22_Set.f 60000 (rdL (CI .i64) ([44, 65, 87, 0] : List Int) (a0 % 4)) = some q := by
    unfold ref22_Set.f
    (repeat' split) <;> exact ⟨_, rfl⟩
  obtain ⟨q1, q2, q3, q4, q5, q6, q7, q8, qb⟩ := q
  rw [hq, Option.bind_some]
  cases qb
  · exact ⟨_, _, _, _, _, _, _, _, rfl⟩
  · exact ⟨_, _, _, _, _, _, _, _, rfl⟩
theorem bytOf {l : List Int} (h : InL .u8 l) : Byt l := fun x hx => by
  have h1 : 0 ≤ x ∧ x ≤ 255 := h x hx
  exact h1
/-- not one of the three: nothing is read -/
theorem none_reads (b1 b2 b3 b4 b5 b6 b7 b8 : Int) (hk : ¬ kind3 b1 b2 b3 b4 b5 b6 b7 b8) (b : List Int) :
    dpack_UnPublic.f 60000 b1 b2 b3 b4 b5 b6 b7 b8 b = some ([], [], false) ∧ ref22_UnPublic.f 60000 b1 b2 b3 b4 b5 b6 b7 b8 b = some ([], [], false) ∧
    dpack_UnPrivate.f 60000 b1 b2 b3 b4 b5 b6 b7 b8 b = some ([], [], [], [], [], [], false) ∧ ref22_UnPrivate.f 60000 b1 b2 b3 b4 b5 b6 b7 b8 b = some ([], [], [], [], [], [], false) ∧
    dpack_UnSig.f 60000 b1 b2 b3 b4 b5 b6 b7 b8 b = some ([], [], [], false) ∧ ref22_UnSig.f 60000 b1 b2 b3 b4 b5 b6 b7 b8 b = some ([], [], [], false) := by
  have d := dSizes_no 59996 b1 b2 b3 b4 b5 b6 b7 b8 hk
  have r := rSizes_no 60000 b1 b2 b3 b4 b5 b6 b7 b8 hk
  have kn := rKnown_no 60000 b1 b2 b3 b4 b5 b6 b7 b8 hk
  refine ⟨?_, ?_, ?_, ?_, ?_, ?_⟩
  · unfold dpack_UnPublic.f; rw [d]; rfl
  · unfold ref22_UnPublic.f; rw [r, Option.bind_some]; dsimp only; rw [kn]; rfl
  · unfold dpack_UnPrivate.f; rw [d]; rfl
  · unfold ref22_UnPrivate.f; rw [r, Option.bind_some]; dsimp only; rw [kn]; rfl
  · unfold dpack_UnSig.f; rw [d]; rfl
  · unfold ref22_UnSig.f; rw [r, Option.bind_some]; dsimp only; rw [kn]; rfl
theorem upub_len (kk : Nat) (hk : kk ≤ 8) (b : List Int) (hl : b.length ≤ 6000) : (upubS kk b).1.length ≤ 6000 ∧ (upubS kk b).2.1.length ≤ 1000 := by
  unfold upubS
  split
  · simp only [List.length_take, rdR_len]; omega
  · exact ⟨Nat.zero_le _, Nat.zero_le _⟩
theorem upriv_len (kk ll w : Nat) (hk : kk ≤ 8) (h2 : ll ≤ 7) (e : Int) (b : List Int) (hl : b.length ≤ 6000) : (uprivS kk ll w e b).1.length ≤ 6000 ∧ (uprivS kk ll w e b).2.1.length ≤ 6000 ∧ (uprivS kk ll w e b).2.2.1.length ≤ 6000 ∧ (uprivS kk ll w e b).2.2.2.1.length ≤ 1000 ∧ (uprivS kk ll w e b).2.2.2.2.1.length ≤ 1000 ∧ (uprivS kk ll w e b).2.2.2.2.2.1.length ≤ 1000 := by
  unfold uprivS
  split
  · split
    · simp only [List.length_take, rdR_len]; omega
    · exact ⟨Nat.zero_le _, Nat.zero_le _, Nat.zero_le _, Nat.zero_le _, Nat.zero_le _, Nat.zero_le _⟩
  · exact ⟨Nat.zero_le _, Nat.zero_le _, Nat.zero_le _, Nat.zero_le _, Nat.zero_le _, Nat.zero_le _⟩
theorem usig_len (kk ll om sz wz : Nat) (h2 : ll ≤ 7) (lo hi : Int) (b : List Int) (hl : b.length ≤ 6000) : (usigS kk ll om sz wz lo hi b).1.length ≤ 6000 ∧ (usigS kk ll om sz wz lo hi b).2.1.length ≤ 1000 ∧ (usigS kk ll om sz wz lo hi b).2.2.1.length ≤ 1000 := by
  unfold usigS
  split
  · split
    · have := unhV_len ((b.drop sz).drop (ll * (32 * wz))) (kk : Int) (om : Int)
      simp only [List.length_take, rdR_len]; omega
    · exact ⟨Nat.zero_le _, Nat.zero_le _, Nat.zero_le _⟩
  · exact ⟨Nat.zero_le _, Nat.zero_le _, Nat.zero_le _⟩
theorem both (b1 b2 b3 b4 b5 b6 b7 b8 : Int) (b : List Int) (hb : Byt b) (hl : b.length ≤ 6000) : ∃ p1 p2 pk s1 s2 s3 s4 s5 s6 sk g1 g2 g3 gk,
    dpack_UnPublic.f 60000 b1 b2 b3 b4 b5 b6 b7 b8 b = some (p1, p2, pk) ∧ ref22_UnPublic.f 60000 b1 b2 b3 b4 b5 b6 b7 b8 b = some (p1, p2, pk) ∧
    dpack_UnPrivate.f 60000 b1 b2 b3 b4 b5 b6 b7 b8 b = some (s1, s2, s3, s4, s5, s6, sk) ∧ ref22_UnPrivate.f 60000 b1 b2 b3 b4 b5 b6 b7 b8 b = some (s1, s2, s3, s4, s5, s6, sk) ∧
    dpack_UnSig.f 60000 b1 b2 b3 b4 b5 b6 b7 b8 b = some (g1, g2, g3, gk) ∧ ref22_UnSig.f 60000 b1 b2 b3 b4 b5 b6 b7 b8 b = some (g1, g2, g3, gk) ∧
    p1.length ≤ 6000 ∧ p2.length ≤ 1000 ∧ s1.length ≤ 6000 ∧ s2.length ≤ 6000 ∧ s3.length ≤ 6000 ∧ s4.length ≤ 1000 ∧ s5.length ≤ 1000 ∧ s6.length ≤ 1000 ∧ g1.length ≤ 6000 ∧ g2.length ≤ 1000 ∧ g3.length ≤ 1000 := by
  by_cases hk : kind3 b1 b2 b3 b4 b5 b6 b7 b8
  · obtain ⟨kk, ll, om, sz, w, wz, h⟩ := kinds hk
    have k1 := h.b1
    have k2 := h.b2
    have e1 := dUnPublic h b hb
    have e2 := rUnPublic h b hb
    have e3 := dUnPrivate h b hb
    have e4 := rUnPrivate h b hb
    have e5 := dUnSig h b hb
    have e6 := rUnSig h b hb
    have q1 := upub_len kk k1.1 b hl
    have q2 := upriv_len kk ll w k1.1 k2 b3 b hl
    have q3 := usig_len kk ll om sz wz k2 (isub .i32 b5 1) b5 b hl
    obtain ⟨p1, p2, pk, hp⟩ : ∃ p1 p2 pk, upubS kk b = (p1, p2, pk) := ⟨_, _, _, rfl⟩
    obtain ⟨s1, s2, s3, s4, s5, s6, sk, hs⟩ : ∃ s1 s2 s3 s4 s5 s6 sk, uprivS kk ll w b3 b = (s1, s2, s3, s4, s5, s6, sk) := ⟨_, _, _, _, _, _, _, rfl⟩
    obtain ⟨g1, g2, g3, gk, hg⟩ : ∃ g1 g2 g3 gk, usigS kk ll om sz wz (isub .i32 b5 1) b5 b = (g1, g2, g3, gk) := ⟨_, _, _, _, rfl⟩
    rw [hp] at e1 e2 q1
    rw [hs] at e3 e4 q2
    rw [hg] at e5 e6 q3
    exact ⟨_, _, _, _, _, _, _, _, _, _, _, _, _, _, e1, e2, e3, e4, e5, e6, q1.1, q1.2, q2.1, q2.2.1, q2.2.2.1, q2.2.2.2.1, q2.2.2.2.2.1, q2.2.2.2.2.2, q3.1, q3.2.1, q3.2.2⟩
  · obtain ⟨e1, e2, e3, e4, e5, e6⟩ := none_reads b1 b2 b3 b4 b5 b6 b7 b8 hk b
    exact ⟨_, _, _, _, _, _, _, _, _, _, _, _, _, _, e1, e2, e3, e4, e5, e6, by simp, by simp, by simp, by simp, by simp, by simp, by simp, by simp, by simp, by simp, by simp⟩
theorem reads_core (K : Option (Int × Int × Int × Int × Int × Int × Int × Int)) (W : Option Bool) (n1 : Prop) [Decidable n1] (P P' : Int → Int → Int → Int → Int → Int → Int → Int → Option (List Int × List (Arr 256) × Bool)) (Q Q' : Int → Int → Int → Int → Int → Int → Int → Int → Option (List Int × List Int × List Int × List (Arr 256) × List (Arr 256) × List (Arr 256) × Bool)) (S S' : Int → Int → Int → Int → Int → Int → Int → Int → Option (List Int × List (Arr 256) × List (Arr 256) × Bool))
    (MP : List Int → List (Arr 256) → List Int → List (Arr 256) → Option Bool) (MQ : List Int → List Int → List Int → List (Arr 256) → List (Arr 256) → List (Arr 256) → List Int → List Int → List Int → List (Arr 256) → List (Arr 256) → List (Arr 256) → Option Bool) (MS : List Int → List (Arr 256) → List (Arr 256) → List Int → List (Arr 256) → List (Arr 256) → Option Bool)
    (b1 b2 b3 b4 b5 b6 b7 b8 : Int) (hK : K = some (b1, b2, b3, b4, b5, b6, b7, b8)) (hW : W = some true)
    (h : ¬ n1 → ∃ p1 p2 pk s1 s2 s3 s4 s5 s6 sk g1 g2 g3 gk, P b1 b2 b3 b4 b5 b6 b7 b8 = some (p1, p2, pk) ∧ P' b1 b2 b3 b4 b5 b6 b7 b8 = some (p1, p2, pk) ∧ Q b1 b2 b3 b4 b5 b6 b7 b8 = some (s1, s2, s3, s4, s5, s6, sk) ∧ Q' b1 b2 b3 b4 b5 b6 b7 b8 = some (s1, s2, s3, s4, s5, s6, sk) ∧
      S b1 b2 b3 b4 b5 b6 b7 b8 = some (g1, g2, g3, gk) ∧ S' b1 b2 b3 b4 b5 b6 b7 b8 = some (g1, g2, g3, gk) ∧ MP p1 p2 p1 p2 = some true ∧ MQ s1 s2 s3 s4 s5 s6 s1 s2 s3 s4 s5 s6 = some true ∧ MS g1 g2 g3 g1 g2 g3 = some true) :
    (K.bind fun (r2_0, r2_1, r2_2, r2_3, r2_4, r2_5, r2_6, r2_7) => if n1 then (W.bind fun r3 => some r3) else ((P r2_0 r2_1 r2_2 r2_3 r2_4 r2_5 r2_6 r2_7).bind fun (r4_0, r4_1, r5) => (P' r2_0 r2_1 r2_2 r2_3 r2_4 r2_5 r2_6 r2_7).bind fun (r7_0, r7_1, r8) => (Q r2_0 r2_1 r2_2 r2_3 r2_4 r2_5 r2_6 r2_7).bind fun (r10_0, r10_1, r10_2, r10_3, r10_4, r10_5, r11) => (Q' r2_0 r2_1 r2_2 r2_3 r2_4 r2_5 r2_6 r2_7).bind fun (r13_0, r13_1, r13_2, r13_3, r13_4, r13_5, r14) => (S r2_0 r2_1 r2_2 r2_3 r2_4 r2_5 r2_6 r2_7).bind fun (r16_0, r16_1, r16_2, r17) => (S' r2_0 r2_1 r2_2 r2_3 r2_4 r2_5 r2_6 r2_7).bind fun (r19_0, r19_1, r19_2, r20) => (MP r4_0 r4_1 r7_0 r7_1).bind fun r22 => if r22 = true then (if (r5 == r8) = true then ((MQ r10_0 r10_1 r10_2 r10_3 r10_4 r10_5 r13_0 r13_1 r13_2 r13_3 r13_4 r13_5).bind fun r23 => if r23 = true then (if (r11 == r14) = true then ((MS r16_0 r16_1 r16_2 r19_0 r19_1 r19_2).bind fun r24 => if r24 = true then (if (r17 == r20) = true then (W.bind fun r25 => some r25) else (some false)) else (some false)) else (some false)) else (some false)) else (some false)) else (some false))) = some true := by
  subst hK hW
  rw [Option.bind_some]
  dsimp only
  by_cases c1 : n1
  · rw [if_pos c1]; rfl
  rw [if_neg c1]
  obtain ⟨p1, p2, pk, s1, s2, s3, s4, s5, s6, sk, g1, g2, g3, gk, e1, e2, e3, e4, e5, e6, e7, e8, e9⟩ := h c1
  rw [e1, e2, e3, e4, e5, e6]
  simp only [Option.bind_some, e7, e8, e9, beq_self_eq_true, if_true]
theorem DpackReads : law22_DpackReads.Pure := by
  intro a0 h0 x0 x1 x2 x3 x4 x5 x6 x7 _ _ _ _ _ _ _ _ b hb
  refine ⟨60000, ?_⟩
  obtain ⟨b1, b2, b3, b4, b5, b6, b7, b8, hk⟩ := kind_someR a0 h0 x0 x1 x2 x3 x4 x5 x6 x7
  unfold law22_DpackReads.f
  refine reads_core _ _ _ (fun x0 x1 x2 x3 x4 x5 x6 x7 => dpack_UnPublic.f 60000 x0 x1 x2 x3 x4 x5 x6 x7 b) (fun x0 x1 x2 x3 x4 x5 x6 x7 => ref22_UnPublic.f 60000 x0 x1 x2 x3 x4 x5 x6 x7 b) (fun x0 x1 x2 x3 x4 x5 x6 x7 => dpack_UnPrivate.f 60000 x0 x1 x2 x3 x4 x5 x6 x7 b) (fun x0 x1 x2 x3 x4 x5 x6 x7 => ref22_UnPrivate.f 60000 x0 x1 x2 x3 x4 x5 x6 x7 b)
    (fun x0 x1 x2 x3 x4 x5 x6 x7 => dpack_UnSig.f 60000 x0 x1 x2 x3 x4 x5 x6 x7 b) (fun x0 x1 x2 x3 x4 x5 x6 x7 => ref22_UnSig.f 60000 x0 x1 x2 x3 x4 x5 x6 x7 b) (ref22_SamePublic.f 60000) (ref22_SamePrivate.f 60000) (ref22_SameSig.f 60000) b1 b2 b3 b4 b5 b6 b7 b8 hk awake22 fun c1 => ?_
  obtain ⟨p1, p2, pk, s1, s2, s3, s4, s5, s6, sk, g1, g2, g3, gk, e1, e2, e3, e4, e5, e6, l1, l2, l3, l4, l5, l6, l7, l8, l9, l10, l11⟩ := both b1 b2 b3 b4 b5 b6 b7 b8 b (bytOf hb) (by omega)
  have S1 : ∀ l : List Int, l.length ≤ 6000 → ref01_Same.f 60000 l l = some true := fun l h => ref01_Same_self 60000 l (by omega) (by omega)
  have S2 : ∀ l : List (Arr 256), l.length ≤ 1000 → ref22_Same.f 60000 l l = some true := fun l h => sameP 60000 l h (by omega)
  refine ⟨p1, p2, pk, s1, s2, s3, s4, s5, s6, sk, g1, g2, g3, gk, e1, e2, e3, e4, e5, e6, ?_, ?_, ?_⟩
  · unfold ref22_SamePublic.f
    simp only [S1 _ l1, S2 _ l2, Option.bind_some, if_true]
  · unfold ref22_SamePrivate.f
    simp only [S1 _ l3, S1 _ l4, S1 _ l5, S2 _ l6, S2 _ l7, S2 _ l8, Option.bind_some, if_true]
  · unfold ref22_SameSig.f
    simp only [S1 _ l9, S2 _ l10, S2 _ l11, Option.bind_some, if_true]
end Go.Proofs.Ytblploekkjeolaa.Pure
