/- Layer 22: keys and signatures as bytes are the document's; in plain Lean. -/
import Derived.Test.YtblploekkjeolaaLDpackWrites
import Derived.Test.YtblploekkjeolaaDh
set_option linter.unusedSimpArgs false
set_option linter.unusedVariables false
namespace Go.Proofs.Ytblploekkjeolaa.Pure
open Go Go.Mx
theorem kind_some (a0 : Int) (h : InR .u8 a0) (a1 a2 a3 a4 a5 a6 a7 a8 : Int) : ∃ b1 b2 b3 b4 b5 b6 b7 b8, law22_kind.f 60000 a0 a1 a2 a3 a4 a5 a6 a7 a8 = some (b1, b2, b3, b4, b5, b6, b7, b8) := by
  have h0 : 0 ≤ a0 ∧ a0 ≤ 255 := h
  have e : irem .u8 a0 4 = a0 % 4 := by unfold irem; rw [tmodN h0.1]
  unfold law22_kind.f
  rw [e, Option.bind_some, if_pos (by omega), if_pos (by show a0 % 4 < 4; omega)]
  obtain ⟨q, hq⟩ : ∃ q, ref22_Set.f 60000 (rdL (CI .i64) ([44, 65, 87, 0] : List Int) (a0 % 4)) = some q := by
    unfold ref22_Set.f
    (repeat' split) <;> exact ⟨_, rfl⟩
  obtain ⟨q1, q2, q3, q4, q5, q6, q7, q8, qb⟩ := q
  rw [hq, Option.bind_some]
  cases qb
  · exact ⟨_, _, _, _, _, _, _, _, rfl⟩
  · exact ⟨_, _, _, _, _, _, _, _, rfl⟩
theorem privS_len (a0 a1 a2 a3 a4 a5 a6 a7 : Int) (rho key tr : List Int) (s1 s2 t0 : List (Arr 256)) (h1 : rho.length ≤ 1000) (h2 : key.length ≤ 1000) (h3 : tr.length ≤ 1000) (h4 : s1.length ≤ 60) (h5 : s2.length ≤ 60) (h6 : t0.length ≤ 60) (hs : rho.length + key.length + tr.length ≤ 1000 ∧ s1.length + s2.length + t0.length ≤ 60) :
    (privS a0 a1 a2 a3 a4 a5 a6 a7 rho key tr s1 s2 t0).length ≤ 50000 := by
  have p1 := packL_len a2 a2 s1
  have p2 := packL_len a2 a2 s2
  have p3 := packL_len 4095 4096 t0
  unfold privS
  split
  · simp only [List.length_append]; omega
  · exact Nat.zero_le _
theorem sigS_len (a0 a1 a2 a3 a4 a5 a6 a7 : Int) (c : List Int) (z h : List (Arr 256)) (h1 : c.length ≤ 1000) (h2 : z.length ≤ 60) : (sigS a0 a1 a2 a3 a4 a5 a6 a7 c z h).length ≤ 50000 := by
  have p1 := packL_len (isub .i32 a4 1) a4 z
  have p2 := hintS_len h a6
  unfold sigS
  split
  · split
    · simp only [List.length_append]; omega
    · exact Nat.zero_le _
  · exact Nat.zero_le _

theorem writes_core (K : Option (Int × Int × Int × Int × Int × Int × Int × Int)) (W : Option Bool) (P P' : Int → Int → Int → Int → Int → Int → Int → Int → Option (List Int)) (Q Q' S S' : Int → Int → Int → Int → Int → Int → Int → Int → Option (List Int)) (M : List Int → List Int → Option Bool) (n1 n2 : Prop) [Decidable n1] [Decidable n2] (b1 b2 b3 b4 b5 b6 b7 b8 : Int)
    (p q s : List Int) (hK : K = some (b1, b2, b3, b4, b5, b6, b7, b8)) (hW : W = some true) (h : ¬ n1 → ¬ n2 → (P b1 b2 b3 b4 b5 b6 b7 b8 = some p ∧ P' b1 b2 b3 b4 b5 b6 b7 b8 = some p ∧ M p p = some true) ∧ (Q b1 b2 b3 b4 b5 b6 b7 b8 = some q ∧ Q' b1 b2 b3 b4 b5 b6 b7 b8 = some q ∧ M q q = some true) ∧ (S b1 b2 b3 b4 b5 b6 b7 b8 = some s ∧ S' b1 b2 b3 b4 b5 b6 b7 b8 = some s ∧ M s s = some true)) :
    (K.bind fun (r5_0, r5_1, r5_2, r5_3, r5_4, r5_5, r5_6, r5_7) => if n1 then (W.bind fun r6 => some r6) else (if n2 then (W.bind fun r7 => some r7) else ((P r5_0 r5_1 r5_2 r5_3 r5_4 r5_5 r5_6 r5_7).bind fun r8 => (P' r5_0 r5_1 r5_2 r5_3 r5_4 r5_5 r5_6 r5_7).bind fun r9 => (M r8 r9).bind fun r10 => if r10 = true then ((Q r5_0 r5_1 r5_2 r5_3 r5_4 r5_5 r5_6 r5_7).bind fun r11 => (Q' r5_0 r5_1 r5_2 r5_3 r5_4 r5_5 r5_6 r5_7).bind fun r12 => (M r11 r12).bind fun r13 => if r13 = true then ((S r5_0 r5_1 r5_2 r5_3 r5_4 r5_5 r5_6 r5_7).bind fun r14 => (S' r5_0 r5_1 r5_2 r5_3 r5_4 r5_5 r5_6 r5_7).bind fun r15 => (M r14 r15).bind fun r16 => if r16 = true then (W.bind fun r17 => some r17) else (some false)) else (some false)) else (some false)))) = some true := by
  subst hK hW
  rw [Option.bind_some]
  dsimp only
  by_cases c1 : n1
  · rw [if_pos c1]; rfl
  rw [if_neg c1]
  by_cases c2 : n2
  · rw [if_pos c2]; rfl
  rw [if_neg c2]
  obtain ⟨⟨e1, e2, e3⟩, ⟨e4, e5, e6⟩, e7, e8, e9⟩ := h c1 c2
  rw [e1, e2, Option.bind_some, Option.bind_some, e3, Option.bind_some, if_pos rfl, e4, e5, Option.bind_some, Option.bind_some, e6, Option.bind_some, if_pos rfl, e7, e8, Option.bind_some, Option.bind_some, e9, Option.bind_some, if_pos rfl]
  rfl
theorem sum5 (x1 x2 x3 x4 x5 : Nat) (h1 : x1 ≤ 140737488351232) (h2 : x2 ≤ 140737488351232) (h3 : x3 ≤ 140737488351232) (h4 : x4 ≤ 140737488351232) (h5 : x5 ≤ 140737488351232) :
    iadd .i64 (iadd .i64 (iadd .i64 (iadd .i64 (x1 : Int) (x2 : Int)) (x3 : Int)) (x4 : Int)) (x5 : Int) = x1 + x2 + x3 + x4 + x5 := by
  rw [add64 (x := (x1 : Int)) (y := (x2 : Int)) (by omega) (by omega), add64 (x := (x1 : Int) + x2) (by omega) (by omega), add64 (x := (x1 : Int) + x2 + x3) (by omega) (by omega), add64 (by omega) (by omega)]
theorem DpackWrites : law22_DpackWrites.Pure := by
  intro a0 h0 x0 x1 x2 x3 x4 x5 x6 x7 _ _ _ _ _ _ _ _ pr pt _ lpr _ lpt sr sk st s1 s2 s3 _ lsr _ lsk _ lst _ ls1 _ ls2 _ ls3 gc gz gh _ lgc _ lgz _ lgh
  refine ⟨60000, ?_⟩
  obtain ⟨b1, b2, b3, b4, b5, b6, b7, b8, hk⟩ := kind_some a0 h0 x0 x1 x2 x3 x4 x5 x6 x7
  unfold law22_DpackWrites.f
  refine writes_core _ _ (fun a b c d e f g h => dpack_Public.f 60000 a b c d e f g h pr pt) (fun a b c d e f g h => ref22_Public.f 60000 a b c d e f g h pr pt) (fun a b c d e f g h => dpack_Private.f 60000 a b c d e f g h sr sk st s1 s2 s3) (fun a b c d e f g h => ref22_Private.f 60000 a b c d e f g h sr sk st s1 s2 s3)
    (fun a b c d e f g h => dpack_Sig.f 60000 a b c d e f g h gc gz gh) (fun a b c d e f g h => ref22_Sig.f 60000 a b c d e f g h gc gz gh) (ref01_Same.f 60000) _ _ b1 b2 b3 b4 b5 b6 b7 b8 (pubS b1 b2 b3 b4 b5 b6 b7 b8 pr pt) (privS b1 b2 b3 b4 b5 b6 b7 b8 sr sk st s1 s2 s3) (sigS b1 b2 b3 b4 b5 b6 b7 b8 gc gz gh) hk awake22 ?_
  intro c1 c2
  rw [sum5 _ _ _ _ _ lpr lsr lsk lst lgc] at c1
  rw [sum5 _ _ _ _ _ lpt ls1 ls2 ls3 lgz, add64 (by omega) (by omega)] at c2
  have w1 := pubS_len b1 b2 b3 b4 b5 b6 b7 b8 pr (by omega) pt (by omega)
  have w2 := privS_len b1 b2 b3 b4 b5 b6 b7 b8 sr sk st s1 s2 s3 (by omega) (by omega) (by omega) (by omega) (by omega) (by omega) (by omega)
  have w3 := sigS_len b1 b2 b3 b4 b5 b6 b7 b8 gc gz gh (by omega) (by omega)
  refine ⟨⟨dPublic b1 b2 b3 b4 b5 b6 b7 b8 pr (by omega) pt (by omega), rPublic b1 b2 b3 b4 b5 b6 b7 b8 pr (by omega) pt (by omega), ref01_Same_self 60000 _ (by omega) (by omega)⟩,
    ⟨dPrivate b1 b2 b3 b4 b5 b6 b7 b8 sr sk st (by omega) (by omega) (by omega) s1 s2 s3 (by omega) (by omega) (by omega), rPrivate b1 b2 b3 b4 b5 b6 b7 b8 sr sk st (by omega) (by omega) (by omega) s1 s2 s3 (by omega) (by omega) (by omega), ref01_Same_self 60000 _ (by omega) (by omega)⟩,
    dSig b1 b2 b3 b4 b5 b6 b7 b8 gc (by omega) gz gh (by omega) (by omega), rSig b1 b2 b3 b4 b5 b6 b7 b8 gc (by omega) gz gh (by omega) (by omega), ref01_Same_self 60000 _ (by omega) (by omega)⟩
end Go.Proofs.Ytblploekkjeolaa.Pure
