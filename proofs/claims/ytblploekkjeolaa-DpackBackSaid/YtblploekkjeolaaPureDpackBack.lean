/- Layer 22: there and back, without the document's answers; in plain Lean. -/
import Derived.Test.YtblploekkjeolaaLDpackBack
import Derived.Test.YtblploekkjeolaaDj
set_option linter.unusedSimpArgs false
set_option linter.unusedVariables false
set_option maxRecDepth 100000
namespace Go.Proofs.Ytblploekkjeolaa.Pure
open Go Go.Mx
theorem bytB {l : List Int} (h : InL .u8 l) : Byt l := fun x hx => by
  have h1 : 0 ≤ x ∧ x ≤ 255 := h x hx
  exact h1
/-- the four spans -/
def spans (M : Int) : List (Arr 2) := [(wr (wr (zeroA 2) 0 2) 1 2), (wr (wr (zeroA 2) 0 4095) 1 4096), (wr (wr (zeroA 2) 0 (-1)) 1 1023), (wr (wr (zeroA 2) 0 (isub .i32 M 1)) 1 M)]
theorem body_core (P : Int → Int → Option (List Int)) (U : List Int → Int → Int → Option (Arr 256 × Bool)) (P2 : Arr 256 → Int → Int → Option (List Int)) (M : List Int → List Int → Option Bool) (a : Arr 256) (b : List Int) (lo hi : Int) (next : Option (Unit ⊕ Bool))
    (p : List Int) (u : Arr 256 × Bool) (hP : P lo hi = some p) (hU1 : p ≠ [] → U p lo hi = some (a, true)) (hU2 : U b lo hi = some u) (hM : u.2 = true → ∃ q, P2 u.1 lo hi = some q ∧ M q b = some true) :
    (((((P lo hi).bind fun r9 => if (r9.length : Int) > 0 then ((U r9 lo hi).bind fun (r10, r11) => if r11 = true then (if (!(eqA r10 a)) = true then (some (.inr (.inr (.inr false)))) else (some (.inl ()))) else (some (.inr (.inr (.inr false))))) else (some (.inl ())) : Option ((Unit) ⊕ ((Unit) ⊕ ((Unit) ⊕ (Bool)))))).bind fun tv22 => (match tv22 with | .inl _ => (U b lo hi).bind fun (r14, r15) => if r15 = true then ((P2 r14 lo hi).bind fun r17 => (M r17 b).bind fun r18 => if r18 = true then (some (.inl ())) else (some (.inr (.inr false)))) else (some (.inl ())) | .inr r => some r) : Option ((Unit) ⊕ ((Unit) ⊕ (Bool))))).bind (fun tv18 => (match tv18 with | .inl _ => next | .inr r => some r)) = next := by
  rw [hP, Option.bind_some]
  have e1 : (if (p.length : Int) > 0 then ((U p lo hi).bind fun (r10, r11) => if r11 = true then (if (!(eqA r10 a)) = true then (some (.inr (.inr (.inr false)))) else (some (.inl ()))) else (some (.inr (.inr (.inr false))))) else (some (.inl ())) : Option ((Unit) ⊕ ((Unit) ⊕ ((Unit) ⊕ (Bool))))) = some (.inl ()) := by
    by_cases hp : p = []
    · subst hp; rfl
    · have : (p.length : Int) > 0 := by
        cases p with
        | nil => exact absurd rfl hp
        | cons _ _ => simp
      rw [if_pos this, hU1 hp, Option.bind_some]
      dsimp only
      rw [if_pos rfl, eqA_self]
      rfl
  rw [e1, Option.bind_some]
  dsimp only
  rw [hU2, Option.bind_some]
  obtain ⟨u1, u2⟩ := u
  dsimp only
  cases u2 with
  | false => rfl
  | true =>
    obtain ⟨q, h1, h2⟩ := hM rfl
    dsimp only at h1
    rw [if_pos rfl, h1, Option.bind_some, h2, Option.bind_some, if_pos rfl]
    rfl
theorem back_step (a : Arr 256) (b : List Int) (hb : Byt b) (hbl : b.length ≤ 6000) (M : Int) (k : Nat) (z lo hi : Int) (z0 : 0 ≤ z) (z1 : z < 4) (hlo : rd (rdL (CA .i32 2 (by decide)) (spans M) z) 0 = lo) (hhi : rd (rdL (CA .i32 2 (by decide)) (spans M) z) 1 = hi) :
    law22_DpackBack.l0 60000 (k + 1) a b M z = law22_DpackBack.l0 60000 k a b M (iadd .i64 z 1) := by
  have hl : ((spans M).length : Int) = 4 := rfl
  have e : law22_DpackBack.l0 60000 (k + 1) a b M z = if z < ((spans M).length : Int) then (((if 0 ≤ z then (if z < (spans M).length then ((((dpack_Pack.f 60000 a (rd (rdL (CA .i32 2 (by decide)) (spans M) z) 0) (rd (rdL (CA .i32 2 (by decide)) (spans M) z) 1)).bind fun r9 => if (r9.length : Int) > 0 then ((dpack_Unpack.f 60000 r9 (rd (rdL (CA .i32 2 (by decide)) (spans M) z) 0) (rd (rdL (CA .i32 2 (by decide)) (spans M) z) 1)).bind fun (r10, r11) => if r11 = true then (if (!(eqA r10 a)) = true then (some (.inr (.inr (.inr false)))) else (some (.inl ()))) else (some (.inr (.inr (.inr false))))) else (some (.inl ())) : Option ((Unit) ⊕ ((Unit) ⊕ ((Unit) ⊕ (Bool)))))).bind fun tv22 => (match tv22 with | .inl _ => (dpack_Unpack.f 60000 b (rd (rdL (CA .i32 2 (by decide)) (spans M) z) 0) (rd (rdL (CA .i32 2 (by decide)) (spans M) z) 1)).bind fun (r14, r15) => if r15 = true then ((dpack_Pack.f 60000 r14 (rd (rdL (CA .i32 2 (by decide)) (spans M) z) 0) (rd (rdL (CA .i32 2 (by decide)) (spans M) z) 1)).bind fun r17 => (ref01_Same.f 60000 r17 b).bind fun r18 => if r18 = true then (some (.inl ())) else (some (.inr (.inr false)))) else (some (.inl ())) | .inr r => some r)) else none) else none : Option ((Unit) ⊕ ((Unit) ⊕ (Bool))))).bind fun tv18 => (match tv18 with | .inl _ => law22_DpackBack.l0 60000 k a b M (iadd .i64 z 1) | .inr r => some r)) else (some (.inl ())) := rfl
  rw [e, hlo, hhi, if_pos (by omega), if_pos z0, if_pos (by omega)]
  refine body_core (fun lo hi => dpack_Pack.f 60000 a lo hi) (fun x lo hi => dpack_Unpack.f 60000 x lo hi) (fun x lo hi => dpack_Pack.f 60000 x lo hi) (fun x y => ref01_Same.f 60000 x y) a b lo hi _ (packS lo hi a) (unpS lo hi b) (dPack 60000 (by decide) a lo hi) (fun hp => ?_) (dUnpack 60000 (by decide) b hb (by omega) lo hi) (fun hu => ?_)
  · show dpack_Unpack.f 60000 _ lo hi = _
    rw [dUnpack 60000 (by decide) _ (packS_byt lo hi a) (by have := packS_len lo hi a; omega) lo hi, unp_packP hp]
  · obtain ⟨c, ok, hc⟩ : ∃ c ok, unpS lo hi b = (c, ok) := ⟨_, _, rfl⟩
    rw [hc] at hu ⊢
    obtain rfl : ok = true := hu
    refine ⟨b, ?_, ref01_Same_self 60000 b (by omega) (by omega)⟩
    show dpack_Pack.f 60000 c lo hi = _
    rw [dPack 60000 (by decide), (pack_unpP hb hc).1]
theorem back_l0 (a : Arr 256) (b : List Int) (hb : Byt b) (hbl : b.length ≤ 6000) (M : Int) (k : Nat) : law22_DpackBack.l0 60000 (k + 5) a b M 0 = some (.inl ()) := by
  have i0 : iadd .i64 0 1 = 1 := by rw [add64 (by decide) (by decide)]; rfl
  have i1 : iadd .i64 1 1 = 2 := by rw [add64 (by decide) (by decide)]; rfl
  have i2 : iadd .i64 2 1 = 3 := by rw [add64 (by decide) (by decide)]; rfl
  have i3 : iadd .i64 3 1 = 4 := by rw [add64 (by decide) (by decide)]; rfl
  rw [show k + 5 = (k + 4) + 1 from rfl, back_step a b hb hbl M _ 0 _ _ (by decide) (by decide) rfl rfl, i0, show k + 4 = (k + 3) + 1 from rfl, back_step a b hb hbl M _ 1 _ _ (by decide) (by decide) rfl rfl, i1,
    show k + 3 = (k + 2) + 1 from rfl, back_step a b hb hbl M _ 2 _ _ (by decide) (by decide) rfl rfl, i2, show k + 2 = (k + 1) + 1 from rfl, back_step a b hb hbl M _ 3 _ _ (by decide) (by decide) rfl rfl, i3]
  rfl
theorem kind_of (a0 : Int) (h : InR .u8 a0) : ∃ b1 b2 b3 b4 b5 b6 b7 b8, law22_kind.f 60000 (irem .u8 a0 3) 0 0 0 0 0 0 0 0 = some (b1, b2, b3, b4, b5, b6, b7, b8) ∧ kind3 b1 b2 b3 b4 b5 b6 b7 b8 := by
  have h0 : 0 ≤ a0 ∧ a0 ≤ 255 := h
  have e : irem .u8 a0 3 = a0 % 3 := by unfold irem; rw [tmodN h0.1]
  rw [e]
  have h3 : a0 % 3 = 0 ∨ a0 % 3 = 1 ∨ a0 % 3 = 2 := by omega
  rcases h3 with h3 | h3 | h3 <;> rw [h3]
  · exact ⟨_, _, _, _, _, _, _, _, rfl, .inl ⟨rfl, rfl, rfl, rfl, rfl, rfl, rfl, rfl⟩⟩
  · exact ⟨_, _, _, _, _, _, _, _, rfl, .inr (.inl ⟨rfl, rfl, rfl, rfl, rfl, rfl, rfl, rfl⟩)⟩
  · exact ⟨_, _, _, _, _, _, _, _, rfl, .inr (.inr ⟨rfl, rfl, rfl, rfl, rfl, rfl, rfl, rfl⟩)⟩
/-! ### keys and signatures -/
theorem pub_back {a0 a1 a2 a3 a4 a5 a6 a7 : Int} {kk ll om sz w wz : Nat} (hk : kind3 a0 a1 a2 a3 a4 a5 a6 a7) (h : KD a0 a1 a2 a3 a4 a5 a6 a7 kk ll om sz w wz) (b : List Int) (hb : Byt b) {r1 : List Int} {r2 : List (Arr 256)} (hu : upubS kk b = (r1, r2, true)) :
    pubS a0 a1 a2 a3 a4 a5 a6 a7 r1 r2 = b ∧ r1.length ≤ 1000 ∧ r2.length ≤ 1000 := by
  have h1 := h.b1
  unfold upubS at hu
  by_cases hl : b.length = 32 + kk * 320
  · rw [if_pos hl] at hu
    simp only [Prod.mk.injEq] at hu
    obtain ⟨rfl, rfl, _⟩ := hu
    have hd : kk * (32 * widS (-1) 1023) ≤ (b.drop 32).length := by rw [fitT.2.1, List.length_drop]; omega
    obtain ⟨p1, p2⟩ := rows_back kk (b.drop 32) (bytDrop hb 32) hd (rdK_all fitT.1 fitT.2.2 kk _ hd)
    have l1 : (b.take 32).length = 32 := by rw [List.length_take]; omega
    refine ⟨?_, by omega, by rw [rdR_len]; omega⟩
    unfold pubS
    rw [p2, p1, rdR_len, l1, h.e0, decide_eq_true (by have := hk; rw [h.e0] at this; exact this)]
    have e1 : (((32 : Nat) : Int) != 32) = false := by decide
    have e2 : (((kk : Nat) : Int) != (kk : Int)) = false := by simp
    rw [e1, e2]
    show (if true = true then _ else _) = _
    rw [if_pos rfl, fitT.2.1, List.take_of_length_le (l := b.drop 32) (by rw [List.length_drop]; omega), List.take_append_drop]
  · rw [if_neg hl] at hu; cases (Prod.mk.inj (Prod.mk.inj hu).2).2
theorem priv_back {a0 a1 a2 a3 a4 a5 a6 a7 : Int} {kk ll om sz w wz : Nat} (hk : kind3 a0 a1 a2 a3 a4 a5 a6 a7) (h : KD a0 a1 a2 a3 a4 a5 a6 a7 kk ll om sz w wz) (b : List Int) (hb : Byt b) {r1 r2 r3 : List Int} {s1 s2 s3 : List (Arr 256)} (hu : uprivS kk ll w a2 b = (r1, r2, r3, s1, s2, s3, true)) :
    privS a0 a1 a2 a3 a4 a5 a6 a7 r1 r2 r3 s1 s2 s3 = b ∧ r1.length ≤ 1000 ∧ r2.length ≤ 1000 ∧ r3.length ≤ 1000 ∧ s1.length ≤ 1000 ∧ s2.length ≤ 1000 ∧ s3.length ≤ 1000 := by
  have h1 := h.b1
  have h2 := h.b2
  have h5 := h.b5
  have hw := h.w2
  unfold uprivS at hu
  by_cases hl : b.length = 128 + (ll + kk) * (32 * w) + kk * 416
  · rw [if_pos hl] at hu
    have hm : (ll + kk) * (32 * w) = ll * (32 * w) + kk * (32 * w) := Nat.add_mul _ _ _
    by_cases hc : (rdK a2 a2 ll (b.drop 128) && rdK a2 a2 kk ((b.drop 128).drop (ll * (32 * w)))) = true
    · rw [if_pos hc] at hu
      rw [Bool.and_eq_true] at hc
      simp only [Prod.mk.injEq] at hu
      obtain ⟨rfl, rfl, rfl, rfl, rfl, rfl, _⟩ := hu
      have d6 : (b.drop 128).length = b.length - 128 := List.length_drop
      have hbb := bytDrop hb 128
      generalize hB : b.drop 128 = B at *
      have d7 : (B.drop (ll * (32 * w))).length = B.length - ll * (32 * w) := List.length_drop
      have hbc := bytDrop hbb (ll * (32 * w))
      obtain ⟨p1, p2⟩ := rows_back (lo := a2) (hi := a2) ll B hbb (by rw [hw]; omega) hc.1
      obtain ⟨p3, p4⟩ := rows_back (lo := a2) (hi := a2) kk (B.drop (ll * (32 * w))) hbc (by rw [hw]; omega) hc.2
      have hd : kk * (32 * widS 4095 4096) ≤ ((B.drop (ll * (32 * w))).drop (kk * (32 * w))).length := by rw [fitU.2.1, List.length_drop]; omega
      obtain ⟨p5, p6⟩ := rows_back (lo := 4095) (hi := 4096) kk ((B.drop (ll * (32 * w))).drop (kk * (32 * w))) (bytDrop hbc _) hd (rdK_all fitU.1 fitU.2.2 kk _ hd)
      have l1 : (b.take 32).length = 32 := by rw [List.length_take]; omega
      have l2 : ((b.drop 32).take 32).length = 32 := by rw [List.length_take, List.length_drop]; omega
      have l3 : ((b.drop 64).take 64).length = 64 := by rw [List.length_take, List.length_drop]; omega
      refine ⟨?_, by omega, by omega, by omega, by rw [rdR_len]; omega, by rw [rdR_len]; omega, by rw [rdR_len]; omega⟩
      have hk' : kind3 (kk : Int) (ll : Int) a2 a3 a4 a5 a6 a7 := by have := hk; rw [h.e0, h.e1] at this; exact this
      unfold privS
      rw [p1, p2, p3, p4, p5, p6, rdR_len, rdR_len, rdR_len, l1, l2, l3, h.e0, h.e1, decide_eq_true hk']
      have e1 : (((32 : Nat) : Int) != 32) = false := by decide
      have e2 : (((64 : Nat) : Int) != 64) = false := by decide
      have e3 : ∀ n : Nat, (((n : Nat) : Int) != (n : Int)) = false := fun n => by simp
      rw [e1, e2, e3, e3]
      show (if true = true then _ else _) = _
      rw [if_pos rfl, hw, fitU.2.1, List.take_of_length_le (l := (B.drop (ll * (32 * w))).drop (kk * (32 * w))) (by rw [List.length_drop]; omega), List.append_assoc _ ((B.drop (ll * (32 * w))).take (kk * (32 * w))), List.take_append_drop, List.append_assoc _ (B.take (ll * (32 * w))), List.take_append_drop, ← hB]
      have e4 : (b.drop 64).take 64 ++ b.drop 128 = b.drop 64 := by
        have : b.drop 128 = (b.drop 64).drop 64 := by rw [List.drop_drop]
        rw [this, List.take_append_drop]
      have e5 : (b.drop 32).take 32 ++ b.drop 64 = b.drop 32 := by
        have : b.drop 64 = (b.drop 32).drop 32 := by rw [List.drop_drop]
        rw [this, List.take_append_drop]
      rw [List.append_assoc, e4, List.append_assoc, e5, List.take_append_drop]
    · rw [if_neg hc] at hu; cases (Prod.mk.inj (Prod.mk.inj (Prod.mk.inj (Prod.mk.inj (Prod.mk.inj (Prod.mk.inj hu).2).2).2).2).2).2
  · rw [if_neg hl] at hu; cases (Prod.mk.inj (Prod.mk.inj (Prod.mk.inj (Prod.mk.inj (Prod.mk.inj (Prod.mk.inj hu).2).2).2).2).2).2
theorem sig_back {a0 a1 a2 a3 a4 a5 a6 a7 : Int} {kk ll om sz w wz : Nat} (hk : kind3 a0 a1 a2 a3 a4 a5 a6 a7) (h : KD a0 a1 a2 a3 a4 a5 a6 a7 kk ll om sz w wz) (b : List Int) (hb : Byt b) {r1 : List Int} {z hh : List (Arr 256)} (hu : usigS kk ll om sz wz (isub .i32 a4 1) a4 b = (r1, z, hh, true)) :
    sigS a0 a1 a2 a3 a4 a5 a6 a7 r1 z hh = b ∧ r1.length ≤ 1000 ∧ z.length ≤ 1000 ∧ hh.length ≤ 1000 := by
  have h1 := h.b1
  have h2 := h.b2
  have h3 := h.b3
  have h4 := h.b4
  have h6 := h.b6
  have hw := h.w4
  unfold usigS at hu
  by_cases hl : b.length = sz + ll * (32 * wz) + om + kk
  · rw [if_pos hl] at hu
    by_cases hc : (unhV ((b.drop sz).drop (ll * (32 * wz))) (kk : Int) (om : Int)).2 = true
    · rw [if_pos hc] at hu
      simp only [Prod.mk.injEq] at hu
      obtain ⟨rfl, rfl, hx, _⟩ := hu
      have d6 : (b.drop sz).length = b.length - sz := List.length_drop
      have hbb := bytDrop hb sz
      generalize hB : b.drop sz = B at *
      have hbc := bytDrop hbb (ll * (32 * wz))
      have hd : ll * (32 * widS (isub .i32 a4 1) a4) ≤ B.length := by rw [hw]; omega
      obtain ⟨p1, p2⟩ := rows_back ll B hbb hd (rdK_all h.f4 h.al ll B hd)
      obtain ⟨q1, q2⟩ := hint_unh hbc (Prod.ext hx hc : unhV (B.drop (ll * (32 * wz))) (kk : Int) (om : Int) = (hh, true))
      have l1 : (b.take sz).length = sz := by rw [List.length_take]; omega
      refine ⟨?_, by omega, by rw [rdR_len]; omega, by omega⟩
      have hk' : kind3 (kk : Int) (ll : Int) a2 a3 a4 a5 (om : Int) (sz : Int) := by have := hk; rw [h.e0, h.e1, h.e6, h.e7] at this; exact this
      unfold sigS
      rw [p1, p2, rdR_len, l1, h.e0, h.e1, h.e6, h.e7, q1, decide_eq_true hk', if_pos q2, hw, List.length_drop, add64 (by omega) (by omega)]
      have e3 : ∀ n : Nat, (((n : Nat) : Int) != (n : Int)) = false := fun n => by simp
      have e4 : (((B.length - ll * (32 * wz) : Nat) : Int) != ((om : Int) + (kk : Int))) = false := by
        rw [bne_eq_false_iff_eq]
        omega
      rw [e3, e3, e4]
      show (if true = true then _ else _) = _
      rw [if_pos rfl, List.append_assoc, List.take_append_drop, ← hB, List.take_append_drop]
    · rw [if_neg hc] at hu; cases (Prod.mk.inj (Prod.mk.inj (Prod.mk.inj hu).2).2).2
  · rw [if_neg hl] at hu; cases (Prod.mk.inj (Prod.mk.inj (Prod.mk.inj hu).2).2).2
theorem tail_core (W : Option Bool) (n1 n2 : Prop) [Decidable n1] [Decidable n2] (L0 : Option (Unit ⊕ Bool)) (H : Option (List Int)) (UH : List Int → Option (List (Arr 256) × Bool)) (SP : List (Arr 256) → Option Bool) (UP : Option (List Int × List (Arr 256) × Bool)) (PU : List Int → List (Arr 256) → Option (List Int)) (UV : Option (List Int × List Int × List Int × List (Arr 256) × List (Arr 256) × List (Arr 256) × Bool)) (PV : List Int → List Int → List Int → List (Arr 256) → List (Arr 256) → List (Arr 256) → Option (List Int))
    (US : Option (List Int × List (Arr 256) × List (Arr 256) × Bool)) (PS : List Int → List (Arr 256) → List (Arr 256) → Option (List Int)) (M : List Int → Option Bool) (b : List Int) (h : List (Arr 256)) (hW : W = some true)
    (hg : ¬ n1 → ¬ n2 → L0 = some (.inl ()) ∧ (∃ p, H = some p ∧ (p ≠ [] → UH p = some (h, true))) ∧ SP h = some true ∧ M b = some true ∧ (∃ r1 r2 rk, UP = some (r1, r2, rk) ∧ (rk = true → PU r1 r2 = some b)) ∧ (∃ r1 r2 r3 r4 r5 r6 rk, UV = some (r1, r2, r3, r4, r5, r6, rk) ∧ (rk = true → PV r1 r2 r3 r4 r5 r6 = some b)) ∧ (∃ r1 r2 r3 rk, US = some (r1, r2, r3, rk) ∧ (rk = true → PS r1 r2 r3 = some b))) :
    (if n1 then (W.bind fun r4 => some r4) else (if n2 then (W.bind fun r5 => some r5) else (L0.bind fun t0 => (match t0 with | .inl _ => ((H.bind fun r20 => if (r20.length : Int) > 0 then ((UH r20).bind fun (r21, r22) => if r22 = true then ((SP r21).bind fun r23 => if r23 = true then (some (.inl ())) else (some (.inr false))) else (some (.inr false))) else (some (.inl ())) : Option ((Unit) ⊕ (Bool)))).bind fun tv57 => (match tv57 with | .inl _ => ((UP.bind fun (r24_0, r24_1, r25) => if r25 = true then ((PU r24_0 r24_1).bind fun r27 => (M r27).bind fun r28 => if r28 = true then (some (.inl ())) else (some (.inr false))) else (some (.inl ())) : Option ((Unit) ⊕ (Bool)))).bind fun tv72 => (match tv72 with | .inl _ => ((UV.bind fun (r30_0, r30_1, r30_2, r30_3, r30_4, r30_5, r31) => if r31 = true then ((PV r30_0 r30_1 r30_2 r30_3 r30_4 r30_5).bind fun r33 => (M r33).bind fun r34 => if r34 = true then (some (.inl ())) else (some (.inr false))) else (some (.inl ())) : Option ((Unit) ⊕ (Bool)))).bind fun tv81 => (match tv81 with | .inl _ => US.bind fun (r36_0, r36_1, r36_2, r37) => if r37 = true then ((PS r36_0 r36_1 r36_2).bind fun r39 => (M r39).bind fun r40 => if r40 = true then (W.bind fun r41 => some r41) else (some false)) else (W.bind fun r43 => some r43) | .inr r => some r) | .inr r => some r) | .inr r => some r) | .inr r => some r)))) = some true := by
  subst hW
  by_cases c1 : n1
  · rw [if_pos c1]; rfl
  rw [if_neg c1]
  by_cases c2 : n2
  · rw [if_pos c2]; rfl
  rw [if_neg c2]
  obtain ⟨hL, ⟨p, hH, hUH⟩, hSP, hM, ⟨u1, u2, uk, hU, hPU⟩, ⟨v1, v2, v3, v4, v5, v6, vk, hV, hPV⟩, w1, w2, w3, wk, hS, hPS⟩ := hg c1 c2
  rw [hL, hH, hU, hV, hS]
  have e1 : (if (p.length : Int) > 0 then ((UH p).bind fun (r21, r22) => if r22 = true then ((SP r21).bind fun r23 => if r23 = true then (some (.inl ())) else (some (.inr false))) else (some (.inr false))) else (some (.inl ())) : Option ((Unit) ⊕ (Bool))) = some (.inl ()) := by
    by_cases hp : p = []
    · subst hp; rfl
    · have : (p.length : Int) > 0 := by
        cases p with
        | nil => exact absurd rfl hp
        | cons _ _ => simp
      rw [if_pos this, hUH hp, Option.bind_some]
      dsimp only
      rw [if_pos rfl, hSP]
      rfl
  simp only [Option.bind_some, e1]
  cases uk with
  | false =>
    cases vk with
    | false =>
      cases wk with
      | false => rfl
      | true => simp only [hPS rfl, Option.bind_some, hM, if_true, Bool.false_eq_true, if_false]
    | true =>
      cases wk with
      | false => simp only [hPV rfl, Option.bind_some, hM, if_true, Bool.false_eq_true, if_false]
      | true => simp only [hPV rfl, hPS rfl, Option.bind_some, hM, if_true, Bool.false_eq_true, if_false]
  | true =>
    cases vk with
    | false =>
      cases wk with
      | false => simp only [hPU rfl, Option.bind_some, hM, if_true, Bool.false_eq_true, if_false]
      | true => simp only [hPU rfl, hPS rfl, Option.bind_some, hM, if_true, Bool.false_eq_true, if_false]
    | true =>
      cases wk with
      | false => simp only [hPU rfl, hPV rfl, Option.bind_some, hM, if_true, Bool.false_eq_true, if_false]
      | true => simp only [hPU rfl, hPV rfl, hPS rfl, Option.bind_some, hM, if_true]
theorem DpackBack : law22_DpackBack.Pure := by
  intro a0 h0 a ha b hb h hh
  refine ⟨60000, ?_⟩
  have hb' := bytB hb
  obtain ⟨b1, b2, b3, b4, b5, b6, b7, b8, hk, hk3⟩ := kind_of a0 h0
  obtain ⟨kk, ll, om, sz, w, wz, hKD⟩ := kinds hk3
  unfold law22_DpackBack.f
  rw [hk, Option.bind_some]
  dsimp only
  refine tail_core _ _ _ _ _ (fun p => dpack_Unhints.f 60000 p (h.length : Int) b7) (fun l => ref22_Same.f 60000 l h) _ (fun r1 r2 => dpack_Public.f 60000 b1 b2 b3 b4 b5 b6 b7 b8 r1 r2) _ (fun r1 r2 r3 r4 r5 r6 => dpack_Private.f 60000 b1 b2 b3 b4 b5 b6 b7 b8 r1 r2 r3 r4 r5 r6) _ (fun r1 r2 r3 => dpack_Sig.f 60000 b1 b2 b3 b4 b5 b6 b7 b8 r1 r2 r3) (fun x => ref01_Same.f 60000 x b) b h awake22 fun c1 c2 => ?_
  refine ⟨back_l0 a b hb' (by omega) b5 59995, ⟨hintS h b7, dHints 60000 (by decide) h b7, fun hp => ?_⟩, sameP 60000 h (by omega) (by omega), ref01_Same_self 60000 b (by omega) (by omega), ?_, ?_, ?_⟩
  · show dpack_Unhints.f 60000 (hintS h b7) (h.length : Int) b7 = _
    rw [dUnhints 60000 (by decide) _ (hintS_byt h b7), unh_hint hp]
  · obtain ⟨r1, r2, rk, hu⟩ : ∃ r1 r2 rk, upubS kk b = (r1, r2, rk) := ⟨_, _, _, rfl⟩
    refine ⟨r1, r2, rk, by rw [dUnPublic hKD b hb', hu], fun hr => ?_⟩
    subst hr
    obtain ⟨q1, q2, q3⟩ := pub_back hk3 hKD b hb' hu
    show dpack_Public.f 60000 b1 b2 b3 b4 b5 b6 b7 b8 r1 r2 = some b
    rw [dPublic b1 b2 b3 b4 b5 b6 b7 b8 r1 q2 r2 q3, q1]
  · obtain ⟨r1, r2, r3, s1, s2, s3, rk, hu⟩ : ∃ r1 r2 r3 s1 s2 s3 rk, uprivS kk ll w b3 b = (r1, r2, r3, s1, s2, s3, rk) := ⟨_, _, _, _, _, _, _, rfl⟩
    refine ⟨r1, r2, r3, s1, s2, s3, rk, by rw [dUnPrivate hKD b hb', hu], fun hr => ?_⟩
    subst hr
    obtain ⟨q1, q2, q3, q4, q5, q6, q7⟩ := priv_back hk3 hKD b hb' hu
    show dpack_Private.f 60000 b1 b2 b3 b4 b5 b6 b7 b8 r1 r2 r3 s1 s2 s3 = some b
    rw [dPrivate b1 b2 b3 b4 b5 b6 b7 b8 r1 r2 r3 q2 q3 q4 s1 s2 s3 q5 q6 q7, q1]
  · obtain ⟨r1, z, hq, rk, hu⟩ : ∃ r1 z hq rk, usigS kk ll om sz wz (isub .i32 b5 1) b5 b = (r1, z, hq, rk) := ⟨_, _, _, _, rfl⟩
    refine ⟨r1, z, hq, rk, by rw [dUnSig hKD b hb', hu], fun hr => ?_⟩
    subst hr
    obtain ⟨q1, q2, q3, q4⟩ := sig_back hk3 hKD b hb' hu
    show dpack_Sig.f 60000 b1 b2 b3 b4 b5 b6 b7 b8 r1 z hq = some b
    rw [dSig b1 b2 b3 b4 b5 b6 b7 b8 r1 q2 z hq q3 q4, q1]
end Go.Proofs.Ytblploekkjeolaa.Pure
