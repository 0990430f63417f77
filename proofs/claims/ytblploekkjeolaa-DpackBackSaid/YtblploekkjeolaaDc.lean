/- Layer 22 (dpack), plain laws: numbers as bytes are the document's. -/
import Derived.Test.YtblploekkjeolaaDb
set_option linter.unusedSimpArgs false
set_option linter.unusedVariables false
set_option maxRecDepth 100000
namespace Go.Proofs.Ytblploekkjeolaa
open Go Go.Mx
/-- a number about 0 -/
def cen (x : Int) : Int := if x > 4190208 then x - 8380417 else x
/-- may it be packed? -/
def okP (low high x : Int) : Bool := if low < 0 then decide (x ≤ high) else decide (-low ≤ cen x) && decide (cen x ≤ high)
/-- as what -/
def valP (low high x : Int) : Nat := if low < 0 then x.toNat else (high - cen x).toNat
def packS (low high : Int) (a : Arr 256) : List Int :=
  if fitS low high = true then
    if allA fitQ a = true then
      if (List.range 256).all (fun (i : Nat) => okP low high (rd a (i : Int))) = true then dig 8 ((widS low high * 256 + 7) / 8) (ND (widS low high) ((List.range 256).map fun (i : Nat) => valP low high (rd a (i : Int)))) else []
    else []
  else []
theorem dTurned (K : Nat) {low high x : Int} (hf : fitS low high = true) (h0 : 0 ≤ x) (h1 : x < 8380417) : ∃ v, dpack_span_turned.f K low high x = some (v, okP low high x) ∧ (okP low high x = true → v = (valP low high x : Int) ∧ valP low high x < 2 ^ 32) := by
  obtain ⟨l0, l1, l2, l3⟩ := fitS_iff.1 hf
  unfold dpack_span_turned.f okP valP
  by_cases hl : low < 0
  · rw [if_pos hl, if_pos hl, if_pos hl]
    have e : iconv .u32 x = x := by unfold iconv; rw [wu32]; omega
    refine ⟨x, by rw [e]; rfl, fun _ => ⟨by omega, by omega⟩⟩
  · rw [if_neg hl, if_neg hl, if_neg hl]
    have ec : ((if x > 4190208 then ((some (isub .i32 x 8380417)).bind fun x4 => some x4) else (some x) : Option (Int))) = some (cen x) := by
      unfold cen
      split
      · rw [sub32 (by omega) (by omega)]; rfl
      · rfl
    have hc : -4190209 ≤ cen x ∧ cen x ≤ 4190208 := by unfold cen; split <;> omega
    rw [ec, Option.bind_some, sub32 (by omega) (by omega), sub32 (by omega) (by omega)]
    by_cases h2 : cen x ≥ 0 - low
    · rw [if_pos h2, Option.bind_some]
      refine ⟨iconv .u32 (high - cen x), by rw [decide_eq_true (p := -low ≤ cen x) (by omega), Bool.true_and], fun h => ?_⟩
      simp only [Bool.and_eq_true, decide_eq_true_iff] at h
      unfold iconv
      rw [wu32]
      omega
    · rw [if_neg h2, Option.bind_some]
      refine ⟨iconv .u32 (high - cen x), by rw [decide_eq_false (p := -low ≤ cen x) (by omega), Bool.false_and], fun h => ?_⟩
      simp only [Bool.and_eq_true, decide_eq_true_iff] at h
      omega
theorem nats_map (low high : Int) (a : Arr 256) : ((List.range 256).map fun i => valP low high (rd a (i : Nat))).map (fun (n : Nat) => (n : Int)) = (List.range 256).map fun i => ((valP low high (rd a (i : Nat)) : Nat) : Int) := by
  rw [List.map_map]
  rfl
theorem vals_lt {low high : Int} {a : Arr 256} (hf : fitS low high = true) (ha : FitP a) (hall : (List.range 256).all (fun i => okP low high (rd a (i : Nat))) = true) : ∀ x ∈ ((List.range 256).map fun i => valP low high (rd a (i : Nat))), x < 2 ^ 32 := by
  intro x hx
  obtain ⟨i, hi, rfl⟩ := List.mem_map.1 hx
  have hi' := List.mem_range.1 hi
  obtain ⟨v, _, h⟩ := dTurned 0 hf (ha i hi').1 (ha i hi').2
  exact (h (List.all_eq_true.1 hall i hi)).2
theorem dPack (K : Nat) (hK : 256 < K) (a : Arr 256) (low high : Int) : dpack_Pack.f K a low high = some (packS low high a) := by
  unfold dpack_Pack.f packS
  rw [dFit, Option.bind_some]
  by_cases hf : fitS low high = true
  · obtain ⟨w1, w2⟩ := widS_bd hf
    rw [if_pos hf, if_pos hf, zq_Fit_eq K hK, Option.bind_some]
    by_cases hq : allA fitQ a = true
    · have ha := fitP_of hq
      rw [if_pos hq, if_pos hq]
      have hloop := loop_wrL (n := 256) (fun k i z => dpack_Pack.l0 K k a low high i z) (fun i => okP low high (rd a i)) (fun i => ((valP low high (rd a i) : Nat) : Int)) ([] : List Int) (fun z => z) ?_ ?_ ?_ K hK (List.replicate (256 : Int).toNat (Cod.zero (CI .u32))) (by rw [List.length_replicate]; decide)
      · rw [hloop, Option.bind_some]
        by_cases hall : (List.range 256).all (fun i => okP low high (rd a (i : Nat))) = true
        · rw [if_pos hall, if_pos hall]
          have hp := bits_Pack_eq K (widS low high) ((List.range 256).map fun i => valP low high (rd a (i : Nat))) (vals_lt hf ha hall) w1 (by omega) (by simp) (by omega) (by simp; omega)
          rw [nats_map, List.length_map, List.length_range] at hp
          show ((dpack_span_width.f K low high).bind fun r12 => (bits_Pack.f K ((List.range 256).map fun i => ((valP low high (rd a (i : Nat)) : Nat) : Int)) r12).bind fun r13 => if ¬ (r13).isEmpty = true then (some r13) else none) = _
          have hne : ¬ (dig 8 ((widS low high * 256 + 7) / 8) (ND (widS low high) ((List.range 256).map fun i => valP low high (rd a (i : Nat))))).isEmpty = true := fun he => by
            have h1 := congrArg List.length (List.isEmpty_iff.1 he)
            rw [dig_len, List.length_nil] at h1
            omega
          rw [dWid K hf, Option.bind_some, hp, Option.bind_some, if_pos hne]
        · rw [if_neg hall, if_neg hall]
      · intro k i z hi hz hp
        obtain ⟨v, hv, hv2⟩ := dTurned K hf (ha i hi).1 (ha i hi).2
        obtain ⟨rfl, _⟩ := hv2 hp
        have c1 : (0 : Int) ≤ (i : Int) := by omega
        have c2 : (i : Int) < 256 := by omega
        have c3 : (i : Int) < (z.length : Int) := by omega
        have hi1 : iadd .i64 (i : Int) 1 = ((i + 1 : Nat) : Int) := by rw [add64 (by omega) (by omega)]; omega
        have hp' : okP low high (rd a (i : Int)) = true := hp
        simp only [dpack_Pack.l0, c1, c2, if_true, Option.bind_some, hv, hp', c3, hi1]
      · intro k i z hi hz hp
        obtain ⟨v, hv, hv2⟩ := dTurned K hf (ha i hi).1 (ha i hi).2
        have c1 : (0 : Int) ≤ (i : Int) := by omega
        have c2 : (i : Int) < 256 := by omega
        have hp' : okP low high (rd a (i : Int)) = false := hp
        simp only [dpack_Pack.l0, c1, c2, if_true, Option.bind_some, hv, hp', Bool.false_eq_true, if_false]
      · intro k z
        have c0 : ¬ ((256 : Nat) : Int) < 256 := by decide
        simp only [dpack_Pack.l0, c0, if_false]
    · rw [if_neg hq, if_neg hq]
  · rw [if_neg hf, if_neg hf]
theorem packS_byt (low high : Int) (a : Arr 256) : Byt (packS low high a) := by
  unfold packS
  (repeat' split) <;> first | exact dig_byt _ _ | exact Byt.nil
theorem packS_len (low high : Int) (a : Arr 256) : (packS low high a).length ≤ 704 := by
  unfold packS
  split
  · rename_i hf
    obtain ⟨_, w2⟩ := widS_bd hf
    (repeat' split) <;> first | (rw [dig_len]; omega) | exact Nat.zero_le _
  · exact Nat.zero_le _
end Go.Proofs.Ytblploekkjeolaa
