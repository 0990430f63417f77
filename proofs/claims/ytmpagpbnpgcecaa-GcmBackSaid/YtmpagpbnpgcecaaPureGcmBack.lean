/- Layer 12: there and back: what is sealed is opened as it was, and what is opened is sealed as it was read; in plain Lean. -/
import Derived.Test.YtmpagpbnpgcecaaLGcmBack
import Derived.Test.YtmpagpbnpgcecaaGe
import Derived.Test.YtmpagpbnpgcecaaGf
set_option linter.unusedSimpArgs false
set_option linter.unusedVariables false
set_option maxRecDepth 100000
namespace Go.Proofs.Ytmpagpbnpgcecaa.Pure
open Go Go.Mx
theorem first {a0 a1 a2 a3 : List Int} (h0 : InL .u8 a0) (h1 : InL .u8 a1) (h2 : InL .u8 a2) (h3 : InL .u8 a3) (l2 : a2.length ≤ 100) (l3 : a3.length ≤ 100) : ∃ x e, gcm_Seal.f 1000 a0 a1 a2 a3 = some (x, e) ∧
    ((e = 0 ∧ gcm_Open.f 1000 a0 a1 a2 x = some (a3, 0) ∧ x.length = a3.length + 16 ∧ gcm_Open.f 1000 a0 a1 a2 (wrL x ((x.length - 1 : Nat) : Int) (ixor .u8 (rdL (CI .u8) x ((x.length - 1 : Nat) : Int)) 1)) = some ([], 17)) ∨ (¬ e = 0 ∧ x = [])) := by
  by_cases h : Szk a0 ∧ a1.length = 12
  · obtain ⟨hs, ln⟩ := h
    obtain ⟨E, hE⟩ := cak_of h0 hs
    obtain ⟨_, _, _, b4, b5⟩ := gBlk hE h1 ln 1
    have sl : (str E a1 a3.length 2 a3).length = a3.length := str_len hE h1 ln _ _ (by omega)
    have si := str_in hE h1 ln a3.length 2 h3
    have tl := tgv_len (E := E) (beside := a2) (b := str E a1 a3.length 2 a3) b4
    have ti := tgv_in (E := E) (beside := a2) (b := str E a1 a3.length 2 a3) b5
    have e1 := gSeal hs hE h1 ln h2 (by omega) h3 (by omega)
    have e2 := gOpen hs hE h1 ln h2 (by omega) si ti (by omega) tl
    rw [if_pos rfl, sl, str_twice hE h1 ln _ _ h3 (by omega)] at e2
    have xl : (str E a1 a3.length 2 a3 ++ tgv E (E (a1 ++ be4 1)) a2 (str E a1 a3.length 2 a3)).length = a3.length + 16 := by rw [List.length_append, sl, tl]
    refine ⟨_, _, e1, .inl ⟨rfl, e2, xl, ?_⟩⟩
    have h15 : 15 < (tgv E (E (a1 ++ be4 1)) a2 (str E a1 a3.length 2 a3)).length := by omega
    have r1 : rdL (CI .u8) (str E a1 a3.length 2 a3 ++ tgv E (E (a1 ++ be4 1)) a2 (str E a1 a3.length 2 a3)) ((((str E a1 a3.length 2 a3 ++ tgv E (E (a1 ++ be4 1)) a2 (str E a1 a3.length 2 a3)).length - 1 : Nat)) : Int) = (tgv E (E (a1 ++ be4 1)) a2 (str E a1 a3.length 2 a3))[15] := by
      rw [rdL_get (by omega), List.getElem_append_right (by omega)]
      simp only [xl, sl]
      congr 1
      omega
    have hin := ti _ (List.getElem_mem h15)
    obtain ⟨y, hy, hy2⟩ := byte_nat ti (List.getElem_mem h15)
    have hx1 := Nat.xor_lt_two_pow (n := 8) (x := y) (y := 1) (by omega) (by decide)
    have ex : ixor .u8 (y : Int) 1 = ((y ^^^ 1 : Nat) : Int) := ixor_nat (k := .u8) (x := y) (y := 1) (show y < 2 ^ 8 by omega) (by decide)
    have ne : y ^^^ 1 ≠ y := fun q => by
      have q2 : y ^^^ (y ^^^ 1) = y ^^^ y := by rw [q]
      rw [← Nat.xor_assoc, Nat.xor_self, Nat.zero_xor] at q2
      cases q2
    have w1 : wrL (str E a1 a3.length 2 a3 ++ tgv E (E (a1 ++ be4 1)) a2 (str E a1 a3.length 2 a3)) ((((str E a1 a3.length 2 a3 ++ tgv E (E (a1 ++ be4 1)) a2 (str E a1 a3.length 2 a3)).length - 1 : Nat)) : Int) ((y ^^^ 1 : Nat) : Int) = str E a1 a3.length 2 a3 ++ (tgv E (E (a1 ++ be4 1)) a2 (str E a1 a3.length 2 a3)).set 15 ((y ^^^ 1 : Nat) : Int) := by
      unfold wrL
      rw [Int.toNat_natCast, List.set_append_right _ _ (by omega), xl, sl, show a3.length + 16 - 1 - a3.length = 15 by omega]
    have mi : InL .u8 ((tgv E (E (a1 ++ be4 1)) a2 (str E a1 a3.length 2 a3)).set 15 ((y ^^^ 1 : Nat) : Int)) := fun x hx => by
      rcases List.mem_or_eq_of_mem_set hx with hx | rfl
      · exact ti x hx
      · exact (⟨by omega, by omega⟩ : (0 : Int) ≤ ((y ^^^ 1 : Nat) : Int) ∧ ((y ^^^ 1 : Nat) : Int) ≤ 255)
    have ml : ((tgv E (E (a1 ++ be4 1)) a2 (str E a1 a3.length 2 a3)).set 15 ((y ^^^ 1 : Nat) : Int)).length = 16 := by rw [List.length_set, tl]
    have e3 := gOpen hs hE h1 ln h2 (by omega) si mi (by omega) ml
    rw [r1, hy, ex, w1, e3, if_neg fun q => ?_]
    have q2 := congrArg (fun l : List Int => l.getD 15 0) q
    simp only [List.getD_eq_getElem?_getD, List.getElem?_eq_getElem h15, List.getElem?_set_self h15, Option.getD_some] at q2
    rw [hy] at q2
    exact ne (by omega)
  · obtain ⟨e, e1, e2⟩ := gSeal_no (beside := a2) (t := a3) h
    exact ⟨_, _, e2, .inr ⟨e1, rfl⟩⟩
theorem second {a0 a1 a2 a4 : List Int} (h0 : InL .u8 a0) (h1 : InL .u8 a1) (h2 : InL .u8 a2) (h4 : InL .u8 a4) (l2 : a2.length ≤ 100) (l4 : a4.length ≤ 100) : ∃ y f, gcm_Open.f 1000 a0 a1 a2 a4 = some (y, f) ∧
    ((f = 0 ∧ gcm_Seal.f 1000 a0 a1 a2 y = some (a4, 0)) ∨ (¬ f = 0 ∧ y = [])) := by
  by_cases h : Szk a0 ∧ a1.length = 12 ∧ 16 ≤ a4.length
  · obtain ⟨hs, ln, l16⟩ := h
    obtain ⟨E, hE⟩ := cak_of h0 hs
    have ci := g_take h4 (a4.length - 16)
    have mi := g_drop h4 (a4.length - 16)
    have cl : (a4.take (a4.length - 16)).length = a4.length - 16 := by rw [List.length_take]; omega
    have ml : (a4.drop (a4.length - 16)).length = 16 := by rw [List.length_drop]; omega
    have e1 := gOpen hs hE h1 ln h2 (by omega) ci mi (by omega) ml
    rw [List.take_append_drop] at e1
    by_cases hm : tgv E (E (a1 ++ be4 1)) a2 (a4.take (a4.length - 16)) = a4.drop (a4.length - 16)
    · rw [if_pos hm] at e1
      have pl : (str E a1 (a4.take (a4.length - 16)).length 2 (a4.take (a4.length - 16))).length = (a4.take (a4.length - 16)).length := str_len hE h1 ln _ _ (by omega)
      have e2 := gSeal hs hE h1 ln h2 (by omega) (str_in hE h1 ln (a4.take (a4.length - 16)).length 2 ci) (by omega)
      rw [pl, str_twice hE h1 ln _ _ ci (by omega), hm, List.take_append_drop] at e2
      exact ⟨_, _, e1, .inl ⟨rfl, e2⟩⟩
    · rw [if_neg hm] at e1
      exact ⟨_, _, e1, .inr ⟨by decide, rfl⟩⟩
  · obtain ⟨e, e1, e2⟩ := gOpen_no (beside := a2) h
    exact ⟨_, _, e2, .inr ⟨e1, rfl⟩⟩
theorem GcmBack : law12_GcmBack.Pure := by
  intro a0 h0 a1 h1 a2 h2 a3 h3 a4 h4
  refine ⟨1000, ?_⟩
  unfold law12_GcmBack.f
  rcases gFew (W := [a0, a1, a2, a3, a4]) (show 5 < 900 by decide) with hf | ⟨hf, hl⟩
  · simp only [hf, awake12, Bool.false_eq_true, if_false, Option.bind_some]
  have l2 : a2.length ≤ 100 := hl a2 (by simp)
  have l3 : a3.length ≤ 100 := hl a3 (by simp)
  have l4 : a4.length ≤ 100 := hl a4 (by simp)
  obtain ⟨x, e, p1, p2⟩ := first h0 h1 h2 h3 l2 l3
  obtain ⟨y, f, q1, q2⟩ := second h0 h1 h2 h4 l2 l4
  have s3 := gsame 1000 (y := a3) (by omega) (by omega)
  have s4 := gsame 1000 (y := a4) (by omega) (by omega)
  have z0 : ((([] : List Int).length : Nat) : Int) = 0 := rfl
  have z1 : ¬ ((([] : List Int).length : Nat) : Int) > 0 := by decide
  have z2 : ¬ (0 : Int) > 0 := by decide
  rcases p2 with ⟨rfl, p3, p4, p5⟩ | ⟨p3, rfl⟩
  · have d0 : ((x.length : Nat) : Int) = iadd .i64 ((a3.length : Nat) : Int) 16 := by rw [add64 (by omega) (by omega)]; omega
    have d1 : isub .i64 ((x.length : Nat) : Int) 1 = ((x.length - 1 : Nat) : Int) := by rw [sub64 (by omega) (by omega)]; omega
    have d2 : (0 : Int) ≤ ((x.length - 1 : Nat) : Int) := by omega
    have d3 : ((x.length - 1 : Nat) : Int) < ((x.length : Nat) : Int) := by omega
    have d4 : ([] : List Int).length + x.length ≤ 140737488355328 := by rw [List.length_nil]; omega
    rcases q2 with ⟨rfl, q3⟩ | ⟨q3, rfl⟩
    · simp only [hf, p1, p3, p5, s3, List.nil_append, d4, d1, d2, d3, ← d0, q1, q3, s4, z1, z2, awake12, if_true, if_false, Option.bind_some]
    · simp only [hf, p1, p3, p5, s3, List.nil_append, d4, d1, d2, d3, ← d0, q1, q3, s4, z0, z1, z2, awake12, if_true, if_false, Option.bind_some]
  · rcases q2 with ⟨rfl, q3⟩ | ⟨q3, rfl⟩
    · simp only [hf, p1, p3, z1, z2, q1, q3, s4, awake12, if_true, if_false, Option.bind_some]
    · simp only [hf, p1, p3, z0, z1, z2, q1, q3, s4, awake12, if_true, if_false, Option.bind_some]
end Go.Proofs.Ytmpagpbnpgcecaa.Pure
