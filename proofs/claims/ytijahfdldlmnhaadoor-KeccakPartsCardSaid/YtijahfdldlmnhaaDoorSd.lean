/- Layer 8 (keccak), plain laws: sums; what can be; the chapter's examples. -/
import Derived.Test.YtijahfdldlmnhaaDoorSc
set_option linter.unusedSimpArgs false
set_option linter.unusedVariables false
set_option maxRecDepth 100000
namespace Go.Proofs.YtijahfdldlmnhaaDoor
open Go Go.Mx
theorem ref01_Same_l0 (K : Nat) (a : List Int) (ha : a.length ≤ 9223372036854775807) : ∀ (r i k : Nat), i + r = a.length → r < k → ref01_Same.l0 K k a a (i : Int) = some (.inl ()) := by
  intro r
  induction r with
  | zero =>
    intro i k hi hk
    obtain ⟨k, rfl⟩ : ∃ m, k = m + 1 := ⟨k - 1, by omega⟩
    simp only [ref01_Same.l0, show ¬ (i : Int) < (a.length : Int) by omega, if_false]
  | succ r ih =>
    intro i k hi hk
    obtain ⟨k, rfl⟩ : ∃ m, k = m + 1 := ⟨k - 1, by omega⟩
    have e4 : iadd .i64 (i : Int) 1 = ((i + 1 : Nat) : Int) := by rw [add64 (by omega) (by omega)]; rfl
    simp only [ref01_Same.l0, show (i : Int) < (a.length : Int) by omega, if_true, show (0 : Int) ≤ (i : Int) by omega, Option.bind_some, e4]
    exact ih (i + 1) k (by omega) (by omega)
theorem ref01_Same_self (K : Nat) (a : List Int) (ha : a.length ≤ 9223372036854775807) (hK : a.length < K) : ref01_Same.f K a a = some true := by
  unfold ref01_Same.f
  rw [if_pos rfl]
  have := ref01_Same_l0 K a ha a.length 0 K (by omega) hK
  have h0 : ((0 : Nat) : Int) = 0 := rfl
  rw [h0] at this
  rw [this]
  rfl
/-! ### sums -/
def newV (kind : Int) : Int × Arr 25 × Int × Bool × Int := if rateN kind = 0 then (0, zeroA 25, 0, false, 9) else (kind, zeroA 25, 0, false, 0)
theorem kNew (kind : Int) : keccak_New.f 1000 kind = some (newV kind) := by
  unfold keccak_New.f newV
  rw [rate_eq, Option.bind_some]
  by_cases h : rateN kind = 0
  · rw [if_pos h, if_pos (by omega)]
  · rw [if_neg h, if_neg (by omega)]
theorem rNew (kind : Int) : ref08_New.f 1000 kind = some (newV kind) := by
  unfold ref08_New.f newV
  rw [rate_eq', Option.bind_some]
  by_cases h : rateN kind = 0
  · rw [if_pos h, if_pos (by omega)]
  · rw [if_neg h, if_neg (by omega)]
theorem fit_new {kind : Int} (h : rateN kind ≠ 0) : FitS kind (zeroA 25, 0) false :=
  ⟨fun i hi => by show W64 (rd (zeroA 25) (i : Nat)); rw [rd_zeroA _ hi]; constructor <;> decide, by omega, by rw [if_neg (by decide)]; show 0 < rateN kind; omega⟩
/-- a sum of bytes -/
def sumV (kind : Int) (b : List Int) (n : Int) : List Int × Int :=
  if rateN kind = 0 then ([], 9) else if n < 0 then ([], 8) else if n > 16777216 then ([], 8) else ((sqV kind (absV kind (zeroA 25, 0) false b) false n).1, 0)
theorem kSum (kind : Int) (b : List Int) (hb : b.length ≤ 900) (n : Int) (hn : n ≤ 900 ∨ n > 16777216) : keccak_Sum.f 1000 kind b n = some (sumV kind b n) := by
  unfold keccak_Sum.f sumV
  rw [kNew, Option.bind_some]
  by_cases h : rateN kind = 0
  · rw [if_pos h, show newV kind = (0, zeroA 25, 0, false, 9) by unfold newV; rw [if_pos h]]
    rfl
  · rw [if_neg h, show newV kind = (kind, zeroA 25, 0, false, 0) by unfold newV; rw [if_neg h]]
    show (if (0 : Int) = 0 then _ else _) = _
    rw [if_pos rfl]
    by_cases h0 : n < 0
    · rw [if_pos h0, if_pos h0]
    rw [if_neg h0, if_neg h0]
    by_cases h1 : n > 16777216
    · rw [if_pos h1, if_pos h1]
    rw [if_neg h1, if_neg h1]
    have f := fit_new h
    have e1 := kAbs kind (zeroA 25, 0) false f b hb
    have e2 := kSq kind _ false (fit_abs f b) n (by omega)
    rw [show (((zeroA 25, 0) : Arr 25 × Nat).2 : Int) = 0 from rfl] at e1
    rw [e1]
    show ((keccak_Squeeze.f 1000 kind (absV kind (zeroA 25, 0) false b).1 ((absV kind (zeroA 25, 0) false b).2 : Int) false n).bind _) = _
    rw [e2]
    rfl
theorem rSum (kind : Int) (b : List Int) (hb : b.length ≤ 900) (n : Int) (hn : n ≤ 900 ∨ n > 16777216) : ref08_Sum.f 1000 kind b n = some (sumV kind b n) := by
  unfold ref08_Sum.f sumV
  rw [rNew, Option.bind_some]
  by_cases h : rateN kind = 0
  · rw [if_pos h, show newV kind = (0, zeroA 25, 0, false, 9) by unfold newV; rw [if_pos h]]
    rfl
  · rw [if_neg h, show newV kind = (kind, zeroA 25, 0, false, 0) by unfold newV; rw [if_neg h]]
    show (if (0 : Int) = 0 then _ else _) = _
    rw [if_pos rfl]
    by_cases h0 : n < 0
    · rw [if_pos h0, if_pos h0]
    rw [if_neg h0, if_neg h0]
    by_cases h1 : n > 16777216
    · rw [if_pos h1, if_pos h1]
    rw [if_neg h1, if_neg h1]
    have f := fit_new h
    have e1 := rAbs kind (zeroA 25, 0) false f b hb
    have e2 := rSq kind _ false (fit_abs f b) n (by omega)
    rw [show (((zeroA 25, 0) : Arr 25 × Nat).2 : Int) = 0 from rfl] at e1
    rw [e1]
    show ((ref08_Squeeze.f 1000 kind (absV kind (zeroA 25, 0) false b).1 ((absV kind (zeroA 25, 0) false b).2 : Int) false n).bind _) = _
    rw [e2]
    rfl
theorem sqV_len (kind : Int) (s : Arr 25 × Nat) (o : Bool) (n : Int) : (sqV kind s o n).1.length = n.toNat := by
  unfold sqV
  split
  · simp; omega
  · exact sq_len _ _ _
theorem sumV_len (kind : Int) (b : List Int) (n : Int) (hn : n ≤ 900 ∨ n > 16777216) : (sumV kind b n).1.length ≤ 900 := by
  unfold sumV
  (repeat' split) <;> first | (show (sqV _ _ _ _).1.length ≤ 900; rw [sqV_len]; omega) | exact Nat.zero_le _
/-! ### what can be -/
def fitB (kind : Int) (t : Int) (o : Bool) : Bool := decide (0 < rateN kind) && (decide (0 ≤ t) && (if o = true then decide (t ≤ (rateN kind : Int)) else decide (t < (rateN kind : Int))))
theorem kFit (K : Nat) (kind : Int) (a : Arr 25) (t : Int) (o : Bool) : keccak_Fit.f K kind a t o = some (fitB kind t o) := by
  have hr := rate_le kind
  unfold keccak_Fit.f fitB
  rw [rate_eq, Option.bind_some]
  have hs : isub .i64 ((rateN kind : Nat) : Int) 1 = (rateN kind : Int) - 1 := sub64 (by omega) (by omega)
  have e : ((if o = true then (some ((rateN kind : Nat) : Int)) else ((some (isub .i64 ((rateN kind : Nat) : Int) 1)).bind fun x4 => some x4) : Option (Int))) = some (if o = true then (rateN kind : Int) else (rateN kind : Int) - 1) := by
    cases o
    · rw [if_neg (by decide), if_neg (by decide), Option.bind_some, hs]
    · rfl
  rw [e, Option.bind_some, Option.bind_some]
  by_cases h0 : 0 < rateN kind
  · rw [if_pos (by omega)]
    by_cases h1 : t ≥ 0
    · rw [if_pos h1]
      refine congrArg some ?_
      cases o
      · show decide (t ≤ (rateN kind : Int) - 1) = (decide (0 < rateN kind) && (decide (0 ≤ t) && decide (t < (rateN kind : Int))))
        rw [decide_eq_true h0, decide_eq_true h1, Bool.true_and, Bool.true_and]
        exact decide_eq_decide.2 (by omega)
      · show decide (t ≤ (rateN kind : Int)) = (decide (0 < rateN kind) && (decide (0 ≤ t) && decide (t ≤ (rateN kind : Int))))
        rw [decide_eq_true h0, decide_eq_true h1, Bool.true_and, Bool.true_and]
    · rw [if_neg h1, decide_eq_false (p := 0 ≤ t) h1]
      simp
  · rw [if_neg (by omega)]
    simp [h0]
theorem rFit (K : Nat) (kind : Int) (a : Arr 25) (t : Int) (o : Bool) : ref08_Fit.f K kind a t o = some (fitB kind t o) := by
  unfold ref08_Fit.f fitB
  rw [rate_eq', Option.bind_some]
  by_cases h0 : 0 < rateN kind
  · rw [if_pos (by omega)]
    by_cases h1 : t ≥ 0
    · rw [if_pos h1]
      by_cases h2 : t < (rateN kind : Int)
      · rw [if_pos h2]
        refine congrArg some ?_
        cases o <;> simp [h0] <;> omega
      · rw [if_neg h2]
        cases o
        · rw [if_neg (by decide)]
          refine congrArg some ?_
          simp [h0]; omega
        · rw [if_pos rfl]
          refine congrArg some ?_
          show (t == (rateN kind : Int)) = (decide (0 < rateN kind) && (decide (0 ≤ t) && decide (t ≤ (rateN kind : Int))))
          rw [decide_eq_true h0, decide_eq_true h1, Bool.true_and, Bool.true_and, Bool.eq_iff_iff, beq_iff_eq, decide_eq_true_iff]
          omega
    · rw [if_neg h1]
      refine congrArg some ?_
      simp
      intro _ h; omega
  · rw [if_neg (by omega)]
    simp [h0]
theorem fit_of {kind : Int} {a : Arr 25} {t : Int} {o : Bool} (ha : InW a) (h : fitB kind t o = true) : ∃ m : Nat, t = (m : Int) ∧ FitS kind (a, m) o := by
  unfold fitB at h
  simp only [Bool.and_eq_true, decide_eq_true_eq] at h
  obtain ⟨h0, h1, h2⟩ := h
  refine ⟨t.toNat, by omega, ha, h0, ?_⟩
  cases o
  · simp at h2 ⊢; omega
  · simp at h2 ⊢; omega
theorem of_fit {kind : Int} {s : Arr 25 × Nat} {o : Bool} (h : FitS kind s o) : fitB kind (s.2 : Int) o = true := by
  obtain ⟨_, h0, h2⟩ := h
  unfold fitB
  simp only [Bool.and_eq_true, decide_eq_true_eq]
  refine ⟨h0, by omega, ?_⟩
  cases o
  · simp at h2 ⊢; omega
  · simp at h2 ⊢; omega
/-! ### examples -/
theorem aw1 : keccak_Sum.f 1000 4 [] 4 = some ([167, 255, 198, 248], 0) := by decide +kernel
theorem aw2 : keccak_Sum.f 1000 6 [] 4 = some ([127, 156, 43, 164], 0) := by decide +kernel
theorem awake_core (S1 S2 : Option (List Int × Int)) (E : List Int → List Int → Option Bool) (x y : List Int) (p q : Int) (h1 : S1 = some (x, p)) (h2 : S2 = some (y, q)) (h3 : E x x = some true) (h4 : E y y = some true) :
    (S1.bind fun (r1, r2) => S2.bind fun (r3, r4) => (E r1 x).bind fun r6 => if r6 = true then ((E r3 y).bind fun r8 => some r8) else (some false)) = some true := by
  subst h1 h2
  simp only [Option.bind_some, h3, h4, if_true]
theorem awake08 : law08_awake.f 1000 = some true := by
  unfold law08_awake.f
  exact awake_core _ _ (ref01_Same.f 1000) _ _ _ _ aw1 aw2 (ref01_Same_self 1000 _ (by decide) (by decide)) (ref01_Same_self 1000 _ (by decide) (by decide))
end Go.Proofs.YtijahfdldlmnhaaDoor
