/- Layer 23 (dsamp), plain laws: loops over bytes that may be left, bytes in portions, rows that are filled. -/
import Derived.Test.YtppohhnfojalbaaDoorVF0
import Derived.Test.YtppohhnfojalbaaDoorVFDsampBounds
import Derived.Test.YtppohhnfojalbaaDoorTd
import Derived.Test.YtppohhnfojalbaaDoorGb
set_option linter.unusedSimpArgs false
set_option linter.unusedVariables false
set_option maxRecDepth 100000
namespace Go.Proofs.YtppohhnfojalbaaDoor
open Go Go.Mx
section
variable {S R X : Type}
def run (st : S → Int → S ⊕ R) : S → List Int → S ⊕ R
  | s, [] => .inl s
  | s, b :: l => match st s b with
    | .inl s' => run st s' l
    | .inr r => .inr r
theorem run_cons (st : S → Int → S ⊕ R) (s : S) (x : Int) (l : List Int) : run st s (x :: l) = match st s x with
    | .inl s' => run st s' l
    | .inr r => .inr r := rfl
theorem run_app (st : S → Int → S ⊕ R) : ∀ (a : List Int) (s : S) (b : List Int), run st s (a ++ b) = match run st s a with
    | .inl s' => run st s' b
    | .inr r => .inr r
  | [], s, b => rfl
  | x :: a, s, b => by
    show (match st s x with | .inl s' => run st s' (a ++ b) | .inr r => .inr r) = match (match st s x with | .inl s' => run st s' a | .inr r => .inr r) with | .inl s' => run st s' b | .inr r => .inr r
    cases st s x with
    | inl s' => exact run_app st a s' b
    | inr r => rfl
theorem run_P {st : S → Int → S ⊕ R} {P : S → Prop} (hP : ∀ s x s', P s → 0 ≤ x ∧ x ≤ 255 → st s x = .inl s' → P s') : ∀ (b : List Int) (s s' : S), Byt b → P s → run st s b = .inl s' → P s'
  | [], s, s', _, h, e => by
    have : s = s' := Sum.inl.inj e
    rw [← this]; exact h
  | x :: b, s, s', hb, h, e => by
    have e' : (match st s x with | .inl s1 => run st s1 b | .inr r => .inr r) = .inl s' := e
    cases hx : st s x with
    | inl s1 =>
      rw [hx] at e'
      exact run_P hP b s1 s' hb.tail (hP s x s1 h hb.head hx) e'
    | inr r => rw [hx] at e'; cases e'
theorem loop1 {st : S → Int → S ⊕ R} {P : S → Prop} (hP : ∀ s x s', P s → 0 ≤ x ∧ x ≤ 255 → st s x = .inl s' → P s') (L : Nat → Int → S → Option (S ⊕ R)) {b : List Int} (hb : Byt b)
    (hend : ∀ k i s, ¬ i < ((b.length : Nat) : Int) → L (k + 1) i s = some (.inl s))
    (hstep : ∀ (k i : Nat) (s : S) (h : i < b.length), P s → L (k + 1) (i : Int) s = match st s b[i] with
      | .inl s' => L k ((i + 1 : Nat) : Int) s'
      | .inr r => some (.inr r)) :
    ∀ (m i k : Nat) (s : S), i + m = b.length → m < k → P s → L k (i : Int) s = some (run st s (b.drop i)) := by
  intro m
  induction m with
  | zero =>
    intro i k s hi hk hs
    obtain ⟨k, rfl⟩ : ∃ q, k = q + 1 := ⟨k - 1, by omega⟩
    rw [hend k _ s (by omega), List.drop_of_length_le (by omega)]
    rfl
  | succ m ih =>
    intro i k s hi hk hs
    obtain ⟨k, rfl⟩ : ∃ q, k = q + 1 := ⟨k - 1, by omega⟩
    have hil : i < b.length := by omega
    rw [hstep k i s hil hs, List.drop_eq_getElem_cons hil]
    show _ = some (match st s b[i] with | .inl s' => run st s' (b.drop (i + 1)) | .inr r => .inr r)
    cases hx : st s b[i] with
    | inl s' => exact ih (i + 1) k s' (by omega) (by omega) (hP s _ s' hs (hb _ (List.getElem_mem hil)) hx)
    | inr r => rfl
theorem sqv_len (kind : Int) (s : Arr 25 × Nat) (o : Bool) (n : Int) : (sqV kind s o n).1.length = n.toNat := by
  unfold sqV
  by_cases h : n < 0
  · rw [if_pos h]; show 0 = _; omega
  · rw [if_neg h]; exact sq_len _ _ _
theorem sqv_byt (kind : Int) (s : Arr 25 × Nat) (o : Bool) (n : Int) : Byt (sqV kind s o n).1 := by
  unfold sqV
  by_cases h : n < 0
  · rw [if_pos h]; exact Byt.nil
  · rw [if_neg h]; exact sq_byt _ _ _
theorem sq_add (r : Nat) : ∀ (n m : Nat) (s : Arr 25 × Nat), sq r (n + m) s = ((sq r n s).1 ++ (sq r m (sq r n s).2).1, (sq r m (sq r n s).2).2)
  | 0, m, s => by
    rw [Nat.zero_add]
    rfl
  | n + 1, m, s => by
    rw [show n + 1 + m = (n + m) + 1 by omega]
    show (byteS (nrm r s) :: (sq r (n + m) (nxt (nrm r s))).1, (sq r (n + m) (nxt (nrm r s))).2) = _
    rw [sq_add r n m]
    rfl
theorem sqv_add (kind : Int) (s : Arr 25 × Nat) (o : Bool) {n m : Int} (hn : 0 ≤ n) (hm : 0 ≤ m) : (sqV kind s o (n + m)).1 = (sqV kind s o n).1 ++ (sqV kind (sqV kind s o n).2.1 (sqV kind s o n).2.2 m).1 := by
  unfold sqV
  rw [if_neg (by omega), if_neg (by omega), if_neg (by omega), show (n + m).toNat = n.toNat + m.toNat by omega, sq_add]
  rfl
theorem sqv_take (kind : Int) (s : Arr 25 × Nat) (o : Bool) {n m : Int} (hn : 0 ≤ n) (hm : n ≤ m) : (sqV kind s o m).1 = (sqV kind s o n).1 ++ (sqV kind (sqV kind s o n).2.1 (sqV kind s o n).2.2 (m - n)).1 := by
  have := sqv_add kind s o hn (show 0 ≤ m - n by omega)
  rw [show n + (m - n) = m by omega] at this
  exact this
theorem sqv_nil (kind : Int) (s : Arr 25 × Nat) (o : Bool) {n : Int} (h : n ≤ 0) : (sqV kind s o n).1 = [] := List.eq_nil_of_length_eq_zero (by rw [sqv_len]; omega)
theorem imin136 (left : Int) : imin 136 left = if left ≤ 136 then left else 136 := by
  unfold imin
  by_cases h : left ≤ 136
  · rw [if_pos h]; split <;> omega
  · rw [if_neg h]; split <;> omega
theorem sqv_portion (kind : Int) (s : Arr 25 × Nat) (o : Bool) {left : Int} (h : left > 0) :
    (sqV kind s o left).1 = (sqV kind s o (imin 136 left)).1 ++ (sqV kind (sqV kind s o (imin 136 left)).2.1 (sqV kind s o (imin 136 left)).2.2 (left - 136)).1 := by
  rw [imin136]
  by_cases h1 : left ≤ 136
  · rw [if_pos h1, sqv_nil _ _ _ (show left - 136 ≤ 0 by omega), List.append_nil]
  · rw [if_neg h1]
    exact sqv_take kind s o (by decide) (by omega)
theorem loop0 {st : S → Int → S ⊕ R} {P : S → Prop} (hP : ∀ s x s', P s → 0 ≤ x ∧ x ≤ 255 → st s x = .inl s' → P s') (kind : Int) (L0 : Nat → Int → Arr 25 × Nat → Bool → S → Option (X ⊕ R)) (inj : Arr 25 × Nat → Bool → S → X)
    (hend : ∀ k left s o v, ¬ left > 0 → L0 (k + 1) left s o v = some (.inl (inj s o v)))
    (hstep : ∀ (k : Nat) (left : Int) s o v, left > 0 → left ≤ 14000 → FitS kind s o → P v → L0 (k + 1) left s o v = match run st v (sqV kind s o (imin 136 left)).1 with
      | .inl v' => L0 k (left - 136) (sqV kind s o (imin 136 left)).2.1 (sqV kind s o (imin 136 left)).2.2 v'
      | .inr r => some (.inr r)) :
    ∀ (m k : Nat) (left : Int) (s : Arr 25 × Nat) (o : Bool) (v : S), left ≤ 136 * (m : Int) → left ≤ 14000 → m < k → FitS kind s o → P v →
      ∃ s' o', L0 k left s o v = some (match run st v (sqV kind s o left).1 with
        | .inl v' => .inl (inj s' o' v')
        | .inr r => .inr r) := by
  intro m
  induction m with
  | zero =>
    intro k left s o v hl hl2 hk hs hv
    obtain ⟨k, rfl⟩ : ∃ q, k = q + 1 := ⟨k - 1, by omega⟩
    refine ⟨s, o, ?_⟩
    rw [hend k left s o v (by omega), sqv_nil kind s o (by omega)]
    rfl
  | succ m ih =>
    intro k left s o v hl hl2 hk hs hv
    obtain ⟨k, rfl⟩ : ∃ q, k = q + 1 := ⟨k - 1, by omega⟩
    by_cases h0 : left > 0
    · rw [hstep k left s o v h0 hl2 hs hv, sqv_portion kind s o h0, run_app]
      cases hx : run st v (sqV kind s o (imin 136 left)).1 with
      | inl v' =>
        exact ih k (left - 136) _ _ v' (by omega) (by omega) (by omega) (fit_sq hs _) (run_P hP _ _ _ (sqv_byt _ _ _ _) hv hx)
      | inr r => exact ⟨s, o, rfl⟩
    · refine ⟨s, o, ?_⟩
      rw [hend k left s o v h0, sqv_nil kind s o (by omega)]
      rfl
end
/-! ### rows that are filled -/
/-- numbers, one behind the other, as long as there is room -/
def fillP : Arr 256 × Nat → List Int → Arr 256 × Nat
  | p, [] => p
  | p, x :: l => if p.2 < 256 then fillP (wr p.1 (p.2 : Int) x, p.2 + 1) l else p
theorem fillP_full {p : Arr 256 × Nat} (h : ¬ p.2 < 256) : ∀ l, fillP p l = p
  | [] => rfl
  | x :: l => by
    show (if p.2 < 256 then _ else p) = p
    rw [if_neg h]
theorem fillP_app : ∀ (a : List Int) (p : Arr 256 × Nat) (b : List Int), fillP p (a ++ b) = fillP (fillP p a) b
  | [], _, _ => rfl
  | x :: a, p, b => by
    show (if p.2 < 256 then fillP _ (a ++ b) else p) = fillP (if p.2 < 256 then fillP _ a else p) b
    by_cases h : p.2 < 256
    · rw [if_pos h, if_pos h, fillP_app a _ b]
    · rw [if_neg h, if_neg h, fillP_full h]
theorem qmod {n : Int} (h0 : -8380417 ≤ n) (h1 : n < 8380417) : irem .i32 (iadd .i32 n 8380417) 8380417 = (n + 8380417) % 8380417 := by
  unfold irem iadd
  rw [show IntKind.wrap .i32 (n + 8380417) = n + 8380417 by rw [w32]; omega, Int.tmod_eq_emod_of_nonneg (by omega)]
theorem put_eq23 {a : Arr 256} {n : Nat} {x : Int} (hn : n < 256) (h0 : -8380417 ≤ x) (h1 : x < 8380417) : dsamp_filler_put.f 60000 a (n : Int) x = some (decide (n + 1 < 256), wr a (n : Int) ((x + 8380417) % 8380417), ((n + 1 : Nat) : Int)) := by
  have c0 : (0 : Int) ≤ (n : Int) := by omega
  have c1 : (n : Int) < 256 := by omega
  unfold dsamp_filler_put.f
  simp only [c0, c1, if_true, Option.bind_some, qmod h0 h1, ginc (i := n) (by omega)]
  congr 2
  exact decide_eq_decide.2 (by omega)
theorem done_eq23 (p : Arr 256 × Nat) : dsamp_filler_done.f 60000 p.1 (p.2 : Int) = some (if p.2 < 256 then (zeroA 256, 12) else (p.1, 0)) := by
  unfold dsamp_filler_done.f
  by_cases h : p.2 < 256
  · rw [if_pos (by omega), if_pos h]
  · rw [if_neg (by omega), if_neg h]
/-! ### sums of texts -/
theorem sponge_eq (kind : Int) (hk : rateN kind ≠ 0) {W : List (List Int)} (hl : W.length < 1000) (hf : W.flatten.length ≤ 900) : dsamp_sponge.f 60000 kind W = some (tupA kind (absV kind (zeroA 25, 0) false W.flatten) false) := by
  have hn : newV kind = (kind, zeroA 25, 0, false, 0) := by unfold newV; rw [if_neg hk]
  have a := kAbs kind (zeroA 25, 0) false (fit_new hk) W.flatten (by omega)
  have a' : keccak_Absorb.f 60000 kind (zeroA 25) 0 false W.flatten = some (tupA kind (absV kind (zeroA 25, 0) false W.flatten) false) := a
  unfold dsamp_sponge.f
  rw [kNew, hn, Option.bind_some]
  simp only
  rw [gJoinW 60000 (by omega) (by omega) (by omega), Option.bind_some, a']
  rfl
theorem fit_sponge {kind : Int} (hk : rateN kind ≠ 0) (b : List Int) : FitS kind (absV kind (zeroA 25, 0) false b) false := fit_abs (fit_new hk) b
end Go.Proofs.YtppohhnfojalbaaDoor
