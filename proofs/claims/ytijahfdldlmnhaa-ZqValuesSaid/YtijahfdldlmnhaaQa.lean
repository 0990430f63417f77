/- Layer 21 (zq), plain laws: the roots; the chapter's examples. -/
import Derived.Test.YtijahfdldlmnhaaQn
set_option linter.unusedSimpArgs false
set_option linter.unusedVariables false
set_option maxRecDepth 100000
namespace Go.Proofs.Ytijahfdldlmnhaa
open Go Go.Mx
def brv8 (i : Nat) : Nat := i % 2 * 128 + i / 2 % 2 * 64 + i / 4 % 2 * 32 + i / 8 % 2 * 16 + i / 16 % 2 * 8 + i / 32 % 2 * 4 + i / 64 % 2 * 2 + i / 128 % 2
/-- Enough rounds for all that follows. -/
def KK : Nat := 20000
def rootsA : Arr 256 := mapA 256 fun i => ((1753 ^ brv8 i % 8380417 : Nat) : Int)
theorem fit_rootsA : FitP rootsA := fit_map fun i _ => by
  have := Nat.mod_lt (1753 ^ brv8 i) (show 8380417 > 0 by decide)
  omega
theorem roots_list : (zq_roots.f 20000).map (fun r => r.toList) = some ((List.range 256).map fun i => ((1753 ^ brv8 i % 8380417 : Nat) : Int)) := by decide +kernel
theorem zq_roots_eq : zq_roots.f KK = some rootsA := by
  have h := roots_list
  rw [Option.map_eq_some_iff] at h
  obtain ⟨r, hr, hl⟩ := h
  show zq_roots.f 20000 = _
  rw [hr]
  refine congrArg some (arr_ext fun i hi => ?_)
  unfold rootsA
  rw [rd_mapA _ _ hi]
  unfold rd
  rw [hl]
  simp [List.getD_eq_getElem?_getD, hi]
def pntt (a : Arr 256) : Arr 256 := nttR rootsA a
theorem zq_Ntt_eq (a : Arr 256) (ha : FitP a) : zq_Ntt.f KK a = some (pntt a) := by
  unfold zq_Ntt.f
  rw [zq_roots_eq]
  simp only [Option.bind_some]
  rw [ntt_l0_eq KK (by decide) rootsA a fit_rootsA ha]
  rfl
def comb (t : Nat) : Arr 256 := mapA 256 fun j => if j % t = 0 then 1 else 0
theorem lay_comb (r : Arr 256) (s m n t : Nat) (ht : t = 2 * s) (hn : n * (2 * s) = 256)
    (H : ∀ j, j < 256 → (j % t < s → j % s = j % t ∧ (j + s) % t ≠ 0 ∧ j + s < 256) ∧ (¬ j % t < s → j % t ≠ 0 ∧ ((j - s) % t = 0 ↔ j % s = 0))) :
    layU r s m n (comb t) = comb s := by
  refine arr_ext fun j hj => ?_
  obtain ⟨H1, H2⟩ := H j hj
  have hjt : j < n * t := by rw [ht]; omega
  unfold layU
  rw [← ht, rd_mapA _ _ hj, if_pos hjt]
  by_cases h : j % t < s
  · obtain ⟨a1, a2, a3⟩ := H1 h
    rw [if_pos h]
    unfold comb
    rw [rd_mapA _ _ hj, rd_mapA _ _ a3, rd_mapA _ _ hj, if_neg a2, a1]
    split <;> simp
  · obtain ⟨a1, a2⟩ := H2 h
    rw [if_neg h]
    unfold comb
    rw [rd_mapA _ _ hj, rd_mapA _ _ (show j - s < 256 by omega), rd_mapA _ _ hj, if_neg a1]
    by_cases h3 : j % s = 0
    · rw [if_pos (a2.2 h3), if_pos h3]; simp
    · rw [if_neg (fun h => h3 (a2.1 h)), if_neg h3]; simp
theorem delta_comb : wr (zeroA 256) 0 1 = comb 256 := by
  refine arr_ext fun j hj => ?_
  have := rd_wr (zeroA 256) 0 j 1 hj
  rw [show ((0 : Nat) : Int) = 0 from rfl] at this
  rw [this]
  unfold comb
  rw [rd_mapA _ _ hj, rd_zeroA _ hj]
  by_cases h : 0 = j
  · rw [if_pos h, if_pos (by omega)]
  · rw [if_neg h, if_neg (by omega)]
theorem pntt_delta : pntt (wr (zeroA 256) 0 1) = comb 1 := by
  unfold pntt nttR
  rw [delta_comb, lay_comb _ 128 0 1 256 rfl rfl (fun j hj => by omega), lay_comb _ 64 1 2 128 rfl rfl (fun j hj => by omega), lay_comb _ 32 3 4 64 rfl rfl (fun j hj => by omega), lay_comb _ 16 7 8 32 rfl rfl (fun j hj => by omega),
    lay_comb _ 8 15 16 16 rfl rfl (fun j hj => by omega), lay_comb _ 4 31 32 8 rfl rfl (fun j hj => by omega), lay_comb _ 2 63 64 4 rfl rfl (fun j hj => by omega), lay_comb _ 1 127 128 2 rfl rfl (fun j hj => by omega)]
theorem fit_comb (t : Nat) : FitP (comb t) := fit_map fun i _ => by split <;> omega
theorem awake_loop (K : Nat) : ∀ (d i k : Nat), i + d = 256 → d < k → law21_awake.l0 K k (comb 1) (i : Int) = some (.inl ()) := by
  intro d
  induction d with
  | zero =>
    intro i k hi hk
    obtain ⟨k, rfl⟩ : ∃ m, k = m + 1 := ⟨k - 1, by omega⟩
    obtain rfl : i = 256 := by omega
    simp only [law21_awake.l0, show ¬ ((256 : Nat) : Int) < 256 by omega, if_false]
  | succ d ih =>
    intro i k hi hk
    obtain ⟨k, rfl⟩ : ∃ m, k = m + 1 := ⟨k - 1, by omega⟩
    have e : rd (comb 1) (i : Nat) = 1 := by
      unfold comb
      rw [rd_mapA _ _ (by omega), if_pos (by omega)]
    simp only [law21_awake.l0, show (i : Int) < 256 by omega, show (0 : Int) ≤ i by omega, if_true, Option.bind_some, e, add64 (x := (i : Int)) (y := 1) (by omega) (by omega)]
    exact ih (i + 1) k (by omega) (by omega)
theorem awake21 : law21_awake.f KK = some true := by
  unfold law21_awake.f
  rw [zq_Ntt_eq _ (by rw [delta_comb]; exact fit_comb 256), pntt_delta]
  simp only [Option.bind_some]
  have := awake_loop KK 256 0 KK (by decide) (by decide)
  rw [show ((0 : Nat) : Int) = 0 from rfl] at this
  rw [this]
  simp only [Option.bind_some]
  rw [show zq_Split.f KK 4097 = some (1, -4095) by decide +kernel]
  simp only [Option.bind_some]
  rw [show zq_Parts.f KK 8380416 95232 = some (0, -1) by decide +kernel]
  rfl
end Go.Proofs.Ytijahfdldlmnhaa
