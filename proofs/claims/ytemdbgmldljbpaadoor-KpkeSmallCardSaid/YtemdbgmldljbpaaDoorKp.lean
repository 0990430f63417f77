/- Layer 25 (kq), plain laws: squeezed and widened, played for all numbers. -/
set_option linter.unusedSimpArgs false
set_option linter.unusedVariables false
namespace Go.Proofs.YtemdbgmldljbpaaDoor
def sqz (d x : Nat) : Nat := (x * 2 ^ d + 1664) / 3329 % 2 ^ d
def wid (d y : Nat) : Nat := (y * 3329 + 2 ^ (d - 1)) / 2 ^ d
/-- how far two numbers are apart, at the ring's shorter way -/
def offN (w x : Nat) : Nat := let n := (w + 3329 - x) % 3329; min n (3329 - n)
def okAbout (d x : Nat) : Bool := wid d (sqz d x) < 3329 && (sqz d (wid d (sqz d x)) == sqz d x && decide (offN (wid d (sqz d x)) x ≤ (3329 + 2 ^ d) / (2 * 2 ^ d)))
theorem about_ck : (List.range 11).all (fun d => (List.range 3329).all (okAbout (d + 1))) = true := by decide +kernel
theorem about {d x : Nat} (h1 : 1 ≤ d) (h2 : d ≤ 11) (hx : x < 3329) : okAbout d x = true := by
  have h := about_ck
  rw [List.all_eq_true] at h
  have h3 := h (d - 1) (List.mem_range.2 (by omega))
  rw [List.all_eq_true] at h3
  have h4 := h3 x (List.mem_range.2 hx)
  rwa [show d - 1 + 1 = d by omega] at h4
end Go.Proofs.YtemdbgmldljbpaaDoor
