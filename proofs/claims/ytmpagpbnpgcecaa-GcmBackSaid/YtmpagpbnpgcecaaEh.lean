/- Layer 10 (aes), plain laws: words of the keys. -/
import Derived.Test.YtmpagpbnpgcecaaEg
set_option linter.unusedSimpArgs false
set_option linter.unusedVariables false
set_option maxRecDepth 100000
namespace Go.Proofs.Ytmpagpbnpgcecaa
open Go Go.Mx
def WdS (w : Arr 4) (v : Nat → Nat) : Prop := ∀ r : Nat, r < 4 → rd w (r : Int) = ((v r : Nat) : Int)
def B4 (v : Nat → Nat) : Prop := ∀ r, r < 4 → v r < 256
theorem rd4 (z : Arr 4) (a b c d : Int) : rd (wr (wr (wr (wr z 0 a) 1 b) 2 c) 3 d) 0 = a ∧ rd (wr (wr (wr (wr z 0 a) 1 b) 2 c) 3 d) 1 = b ∧ rd (wr (wr (wr (wr z 0 a) 1 b) 2 c) 3 d) 2 = c ∧ rd (wr (wr (wr (wr z 0 a) 1 b) 2 c) 3 d) 3 = d := by
  obtain ⟨⟨l⟩, h⟩ := z
  match l, h with
  | [_, _, _, _], _ => exact ⟨rfl, rfl, rfl, rfl⟩
theorem wd4 (z : Arr 4) {a b c d : Int} {v : Nat → Nat} (h0 : a = ((v 0 : Nat) : Int)) (h1 : b = ((v 1 : Nat) : Int)) (h2 : c = ((v 2 : Nat) : Int)) (h3 : d = ((v 3 : Nat) : Int)) : WdS (wr (wr (wr (wr z 0 a) 1 b) 2 c) 3 d) v := by
  obtain ⟨e0, e1, e2, e3⟩ := rd4 z a b c d
  intro r hr
  match r, hr with
  | 0, _ => exact e0.trans h0
  | 1, _ => exact e1.trans h1
  | 2, _ => exact e2.trans h2
  | 3, _ => exact e3.trans h3
theorem aBoxed (K : Nat) {w : Arr 4} {v : Nat → Nat} (hw : WdS w v) (hv : B4 v) : ∃ y, aes_tables_boxed.f K tabs.1 tabs.2 w = some y ∧ WdS y (fun r => bx (v r)) := by
  have e0 : rd w 0 = ((v 0 : Nat) : Int) := hw 0 (by decide)
  have e1 : rd w 1 = ((v 1 : Nat) : Int) := hw 1 (by decide)
  have e2 : rd w 2 = ((v 2 : Nat) : Int) := hw 2 (by decide)
  have e3 : rd w 3 = ((v 3 : Nat) : Int) := hw 3 (by decide)
  have n : ∀ r, r < 4 → (0 : Int) ≤ ((v r : Nat) : Int) := fun r _ => by omega
  have l : ∀ r, r < 4 → ((v r : Nat) : Int) < 256 := fun r hr => by have := hv r hr; omega
  have t : ∀ r, r < 4 → rd tabs.1 ((v r : Nat) : Int) = ((bx (v r) : Nat) : Int) := fun r hr => rd_box (hv r hr)
  refine ⟨_, ?_, wd4 (zeroA 4) (v := fun r => bx (v r)) rfl rfl rfl rfl⟩
  unfold aes_tables_boxed.f
  simp only [e0, e1, e2, e3, n 0 (by decide), n 1 (by decide), n 2 (by decide), n 3 (by decide), l 0 (by decide), l 1 (by decide), l 2 (by decide), l 3 (by decide), t 0 (by decide), t 1 (by decide), t 2 (by decide), t 3 (by decide), if_true, Option.bind_some]
theorem aXorW (K : Nat) {w w' : Arr 4} {v v' : Nat → Nat} (hw : WdS w v) (hw' : WdS w' v') (hv : B4 v) (hv' : B4 v') : ∃ y, aes_word_xor.f K w w' = some y ∧ WdS y (fun r => v r ^^^ v' r) := by
  have e : ∀ r : Nat, r < 4 → ixor .u8 (rd w (r : Int)) (rd w' (r : Int)) = ((v r ^^^ v' r : Nat) : Int) := fun r hr => by rw [hw r hr, hw' r hr, ix8 (hv r hr) (hv' r hr)]
  exact ⟨_, rfl, wd4 (zeroA 4) (v := fun r => v r ^^^ v' r) (e 0 (by decide)) (e 1 (by decide)) (e 2 (by decide)) (e 3 (by decide))⟩
/-! ### the words so far -/
abbrev C4 : Cod (Arr 4) := CA .u8 4 (by decide)
def WS (ws : List (Arr 4)) (i : Nat) (g : Nat → Nat) : Prop := ws.length = i ∧ ∀ p : Nat, p < i → WdS (rdL C4 ws (p : Int)) (fun r => g (4 * p + r))
def ZS (z : List Int) (i : Nat) (g : Nat → Nat) : Prop := z = (List.range (4 * i)).map fun q => ((g q : Nat) : Int)
def BG (g : Nat → Nat) (i : Nat) : Prop := ∀ q, q < 4 * i → g q < 256
theorem ZS.len {z : List Int} {i : Nat} {g : Nat → Nat} (h : ZS z i g) : z.length = 4 * i := by rw [h]; simp
theorem ZS.rd {z : List Int} {i : Nat} {g : Nat → Nat} (h : ZS z i g) {q : Nat} (hq : q < 4 * i) : rdL (CI .u8) z (q : Int) = ((g q : Nat) : Int) := by
  rw [h]
  unfold rdL
  rw [Int.toNat_natCast, List.getD_eq_getElem?_getD, List.getElem?_map, List.getElem?_range hq]
  rfl
/-- one word more -/
def more (g : Nat → Nat) (i : Nat) (v : Nat → Nat) (q : Nat) : Nat := if q < 4 * i then g q else v (q - 4 * i)
theorem more_bd {g v : Nat → Nat} {i : Nat} (hg : BG g i) (hv : B4 v) : BG (more g i v) (i + 1) := fun q hq => by
  unfold more
  split
  · exact hg q (by assumption)
  · exact hv _ (by omega)
theorem WS.more {ws : List (Arr 4)} {i : Nat} {g v : Nat → Nat} {w : Arr 4} (h : WS ws i g) (hw : WdS w v) : WS (ws ++ [w]) (i + 1) (more g i v) := by
  refine ⟨by rw [List.length_append, h.1]; rfl, fun p hp r hr => ?_⟩
  show rd (rdL C4 (ws ++ [w]) (p : Int)) (r : Int) = ((Go.Proofs.Ytmpagpbnpgcecaa.more g i v (4 * p + r) : Nat) : Int)
  unfold Go.Proofs.Ytmpagpbnpgcecaa.more
  by_cases hp' : p < i
  · have e : rdL C4 (ws ++ [w]) (p : Int) = rdL C4 ws (p : Int) := by
      unfold rdL
      rw [Int.toNat_natCast, List.getD_eq_getElem?_getD, List.getD_eq_getElem?_getD, List.getElem?_append_left (by rw [h.1]; exact hp')]
    rw [e, if_pos (by omega)]
    exact h.2 p hp' r hr
  · obtain rfl : p = i := by omega
    have e : rdL C4 (ws ++ [w]) (p : Int) = w := by
      unfold rdL
      rw [Int.toNat_natCast, List.getD_eq_getElem?_getD, List.getElem?_append_right (by rw [h.1]; omega), h.1, Nat.sub_self]
      rfl
    rw [e, if_neg (by omega), show 4 * p + r - 4 * p = r by omega]
    exact hw r hr
theorem ZS.more {z : List Int} {i : Nat} {g v : Nat → Nat} (h : ZS z i g) : ZS (z ++ [((v 0 : Nat) : Int), ((v 1 : Nat) : Int), ((v 2 : Nat) : Int), ((v 3 : Nat) : Int)]) (i + 1) (more g i v) := by
  unfold ZS at *
  rw [h, show 4 * (i + 1) = 4 * i + 1 + 1 + 1 + 1 by omega, List.range_succ, List.range_succ, List.range_succ, List.range_succ]
  simp only [List.map_append, List.map_cons, List.map_nil, List.append_assoc, List.cons_append, List.nil_append]
  have e0 : Go.Proofs.Ytmpagpbnpgcecaa.more g i v (4 * i) = v 0 := by unfold Go.Proofs.Ytmpagpbnpgcecaa.more; rw [if_neg (by omega), show 4 * i - 4 * i = 0 by omega]
  have e1 : Go.Proofs.Ytmpagpbnpgcecaa.more g i v (4 * i + 1) = v 1 := by unfold Go.Proofs.Ytmpagpbnpgcecaa.more; rw [if_neg (by omega), show 4 * i + 1 - 4 * i = 1 by omega]
  have e2 : Go.Proofs.Ytmpagpbnpgcecaa.more g i v (4 * i + 1 + 1) = v 2 := by unfold Go.Proofs.Ytmpagpbnpgcecaa.more; rw [if_neg (by omega), show 4 * i + 1 + 1 - 4 * i = 2 by omega]
  have e3 : Go.Proofs.Ytmpagpbnpgcecaa.more g i v (4 * i + 1 + 1 + 1) = v 3 := by unfold Go.Proofs.Ytmpagpbnpgcecaa.more; rw [if_neg (by omega), show 4 * i + 1 + 1 + 1 - 4 * i = 3 by omega]
  rw [e0, e1, e2, e3]
  congr 1
  refine List.map_congr_left fun q hq => ?_
  unfold Go.Proofs.Ytmpagpbnpgcecaa.more
  rw [if_pos (List.mem_range.1 hq)]
/-- what comes into the next word -/
def vN (g : Nat → Nat) (nk i s : Nat) (r : Nat) : Nat :=
  if i % nk = 0 then bx (g (4 * (i - 1) + (r + 1) % 4)) ^^^ (if r = 0 then s else 0) else if nk = 8 ∧ i % 8 = 4 then bx (g (4 * (i - 1) + r)) else g (4 * (i - 1) + r)
def sN (nk i s : Nat) : Nat := if i % nk = 0 then gm s 2 else s
def wN (g : Nat → Nat) (nk i s : Nat) (r : Nat) : Nat := g (4 * (i - nk) + r) ^^^ vN g nk i s r
theorem vN_bd {g : Nat → Nat} {nk i s : Nat} (hg : BG g i) (hi : 0 < i) (hs : s < 256) : B4 (vN g nk i s) := fun r hr => by
  unfold vN
  split
  · refine xor_lt (bx_lt (hg _ (by omega))) ?_
    split
    · exact hs
    · decide
  · split
    · exact bx_lt (hg _ (by omega))
    · exact hg _ (by omega)
theorem sN_lt {nk i s : Nat} (hs : s < 256) : sN nk i s < 256 := by
  unfold sN
  split
  · exact gm_lt hs
  · exact hs
theorem wN_bd {g : Nat → Nat} {nk i s : Nat} (hg : BG g i) (hk : 0 < nk) (hi : nk ≤ i) (hs : s < 256) : B4 (wN g nk i s) := fun r hr => xor_lt (hg _ (by omega)) (vN_bd hg (by omega) hs r hr)
end Go.Proofs.Ytmpagpbnpgcecaa
