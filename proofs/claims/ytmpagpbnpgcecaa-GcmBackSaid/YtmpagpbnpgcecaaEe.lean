/- Layer 10 (aes), plain laws: columns. -/
import Derived.Test.YtmpagpbnpgcecaaEd
set_option linter.unusedSimpArgs false
set_option linter.unusedVariables false
set_option maxRecDepth 100000
namespace Go.Proofs.Ytmpagpbnpgcecaa
open Go Go.Mx
theorem xlc (a b c : Nat) : a ^^^ (b ^^^ c) = b ^^^ (a ^^^ c) := by rw [← Nat.xor_assoc, ← Nat.xor_assoc, Nat.xor_comm a b]
abbrev Qd := Nat × Nat × Nat × Nat
def qx (x y : Qd) : Qd := (x.1 ^^^ y.1, x.2.1 ^^^ y.2.1, x.2.2.1 ^^^ y.2.2.1, x.2.2.2 ^^^ y.2.2.2)
/-- what the program makes of a column -/
def mq (q : Qd) : Qd :=
  let all := ((q.1 ^^^ q.2.1) ^^^ q.2.2.1) ^^^ q.2.2.2
  ((q.1 ^^^ all) ^^^ xt (q.1 ^^^ q.2.1), (q.2.1 ^^^ all) ^^^ xt (q.2.1 ^^^ q.2.2.1), (q.2.2.1 ^^^ all) ^^^ xt (q.2.2.1 ^^^ q.2.2.2), (q.2.2.2 ^^^ all) ^^^ xt (q.2.2.2 ^^^ q.1))
theorem mq_lin (x y : Qd) : mq (qx x y) = qx (mq x) (mq y) := by
  obtain ⟨a, b, c, d⟩ := x
  obtain ⟨a', b', c', d'⟩ := y
  unfold mq qx
  simp only [xt_xor, Prod.mk.injEq]
  refine ⟨?_, ?_, ?_, ?_⟩ <;> simp only [Nat.xor_assoc, Nat.xor_comm, xlc]
/-- what the document makes of it -/
def cq (m0 m1 m2 m3 : Nat) (q : Qd) : Qd :=
  ((((gm m0 q.1 ^^^ gm m1 q.2.1) ^^^ gm m2 q.2.2.1) ^^^ gm m3 q.2.2.2), (((gm m0 q.2.1 ^^^ gm m1 q.2.2.1) ^^^ gm m2 q.2.2.2) ^^^ gm m3 q.1), (((gm m0 q.2.2.1 ^^^ gm m1 q.2.2.2) ^^^ gm m2 q.1) ^^^ gm m3 q.2.1), (((gm m0 q.2.2.2 ^^^ gm m1 q.1) ^^^ gm m2 q.2.1) ^^^ gm m3 q.2.2.1))
theorem q_of (f : Qd → Qd) (hf : ∀ x y, f (qx x y) = qx (f x) (f y)) (m0 m1 m2 m3 : Nat)
    (h0 : ∀ a : Fin 256, f (a.val, 0, 0, 0) = (gm m0 a.val, gm m3 a.val, gm m2 a.val, gm m1 a.val))
    (h1 : ∀ a : Fin 256, f (0, a.val, 0, 0) = (gm m1 a.val, gm m0 a.val, gm m3 a.val, gm m2 a.val))
    (h2 : ∀ a : Fin 256, f (0, 0, a.val, 0) = (gm m2 a.val, gm m1 a.val, gm m0 a.val, gm m3 a.val))
    (h3 : ∀ a : Fin 256, f (0, 0, 0, a.val) = (gm m3 a.val, gm m2 a.val, gm m1 a.val, gm m0 a.val))
    {a b c d : Nat} (ha : a < 256) (hb : b < 256) (hc : c < 256) (hd : d < 256) : f (a, b, c, d) = cq m0 m1 m2 m3 (a, b, c, d) := by
  have e : (a, b, c, d) = qx (qx (qx (a, 0, 0, 0) (0, b, 0, 0)) (0, 0, c, 0)) (0, 0, 0, d) := by simp [qx]
  have g0 := h0 ⟨a, ha⟩
  have g1 := h1 ⟨b, hb⟩
  have g2 := h2 ⟨c, hc⟩
  have g3 := h3 ⟨d, hd⟩
  dsimp only at g0 g1 g2 g3
  rw [e, hf, hf, hf, g0, g1, g2, g3, ← e]
  unfold cq qx
  simp only [Prod.mk.injEq]
  refine ⟨?_, ?_, ?_, ?_⟩ <;> simp only [Nat.xor_assoc, Nat.xor_comm, xlc]
theorem mq_cq {a b c d : Nat} (ha : a < 256) (hb : b < 256) (hc : c < 256) (hd : d < 256) : mq (a, b, c, d) = cq 2 3 1 1 (a, b, c, d) :=
  q_of mq mq_lin 2 3 1 1 (by decide +kernel) (by decide +kernel) (by decide +kernel) (by decide +kernel) ha hb hc hd
theorem mq_lt {q : Qd} (h : q.1 < 256 ∧ q.2.1 < 256 ∧ q.2.2.1 < 256 ∧ q.2.2.2 < 256) : (mq q).1 < 256 ∧ (mq q).2.1 < 256 ∧ (mq q).2.2.1 < 256 ∧ (mq q).2.2.2 < 256 := by
  obtain ⟨a, b, c, d⟩ := h
  have all := xor_lt (xor_lt (xor_lt a b) c) d
  exact ⟨xor_lt (xor_lt a all) (xt_lt (xor_lt a b)), xor_lt (xor_lt b all) (xt_lt (xor_lt b c)), xor_lt (xor_lt c all) (xt_lt (xor_lt c d)), xor_lt (xor_lt d all) (xt_lt (xor_lt d a))⟩
/-- a column of a block; a place of a column -/
def colq (s : Nat → Nat) (c : Nat) : Qd := (s (4 * c), s (4 * c + 1), s (4 * c + 2), s (4 * c + 3))
def atq (q : Qd) : Nat → Nat
  | 0 => q.1
  | 1 => q.2.1
  | 2 => q.2.2.1
  | _ => q.2.2.2
/-- each column turned -/
def onq (f : Qd → Qd) (s : Nat → Nat) (j : Nat) : Nat := atq (f (colq s (j / 4))) (j % 4)
theorem onq_at (f : Qd → Qd) (s : Nat → Nat) {c r : Nat} (hr : r < 4) : onq f s (4 * c + r) = atq (f (colq s c)) r := by
  unfold onq
  rw [show (4 * c + r) / 4 = c by omega, show (4 * c + r) % 4 = r by omega]
theorem onq_congr {f g : Qd → Qd} {s : Nat → Nat} (hs : Bd s) (h : ∀ a b c d, a < 256 → b < 256 → c < 256 → d < 256 → f (a, b, c, d) = g (a, b, c, d)) (j : Nat) (hj : j < 16) : onq f s j = onq g s j := by
  unfold onq
  have e : f (colq s (j / 4)) = g (colq s (j / 4)) := h _ _ _ _ (hs _ (by omega)) (hs _ (by omega)) (hs _ (by omega)) (hs _ (by omega))
  rw [e]
theorem onq_mq_bd {s : Nat → Nat} (hs : Bd s) : Bd (onq mq s) := fun j hj => by
  unfold onq
  obtain ⟨a, b, c, d⟩ := mq_lt (q := colq s (j / 4)) ⟨hs _ (by omega), hs _ (by omega), hs _ (by omega), hs _ (by omega)⟩
  have hr : j % 4 < 4 := Nat.mod_lt _ (by decide)
  generalize j % 4 = r at hr
  match r, hr with
  | 0, _ => exact a
  | 1, _ => exact b
  | 2, _ => exact c
  | 3, _ => exact d
end Go.Proofs.Ytmpagpbnpgcecaa
