/- Layer 10 (aes), plain laws: columns. -/
import Derived.Test.YtmpagpbnpgcecaaEd
import Derived.Test.YtmpagpbnpgcecaaMg
set_option linter.unusedSimpArgs false
set_option linter.unusedVariables false
set_option maxRecDepth 100000
namespace Go.Proofs.Ytmpagpbnpgcecaa
open Go Go.Mx
theorem xlc (a b c : Nat) : a ^^^ (b ^^^ c) = b ^^^ (a ^^^ c) := by rw [← Nat.xor_assoc, ← Nat.xor_assoc, Nat.xor_comm a b]
abbrev Qd := Nat × Nat × Nat × Nat
def qx (x y : Qd) : Qd := (x.1 ^^^ y.1, x.2.1 ^^^ y.2.1, x.2.2.1 ^^^ y.2.2.1, x.2.2.2 ^^^ y.2.2.2)
/-- what the program makes of a column -/
def mq (q : Qd) : Qd :=
  let all := ((q.1 ^^^ q.2.1) ^^^ q.2.2.1) ^^^ q.2.2.2
  ((q.1 ^^^ all) ^^^ xt (q.1 ^^^ q.2.1), (q.2.1 ^^^ all) ^^^ xt (q.2.1 ^^^ q.2.2.1), (q.2.2.1 ^^^ all) ^^^ xt (q.2.2.1 ^^^ q.2.2.2), (q.2.2.2 ^^^ all) ^^^ xt (q.2.2.2 ^^^ q.1))
theorem mq_lin (x y : Qd) : mq (qx x y) = qx (mq x) (mq y) := by
  obtain ⟨a, b, c, d⟩ := x
  obtain ⟨a', b', c', d'⟩ := y
  unfold mq qx
  simp only [xt_xor, Prod.mk.injEq]
  refine ⟨?_, ?_, ?_, ?_⟩ <;> simp only [Nat.xor_assoc, Nat.xor_comm, xlc]
/-- what the document makes of it -/
def cq (m0 m1 m2 m3 : Nat) (q : Qd) : Qd :=
  ((((gm m0 q.1 ^^^ gm m1 q.2.1) ^^^ gm m2 q.2.2.1) ^^^ gm m3 q.2.2.2), (((gm m0 q.2.1 ^^^ gm m1 q.2.2.1) ^^^ gm m2 q.2.2.2) ^^^ gm m3 q.1), (((gm m0 q.2.2.1 ^^^ gm m1 q.2.2.2) ^^^ gm m2 q.1) ^^^ gm m3 q.2.1), (((gm m0 q.2.2.2 ^^^ gm m1 q.1) ^^^ gm m2 q.2.1) ^^^ gm m3 q.2.2.1))
theorem q_of (f : Qd → Qd) (hf : ∀ x y, f (qx x y) = qx (f x) (f y)) (m0 m1 m2 m3 : Nat)
    (h0 : ∀ a : Fin 256, f (a.val, 0, 0, 0) = (gm m0 a.val, gm m3 a.val, gm m2 a.val, gm m1 a.val))
    (h1 : ∀ a : Fin 256, f (0, a.val, 0, 0) = (gm m1 a.val, gm m0 a.val, gm m3 a.val, gm m2 a.val))
    (h2 : ∀ a : Fin 256, f (0, 0, a.val, 0) = (gm m2 a.val, gm m1 a.val, gm m0 a.val, gm m3 a.val))
    (h3 : ∀ a : Fin 256, f (0, 0, 0, a.val) = (gm m3 a.val, gm m2 a.val, gm m1 a.val, gm m0 a.val))
    {a b c d : Nat} (ha : a < 256) (hb : b < 256) (hc : c < 256) (hd : d < 256) : f (a, b, c, d) = cq m0 m1 m2 m3 (a, b, c, d) := by
  have e : (a, b, c, d) = qx (qx (qx (a, 0, 0, 0) (0, b, 0, 0)) (0, 0, c, 0)) (0, 0, 0, d) := by simp [qx]
  have g0 := h0 ⟨a, ha⟩
  have g1 := h1 ⟨b, hb⟩
  have g2 := h2 ⟨c, hc⟩
  have g3 := h3 ⟨d, hd⟩
  dsimp only at g0 g1 g2 g3
  rw [e, hf, hf, hf, g0, g1, g2, g3, ← e]
  unfold cq qx
  simp only [Prod.mk.injEq]
  refine ⟨?_, ?_, ?_, ?_⟩ <;> simp only [Nat.xor_assoc, Nat.xor_comm, xlc]
theorem mq_cq {a b c d : Nat} (ha : a < 256) (hb : b < 256) (hc : c < 256) (hd : d < 256) : mq (a, b, c, d) = cq 2 3 1 1 (a, b, c, d) :=
  q_of mq mq_lin 2 3 1 1 (by decide +kernel) (by decide +kernel) (by decide +kernel) (by decide +kernel) ha hb hc hd
theorem mq_lt {q : Qd} (h : q.1 < 256 ∧ q.2.1 < 256 ∧ q.2.2.1 < 256 ∧ q.2.2.2 < 256) : (mq q).1 < 256 ∧ (mq q).2.1 < 256 ∧ (mq q).2.2.1 < 256 ∧ (mq q).2.2.2 < 256 := by
  obtain ⟨a, b, c, d⟩ := h
  have all := xor_lt (xor_lt (xor_lt a b) c) d
  exact ⟨xor_lt (xor_lt a all) (xt_lt (xor_lt a b)), xor_lt (xor_lt b all) (xt_lt (xor_lt b c)), xor_lt (xor_lt c all) (xt_lt (xor_lt c d)), xor_lt (xor_lt d all) (xt_lt (xor_lt d a))⟩
/-- a column of a block; a place of a column -/
def colq (s : Nat → Nat) (c : Nat) : Qd := (s (4 * c), s (4 * c + 1), s (4 * c + 2), s (4 * c + 3))
def atq (q : Qd) : Nat → Nat
  | 0 => q.1
  | 1 => q.2.1
  | 2 => q.2.2.1
  | _ => q.2.2.2
/-- each column turned -/
def onq (f : Qd → Qd) (s : Nat → Nat) (j : Nat) : Nat := atq (f (colq s (j / 4))) (j % 4)
theorem onq_at (f : Qd → Qd) (s : Nat → Nat) {c r : Nat} (hr : r < 4) : onq f s (4 * c + r) = atq (f (colq s c)) r := by
  unfold onq
  rw [show (4 * c + r) / 4 = c by omega, show (4 * c + r) % 4 = r by omega]
theorem onq_congr {f g : Qd → Qd} {s : Nat → Nat} (hs : Bd s) (h : ∀ a b c d, a < 256 → b < 256 → c < 256 → d < 256 → f (a, b, c, d) = g (a, b, c, d)) (j : Nat) (hj : j < 16) : onq f s j = onq g s j := by
  unfold onq
  have e : f (colq s (j / 4)) = g (colq s (j / 4)) := h _ _ _ _ (hs _ (by omega)) (hs _ (by omega)) (hs _ (by omega)) (hs _ (by omega))
  rw [e]
theorem onq_mq_bd {s : Nat → Nat} (hs : Bd s) : Bd (onq mq s) := fun j hj => by
  unfold onq
  obtain ⟨a, b, c, d⟩ := mq_lt (q := colq s (j / 4)) ⟨hs _ (by omega), hs _ (by omega), hs _ (by omega), hs _ (by omega)⟩
  have hr : j % 4 < 4 := Nat.mod_lt _ (by decide)
  generalize j % 4 = r at hr
  match r, hr with
  | 0, _ => exact a
  | 1, _ => exact b
  | 2, _ => exact c
  | 3, _ => exact d
end Go.Proofs.Ytmpagpbnpgcecaa

/- Layer 10 (aes), plain laws: the rounds' stages in the program and in the document. -/
set_option linter.unusedSimpArgs false
set_option linter.unusedVariables false
set_option maxRecDepth 100000
namespace Go.Proofs.Ytmpagpbnpgcecaa
open Go Go.Mx
theorem t_double : ∀ a : Fin 256, ixor .u8 (ishl .u8 (a.val : Int) 1) (iand .u8 27 (isub .u8 0 (ishr .u8 (a.val : Int) 7))) = ((xt a.val : Nat) : Int) := by decide +kernel
theorem aDouble (K : Nat) {a : Nat} (h : a < 256) : aes_double.f K (a : Int) = some ((xt a : Nat) : Int) := by
  unfold aes_double.f
  rw [show ixor .u8 (ishl .u8 (a : Int) 1) (iand .u8 27 (isub .u8 0 (ishr .u8 (a : Int) 7))) = ((xt a : Nat) : Int) from t_double ⟨a, h⟩]
  rfl
theorem next4 : ∀ r : Fin 4, irem .i64 ((r.val + 1 : Nat) : Int) 4 = (((r.val + 1) % 4 : Nat) : Int) := by decide
def allq (s : Nat → Nat) (c : Nat) : Nat := ((s (4 * c) ^^^ s (4 * c + 1)) ^^^ s (4 * c + 2)) ^^^ s (4 * c + 3)
theorem atq_mq (s : Nat → Nat) (c : Nat) : ∀ r : Nat, r < 4 → atq (mq (colq s c)) r = (s (4 * c + r) ^^^ allq s c) ^^^ xt (s (4 * c + r) ^^^ s (4 * c + (r + 1) % 4))
  | 0, _ => rfl
  | 1, _ => rfl
  | 2, _ => rfl
  | 3, _ => rfl
theorem rd_col {b : Arr 16} {s : Nat → Nat} {c : Nat} (hc : c < 4) (hb : ∀ j : Nat, j < 16 → 4 * c ≤ j → rd b (j : Int) = ((s j : Nat) : Int)) {r : Nat} (hr : r < 4) : rd (subA 4 b ((4 * c : Nat) : Int)) (r : Int) = ((s (4 * c + r) : Nat) : Int) := by
  rw [rd_subA b _ r hr, show ((4 * c : Nat) : Int) + (r : Int) = ((4 * c + r : Nat) : Int) by omega]
  exact hb _ (by omega) (by omega)
theorem aCol (K : Nat) (hK : 4 < K) {b : Arr 16} {s : Nat → Nat} {c : Nat} (hc : c < 4) (hs : Bd s) (hb : ∀ j : Nat, j < 16 → 4 * c ≤ j → rd b (j : Int) = ((s j : Nat) : Int)) :
    ∃ y, aes_mix.l1 K K ((4 * c : Nat) : Int) b ((allq s c : Nat) : Int) 0 b = some y ∧ ∀ j : Nat, j < 16 → rd y (j : Int) = if 4 * c ≤ j ∧ j < 4 * c + 4 then ((onq mq s j : Nat) : Int) else rd b (j : Int) := by
  have hall : allq s c < 256 := xor_lt (xor_lt (xor_lt (hs _ (by omega)) (hs _ (by omega))) (hs _ (by omega))) (hs _ (by omega))
  obtain ⟨y, h1, _, h2⟩ := fillS (S := Arr 16) (fun z j => rd z (j : Int)) (fun z i x => wr z (i : Int) x) (fun _ => True) 16 (fun z i x => setA z i x) (fun k i z => aes_mix.l1 K k ((4 * c : Nat) : Int) b ((allq s c : Nat) : Int) i z) (4 * c) 4 (by omega)
    (fun r => ((onq mq s (4 * c + r) : Nat) : Int)) b (fun k i z hi _ _ => by
      have b0 : (0 : Int) ≤ (i : Int) := by omega
      have b1 : (i : Int) < 4 := by omega
      have hn := next4 ⟨i, hi⟩
      dsimp only at hn
      have hq : (i + 1) % 4 < 4 := Nat.mod_lt _ (by decide)
      have c0 : (0 : Int) ≤ (((i + 1) % 4 : Nat) : Int) := by omega
      have c1 : (((i + 1) % 4 : Nat) : Int) < 4 := by omega
      have r1 := rd_col hc hb hi
      have r2 := rd_col hc hb hq
      have l1 := hs (4 * c + i) (by omega)
      have l2 := hs (4 * c + (i + 1) % 4) (by omega)
      have x1 := ix8 l1 l2
      have x2 := aDouble K (xor_lt l1 l2)
      have x3 := ix8 l1 hall
      have x4 := ix8 (xor_lt l1 hall) (xt_lt (xor_lt l1 l2))
      have p : iadd .i64 ((4 * c : Nat) : Int) (i : Int) = ((4 * c + i : Nat) : Int) := by rw [add64 (by omega) (by omega)]; omega
      have d0 : (0 : Int) ≤ ((4 * c + i : Nat) : Int) := by omega
      have d1 : ((4 * c + i : Nat) : Int) < 16 := by omega
      rw [onq_at mq s hi, atq_mq s c i hi]
      simp only [aes_mix.l1, b0, b1, hn, c0, c1, r1, r2, x1, x2, x3, x4, p, d0, d1, if_true, Option.bind_some, inc (i := i) (by omega)]) (fun k z => by simp only [aes_mix.l1]; rfl) 4 0 K b (by decide) hK trivial (fun _ _ _ => rfl)
  refine ⟨y, h1, fun j hj => ?_⟩
  rw [h2 j hj]
  split
  · rename_i h4
    rw [show 4 * c + (j - 4 * c) = j by omega, if_pos (by omega)]
  · rw [if_neg (by omega)]
theorem aMix (K : Nat) (hK : 4 < K) {b : Arr 16} {s : Nat → Nat} (hb : ArS b s) (hs : Bd s) : ∃ y, aes_mix.f K b = some y ∧ ArS y (onq mq s) := by
  have key : ∀ n c k z, c + n = 4 → n < k → (∀ j : Nat, j < 16 → rd z (j : Int) = if j < 4 * c then ((onq mq s j : Nat) : Int) else ((s j : Nat) : Int)) → ∃ y, aes_mix.l0 K k ((4 * c : Nat) : Int) z = some y ∧ ArS y (onq mq s) := by
    intro n
    induction n with
    | zero =>
      intro c k z hc hk hz
      obtain ⟨k, rfl⟩ : ∃ q, k = q + 1 := ⟨k - 1, by omega⟩
      obtain rfl : c = 4 := by omega
      refine ⟨z, by simp only [aes_mix.l0]; rfl, fun j hj => ?_⟩
      rw [hz j hj, if_pos (by omega)]
    | succ n ih =>
      intro c k z hc hk hz
      obtain ⟨k, rfl⟩ : ∃ q, k = q + 1 := ⟨k - 1, by omega⟩
      have hz' : ∀ j : Nat, j < 16 → 4 * c ≤ j → rd z (j : Int) = ((s j : Nat) : Int) := fun j hj h => by rw [hz j hj, if_neg (by omega)]
      obtain ⟨y, h1, h2⟩ := aCol K hK (by omega) hs hz'
      obtain ⟨w, h3, h4⟩ := ih (c + 1) k y (by omega) (by omega) (fun j hj => by
        rw [h2 j hj, hz j hj]
        by_cases h5 : 4 * c ≤ j ∧ j < 4 * c + 4
        · rw [if_pos h5, if_pos (by omega)]
        · rw [if_neg h5]
          by_cases h6 : j < 4 * c
          · rw [if_pos h6, if_pos (by omega)]
          · rw [if_neg h6, if_neg (by omega)])
      refine ⟨w, ?_, h4⟩
      have r0 := rd_col (c := c) (r := 0) (by omega) hz' (by decide)
      have r1 := rd_col (c := c) (r := 1) (by omega) hz' (by decide)
      have r2 := rd_col (c := c) (r := 2) (by omega) hz' (by decide)
      have r3 := rd_col (c := c) (r := 3) (by omega) hz' (by decide)
      have l0 := hs (4 * c) (by omega)
      have l1 := hs (4 * c + 1) (by omega)
      have l2 := hs (4 * c + 2) (by omega)
      have l3 := hs (4 * c + 3) (by omega)
      have p : iadd .i64 ((4 * c : Nat) : Int) 4 = ((4 * (c + 1) : Nat) : Int) := by rw [add64 (by omega) (by omega)]; omega
      have q0 : (0 : Int) ≤ ((4 * c : Nat) : Int) := by omega
      have q1 : ((4 * c : Nat) : Int) < 16 := by omega
      have q2 : ((4 * c : Nat) : Int) ≤ ((4 * (c + 1) : Nat) : Int) := by omega
      have q3 : ((4 * (c + 1) : Nat) : Int) ≤ 16 := by omega
      have q4 : 4 ≤ ((4 * (c + 1) : Nat) : Int).toNat - ((4 * c : Nat) : Int).toNat := by omega
      have e0 : rd (subA 4 z ((4 * c : Nat) : Int)) 0 = ((s (4 * c) : Nat) : Int) := r0
      have e1 : rd (subA 4 z ((4 * c : Nat) : Int)) 1 = ((s (4 * c + 1) : Nat) : Int) := r1
      have e2 : rd (subA 4 z ((4 * c : Nat) : Int)) 2 = ((s (4 * c + 2) : Nat) : Int) := r2
      have e3 : rd (subA 4 z ((4 * c : Nat) : Int)) 3 = ((s (4 * c + 3) : Nat) : Int) := r3
      have x1 := ix8 l0 l1
      have x2 := ix8 (xor_lt l0 l1) l2
      have x3 := ix8 (xor_lt (xor_lt l0 l1) l2) l3
      unfold allq at h1
      simp only [aes_mix.l0, q0, q1, q2, q3, q4, p, e0, e1, e2, e3, x1, x2, x3, if_true, Option.bind_some, h1]
      exact h3
  obtain ⟨y, h1, h2⟩ := key 4 0 K b (by decide) hK (fun j hj => by rw [if_neg (by omega)]; exact hb j hj)
  refine ⟨y, ?_, h2⟩
  unfold aes_mix.f
  rw [show aes_mix.l0 K K 0 b = some y from h1]
  rfl
end Go.Proofs.Ytmpagpbnpgcecaa

/- Layer 10 (aes), plain laws: the document's stages. -/
set_option linter.unusedSimpArgs false
set_option linter.unusedVariables false
set_option maxRecDepth 100000
namespace Go.Proofs.Ytmpagpbnpgcecaa
open Go Go.Mx
theorem ls_map (s : Nat → Nat) : LsS ((List.range 16).map fun j => ((s j : Nat) : Int)) s := by
  refine ⟨by simp, fun j hj => ?_⟩
  unfold rdL
  rw [Int.toNat_natCast, List.getD_eq_getElem?_getD, List.getElem?_map, List.getElem?_range hj]
  rfl
theorem LsS.congr {z : List Int} {s t : Nat → Nat} (h : LsS z s) (e : ∀ j, j < 16 → s j = t j) : LsS z t := ⟨h.1, fun j hj => by rw [h.2 j hj, e j hj]⟩
abbrev zero16 : List Int := List.replicate (16 : Int).toNat (Cod.zero (CI .u8))
theorem len16 : zero16.length = 16 := rfl
theorem rEach (K : Nat) (hK : 16 < K) {z : List Int} {s : Nat → Nat} (hz : LsS z s) (hs : Bd s) (t : Arr 256) (f : Nat → Nat) (ht : ∀ c : Nat, c < 256 → rd t (c : Int) = ((f c : Nat) : Int)) : ∃ y, ref10_each.f K z t = some y ∧ LsS y (fun j => f (s j)) := by
  obtain ⟨y, h1, h0, h2⟩ := fillS (S := List Int) (fun z j => rdL (CI .u8) z (j : Int)) (fun z i x => wrL z (i : Int) x) (fun z => z.length = 16) 16 (setL 16) (fun k i w => ref10_each.l0 K k z t i w) 0 16 (by decide)
    (fun j => ((f (s j) : Nat) : Int)) zero16 (fun k i w hi hw _ => by
      obtain ⟨b0, b1⟩ := lt16 hi
      have hl := hs i hi
      have c0 : (0 : Int) ≤ ((s i : Nat) : Int) := by omega
      have c1 : ((s i : Nat) : Int) < 256 := by omega
      have d1 : (i : Int) < ((z.length : Nat) : Int) := by rw [hz.1]; exact b1
      have d2 : (i : Int) < ((w.length : Nat) : Int) := by rw [hw]; exact b1
      simp only [ref10_each.l0, b0, b1, d1, d2, hz.2 i hi, c0, c1, ht _ hl, if_true, Option.bind_some, inc (i := i) (by omega), Nat.zero_add]) (fun k w => by simp only [ref10_each.l0]; rfl) 16 0 K zero16 (by decide) hK len16 (fun _ _ _ => rfl)
  refine ⟨y, ?_, h0, fun j hj => ?_⟩
  · unfold ref10_each.f
    rw [show ref10_each.l0 K K z t 0 zero16 = some y from h1]
    rfl
  · rw [h2 j hj, if_pos (by omega)]
    rfl
/-- Loops that fill a block column by column. -/
theorem cols (g : Nat → List Int → Option (List Int)) (l : Nat → Int → List Int → Option (List Int)) (s : Nat → Nat)
    (hg : ∀ c z, c < 4 → z.length = 16 → ∃ y, g c z = some y ∧ y.length = 16 ∧ ∀ j : Nat, j < 16 → rdL (CI .u8) y (j : Int) = if 4 * c ≤ j ∧ j < 4 * c + 4 then ((s j : Nat) : Int) else rdL (CI .u8) z (j : Int))
    (hl : ∀ k (c : Nat) z, c < 4 → l (k + 1) (c : Int) z = (g c z).bind fun y => l k ((c + 1 : Nat) : Int) y) (he : ∀ k z, l (k + 1) 4 z = some z) :
    ∀ n c k z, c + n = 4 → n < k → z.length = 16 → (∀ j : Nat, j < 4 * c → rdL (CI .u8) z (j : Int) = ((s j : Nat) : Int)) → ∃ y, l k (c : Int) z = some y ∧ LsS y s := by
  intro n
  induction n with
  | zero =>
    intro c k z hc hk hz hj
    obtain ⟨k, rfl⟩ : ∃ q, k = q + 1 := ⟨k - 1, by omega⟩
    obtain rfl : c = 4 := by omega
    exact ⟨z, he k z, hz, fun j h => hj j (by omega)⟩
  | succ n ih =>
    intro c k z hc hk hz hj
    obtain ⟨k, rfl⟩ : ∃ q, k = q + 1 := ⟨k - 1, by omega⟩
    obtain ⟨y, h1, h2, h3⟩ := hg c z (by omega) hz
    obtain ⟨w, h4, h5⟩ := ih (c + 1) k y (by omega) (by omega) h2 (fun j h => by
      rw [h3 j (by omega)]
      split
      · rfl
      · exact hj j (by omega))
    refine ⟨w, ?_, h5⟩
    rw [hl k c z (by omega), h1]
    exact h4
theorem inc4 {a b : Nat} (h : a < 4) (h' : b < 4) : iadd .i64 (imul .i64 4 (a : Int)) (b : Int) = ((4 * a + b : Nat) : Int) := by
  rw [mul64 (by omega) (by omega), add64 (by omega) (by omega)]
  omega
theorem rRow (K : Nat) (hK : 4 < K) {z : List Int} {s : Nat → Nat} (hz : LsS z s) (a1 : Int) (ρ : Nat → Nat → Nat)
    (hρ : ∀ c r : Nat, c < 4 → r < 4 → iadd .i64 (imul .i64 4 (irem .i64 (iadd .i64 (iadd .i64 (c : Int) (imul .i64 a1 (r : Int))) 4) 4)) (r : Int) = ((ρ c r : Nat) : Int) ∧ ρ c r < 16) {c : Nat} (hc : c < 4) (w : List Int) (hw : w.length = 16) :
    ∃ y, ref10_rows.l1 K K z a1 (c : Int) 0 w = some y ∧ y.length = 16 ∧ ∀ j : Nat, j < 16 → rdL (CI .u8) y (j : Int) = if 4 * c ≤ j ∧ j < 4 * c + 4 then ((s (ρ (j / 4) (j % 4)) : Nat) : Int) else rdL (CI .u8) w (j : Int) := by
  obtain ⟨y, h1, h0, h2⟩ := fillS (S := List Int) (fun z j => rdL (CI .u8) z (j : Int)) (fun z i x => wrL z (i : Int) x) (fun z => z.length = 16) 16 (setL 16) (fun k i w => ref10_rows.l1 K k z a1 (c : Int) i w) (4 * c) 4 (by omega)
    (fun r => ((s (ρ c r) : Nat) : Int)) w (fun k i w hi hw _ => by
      obtain ⟨p, q⟩ := hρ c i hc hi
      have b1 : (i : Int) < 4 := by omega
      have c0 : (0 : Int) ≤ ((ρ c i : Nat) : Int) := by omega
      have c1 : ((ρ c i : Nat) : Int) < ((z.length : Nat) : Int) := by rw [hz.1]; omega
      have p2 := inc4 hc hi
      have d0 : (0 : Int) ≤ ((4 * c + i : Nat) : Int) := by omega
      have d1 : ((4 * c + i : Nat) : Int) < ((w.length : Nat) : Int) := by rw [hw]; omega
      have hr := hz.2 _ q
      simp only [ref10_rows.l1, b1, p, p2, c0, c1, d0, d1, hr, if_true, Option.bind_some, inc (i := i) (by omega)]) (fun k w => by simp only [ref10_rows.l1]; rfl) 4 0 K w (by decide) hK hw (fun _ _ _ => rfl)
  refine ⟨y, h1, h0, fun j hj => ?_⟩
  rw [h2 j hj]
  split
  · rename_i h
    rw [if_pos (by omega), show j / 4 = c by omega, show j % 4 = j - 4 * c by omega]
  · rw [if_neg (by omega)]
theorem rRows (K : Nat) (hK : 4 < K) {z : List Int} {s : Nat → Nat} (hz : LsS z s) (a1 : Int) (ρ : Nat → Nat → Nat)
    (hρ : ∀ c r : Nat, c < 4 → r < 4 → iadd .i64 (imul .i64 4 (irem .i64 (iadd .i64 (iadd .i64 (c : Int) (imul .i64 a1 (r : Int))) 4) 4)) (r : Int) = ((ρ c r : Nat) : Int) ∧ ρ c r < 16) : ∃ y, ref10_rows.f K z a1 = some y ∧ LsS y (fun j => s (ρ (j / 4) (j % 4))) := by
  obtain ⟨y, h1, h2⟩ := cols (fun c w => ref10_rows.l1 K K z a1 (c : Int) 0 w) (fun k c w => ref10_rows.l0 K k z a1 c w) (fun j => s (ρ (j / 4) (j % 4))) (fun c w hc hw => rRow K hK hz a1 ρ hρ hc w hw)
    (fun k c w hc => by
      have b1 : (c : Int) < 4 := by omega
      simp only [ref10_rows.l0, b1, if_true, Option.bind_some, inc (i := c) (by omega)]) (fun k w => by simp only [ref10_rows.l0]; rfl) 4 0 K zero16 (by decide) hK len16 (fun j h => absurd h (by omega))
  refine ⟨y, ?_, h2⟩
  unfold ref10_rows.f
  rw [show ref10_rows.l0 K K z a1 0 zero16 = some y from h1]
  rfl
theorem row_there : ∀ c r : Fin 4, iadd .i64 (imul .i64 4 (irem .i64 (iadd .i64 (iadd .i64 (c.val : Int) (imul .i64 1 (r.val : Int))) 4) 4)) (r.val : Int) = ((4 * ((c.val + r.val) % 4) + r.val : Nat) : Int) ∧ 4 * ((c.val + r.val) % 4) + r.val < 16 := by decide
/-! ### columns -/
theorem pc0 : ∀ c r : Fin 4, iadd .i64 (imul .i64 4 (c.val : Int)) (irem .i64 (iadd .i64 (r.val : Int) 0) 4) = ((4 * c.val + (r.val + 0) % 4 : Nat) : Int) := by decide
theorem pc1 : ∀ c r : Fin 4, iadd .i64 (imul .i64 4 (c.val : Int)) (irem .i64 (iadd .i64 (r.val : Int) 1) 4) = ((4 * c.val + (r.val + 1) % 4 : Nat) : Int) := by decide
theorem pc2 : ∀ c r : Fin 4, iadd .i64 (imul .i64 4 (c.val : Int)) (irem .i64 (iadd .i64 (r.val : Int) 2) 4) = ((4 * c.val + (r.val + 2) % 4 : Nat) : Int) := by decide
theorem pc3 : ∀ c r : Fin 4, iadd .i64 (imul .i64 4 (c.val : Int)) (irem .i64 (iadd .i64 (r.val : Int) 3) 4) = ((4 * c.val + (r.val + 3) % 4 : Nat) : Int) := by decide
theorem atq_cq (m0 m1 m2 m3 : Nat) (s : Nat → Nat) (c : Nat) : ∀ r, r < 4 → atq (cq m0 m1 m2 m3 (colq s c)) r = ((gm m0 (s (4 * c + (r + 0) % 4)) ^^^ gm m1 (s (4 * c + (r + 1) % 4))) ^^^ gm m2 (s (4 * c + (r + 2) % 4))) ^^^ gm m3 (s (4 * c + (r + 3) % 4))
  | 0, _ => rfl
  | 1, _ => rfl
  | 2, _ => rfl
  | 3, _ => rfl
theorem rCell (K : Nat) (hK : 8 < K) {z : List Int} {s : Nat → Nat} (hz : LsS z s) (hs : Bd s) (a1 : Arr 4) (m0 m1 m2 m3 : Nat) (l0 : m0 < 256) (l1 : m1 < 256) (l2 : m2 < 256) (l3 : m3 < 256)
    (e0 : rd a1 0 = (m0 : Int)) (e1 : rd a1 1 = (m1 : Int)) (e2 : rd a1 2 = (m2 : Int)) (e3 : rd a1 3 = (m3 : Int)) {c r : Nat} (hc : c < 4) (hr : r < 4) :
    ref10_columns.l2 K K z a1 (c : Int) (r : Int) 0 0 = some ((atq (cq m0 m1 m2 m3 (colq s c)) r : Nat) : Int) := by
  obtain ⟨k, rfl⟩ : ∃ q, K = q + 5 := ⟨K - 5, by omega⟩
  have i0 : iadd .i64 0 1 = 1 := by decide
  have i1 : iadd .i64 1 1 = 2 := by decide
  have i2 : iadd .i64 2 1 = 3 := by decide
  have i3 : iadd .i64 3 1 = 4 := by decide
  have c0 : (0 : Int) < 4 := by decide
  have c1 : (1 : Int) < 4 := by decide
  have c2 : (2 : Int) < 4 := by decide
  have c3 : (3 : Int) < 4 := by decide
  have c4 : ¬ (4 : Int) < 4 := by decide
  have n0 : (0 : Int) ≤ 0 := by decide
  have n1 : (0 : Int) ≤ 1 := by decide
  have n2 : (0 : Int) ≤ 2 := by decide
  have n3 : (0 : Int) ≤ 3 := by decide
  have p0 := pc0 ⟨c, hc⟩ ⟨r, hr⟩
  have p1 := pc1 ⟨c, hc⟩ ⟨r, hr⟩
  have p2 := pc2 ⟨c, hc⟩ ⟨r, hr⟩
  have p3 := pc3 ⟨c, hc⟩ ⟨r, hr⟩
  dsimp only at p0 p1 p2 p3
  have q : ∀ i, 4 * c + (r + i) % 4 < 16 := fun i => by omega
  have g : ∀ i, rdL (CI .u8) z ((4 * c + (r + i) % 4 : Nat) : Int) = ((s (4 * c + (r + i) % 4) : Nat) : Int) := fun i => hz.2 _ (q i)
  have d0 : ∀ i, (0 : Int) ≤ ((4 * c + (r + i) % 4 : Nat) : Int) := fun i => by omega
  have d1 : ∀ i, ((4 * c + (r + i) % 4 : Nat) : Int) < ((z.length : Nat) : Int) := fun i => by rw [hz.1]; omega
  have b : ∀ i, s (4 * c + (r + i) % 4) < 256 := fun i => hs _ (q i)
  have x0 := rMul (k + 5) hK l0 (b 0)
  have x1 := rMul (k + 5) hK l1 (b 1)
  have x2 := rMul (k + 5) hK l2 (b 2)
  have x3 := rMul (k + 5) hK l3 (b 3)
  have g0 := gm_lt (b := s (4 * c + (r + 0) % 4)) l0
  have g1 := gm_lt (b := s (4 * c + (r + 1) % 4)) l1
  have g2 := gm_lt (b := s (4 * c + (r + 2) % 4)) l2
  have g3 := gm_lt (b := s (4 * c + (r + 3) % 4)) l3
  have y0 : ixor .u8 0 ((gm m0 (s (4 * c + (r + 0) % 4)) : Nat) : Int) = ((gm m0 (s (4 * c + (r + 0) % 4)) : Nat) : Int) := by
    have := ix8 (a := 0) (by decide) g0
    rw [Nat.zero_xor] at this
    exact this
  have y1 := ix8 g0 g1
  have y2 := ix8 (xor_lt g0 g1) g2
  have y3 := ix8 (xor_lt (xor_lt g0 g1) g2) g3
  rw [atq_cq m0 m1 m2 m3 s c r hr]
  simp only [ref10_columns.l2, c0, c1, c2, c3, c4, n0, n1, n2, n3, p0, p1, p2, p3, d0, d1, e0, e1, e2, e3, g, x0, x1, x2, x3, y0, y1, y2, y3, i0, i1, i2, i3, if_true, if_false, Option.bind_some]
theorem rCols (K : Nat) (hK : 8 < K) {z : List Int} {s : Nat → Nat} (hz : LsS z s) (hs : Bd s) (a1 : Arr 4) (m0 m1 m2 m3 : Nat) (l0 : m0 < 256) (l1 : m1 < 256) (l2 : m2 < 256) (l3 : m3 < 256)
    (e0 : rd a1 0 = (m0 : Int)) (e1 : rd a1 1 = (m1 : Int)) (e2 : rd a1 2 = (m2 : Int)) (e3 : rd a1 3 = (m3 : Int)) : ∃ y, ref10_columns.f K z a1 = some y ∧ LsS y (onq (cq m0 m1 m2 m3) s) := by
  obtain ⟨y, h1, h2⟩ := cols (fun c w => ref10_columns.l1 K K z a1 (c : Int) 0 w) (fun k c w => ref10_columns.l0 K k z a1 c w) (onq (cq m0 m1 m2 m3) s) (fun c w hc hw => by
      obtain ⟨y, h1, h0, h2⟩ := fillS (S := List Int) (fun z j => rdL (CI .u8) z (j : Int)) (fun z i x => wrL z (i : Int) x) (fun z => z.length = 16) 16 (setL 16) (fun k i w => ref10_columns.l1 K k z a1 (c : Int) i w) (4 * c) 4 (by omega)
        (fun r => ((atq (cq m0 m1 m2 m3 (colq s c)) r : Nat) : Int)) w (fun k i w hi hw _ => by
          have b1 : (i : Int) < 4 := by omega
          have p2 := inc4 hc hi
          have d0 : (0 : Int) ≤ ((4 * c + i : Nat) : Int) := by omega
          have d1 : ((4 * c + i : Nat) : Int) < ((w.length : Nat) : Int) := by rw [hw]; omega
          have hr := rCell K hK hz hs a1 m0 m1 m2 m3 l0 l1 l2 l3 e0 e1 e2 e3 hc hi
          simp only [ref10_columns.l1, b1, p2, d0, d1, hr, if_true, Option.bind_some, inc (i := i) (by omega)]) (fun k w => by simp only [ref10_columns.l1]; rfl) 4 0 K w (by decide) (by omega) hw (fun _ _ _ => rfl)
      refine ⟨y, h1, h0, fun j hj => ?_⟩
      rw [h2 j hj]
      split
      · rename_i h
        rw [if_pos (by omega)]
        have e : onq (cq m0 m1 m2 m3) s j = atq (cq m0 m1 m2 m3 (colq s c)) (j - 4 * c) := by
          unfold onq
          rw [show j / 4 = c by omega, show j % 4 = j - 4 * c by omega]
        rw [e]
      · rw [if_neg (by omega)])
    (fun k c w hc => by
      have b1 : (c : Int) < 4 := by omega
      simp only [ref10_columns.l0, b1, if_true, Option.bind_some, inc (i := c) (by omega)]) (fun k w => by simp only [ref10_columns.l0]; rfl) 4 0 K zero16 (by decide) (by omega) len16 (fun j h => absurd h (by omega))
  refine ⟨y, ?_, h2⟩
  unfold ref10_columns.f
  rw [show ref10_columns.l0 K K z a1 0 zero16 = some y from h1]
  rfl
/-! ### xor -/
theorem rXor (K : Nat) (hK : 16 < K) {z w : List Int} {s t : Nat → Nat} (hz : LsS z s) (hw : LsS w t) (hs : Bd s) (ht : Bd t) : ∃ y, ref01_Xor.f K z w = some y ∧ LsS y (xk s t) := by
  have key : ∀ n (i k : Nat), i + n = 16 → n < k → ref01_Xor.l0 K k z w (i : Int) ((List.range i).map fun j => ((xk s t j : Nat) : Int)) = some ((List.range 16).map fun j => ((xk s t j : Nat) : Int)) := by
    intro n
    induction n with
    | zero =>
      intro i k hi hk
      obtain ⟨k, rfl⟩ : ∃ q, k = q + 1 := ⟨k - 1, by omega⟩
      obtain rfl : i = 16 := by omega
      have h : ¬ ((16 : Nat) : Int) < ((z.length : Nat) : Int) := by rw [hz.1]; omega
      simp only [ref01_Xor.l0, h, if_false]
    | succ n ih =>
      intro i k hi hk
      obtain ⟨k, rfl⟩ : ∃ q, k = q + 1 := ⟨k - 1, by omega⟩
      obtain ⟨b0, b1⟩ := lt16 (i := i) (by omega)
      have h1 : (i : Int) < ((z.length : Nat) : Int) := by rw [hz.1]; exact b1
      have h2 : (i : Int) < ((w.length : Nat) : Int) := by rw [hw.1]; exact b1
      have x1 := ix8 (hs i (by omega)) (ht i (by omega))
      have hl : ((List.range i).map fun j => ((xk s t j : Nat) : Int)).length + ([((s i ^^^ t i : Nat) : Int)] : List Int).length ≤ 140737488355328 := by simp; omega
      simp only [ref01_Xor.l0, b0, h1, h2, hz.2 i (by omega), hw.2 i (by omega), x1, hl, if_true, Option.bind_some, inc (i := i) (by omega)]
      rw [← ih (i + 1) k (by omega) (by omega), List.range_succ, List.map_append]
      rfl
  refine ⟨_, ?_, ls_map _⟩
  unfold ref01_Xor.f
  rw [show ref01_Xor.l0 K K z w 0 ([] : List Int) = _ from key 16 0 K (by decide) hK]
  rfl
end Go.Proofs.Ytmpagpbnpgcecaa

/- Layer 10 (aes), plain laws: words of the keys. -/
set_option linter.unusedSimpArgs false
set_option linter.unusedVariables false
set_option maxRecDepth 100000
namespace Go.Proofs.Ytmpagpbnpgcecaa
open Go Go.Mx
def WdS (w : Arr 4) (v : Nat → Nat) : Prop := ∀ r : Nat, r < 4 → rd w (r : Int) = ((v r : Nat) : Int)
def B4 (v : Nat → Nat) : Prop := ∀ r, r < 4 → v r < 256
theorem rd4 (z : Arr 4) (a b c d : Int) : rd (wr (wr (wr (wr z 0 a) 1 b) 2 c) 3 d) 0 = a ∧ rd (wr (wr (wr (wr z 0 a) 1 b) 2 c) 3 d) 1 = b ∧ rd (wr (wr (wr (wr z 0 a) 1 b) 2 c) 3 d) 2 = c ∧ rd (wr (wr (wr (wr z 0 a) 1 b) 2 c) 3 d) 3 = d := by
  obtain ⟨⟨l⟩, h⟩ := z
  match l, h with
  | [_, _, _, _], _ => exact ⟨rfl, rfl, rfl, rfl⟩
theorem wd4 (z : Arr 4) {a b c d : Int} {v : Nat → Nat} (h0 : a = ((v 0 : Nat) : Int)) (h1 : b = ((v 1 : Nat) : Int)) (h2 : c = ((v 2 : Nat) : Int)) (h3 : d = ((v 3 : Nat) : Int)) : WdS (wr (wr (wr (wr z 0 a) 1 b) 2 c) 3 d) v := by
  obtain ⟨e0, e1, e2, e3⟩ := rd4 z a b c d
  intro r hr
  match r, hr with
  | 0, _ => exact e0.trans h0
  | 1, _ => exact e1.trans h1
  | 2, _ => exact e2.trans h2
  | 3, _ => exact e3.trans h3
theorem aBoxed (K : Nat) {w : Arr 4} {v : Nat → Nat} (hw : WdS w v) (hv : B4 v) : ∃ y, aes_tables_boxed.f K tabs.1 tabs.2 w = some y ∧ WdS y (fun r => bx (v r)) := by
  have e0 : rd w 0 = ((v 0 : Nat) : Int) := hw 0 (by decide)
  have e1 : rd w 1 = ((v 1 : Nat) : Int) := hw 1 (by decide)
  have e2 : rd w 2 = ((v 2 : Nat) : Int) := hw 2 (by decide)
  have e3 : rd w 3 = ((v 3 : Nat) : Int) := hw 3 (by decide)
  have n : ∀ r, r < 4 → (0 : Int) ≤ ((v r : Nat) : Int) := fun r _ => by omega
  have l : ∀ r, r < 4 → ((v r : Nat) : Int) < 256 := fun r hr => by have := hv r hr; omega
  have t : ∀ r, r < 4 → rd tabs.1 ((v r : Nat) : Int) = ((bx (v r) : Nat) : Int) := fun r hr => rd_box (hv r hr)
  refine ⟨_, ?_, wd4 (zeroA 4) (v := fun r => bx (v r)) rfl rfl rfl rfl⟩
  unfold aes_tables_boxed.f
  simp only [e0, e1, e2, e3, n 0 (by decide), n 1 (by decide), n 2 (by decide), n 3 (by decide), l 0 (by decide), l 1 (by decide), l 2 (by decide), l 3 (by decide), t 0 (by decide), t 1 (by decide), t 2 (by decide), t 3 (by decide), if_true, Option.bind_some]
theorem aXorW (K : Nat) {w w' : Arr 4} {v v' : Nat → Nat} (hw : WdS w v) (hw' : WdS w' v') (hv : B4 v) (hv' : B4 v') : ∃ y, aes_word_xor.f K w w' = some y ∧ WdS y (fun r => v r ^^^ v' r) := by
  have e : ∀ r : Nat, r < 4 → ixor .u8 (rd w (r : Int)) (rd w' (r : Int)) = ((v r ^^^ v' r : Nat) : Int) := fun r hr => by rw [hw r hr, hw' r hr, ix8 (hv r hr) (hv' r hr)]
  exact ⟨_, rfl, wd4 (zeroA 4) (v := fun r => v r ^^^ v' r) (e 0 (by decide)) (e 1 (by decide)) (e 2 (by decide)) (e 3 (by decide))⟩
/-! ### the words so far -/
abbrev C4 : Cod (Arr 4) := CA .u8 4 (by decide)
def WS (ws : List (Arr 4)) (i : Nat) (g : Nat → Nat) : Prop := ws.length = i ∧ ∀ p : Nat, p < i → WdS (rdL C4 ws (p : Int)) (fun r => g (4 * p + r))
def ZS (z : List Int) (i : Nat) (g : Nat → Nat) : Prop := z = (List.range (4 * i)).map fun q => ((g q : Nat) : Int)
def BG (g : Nat → Nat) (i : Nat) : Prop := ∀ q, q < 4 * i → g q < 256
theorem ZS.len {z : List Int} {i : Nat} {g : Nat → Nat} (h : ZS z i g) : z.length = 4 * i := by rw [h]; simp
theorem ZS.rd {z : List Int} {i : Nat} {g : Nat → Nat} (h : ZS z i g) {q : Nat} (hq : q < 4 * i) : rdL (CI .u8) z (q : Int) = ((g q : Nat) : Int) := by
  rw [h]
  unfold rdL
  rw [Int.toNat_natCast, List.getD_eq_getElem?_getD, List.getElem?_map, List.getElem?_range hq]
  rfl
/-- one word more -/
def more (g : Nat → Nat) (i : Nat) (v : Nat → Nat) (q : Nat) : Nat := if q < 4 * i then g q else v (q - 4 * i)
theorem more_bd {g v : Nat → Nat} {i : Nat} (hg : BG g i) (hv : B4 v) : BG (more g i v) (i + 1) := fun q hq => by
  unfold more
  split
  · exact hg q (by assumption)
  · exact hv _ (by omega)
theorem WS.more {ws : List (Arr 4)} {i : Nat} {g v : Nat → Nat} {w : Arr 4} (h : WS ws i g) (hw : WdS w v) : WS (ws ++ [w]) (i + 1) (more g i v) := by
  refine ⟨by rw [List.length_append, h.1]; rfl, fun p hp r hr => ?_⟩
  show rd (rdL C4 (ws ++ [w]) (p : Int)) (r : Int) = ((Go.Proofs.Ytmpagpbnpgcecaa.more g i v (4 * p + r) : Nat) : Int)
  unfold Go.Proofs.Ytmpagpbnpgcecaa.more
  by_cases hp' : p < i
  · have e : rdL C4 (ws ++ [w]) (p : Int) = rdL C4 ws (p : Int) := by
      unfold rdL
      rw [Int.toNat_natCast, List.getD_eq_getElem?_getD, List.getD_eq_getElem?_getD, List.getElem?_append_left (by rw [h.1]; exact hp')]
    rw [e, if_pos (by omega)]
    exact h.2 p hp' r hr
  · obtain rfl : p = i := by omega
    have e : rdL C4 (ws ++ [w]) (p : Int) = w := by
      unfold rdL
      rw [Int.toNat_natCast, List.getD_eq_getElem?_getD, List.getElem?_append_right (by rw [h.1]; omega), h.1, Nat.sub_self]
      rfl
    rw [e, if_neg (by omega), show 4 * p + r - 4 * p = r by omega]
    exact hw r hr
theorem ZS.more {z : List Int} {i : Nat} {g v : Nat → Nat} (h : ZS z i g) : ZS (z ++ [((v 0 : Nat) : Int), ((v 1 : Nat) : Int), ((v 2 : Nat) : Int), ((v 3 : Nat) : Int)]) (i + 1) (more g i v) := by
  unfold ZS at *
  rw [h, show 4 * (i + 1) = 4 * i + 1 + 1 + 1 + 1 by omega, List.range_succ, List.range_succ, List.range_succ, List.range_succ]
  simp only [List.map_append, List.map_cons, List.map_nil, List.append_assoc, List.cons_append, List.nil_append]
  have e0 : Go.Proofs.Ytmpagpbnpgcecaa.more g i v (4 * i) = v 0 := by unfold Go.Proofs.Ytmpagpbnpgcecaa.more; rw [if_neg (by omega), show 4 * i - 4 * i = 0 by omega]
  have e1 : Go.Proofs.Ytmpagpbnpgcecaa.more g i v (4 * i + 1) = v 1 := by unfold Go.Proofs.Ytmpagpbnpgcecaa.more; rw [if_neg (by omega), show 4 * i + 1 - 4 * i = 1 by omega]
  have e2 : Go.Proofs.Ytmpagpbnpgcecaa.more g i v (4 * i + 1 + 1) = v 2 := by unfold Go.Proofs.Ytmpagpbnpgcecaa.more; rw [if_neg (by omega), show 4 * i + 1 + 1 - 4 * i = 2 by omega]
  have e3 : Go.Proofs.Ytmpagpbnpgcecaa.more g i v (4 * i + 1 + 1 + 1) = v 3 := by unfold Go.Proofs.Ytmpagpbnpgcecaa.more; rw [if_neg (by omega), show 4 * i + 1 + 1 + 1 - 4 * i = 3 by omega]
  rw [e0, e1, e2, e3]
  congr 1
  refine List.map_congr_left fun q hq => ?_
  unfold Go.Proofs.Ytmpagpbnpgcecaa.more
  rw [if_pos (List.mem_range.1 hq)]
/-- what comes into the next word -/
def vN (g : Nat → Nat) (nk i s : Nat) (r : Nat) : Nat :=
  if i % nk = 0 then bx (g (4 * (i - 1) + (r + 1) % 4)) ^^^ (if r = 0 then s else 0) else if nk = 8 ∧ i % 8 = 4 then bx (g (4 * (i - 1) + r)) else g (4 * (i - 1) + r)
def sN (nk i s : Nat) : Nat := if i % nk = 0 then gm s 2 else s
def wN (g : Nat → Nat) (nk i s : Nat) (r : Nat) : Nat := g (4 * (i - nk) + r) ^^^ vN g nk i s r
theorem vN_bd {g : Nat → Nat} {nk i s : Nat} (hg : BG g i) (hi : 0 < i) (hs : s < 256) : B4 (vN g nk i s) := fun r hr => by
  unfold vN
  split
  · refine xor_lt (bx_lt (hg _ (by omega))) ?_
    split
    · exact hs
    · decide
  · split
    · exact bx_lt (hg _ (by omega))
    · exact hg _ (by omega)
theorem sN_lt {nk i s : Nat} (hs : s < 256) : sN nk i s < 256 := by
  unfold sN
  split
  · exact gm_lt hs
  · exact hs
theorem wN_bd {g : Nat → Nat} {nk i s : Nat} (hg : BG g i) (hk : 0 < nk) (hi : nk ≤ i) (hs : s < 256) : B4 (wN g nk i s) := fun r hr => xor_lt (hg _ (by omega)) (vN_bd hg (by omega) hs r hr)
end Go.Proofs.Ytmpagpbnpgcecaa
