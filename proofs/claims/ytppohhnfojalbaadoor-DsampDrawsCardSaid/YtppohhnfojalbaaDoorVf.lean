/- Layer 23 (dsamp), plain laws: balls that a seed draws, by the document. -/
import Derived.Test.YtppohhnfojalbaaDoorVd
set_option linter.unusedSimpArgs false
set_option linter.unusedVariables false
set_option maxRecDepth 100000
namespace Go.Proofs.YtppohhnfojalbaaDoor
open Go Go.Mx
theorem rball_l1 {b : List Int} (hb : Byt b) (lb : b.length ≤ 14000) {j : Nat} (hj : j < 256) : ∀ (m t k : Nat), t + m = b.length → m < k →
    ∃ u : Nat, ref23_ball.l1 60000 k b (j : Int) (t : Int) = some (u : Int) ∧ u ≤ b.length ∧ (∀ (a : Arr 256) (s : Int), ballF (b.drop t) (j : Int) a s = ballF (b.drop u) (j : Int) a s) ∧ ∀ h : u < b.length, b[u] ≤ (j : Int) := by
  intro m
  induction m with
  | zero =>
    intro t k ht hk
    obtain ⟨k, rfl⟩ : ∃ q, k = q + 1 := ⟨k - 1, by omega⟩
    have c : ¬ (t : Int) < ((b.length : Nat) : Int) := by omega
    exact ⟨t, by simp only [ref23_ball.l1, c, if_false], by omega, fun _ _ => rfl, fun h => absurd h (by omega)⟩
  | succ m ih =>
    intro t k ht hk
    obtain ⟨k, rfl⟩ : ∃ q, k = q + 1 := ⟨k - 1, by omega⟩
    have htl : t < b.length := by omega
    have c : (t : Int) < ((b.length : Nat) : Int) := by omega
    have c0 : (0 : Int) ≤ (t : Int) := by omega
    obtain ⟨x0, x1⟩ := hb _ (List.getElem_mem htl)
    have cv : iconv .i64 b[t] = b[t] := by unfold iconv; exact id64 (by omega) (by omega)
    by_cases hx : b[t] > (j : Int)
    · obtain ⟨u, u1, u2, u3, u4⟩ := ih (t + 1) k (by omega) (by omega)
      refine ⟨u, ?_, u2, fun a s => ?_, u4⟩
      · simp only [ref23_ball.l1, c, c0, rdL_get htl, cv, hx, ginc (i := t) (by omega), if_true, Option.bind_some]
        exact u1
      · rw [List.drop_eq_getElem_cons htl]
        show (if b[t] > (j : Int) then ballF (b.drop (t + 1)) (j : Int) a s else _) = _
        rw [if_pos hx]
        exact u3 a s
    · exact ⟨t, by simp only [ref23_ball.l1, c, c0, rdL_get htl, cv, hx, if_true, if_false], by omega, fun _ _ => rfl, fun _ => by omega⟩
theorem rball_l0 {b : List Int} (hb : Byt b) (lb : b.length ≤ 14000) (w : Arr 256) : ∀ (m j k t : Nat) (a : Arr 256) (g : Int), j + m = 256 → 0 < m → m < k → t ≤ b.length → 0 ≤ g → g < 18446744073709551616 →
    ref23_ball.l0 60000 k b g (t : Int) (j : Int) a w = some (match ballF (b.drop t) (j : Int) a g with
      | some r => .inl (r, w)
      | none => .inr (zeroA 256, false)) := by
  intro m
  induction m with
  | zero => intro j k t a g _ h0; exact absurd h0 (by decide)
  | succ m ih =>
    intro j k t a g hj _ hk ht g0 g1
    obtain ⟨k, rfl⟩ : ∃ q, k = q + 1 := ⟨k - 1, by omega⟩
    have hj2 : j < 256 := by omega
    have c0 : (j : Int) < 256 := by omega
    have c1 : (0 : Int) ≤ (j : Int) := by omega
    obtain ⟨u, u1, u2, u3, u4⟩ := rball_l1 hb lb hj2 (b.length - t) t 60000 (by omega) (by omega)
    rw [u3]
    by_cases hu : u = b.length
    · have c2 : (u : Int) = ((b.length : Nat) : Int) := by omega
      rw [List.drop_of_length_le (by omega)]
      simp only [ref23_ball.l0, c0, u1, c2, if_true, Option.bind_some]
      rfl
    · have hul : u < b.length := by omega
      have c2 : ¬ (u : Int) = ((b.length : Nat) : Int) := by omega
      have c3 : (0 : Int) ≤ (u : Int) := by omega
      have c4 : (u : Int) < ((b.length : Nat) : Int) := by omega
      have hx := u4 hul
      obtain ⟨x0, x1⟩ := hb _ (List.getElem_mem hul)
      obtain ⟨x, ex⟩ : ∃ x, x = b[u] := ⟨_, rfl⟩
      have x0' : 0 ≤ x := by omega
      have x1' : x < 256 := by omega
      have cv : iconv .i64 x = x := by unfold iconv; exact id64 (by omega) (by omega)
      have er : irem .u64 g 2 = g % 2 := by unfold irem; exact Int.tmod_eq_emod_of_nonneg g0
      have eq : iquo .u64 g 2 = g / 2 := by unfold iquo; rw [tdivN g0, wu64]; omega
      have hb1 : ballF (b.drop u) (j : Int) a g = if (j : Int) + 1 = 256 then some (swp a (j : Int) x g) else ballF (b.drop (u + 1)) ((j : Int) + 1) (swp a (j : Int) x g) (g / 2) := by
        rw [List.drop_eq_getElem_cons hul, ex]
        show (if b[u] > (j : Int) then _ else _) = _
        rw [if_neg (by omega)]
      rw [hb1]
      have hsw : ((if g % 2 = 1 then some (wr (wr (wr a (j : Int) (rd a x)) x 1) x 8380416) else (some (wr (wr a (j : Int) (rd a x)) x 1)) : Option ((Arr 256)))) = some (swp a (j : Int) x g) := by
        unfold swp
        by_cases hg : g % 2 = 1
        · rw [if_pos hg, if_pos hg]
        · rw [if_neg hg, if_neg hg]
      simp only [ref23_ball.l0, c0, c1, u1, c2, c3, c4, rdL_get hul, ← ex, cv, x0', x1', er, eq, hsw, ginc (i := j) (by omega), ginc (i := u) (by omega), if_true, if_false, Option.bind_some]
      by_cases hl : j + 1 = 256
      · have c5 : (j : Int) + 1 = 256 := by omega
        have c6 : ¬ ((j + 1 : Nat) : Int) < 256 := by omega
        obtain ⟨k, rfl⟩ : ∃ q, k = q + 1 := ⟨k - 1, by omega⟩
        simp only [ref23_ball.l0, c5, c6, if_true, if_false]
      · have c5 : ¬ (j : Int) + 1 = 256 := by omega
        rw [if_neg c5]
        exact ih (j + 1) k (u + 1) (swp a (j : Int) x g) (g / 2) (by omega) (by omega) (by omega) (by omega) (by omega) (by omega)
def ofQ (B : Option (Arr 256)) : Arr 256 × Bool := match B with
  | some r => (r, true)
  | none => (zeroA 256, false)
theorem rball_eq {seed : List Int} (ls : seed.length ≤ 300) {tau : Int} (h1 : 1 ≤ tau) (h2 : tau ≤ 64) {n : Nat} (hn : n ≤ 5000) {N : Int} (hN : N = ((8 + n : Nat) : Int)) : ref23_ball.f 60000 seed tau N = some (ofQ (ballF (sqV 7 (sqV 7 (absV 7 (zeroA 25, 0) false seed) false 8).2.1 (sqV 7 (absV 7 (zeroA 25, 0) false seed) false 8).2.2 (n : Int)).1 (256 - tau) (zeroA 256) ((NB (sqV 7 (absV 7 (zeroA 25, 0) false seed) false 8).1 : Nat) : Int))) := by
  subst hN
  have s := sum_eq 7 (by decide) (show seed.length ≤ 900 by omega) (n := ((8 + n : Nat) : Int)) (by omega) (by omega)
  obtain ⟨S, eS⟩ : ∃ S, S = absV 7 (zeroA 25, 0) false seed := ⟨_, rfl⟩
  rw [← eS] at s
  rw [← eS]
  have ha := sqv_add 7 S false (n := 8) (m := (n : Int)) (by decide) (by omega)
  rw [show (8 : Int) + (n : Int) = ((8 + n : Nat) : Int) by omega] at ha
  obtain ⟨b, eb⟩ : ∃ b, b = (sqV 7 S false ((8 + n : Nat) : Int)).1 := ⟨_, rfl⟩
  obtain ⟨f, ef⟩ : ∃ f, f = (sqV 7 S false 8).1 := ⟨_, rfl⟩
  obtain ⟨r, er⟩ : ∃ r, r = (sqV 7 (sqV 7 S false 8).2.1 (sqV 7 S false 8).2.2 (n : Int)).1 := ⟨_, rfl⟩
  have lb : b.length = 8 + n := by rw [eb, sqv_len, Int.toNat_natCast]
  have lf : f.length = 8 := by rw [ef, sqv_len]; rfl
  have bb : Byt b := by rw [eb]; exact sqv_byt _ _ _ _
  have bf : Byt f := by rw [ef]; exact sqv_byt _ _ _ _
  rw [← eb, ← ef, ← er] at ha
  rw [← eb] at s
  rw [← ef, ← er]
  have s8 : subL b 0 8 = f := by
    show (b.take 8).drop 0 = f
    rw [List.drop_zero, ha, List.take_left' lf]
  have d8 : b.drop 8 = r := by rw [ha, List.drop_left' lf]
  have nm := rNum bf lf
  have lt8 := NB8 bf lf
  obtain ⟨j, ej⟩ : ∃ j : Nat, 256 - tau = (j : Int) := ⟨(256 - tau).toNat, by omega⟩
  have l := rball_l0 bb (by omega) (zeroA 256) (256 - j) j 60000 8 (zeroA 256) ((NB f : Nat) : Int) (by omega) (by omega) (by omega) (by omega) (by omega) lt8
  rw [d8] at l
  have l' : ref23_ball.l0 60000 60000 b ((NB f : Nat) : Int) 8 (j : Int) (zeroA 256) (zeroA 256) = _ := l
  have es : isub .i64 256 tau = (j : Int) := by rw [← ej]; exact sub64 (by omega) (by omega)
  have c0 : (0 : Int) ≤ 0 := by decide
  have c1 : (0 : Int) ≤ 8 := by decide
  have c2 : (8 : Int) ≤ ((b.length : Nat) : Int) := by omega
  unfold ref23_ball.f
  rw [s]
  simp only [Option.bind_some, c0, c1, c2, s8, nm, es, if_true]
  rw [l', ej]
  cases ballF r (j : Int) (zeroA 256) ((NB f : Nat) : Int) with
  | some r => rfl
  | none => rfl
theorem rball_core {A1 A2 : Option (Arr 256 × Bool)} {B1 B2 : Option (Arr 256)} (h1 : A1 = some (ofQ B1)) (h2 : A2 = some (ofQ B2)) (more : ∀ r, B1 = some r → B2 = some r) :
    (A1.bind fun (r2, r3) => if r3 = true then (some (r2, (0 : Int))) else ((((A2.bind fun (r8, r9) => if r9 = true then (some (true, r8)) else (some (false, r8)) : Option (Bool × (Arr 256)))).bind fun (y6, y7) => if y6 = true then (some (y7, 0)) else (some ((zeroA 256), 12))))) = some (ofB B2) := by
  subst h1 h2
  cases B1 with
  | some r =>
    rw [more r rfl]
    rfl
  | none => cases B2 <;> rfl
theorem rBall {seed : List Int} (ls : seed.length ≤ 300) {tau : Int} (h1 : 1 ≤ tau) (h2 : tau ≤ 64) : ref23_Ball.f 60000 seed tau = some (balV (absV 7 (zeroA 25, 0) false seed) tau) := by
  have r1 := rball_eq ls h1 h2 (n := 264) (by decide) (N := 272) (by decide)
  have r2 := rball_eq ls h1 h2 (n := 4096) (by decide) (N := 4104) (by decide)
  have c1 : ((264 : Nat) : Int) = 264 := rfl
  have c2 : ((4096 : Nat) : Int) = 4096 := rfl
  rw [c1] at r1
  rw [c2] at r2
  obtain ⟨S, eS⟩ : ∃ S, S = absV 7 (zeroA 25, 0) false seed := ⟨_, rfl⟩
  rw [← eS] at r1 r2
  rw [← eS]
  have et := sqv_take 7 (sqV 7 S false 8).2.1 (sqV 7 S false 8).2.2 (n := 264) (m := 4096) (by decide) (by decide)
  have more : ∀ r, ballF (sqV 7 (sqV 7 S false 8).2.1 (sqV 7 S false 8).2.2 264).1 (256 - tau) (zeroA 256) ((NB (sqV 7 S false 8).1 : Nat) : Int) = some r → ballF (sqV 7 (sqV 7 S false 8).2.1 (sqV 7 S false 8).2.2 4096).1 (256 - tau) (zeroA 256) ((NB (sqV 7 S false 8).1 : Nat) : Int) = some r := fun r h => by
    rw [et]
    exact ballF_app _ _ _ _ _ _ h
  unfold balV
  unfold ref23_Ball.f
  rw [if_neg (by omega), if_neg (by omega)]
  exact rball_core r1 r2 more
end Go.Proofs.YtppohhnfojalbaaDoor
