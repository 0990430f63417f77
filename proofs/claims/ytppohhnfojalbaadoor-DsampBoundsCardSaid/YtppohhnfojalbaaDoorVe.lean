/- Layer 23 (dsamp), plain laws: balls that a seed draws, by the program. -/
import Derived.Test.YtppohhnfojalbaaDoorVd
set_option linter.unusedSimpArgs false
set_option linter.unusedVariables false
set_option maxRecDepth 100000
namespace Go.Proofs.YtppohhnfojalbaaDoor
open Go Go.Mx
theorem kball_l0 (s : Arr 25 × Nat) (o : Bool) (fs : FitS 7 s o) (i : Int) (a : Arr 256) (g z : Int) (w : Arr 256) (hp : bP (i, a, g, z, w)) : ∃ (s' : Arr 25 × Nat) (o' : Bool), dsamp_Ball.l0 60000 60000 4096 7 s.1 (s.2 : Int) o i a g z w = some (match run bSt (i, a, g, z, w) (sqV 7 s o 4096).1 with
    | .inl v' => .inl ((7 : Int), s'.1, (s'.2 : Int), o', v')
    | .inr r => .inr r) := by
  have key := loop0 (st := bSt) (P := bP) bP_st 7 (fun k left s o v => dsamp_Ball.l0 60000 k left 7 s.1 (s.2 : Int) o v.1 v.2.1 v.2.2.1 v.2.2.2.1 v.2.2.2.2) (fun s o v => ((7 : Int), s.1, (s.2 : Int), o, v)) (fun k left s o v h => by
      simp only [dsamp_Ball.l0, h, if_false]) (fun k left s o v h0 h1 hs hv => by
    have q := kSq 7 s o hs (imin 136 left) (by rw [imin136]; split <;> omega)
    have l := ball_l1 (sqv_byt 7 s o (imin 136 left)) (by rw [sqv_len, imin136]; split <;> omega) v hv
    have e : isub .i64 left 136 = left - 136 := sub64 (by omega) (by omega)
    simp only [dsamp_Ball.l0, h0, if_true]
    rw [q]
    simp only [Option.bind_some]
    rw [l]
    simp only [Option.bind_some, e]
    cases run bSt v (sqV 7 s o (imin 136 left)).1 with
    | inl v' => rfl
    | inr r => rfl)
  obtain ⟨s', o', e⟩ := key 31 60000 4096 s o (i, a, g, z, w) (by decide) (by decide) (by decide) fs hp
  refine ⟨s', o', Eq.trans e ?_⟩
  generalize run bSt (i, a, g, z, w) (sqV 7 s o 4096).1 = T
  cases T <;> rfl
theorem ball_core {Y : Type} {Sp : Option (Int × Arr 25 × Int × Bool)} {Sq : Int → Arr 25 → Int → Bool → Option (Int × Arr 25 × Int × Bool × List Int)} {Nm : List Int → Option Int} {x12 : Int} {L : Int → Int → Arr 25 → Int → Bool → Int → Option (Y ⊕ (Arr 256 × Int))} {k : Int} {a : Arr 25} {t : Int} {o : Bool} {k2 : Int} {a2 : Arr 25} {t2 : Int} {o2 : Bool} {bs : List Int} {n : Int} {T : Y ⊕ (Arr 256 × Int)} {F : Y ⊕ (Arr 256 × Int) → Option (Arr 256 × Int)}
    (h1 : Sp = some (k, a, t, o)) (h2 : Sq k a t o = some (k2, a2, t2, o2, bs)) (h3 : Nm bs = some n) (h4 : L x12 k2 a2 t2 o2 n = some T) :
    (Sp.bind fun (r4_0, r4_1, r4_2, r4_3) => (Sq r4_0 r4_1 r4_2 r4_3).bind fun (r5_0, r5_1, r5_2, r5_3, r6) => (Nm r6).bind fun r8 => (some x12).bind fun x12 => (L x12 r5_0 r5_1 r5_2 r5_3 r8).bind F) = F T := by
  subst h1
  simp only [Option.bind_some, h2, h3, h4]
theorem kBall {seed : List Int} (ls : seed.length ≤ 300) {tau : Int} (h1 : 1 ≤ tau) (h2 : tau ≤ 64) : dsamp_Ball.f 60000 seed tau = some (balV (absV 7 (zeroA 25, 0) false seed) tau) := by
  obtain ⟨S, eS⟩ : ∃ S, S = absV 7 (zeroA 25, 0) false seed := ⟨_, rfl⟩
  have fS : FitS 7 S false := by rw [eS]; exact fit_sponge (by decide) _
  have sp := sponge_eq 7 (by decide) (W := [seed]) (by show 1 < 1000; decide) (by simp; omega)
  rw [show ([seed] : List (List Int)).flatten = seed by simp, ← eS] at sp
  rw [← eS]
  have q8 := kSq 7 S false fS 8 (by decide)
  have f8 := fit_sq fS 8
  have n8 := kNum (sqv_byt 7 S false 8) (by rw [sqv_len]; rfl)
  have lt8 := NB8 (sqv_byt 7 S false 8) (by rw [sqv_len]; rfl)
  obtain ⟨s', o', e'⟩ := kball_l0 (sqV 7 S false 8).2.1 (sqV 7 S false 8).2.2 f8 (256 - tau) (zeroA 256) ((NB (sqV 7 S false 8).1 : Nat) : Int) 0 (zeroA 256) ⟨⟨by show 0 ≤ 256 - tau; omega, by show 256 - tau < 256; omega⟩, Int.natCast_nonneg _, lt8⟩
  have es : isub .i64 256 tau = 256 - tau := sub64 (by omega) (by omega)
  have sp' : dsamp_sponge.f 60000 7 [seed] = some (7, S.1, (S.2 : Int), false) := sp
  have rb := run_ball (sqV 7 (sqV 7 S false 8).2.1 (sqV 7 S false 8).2.2 4096).1 (256 - tau) (zeroA 256) ((NB (sqV 7 S false 8).1 : Nat) : Int) 0 (zeroA 256)
  unfold balV
  revert rb e'
  generalize run bSt (256 - tau, zeroA 256, ((NB (sqV 7 S false 8).1 : Nat) : Int), 0, zeroA 256) (sqV 7 (sqV 7 S false 8).2.1 (sqV 7 S false 8).2.2 4096).1 = T
  generalize ballF (sqV 7 (sqV 7 S false 8).2.1 (sqV 7 S false 8).2.2 4096).1 (256 - tau) (zeroA 256) ((NB (sqV 7 S false 8).1 : Nat) : Int) = B
  intro e' rb
  have core := ball_core (x12 := isub .i64 256 tau) (Nm := bits_NumLe.f 60000) (F := fun t0 => match t0 with
    | .inl (y22_0, y22_1, y22_2, y22_3, y23, y24, y25, y26, y27) => some ((zeroA 256), 12)
    | .inr r => some r) (L := fun x12 r5_0 r5_1 r5_2 r5_3 r8 => dsamp_Ball.l0 60000 60000 4096 r5_0 r5_1 r5_2 r5_3 x12 (zeroA 256) r8 0 (zeroA 256)) (Sq := fun a b c d => keccak_Squeeze.f 60000 a b c d 8) sp' q8 n8 (by
      show dsamp_Ball.l0 60000 60000 4096 7 (sqV 7 S false 8).2.1.1 ((sqV 7 S false 8).2.1.2 : Int) (sqV 7 S false 8).2.2 (isub .i64 256 tau) (zeroA 256) ((NB (sqV 7 S false 8).1 : Nat) : Int) 0 (zeroA 256) = _
      rw [es]
      exact e')
  unfold dsamp_Ball.f
  rw [if_neg (by omega), if_neg (by omega)]
  refine core.trans ?_
  rcases rb with ⟨v', r1, r2⟩ | ⟨r, r1, r2⟩
  · subst r1 r2
    rfl
  · subst r1 r2
    rfl
end Go.Proofs.YtppohhnfojalbaaDoor
