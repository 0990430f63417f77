/- Layer 10 (aes), plain laws: a key's cipher, as both make it. -/
import Derived.Test.YtmpagpbnpgcecaaEp
set_option linter.unusedSimpArgs false
set_option linter.unusedVariables false
set_option maxRecDepth 100000
namespace Go.Proofs.Ytmpagpbnpgcecaa
open Go Go.Mx
/-- what both make of a key, and of blocks by it -/
structure Cy (kek : List Int) (rk : List (Arr 16)) (z : List Int) (E D : List Int → List Int) : Prop where
  began : aes_began_s.f 1000 kek = some (tabs.1, tabs.2, rk)
  keys : ref10_keys.f 1000 kek tabs.1 = some z
  there : ∀ b, InL .u8 b → b.length = 16 → ∃ y, aes_cipher_there_s.f 1000 tabs.1 tabs.2 rk (arrL 16 b) = some y ∧ lA y = E b ∧ ref10_there.f 1000 z b tabs.1 = some (E b) ∧ (E b).length = 16 ∧ InL .u8 (E b)
  back : ∀ b, InL .u8 b → b.length = 16 → ∃ y, aes_cipher_undo_s.f 1000 tabs.1 tabs.2 rk (arrL 16 b) = some y ∧ lA y = D b ∧ ref10_back.f 1000 z b tabs.2 = some (D b) ∧ (D b).length = 16 ∧ InL .u8 (D b)
  inv : ∀ b, InL .u8 b → b.length = 16 → D (E b) = b ∧ E (D b) = b
theorem thereK {nk : Nat} (hn : nk = 4 ∨ nk = 6 ∨ nk = 8) {rk : List (Arr 16)} {z : List Int} {g : Nat → Nat} (hrk : RK rk (nk + 7) g) (hz : ZS z (4 * (nk + 7)) g) (hg : BG g (4 * (nk + 7))) {b : List Int} (hb : InL .u8 b) (hlb : b.length = 16) :
    ∃ x y, aes_cipher_there_s.f 1000 tabs.1 tabs.2 rk (arrL 16 b) = some y ∧ lA y = x ∧ ref10_there.f 1000 z b tabs.1 = some x ∧ x.length = 16 ∧ InL .u8 x ∧ LsS x (tF g (nk + 7) (bS b)) := by
  obtain ⟨hs, bs, as⟩ := ls_of hb hlb
  have bk := kS_bd hg (r := 0) (by omega)
  obtain ⟨y0, e5, a0⟩ := aKey 1000 (by omega) as bs bk rk 0 (hrk.2 0 (by omega))
  obtain ⟨x0, f0, b0⟩ := rXor 1000 (by omega) hs (rKey hz (r := 0) (by omega)) bs bk
  obtain ⟨y, x, s', e6, f1, a1, b1, bs', hs'⟩ := aThere 1000 (by omega) (by omega) (by omega) hrk hz hg (nk + 7 - 1) 1 1000 1000 y0 x0 _ (by omega) (by omega) (by omega) a0 b0 (xk_bd bs bk)
  have hxy : lA y = x := ls_eq b1 a1
  have e6' : aes_cipher_there_s.l0 1000 1000 tabs.1 tabs.2 rk ((nk + 7 - 1 : Nat) : Int) 1 y0 = some y := e6
  have f1' : ref10_there.l0 1000 1000 z tabs.1 ((nk + 7 - 1 : Nat) : Int) 1 x0 = some x := f1
  have f0' : ref01_Xor.f 1000 b (subL z 0 16) = some x0 := f0
  have p1 : isub .i64 ((rk.length : Nat) : Int) 1 = ((nk + 7 - 1 : Nat) : Int) := by rw [hrk.1]; exact sub_nat (b := 1) (by omega) (by omega)
  have e5' : aes_cipher_add_s.f 1000 tabs.1 tabs.2 rk (arrL 16 b) 0 = some y0 := addS 1000 (r := 0) (by rw [hrk.1]; omega) e5
  have q : iquo .i64 ((z.length : Nat) : Int) 16 = ((nk + 7 : Nat) : Int) := by
    unfold iquo
    rw [hz.len, tdivN (by omega), id64 (by omega) (by omega)]
    omega
  have p2 : isub .i64 ((nk + 7 : Nat) : Int) 1 = ((nk + 7 - 1 : Nat) : Int) := sub_nat (b := 1) (by omega) (by omega)
  have c5 : (0 : Int) ≤ 0 := by decide
  have c6 : (0 : Int) ≤ 16 := by decide
  have c7 : (16 : Int) ≤ ((z.length : Nat) : Int) := by rw [hz.len]; omega
  refine ⟨x, y, ?_, hxy, ?_, (bytes_of b1 bs').1, (bytes_of b1 bs').2, by rw [hs'] at b1; exact b1⟩
  · unfold aes_cipher_there_s.f
    simp only [p1, e5', e6', Option.bind_some]
  · unfold ref10_there.f
    simp only [q, p2, c5, c6, c7, f0', f1', if_true, Option.bind_some]
theorem backK {nk : Nat} (hn : nk = 4 ∨ nk = 6 ∨ nk = 8) {rk : List (Arr 16)} {z : List Int} {g : Nat → Nat} (hrk : RK rk (nk + 7) g) (hz : ZS z (4 * (nk + 7)) g) (hg : BG g (4 * (nk + 7))) {b : List Int} (hb : InL .u8 b) (hlb : b.length = 16) :
    ∃ x y, aes_cipher_undo_s.f 1000 tabs.1 tabs.2 rk (arrL 16 b) = some y ∧ lA y = x ∧ ref10_back.f 1000 z b tabs.2 = some x ∧ x.length = 16 ∧ InL .u8 x ∧ LsS x (bF g (nk + 7) (bS b)) := by
  obtain ⟨hs, bs, as⟩ := ls_of hb hlb
  have bk' := kS_bd hg (r := 0) (by omega)
  obtain ⟨y, x, s', e6, f1, a1, b1, bs', hs'⟩ := aBackL 1000 (by omega) (by omega) hrk hz hg (nk + 7 - 1) 1000 1000 _ _ (bS b) (by omega) (by omega) (by omega) as hs bs
  obtain ⟨y0, e5, a0⟩ := aKey 1000 (by omega) a1 bs' bk' rk 0 (hrk.2 0 (by omega))
  obtain ⟨x0, f0, b0⟩ := rXor 1000 (by omega) b1 (rKey hz (r := 0) (by omega)) bs' bk'
  have hxy : lA y0 = x0 := ls_eq b0 a0
  have f0' : ref01_Xor.f 1000 x (subL z 0 16) = some x0 := f0
  have p1 : isub .i64 ((rk.length : Nat) : Int) 1 = ((nk + 7 - 1 : Nat) : Int) := by rw [hrk.1]; exact sub_nat (b := 1) (by omega) (by omega)
  have e5' : aes_cipher_add_s.f 1000 tabs.1 tabs.2 rk y 0 = some y0 := addS 1000 (r := 0) (by rw [hrk.1]; omega) e5
  have q : iquo .i64 ((z.length : Nat) : Int) 16 = ((nk + 7 : Nat) : Int) := by
    unfold iquo
    rw [hz.len, tdivN (by omega), id64 (by omega) (by omega)]
    omega
  have p2 : isub .i64 ((nk + 7 : Nat) : Int) 1 = ((nk + 7 - 1 : Nat) : Int) := sub_nat (b := 1) (by omega) (by omega)
  have c5 : (0 : Int) ≤ 0 := by decide
  have c6 : (0 : Int) ≤ 16 := by decide
  have c7 : (16 : Int) ≤ ((z.length : Nat) : Int) := by rw [hz.len]; omega
  refine ⟨x0, y0, ?_, hxy, ?_, (bytes_of b0 (xk_bd bs' bk')).1, (bytes_of b0 (xk_bd bs' bk')).2, by rw [hs'] at b0; exact b0⟩
  · unfold aes_cipher_undo_s.f
    simp only [p1, e6, e5', Option.bind_some]
  · unfold ref10_back.f
    simp only [q, p2, f1, c5, c6, c7, f0', if_true, Option.bind_some]
theorem cy_of {kek : List Int} (hb : InL .u8 kek) (hs : kek.length = 16 ∨ kek.length = 24 ∨ kek.length = 32) : ∃ rk z E D, Cy kek rk z E D := by
  obtain ⟨nk, hn, hl⟩ : ∃ nk, (nk = 4 ∨ nk = 6 ∨ nk = 8) ∧ kek.length = 4 * nk := by
    rcases hs with h | h | h
    · exact ⟨4, by simp, h⟩
    · exact ⟨6, by simp, h⟩
    · exact ⟨8, by simp, h⟩
  have n1 : nk ≤ 8 := by omega
  obtain ⟨g, ws0, ws, rk, z, e1, e2, e3, hrk, e4, hz, hbg⟩ := keysOf 1000 (by decide) hb (nk := nk) (by omega) n1 hl
  have h1 : ∀ b : List Int, ∃ x, InL .u8 b → b.length = 16 → ∃ y, aes_cipher_there_s.f 1000 tabs.1 tabs.2 rk (arrL 16 b) = some y ∧ lA y = x ∧ ref10_there.f 1000 z b tabs.1 = some x ∧ x.length = 16 ∧ InL .u8 x ∧ LsS x (tF g (nk + 7) (bS b)) := fun b => by
    by_cases h : InL .u8 b ∧ b.length = 16
    · obtain ⟨x, e⟩ := thereK hn hrk hz hbg h.1 h.2
      exact ⟨x, fun _ _ => e⟩
    · exact ⟨[], fun a c => absurd ⟨a, c⟩ h⟩
  have h2 : ∀ b : List Int, ∃ x, InL .u8 b → b.length = 16 → ∃ y, aes_cipher_undo_s.f 1000 tabs.1 tabs.2 rk (arrL 16 b) = some y ∧ lA y = x ∧ ref10_back.f 1000 z b tabs.2 = some x ∧ x.length = 16 ∧ InL .u8 x ∧ LsS x (bF g (nk + 7) (bS b)) := fun b => by
    by_cases h : InL .u8 b ∧ b.length = 16
    · obtain ⟨x, e⟩ := backK hn hrk hz hbg h.1 h.2
      exact ⟨x, fun _ _ => e⟩
    · exact ⟨[], fun a c => absurd ⟨a, c⟩ h⟩
  refine ⟨rk, z, fun b => Classical.choose (h1 b), fun b => Classical.choose (h2 b), ⟨?_, e4, fun b hb hl => ?_, fun b hb hl => ?_, fun b hb hl => ?_⟩⟩
  · have c3 : (0 : Int) ≤ ((4 * (nk + 7) : Nat) : Int) := by omega
    have c4 : ((4 * (nk + 7) : Nat) : Int) ≤ 35184372088832 := by omega
    unfold aes_began_s.f
    simp only [aMade, hl, iq4 n1, nwords n1, c3, c4, e1, e2, e3, if_true, Option.bind_some]
  · obtain ⟨y, a1, a2, a3, a4, a5, _⟩ := Classical.choose_spec (h1 b) hb hl
    exact ⟨y, a1, a2, a3, a4, a5⟩
  · obtain ⟨y, a1, a2, a3, a4, a5, _⟩ := Classical.choose_spec (h2 b) hb hl
    exact ⟨y, a1, a2, a3, a4, a5⟩
  · obtain ⟨_, _, _, _, l1, b1, s1⟩ := Classical.choose_spec (h1 b) hb hl
    obtain ⟨_, _, _, _, l2, b2, s2⟩ := Classical.choose_spec (h2 b) hb hl
    obtain ⟨_, _, _, _, _, _, s3⟩ := Classical.choose_spec (h2 _) b1 l1
    obtain ⟨_, _, _, _, _, _, s4⟩ := Classical.choose_spec (h1 _) b2 l2
    exact ⟨(inv_blocks (by omega) hbg hb hl).1 s1 s3, (inv_blocks (by omega) hbg hb hl).2 s2 s4⟩
end Go.Proofs.Ytmpagpbnpgcecaa
