/- Layer 25: numbers of few bits that are widened are squeezed to what they were; numbers that are squeezed and widened are off by no more than half a step; in plain Lean. -/
import Derived.Test.YtijahfdldlmnhaaLKqAbout
import Derived.Test.YtijahfdldlmnhaaKb
import Derived.Test.YtijahfdldlmnhaaKc
set_option linter.unusedSimpArgs false
set_option linter.unusedVariables false
namespace Go.Proofs.Ytijahfdldlmnhaa
open Go Go.Mx
theorem bits_of (b : Int) (h0 : 0 ≤ b) (h1 : b ≤ 255) : iadd .i64 1 (iconv .i64 (irem .u8 b 11)) = ((1 + (b % 11).toNat : Nat) : Int) := by
  unfold irem
  rw [tmodN h0, conv64 (by omega) (by omega), add64 (by omega) (by omega)]
  omega
theorem rd_sqzA (d : Nat) (a : Arr 256) (i : Nat) (hi : i < 256) : rd (sqzA d a) i = ((sqz d (rd a (i : Nat)).toNat : Nat) : Int) := by
  unfold sqzA; rw [rd_mapA _ _ hi]
theorem rd_widA (d : Nat) (a : Arr 256) (i : Nat) (hi : i < 256) : rd (widA d a) i = ((wid d (rd a (i : Nat)).toNat : Nat) : Int) := by
  unfold widA; rw [rd_mapA _ _ hi]
theorem about3 {d x : Nat} (h1 : 1 ≤ d) (h2 : d ≤ 11) (hx : x < 3329) : wid d (sqz d x) < 3329 ∧ sqz d (wid d (sqz d x)) = sqz d x ∧ offN (wid d (sqz d x)) x ≤ (3329 + 2 ^ d) / (2 * 2 ^ d) := by
  have h := about h1 h2 hx
  unfold okAbout at h
  simp only [Bool.and_eq_true, decide_eq_true_eq, beq_iff_eq] at h
  exact h
theorem bel_wid {d : Nat} (h1 : 1 ≤ d) (h2 : d ≤ 11) {a : Arr 256} (ha : Bel 3329 a) : Bel 3329 (widA d (sqzA d a)) := fun i hi => by
  rw [rd_widA _ _ _ hi, rd_sqzA _ _ _ hi]
  obtain ⟨x0, x1⟩ := ha i hi
  have := (about3 h1 h2 (x := (rd a (i : Nat)).toNat) (by omega)).1
  rw [Int.toNat_natCast]
  omega
theorem sqz_wid_sqz {d : Nat} (h1 : 1 ≤ d) (h2 : d ≤ 11) {a : Arr 256} (ha : Bel 3329 a) : sqzA d (widA d (sqzA d a)) = sqzA d a := by
  refine arr_ext fun i hi => ?_
  obtain ⟨x0, x1⟩ := ha i hi
  rw [rd_sqzA _ _ _ hi, rd_widA _ _ _ hi, rd_sqzA _ _ _ hi, Int.toNat_natCast, Int.toNat_natCast, (about3 h1 h2 (by omega)).2.1]
theorem shl64 {d : Nat} (c : Nat) (hc : c ≤ 2) (h : d ≤ 11) : ishl .i64 (c : Int) (d : Int) = ((c * 2 ^ d : Nat) : Int) := by
  have hp := pow_bd h
  have hm : c * 2 ^ d ≤ 2 * 2048 := Nat.mul_le_mul hc hp
  exact ishl_nat (by simp only [IntKind.bits]; omega) (by simp only [top, IntKind.bits, IntKind.signed, if_true]; omega)
theorem about_loop (K d : Nat) (hK : 256 < K) (h1 : 1 ≤ d) (h2 : d ≤ 11) (a : Arr 256) (ha : Bel 3329 a) :
    law25_KqAbout.l0 K K (d : Int) (sqzA d a) (((3329 + 2 ^ d) / (2 * 2 ^ d) : Nat) : Int) (ksub (widA d (sqzA d a)) a) 0 = some (.inl ()) := by
  rw [loop_all (n := 256) (fun k i => law25_KqAbout.l0 K k (d : Int) (sqzA d a) (((3329 + 2 ^ d) / (2 * 2 ^ d) : Nat) : Int) (ksub (widA d (sqzA d a)) a) i) (fun _ => true) false a ?_ ?_ ?_ K hK]
  · rw [if_pos]
    unfold allA
    exact decide_eq_true fun _ _ => rfl
  · intro k i hi _
    obtain ⟨x0, x1⟩ := ha i hi
    have g1 : (i : Int) < 256 := by omega
    have g2 : (0 : Int) ≤ i := by omega
    have hab := about3 h1 h2 (x := (rd a (i : Nat)).toNat) (by omega)
    have hz := sqz_lt d (rd a (i : Nat)).toNat
    have e0 : rd (sqzA d a) (i : Nat) = ((sqz d (rd a (i : Nat)).toNat : Nat) : Int) := rd_sqzA _ _ _ hi
    have e1 : rd (ksub (widA d (sqzA d a)) a) (i : Nat) = (((wid d (sqz d (rd a (i : Nat)).toNat) + 3329 - (rd a (i : Nat)).toNat) % 3329 : Nat) : Int) := by
      unfold ksub
      rw [rd_mapA _ _ hi, rd_widA _ _ _ hi, rd_sqzA _ _ _ hi, Int.toNat_natCast]
      omega
    have e2 : ishl .i32 1 (d : Int) = ((2 ^ d : Nat) : Int) := shl_one h2
    have e4 : iadd .i64 (i : Int) 1 = ((i + 1 : Nat) : Int) := by rw [add64 (by omega) (by omega)]; rfl
    have hoff : min ((wid d (sqz d (rd a (i : Nat)).toNat) + 3329 - (rd a (i : Nat)).toNat) % 3329) (3329 - (wid d (sqz d (rd a (i : Nat)).toNat) + 3329 - (rd a (i : Nat)).toNat) % 3329) ≤ (3329 + 2 ^ d) / (2 * 2 ^ d) := hab.2.2
    generalize hn : (wid d (sqz d (rd a (i : Nat)).toNat) + 3329 - (rd a (i : Nat)).toNat) % 3329 = n at *
    have hn' : n < 3329 := by omega
    have e3 : ¬ (iconv .i64 (imin (n : Int) (isub .i32 3329 (n : Int)))) > (((3329 + 2 ^ d) / (2 * 2 ^ d) : Nat) : Int) := by
      have : imin (n : Int) (isub .i32 3329 (n : Int)) = ((min n (3329 - n) : Nat) : Int) := by
        rw [sub32 (by omega) (by omega)]
        unfold imin
        split <;> omega
      rw [this, conv64 (by omega) (by omega)]
      omega
    have e5 : ¬ ((sqz d (rd a (i : Nat)).toNat : Nat) : Int) < 0 := by omega
    have e6 : ¬ ((sqz d (rd a (i : Nat)).toNat : Nat) : Int) ≥ ((2 ^ d : Nat) : Int) := by omega
    have e7 : (0 : Int) ≤ (d : Int) := by omega
    simp only [law25_KqAbout.l0, g1, g2, if_true, e1, Option.bind_some, e3, if_false, e0, e5, e7, e2, e6, e4]
  · intro k i hi h
    cases h
  · intro k
    simp only [law25_KqAbout.l0, show ¬ ((256 : Nat) : Int) < 256 by omega, if_false]
end Go.Proofs.Ytijahfdldlmnhaa
namespace Go.Proofs.Ytijahfdldlmnhaa.Pure
open Go Go.Mx
theorem KqAbout : law25_KqAbout.Pure := by
  intro a _ b hb
  refine ⟨1000, ?_⟩
  obtain ⟨b0, b1⟩ : 0 ≤ b ∧ b ≤ 255 := hb
  unfold law25_KqAbout.f
  rw [ref25_Fit_eq 1000 (by omega), Option.bind_some, bits_of b b0 b1]
  by_cases hF : allA (belowB 3329) a = true
  · rw [if_pos hF, Option.bind_some]
    have ha := bel_of hF
    obtain ⟨d, hd⟩ : ∃ d, d = 1 + (b % 11).toNat := ⟨_, rfl⟩
    rw [← hd]
    have h1 : 1 ≤ d := by omega
    have h2 : d ≤ 11 := by omega
    have hw := bel_wid h1 h2 ha
    have hp := Nat.two_pow_pos d
    have hp2 := pow_bd h2
    rw [kq_Squeeze_eq 1000 (by omega) a d h1 h2 ha, Option.bind_some, kq_Widen_eq 1000 (by omega) (sqzA d a) d h1 h2 (bel_sqz d a), Option.bind_some, kq_Squeeze_eq 1000 (by omega) _ d h1 h2 hw, Option.bind_some, sqz_wid_sqz h1 h2 ha]
    rw [eqA_self, if_neg (by decide), if_pos (by omega), if_pos (by omega)]
    have s2 : ishl .i64 2 (d : Int) = ((2 * 2 ^ d : Nat) : Int) := shl64 2 (by omega) h2
    have s1 : ishl .i64 1 (d : Int) = ((2 ^ d : Nat) : Int) := by have := shl64 (d := d) 1 (by omega) h2; rwa [Nat.one_mul] at this
    rw [s2, s1, if_pos (by omega), Option.bind_some]
    have q1 : iquo .i64 (iadd .i64 3329 ((2 ^ d : Nat) : Int)) ((2 * 2 ^ d : Nat) : Int) = (((3329 + 2 ^ d) / (2 * 2 ^ d) : Nat) : Int) := by
      have hq : (3329 + 2 ^ d) / (2 * 2 ^ d) ≤ 3329 + 2 ^ d := Nat.div_le_self _ _
      rw [add64 (by omega) (by omega), show (3329 : Int) + ((2 ^ d : Nat) : Int) = ((3329 + 2 ^ d : Nat) : Int) by omega]
      unfold iquo
      rw [tdivN (by omega), ← Int.natCast_ediv]
      generalize (3329 + 2 ^ d) / (2 * 2 ^ d) = q at hq
      exact id64 (by omega) (by omega)
    rw [q1, Option.bind_some, kq_Sub_eq 1000 (by omega) _ _ hw ha, Option.bind_some, about_loop 1000 d (by omega) h1 h2 a ha, Option.bind_some, awake25]
    rfl
  · rw [if_neg hF, awake25]
    rfl
end Go.Proofs.Ytijahfdldlmnhaa.Pure
