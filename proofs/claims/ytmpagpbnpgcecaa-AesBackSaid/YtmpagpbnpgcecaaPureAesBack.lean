/- Layer 10: there and back, of blocks and of chains; in plain Lean. -/
import Derived.Test.YtmpagpbnpgcecaaLAesBack
import Derived.Test.YtmpagpbnpgcecaaEs
import Derived.Test.YtmpagpbnpgcecaaEo
set_option linter.unusedSimpArgs false
set_option linter.unusedVariables false
set_option maxRecDepth 100000
namespace Go.Proofs.Ytmpagpbnpgcecaa.Pure
open Go Go.Mx
theorem awake10 : law10_awake.f 1000 = some true := by
  have h1 : aes_Block.f 1000 (List.replicate (15 : Int).toNat (Cod.zero (CI .u8))) (List.replicate (16 : Int).toNat (Cod.zero (CI .u8))) = some ([], 10) := by rfl
  have h2 := aBox (c := 0) (by decide)
  have h3 := aBox (c := 83) (by decide)
  have h4 := aMul 1000 (by decide) (a := 87) (b := 131) (by decide) (by decide)
  have e2 : bx 0 = 99 := by decide +kernel
  have e3 : bx 83 = 237 := by decide +kernel
  have e4 : gm 87 131 = 193 := by decide +kernel
  rw [e2] at h2
  rw [e3] at h3
  rw [e4] at h4
  have h2' : aes_Box.f 1000 0 = some 99 := h2
  have h3' : aes_Box.f 1000 83 = some 237 := h3
  have h4' : aes_Mul.f 1000 87 131 = some 193 := h4
  unfold law10_awake.f
  rw [h1, h2', h3', h4']
  rfl
theorem same (K : Nat) {y : List Int} (h : y.length < 1000) (hK : y.length < K) : ref01_Same.f K y y = some true := by
  have key : ∀ (n i k : Nat), i + n = y.length → n < k → ref01_Same.l0 K k y y (i : Int) = some (.inl ()) := by
    intro n
    induction n with
    | zero =>
      intro i k hi hk
      obtain ⟨k, rfl⟩ : ∃ q, k = q + 1 := ⟨k - 1, by omega⟩
      have h : ¬ (i : Int) < ((y.length : Nat) : Int) := by omega
      simp only [ref01_Same.l0, h, if_false]
    | succ n ih =>
      intro i k hi hk
      obtain ⟨k, rfl⟩ : ∃ q, k = q + 1 := ⟨k - 1, by omega⟩
      have c0 : (i : Int) < ((y.length : Nat) : Int) := by omega
      have c1 : (0 : Int) ≤ (i : Int) := by omega
      simp only [ref01_Same.l0, c0, c1, if_true, Option.bind_some, inc (i := i) (by omega)]
      exact ih (i + 1) k (by omega) (by omega)
  have h0 : ref01_Same.l0 K K y y 0 = some (.inl ()) := key y.length 0 K (by omega) hK
  unfold ref01_Same.f
  rw [if_pos rfl, h0]
  rfl
theorem mul16 {l : List Int} (h : l.length < 100000) : irem .i64 ((l.length : Nat) : Int) 16 = ((l.length % 16 : Nat) : Int) := irem_nat (b := 16) (by omega)
/-- blocks -/
theorem blocks {a0 a1 : List Int} (h0 : InL .u8 a0) (h1 : InL .u8 a1) : ∃ x e, aes_Block.f 1000 a0 a1 = some (x, e) ∧
    (¬ e = 0 ∨ (e = 0 ∧ aes_Back.f 1000 a0 x = some (a1, 0) ∧ a1.length = 16 ∧ ∃ y, aes_Back.f 1000 a0 a1 = some (y, 0) ∧ aes_Block.f 1000 a0 y = some (a1, 0))) := by
  by_cases hs : Szk a0
  · by_cases hl : a1.length = 16
    · obtain ⟨nk, hn, hk⟩ : ∃ nk, (nk = 4 ∨ nk = 6 ∨ nk = 8) ∧ a0.length = 4 * nk := by
        rcases hs with h | h | h
        · exact ⟨4, by simp, h⟩
        · exact ⟨6, by simp, h⟩
        · exact ⟨8, by simp, h⟩
      obtain ⟨g, hg⟩ := keysOf 1000 (by decide) h0 (nk := nk) (by omega) (by omega) hk
      have hbg : BG g (4 * (nk + 7)) := by obtain ⟨_, _, _, _, _, _, _, _, _, _, h⟩ := hg; exact h
      obtain ⟨x, e1, _, l1, b1, s1⟩ := blockThereK 1000 (by decide) aMade (a := a0) h1 hn hk hl hg
      obtain ⟨y, e2, _, l2, b2, s2⟩ := blockBackK 1000 (by decide) aMade (a := a0) h1 hn hk hl hg
      obtain ⟨u, e3, _, _, _, s3⟩ := blockBackK 1000 (by decide) aMade (a := a0) b1 hn hk l1 hg
      obtain ⟨v, e4, _, _, _, s4⟩ := blockThereK 1000 (by decide) aMade (a := a0) b2 hn hk l2 hg
      have q1 : u = a1 := (inv_blocks (by omega) hbg h1 hl).1 s1 s3
      have q2 : v = a1 := (inv_blocks (by omega) hbg h1 hl).2 s2 s4
      subst q1
      rw [q2] at e4
      exact ⟨x, 0, e1, .inr ⟨rfl, e3, hl, y, e2, e4⟩⟩
    · obtain ⟨s1, _⟩ := szk_T hs 1000
      have c1 : ¬ ((a1.length : Nat) : Int) = 16 := fun e => hl (by omega)
      have c : ¬ (14 : Int) = 0 := by decide
      refine ⟨[], 14, ?_, .inl c⟩
      unfold aes_Block.f aes_wrong.f
      simp only [s1, c1, c, if_true, if_false, Option.bind_some]
  · obtain ⟨s1, _⟩ := szk_F hs 1000
    have c : ¬ (10 : Int) = 0 := by decide
    refine ⟨[], 10, ?_, .inl c⟩
    unfold aes_Block.f aes_wrong.f
    simp only [s1, c, if_true, if_false, Bool.false_eq_true, Option.bind_some]
theorem unfin_pad {l : List Int} (h : InL .u8 l) : unfin (pad l) = (l, 0) := by
  obtain ⟨n1, n2⟩ := padN_bd l
  have pl : (pad l).length = l.length + padN l := by unfold pad; rw [List.length_append, fillN_len]
  have e1 : (pad l).getD ((pad l).length - 1) 0 = ((padN l : Nat) : Int) := by
    rw [List.getD_eq_getElem?_getD, pl]
    unfold pad
    rw [List.getElem?_append_right (by omega)]
    unfold fillN
    rw [List.getElem?_replicate, if_pos (by omega)]
    rfl
  have e2 : (pad l).length - padN l = l.length := by omega
  unfold unfin
  rw [e1, Int.toNat_natCast, if_neg (by omega), if_neg (by omega), e2]
  unfold pad
  rw [List.drop_left' rfl, if_pos rfl, List.take_left' rfl]
theorem pad_unfin {y x : List Int} {m : Nat} (hl : y.length = 16 * m) (hm : 0 < m) (h : unfin y = (x, 0)) : pad x = y := by
  unfold unfin at h
  obtain ⟨n, hn⟩ : ∃ n, n = (y.getD (y.length - 1) 0).toNat := ⟨_, rfl⟩
  rw [← hn] at h
  by_cases h1 : n < 1
  · rw [if_pos h1] at h
    have := (Prod.mk.inj h).2
    exact absurd this (by decide)
  · rw [if_neg h1] at h
    by_cases h2 : n > 16
    · rw [if_pos h2] at h
      have := (Prod.mk.inj h).2
      exact absurd this (by decide)
    · rw [if_neg h2] at h
      by_cases h3 : y.drop (y.length - n) = fillN n
      · rw [if_pos h3] at h
        obtain rfl := (Prod.mk.inj h).1
        have e : padN (y.take (y.length - n)) = n := by
          unfold padN
          rw [List.length_take]
          omega
        unfold pad
        rw [e, ← h3, List.take_append_drop]
      · rw [if_neg h3] at h
        have := (Prod.mk.inj h).2
        exact absurd this (by decide)
theorem unfin_err {y x : List Int} {f : Int} (h : unfin y = (x, f)) (hf : ¬ f = 0) : x = [] := by
  unfold unfin at h
  split at h
  · exact ((Prod.mk.inj h).1).symm
  · split at h
    · exact ((Prod.mk.inj h).1).symm
    · split at h
      · exact absurd (Prod.mk.inj h).2.symm hf
      · exact ((Prod.mk.inj h).1).symm
/-- a chain, and back -/
theorem there {a0 a1 a2 : List Int} (h0 : InL .u8 a0) (h1 : InL .u8 a1) (h2 : InL .u8 a2) (hl : a2.length ≤ 400) : ∃ x e, aes_Chain.f 1000 a0 a1 a2 = some (x, e) ∧
    (¬ e = 0 ∨ (e = 0 ∧ aes_Unchain.f 1000 a0 a1 x = some (a2, 0) ∧ irem .i64 ((x.length : Nat) : Int) 16 = 0 ∧ ¬ ((x.length : Nat) : Int) ≤ ((a2.length : Nat) : Int))) := by
  by_cases hs : Szk a0 ∧ a1.length = 16
  · obtain ⟨rk, z, E, D, hc⟩ := cy_of h0 hs.1
    have hb : Blk a1 := ⟨h1, hs.2⟩
    obtain ⟨e1, _⟩ := bothChain hc hs.1 (first := a1) (l := a2) hb h2 (by omega)
    obtain ⟨xi, xl⟩ := chain_ok hc (a2.length / 16 + 1) a1 (pad a2) hb (pad_in h2) (pad_len a2)
    have xl' : (chainT E a1 a2).length = 16 * (a2.length / 16 + 1) := xl
    have xi' : InL .u8 (chainT E a1 a2) := xi
    obtain ⟨e2, _⟩ := bothUn hc hs.1 (first := a1) (l := chainT E a1 a2) hb xi' (show 0 < a2.length / 16 + 1 by omega) xl' (by omega)
    have e3 : unchT D a1 (chainT E a1 a2) = pad a2 := by
      unfold unchT
      rw [xl', show 16 * (a2.length / 16 + 1) / 16 = a2.length / 16 + 1 by omega]
      exact unch_chain hc _ a1 (pad a2) hb (pad_in h2) (pad_len a2)
    rw [e3, unfin_pad h2] at e2
    refine ⟨_, 0, e1, .inr ⟨rfl, e2, ?_, by omega⟩⟩
    rw [mul16 (by omega)]
    omega
  · obtain ⟨e, e1, _, e2⟩ := chain_no (l := a2) hs
    exact ⟨_, _, e1, .inl e2⟩
/-- the text of a chain, and its chain -/
theorem back {a0 a1 a3 : List Int} (h0 : InL .u8 a0) (h1 : InL .u8 a1) (h3 : InL .u8 a3) (hl : a3.length ≤ 400) : ∃ x e, aes_Unchain.f 1000 a0 a1 a3 = some (x, e) ∧
    ((e = 0 ∧ aes_Chain.f 1000 a0 a1 x = some (a3, 0)) ∨ (¬ e = 0 ∧ x = [])) := by
  by_cases hs : Szk a0 ∧ a1.length = 16 ∧ 0 < a3.length ∧ a3.length % 16 = 0
  · obtain ⟨rk, z, E, D, hc⟩ := cy_of h0 hs.1
    have hb : Blk a1 := ⟨h1, hs.2.1⟩
    have hl3 : a3.length = 16 * (a3.length / 16) := by omega
    obtain ⟨e1, _⟩ := bothUn hc hs.1 (first := a1) (l := a3) hb h3 (show 0 < a3.length / 16 by omega) hl3 (by omega)
    obtain ⟨yi, yl⟩ := unch_ok hc (a3.length / 16) a1 a3 hb h3 hl3
    have yl' : (unchT D a1 a3).length = 16 * (a3.length / 16) := yl
    have yi' : InL .u8 (unchT D a1 a3) := yi
    obtain ⟨x, hx⟩ : ∃ x, x = (unfin (unchT D a1 a3)).1 := ⟨_, rfl⟩
    obtain ⟨f, hf⟩ : ∃ f, f = (unfin (unchT D a1 a3)).2 := ⟨_, rfl⟩
    have hu : unfin (unchT D a1 a3) = (x, f) := by rw [hx, hf]
    rw [hu] at e1
    refine ⟨x, f, e1, ?_⟩
    by_cases h : f = 0
    · subst h
      have hp := pad_unfin yl' (show 0 < a3.length / 16 by omega) hu
      have xi : InL .u8 x := fun v hv => yi' v (by rw [← hp]; exact List.mem_append_left _ hv)
      have xl : x.length + padN x = 16 * (a3.length / 16) := by
        have := congrArg List.length hp
        unfold pad at this
        rw [List.length_append, fillN_len, yl'] at this
        exact this
      obtain ⟨n1, n2⟩ := padN_bd x
      obtain ⟨e2, _⟩ := bothChain hc hs.1 (first := a1) (l := x) hb xi (by omega)
      have e3 : chainT E a1 x = a3 := by
        have hpl := pad_len x
        rw [hp, yl'] at hpl
        unfold chainT
        rw [hp, show x.length / 16 + 1 = a3.length / 16 by omega]
        exact chain_unch hc _ a1 a3 hb h3 hl3
      rw [e3] at e2
      exact .inl ⟨rfl, e2⟩
    · exact .inr ⟨h, unfin_err hu h⟩
  · obtain ⟨e, e1, _, e2⟩ := un_no (l := a3) (by omega) hs
    exact ⟨_, _, e1, .inr ⟨e2, rfl⟩⟩
theorem AesBack : law10_AesBack.Pure := by
  intro a0 h0 a1 h1 a2 h2 a3 h3
  refine ⟨1000, ?_⟩
  unfold law10_AesBack.f
  by_cases c0 : ((a0.length : Nat) : Int) > 100
  · simp only [c0, awake10, if_true, Option.bind_some]
  by_cases c1 : ((a1.length : Nat) : Int) > 100
  · simp only [c0, c1, awake10, if_true, if_false, Option.bind_some]
  by_cases c2 : ((a2.length : Nat) : Int) > 400
  · simp only [c0, c1, c2, awake10, if_true, if_false, Option.bind_some]
  by_cases c3 : ((a3.length : Nat) : Int) > 400
  · simp only [c0, c1, c2, c3, awake10, if_true, if_false, Option.bind_some]
  obtain ⟨x, e, p1, p2⟩ := blocks h0 h1
  obtain ⟨u, f, q1, q2⟩ := there h0 h1 h2 (by omega)
  obtain ⟨v, g, r1, r2⟩ := back h0 h1 h3 (by omega)
  have s1 := same 1000 (y := a1) (by omega) (by omega)
  have s2 := same 1000 (y := a2) (by omega) (by omega)
  have s3 := same 1000 (y := a3) (by omega) (by omega)
  have z0 : ((([] : List Int).length : Nat) : Int) = 0 := rfl
  have A : (((aes_Block.f 1000 a0 a1).bind fun (r5, r6) => if r6 = 0 then ((aes_Back.f 1000 a0 r5).bind fun (r7, r8) => (aes_Back.f 1000 a0 a1).bind fun (r9, r10) => (aes_Block.f 1000 a0 r9).bind fun (r11, r12) => if r8 = 0 then (if r10 = 0 then (if r12 = 0 then ((ref01_Same.f 1000 r7 a1).bind fun r13 => if r13 = true then ((ref01_Same.f 1000 r11 a1).bind fun r14 => if r14 = true then (some (.inl ())) else (some (.inr false))) else (some (.inr false))) else (some (.inr false))) else (some (.inr false))) else (some (.inr false))) else (some (.inl ())) : Option ((Unit) ⊕ (Bool)))) = some (.inl ()) := by
    rcases p2 with p2 | ⟨rfl, p3, _, y, p4, p5⟩
    · simp only [p1, p2, if_false, Option.bind_some]
    · simp only [p1, p3, p4, p5, s1, if_true, Option.bind_some]
  have B : (((aes_Chain.f 1000 a0 a1 a2).bind fun (r15, r16) => if r16 = 0 then ((aes_Unchain.f 1000 a0 a1 r15).bind fun (r17, r18) => if r18 = 0 then ((ref01_Same.f 1000 r17 a2).bind fun r19 => if r19 = true then (if (irem .i64 (r15.length : Int) 16) = 0 then (if (r15.length : Int) ≤ (a2.length : Int) then (some (.inr false)) else (some (.inl ()))) else (some (.inr false))) else (some (.inr false))) else (some (.inr false))) else (some (.inl ())) : Option ((Unit) ⊕ (Bool)))) = some (.inl ()) := by
    rcases q2 with q2 | ⟨rfl, q3, q4, q5⟩
    · simp only [q1, q2, if_false, Option.bind_some]
    · simp only [q1, q3, q4, q5, s2, if_true, if_false, Option.bind_some]
  rw [if_neg c0, if_neg c1, if_neg c2, if_neg c3, A]
  simp only [Option.bind_some]
  rw [B]
  simp only [Option.bind_some]
  rcases r2 with ⟨rfl, r3⟩ | ⟨r3, rfl⟩
  · simp only [r1, r3, s3, awake10, if_true, Option.bind_some]
  · simp only [r1, r3, z0, awake10, if_true, if_false, Option.bind_some]
end Go.Proofs.Ytmpagpbnpgcecaa.Pure
