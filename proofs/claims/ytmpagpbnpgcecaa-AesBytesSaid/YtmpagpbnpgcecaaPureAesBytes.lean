/- Layer 10: what the cipher makes of a byte, and products of bytes, are the document's; unlike bytes are made unlike ones; products do not hang on the order, nor on brackets, and go over xor; in plain Lean. -/
import Derived.Test.YtmpagpbnpgcecaaLAesBytes
import Derived.Test.YtmpagpbnpgcecaaEc
set_option linter.unusedSimpArgs false
set_option linter.unusedVariables false
namespace Go.Proofs.Ytmpagpbnpgcecaa.Pure
open Go Go.Mx
theorem awake10 : law10_awake.f 1000 = some true := by
  have h1 : aes_Block.f 1000 (List.replicate (15 : Int).toNat (Cod.zero (CI .u8))) (List.replicate (16 : Int).toNat (Cod.zero (CI .u8))) = some ([], 10) := by rfl
  have h2 := aBox (c := 0) (by decide)
  have h3 := aBox (c := 83) (by decide)
  have h4 := aMul 1000 (by decide) (a := 87) (b := 131) (by decide) (by decide)
  have e2 : bx 0 = 99 := by decide +kernel
  have e3 : bx 83 = 237 := by decide +kernel
  have e4 : gm 87 131 = 193 := by decide +kernel
  rw [e2] at h2
  rw [e3] at h3
  rw [e4] at h4
  have h2' : aes_Box.f 1000 0 = some 99 := h2
  have h3' : aes_Box.f 1000 83 = some 237 := h3
  have h4' : aes_Mul.f 1000 87 131 = some 193 := h4
  unfold law10_awake.f
  rw [h1, h2', h3', h4']
  rfl
theorem bytes_core (AB RB : Int → Option Int) (AM RM : Int → Int → Option Int) (W : Option Bool) (hW : W = some true)
    (hA : ∀ c : Nat, c < 256 → AB c = some ((bx c : Nat) : Int)) (hR : ∀ c : Nat, c < 256 → RB c = some ((bx c : Nat) : Int)) (hM : ∀ a b : Nat, a < 256 → b < 256 → AM a b = some ((gm a b : Nat) : Int)) (hN : ∀ a b : Nat, a < 256 → b < 256 → RM a b = some ((gm a b : Nat) : Int))
    (a b c : Nat) (ha : a < 256) (hb : b < 256) (hc : c < 256) (h1 : AM a 1 = some (a : Int)) :
    ((AB a).bind fun r1 => (RB a).bind fun r2 => if r1 = r2 then ((AM a b).bind fun r3 => (RM a b).bind fun r4 => if r3 = r4 then ((AB a).bind fun r5 => (AB b).bind fun r6 => if (!((r5 == r6) == ((a : Int) == (b : Int)))) = true then (some false) else ((AM a b).bind fun r7 => (AM b a).bind fun r8 => if r7 = r8 then ((AM b c).bind fun r9 => (AM a r9).bind fun r10 => (AM a b).bind fun r11 => (AM r11 c).bind fun r12 => if r10 = r12 then ((AM a (ixor .u8 b c)).bind fun r13 => (AM a b).bind fun r14 => (AM a c).bind fun r15 => if r13 = (ixor .u8 r14 r15) then ((AM a 1).bind fun r16 => if r16 = a then (W.bind fun r17 => some r17) else (some false)) else (some false)) else (some false)) else (some false))) else (some false)) else (some false)) = some true := by
  subst hW
  have lab := gm_lt (b := b) ha
  have lbc := gm_lt (b := c) hb
  have lac := gm_lt (b := c) ha
  have x1 : ixor .u8 (b : Int) (c : Int) = ((b ^^^ c : Nat) : Int) := ixor_nat (by show _ < 2 ^ 8; omega) (by show _ < 2 ^ 8; omega)
  have x2 : ixor .u8 ((gm a b : Nat) : Int) ((gm a c : Nat) : Int) = ((gm a b ^^^ gm a c : Nat) : Int) := ixor_nat (by show _ < 2 ^ 8; omega) (by show _ < 2 ^ 8; omega)
  have hbool : ((((bx a : Nat) : Int) == ((bx b : Nat) : Int)) == ((a : Int) == (b : Int))) = true := by
    by_cases h : a = b
    · subst h; simp
    · have h' : ¬ bx a = bx b := fun e => h (bx_inj ha hb e)
      have e1 : (((bx a : Nat) : Int) == ((bx b : Nat) : Int)) = false := beq_eq_false_iff_ne.2 (by omega)
      have e2 : ((a : Int) == (b : Int)) = false := beq_eq_false_iff_ne.2 (by omega)
      rw [e1, e2]
      rfl
  have hx := xor_lt hb hc
  simp only [hA a ha, hA b hb, hR a ha, hM a b ha hb, hN a b ha hb, hM b a hb ha, hM b c hb hc, Option.bind_some, if_true, hbool, Bool.not_true, Bool.false_eq_true, if_false, gm_comm hb ha, hM a (gm b c) ha lbc, hM (gm a b) c lab hc, gm_assoc ha hb hc, x1, hM a (b ^^^ c) ha hx, hM a c ha hc, gm_xor_r, x2, h1]
theorem AesBytes : law10_AesBytes.Pure := by
  intro a ha b hb c hc
  obtain ⟨a0, a1⟩ : 0 ≤ a ∧ a ≤ 255 := ha
  obtain ⟨b0, b1⟩ : 0 ≤ b ∧ b ≤ 255 := hb
  obtain ⟨c0, c1⟩ : 0 ≤ c ∧ c ≤ 255 := hc
  obtain ⟨a, rfl⟩ := Int.eq_ofNat_of_zero_le a0
  obtain ⟨b, rfl⟩ := Int.eq_ofNat_of_zero_le b0
  obtain ⟨c, rfl⟩ := Int.eq_ofNat_of_zero_le c0
  refine ⟨1000, ?_⟩
  have h1 : aes_Mul.f 1000 (a : Int) 1 = some (a : Int) := by
    have := aMul 1000 (by decide) (a := a) (b := 1) (by omega) (by decide)
    rw [gm_one (by omega)] at this
    exact this
  exact bytes_core (aes_Box.f 1000) (ref10_Box.f 1000) (aes_Mul.f 1000) (ref10_Mul.f 1000) (law10_awake.f 1000) awake10 (fun c hc => aBox hc) (fun c hc => (rBox 1000 (by decide) hc).1) (fun a b ha hb => aMul 1000 (by decide) ha hb) (fun a b ha hb => rMul 1000 (by decide) ha hb) a b c (by omega) (by omega) (by omega) h1
end Go.Proofs.Ytmpagpbnpgcecaa.Pure
