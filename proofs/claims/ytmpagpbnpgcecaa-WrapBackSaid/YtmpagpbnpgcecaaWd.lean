/- Layer 11 (wrap), plain laws: a key wrapped, and unwrapped, in the program and in the document. -/
import Derived.Test.YtmpagpbnpgcecaaWc
set_option linter.unusedSimpArgs false
set_option linter.unusedVariables false
set_option maxRecDepth 100000
namespace Go.Proofs.Ytmpagpbnpgcecaa
open Go Go.Mx
def Szd (a : List Int) : Prop := a.length = 16 ∨ a.length = 24 ∨ a.length = 32
theorem szd_T {a : List Int} (h : Szd a) (K : Nat) : ref10_Sized.f K a = some true := by
  unfold ref10_Sized.f
  rcases h with h | h | h <;> rw [h] <;> rfl
theorem wrong10 {a b : List Int} (h : ¬ Szd a) (K : Nat) (lo hi : Int) : wrap_wrong.f K a b lo hi = some 10 := by
  have h1 : ¬ ((a.length : Nat) : Int) = 16 := fun e => h (.inl (by omega))
  have h2 : ¬ ((a.length : Nat) : Int) = 24 := fun e => h (.inr (.inl (by omega)))
  have h3 : ¬ ((a.length : Nat) : Int) = 32 := fun e => h (.inr (.inr (by omega)))
  unfold wrap_wrong.f
  simp only [h1, h2, h3, if_false, Option.bind_some]
theorem wrong14 {a b : List Int} (h : Szd a) (K : Nat) {lo hi : Int} (hb : ((b.length : Nat) : Int) < lo ∨ ((b.length : Nat) : Int) > hi ∨ ¬ irem .i64 ((b.length : Nat) : Int) 8 = 0) : wrap_wrong.f K a b lo hi = some 14 := by
  unfold wrap_wrong.f
  have hx : (if ((b.length : Nat) : Int) < lo then (some (.inr 14)) else (if ((b.length : Nat) : Int) > hi then (some (.inr 14)) else (if (irem .i64 ((b.length : Nat) : Int) 8) = 0 then (some (.inl ())) else (some (.inr 14)))) : Option (Unit ⊕ Int)) = some (.inr 14) := by
    by_cases c1 : ((b.length : Nat) : Int) < lo
    · rw [if_pos c1]
    · rw [if_neg c1]
      by_cases c2 : ((b.length : Nat) : Int) > hi
      · rw [if_pos c2]
      · rw [if_neg c2]
        rcases hb with hb | hb | hb
        · exact absurd hb c1
        · exact absurd hb c2
        · rw [if_neg hb]
  rw [hx]
  rcases h with h | h | h <;> rw [h] <;> rfl
theorem wrong0 {a b : List Int} (h : Szd a) (K : Nat) {lo hi : Int} (h1 : ¬ ((b.length : Nat) : Int) < lo) (h2 : ¬ ((b.length : Nat) : Int) > hi) (h3 : irem .i64 ((b.length : Nat) : Int) 8 = 0) : wrap_wrong.f K a b lo hi = some 0 := by
  unfold wrap_wrong.f
  simp only [h1, h2, h3, if_true, if_false]
  rcases h with h | h | h <;> rw [h] <;> rfl
theorem clone {l : List Int} (h : l.length < 1000000) (K : Nat) : slices_Clone_byte_byte.f K l = some l := by
  unfold slices_Clone_byte_byte.f
  cases l with
  | nil => rfl
  | cons x l =>
    have c : ([] : List Int).length + (x :: l).length ≤ 140737488355328 := by rw [List.length_nil]; omega
    rw [if_neg (by simp), if_pos c]
    rfl
theorem mul6 {n : Nat} (h : n < 1000) : imul .i64 6 ((n : Nat) : Int) = ((6 * n : Nat) : Int) := by
  rw [mul64 (by omega) (by omega)]
  omega
theorem quo8 {n : Nat} (h : n < 1000) : iquo .i64 ((8 * n : Nat) : Int) 8 = ((n : Nat) : Int) := by
  unfold iquo
  rw [tdivN (by omega), id64 (by omega) (by omega)]
  omega
theorem rem8 {n : Nat} (h : n < 1000) : irem .i64 ((8 * n : Nat) : Int) 8 = 0 := by
  have := irem_nat (a := 8 * n) (b := 8) (by omega)
  have h2 : irem .i64 ((8 * n : Nat) : Int) 8 = ((8 * n % 8 : Nat) : Int) := this
  rw [h2]
  omega
def mark : Nat := 12008468691120727718
def wrapS (E : List Int → List Int) (n : Nat) (l : List Int) : WSt := itr (stp E n) (6 * n) 0 (mark, chs n l)
def wrapD (E : List Int → List Int) (n : Nat) (l : List Int) : List Int := be8 (wrapS E n l).1 ++ (wrapS E n l).2.flatten
def unwS (D : List Int → List Int) (n : Nat) (l : List Int) : WSt := itd (ust D n) (6 * n) (num (l.take 8), chs n (l.drop 8))
section
variable {kek : List Int} {E D : List Int → List Int}
theorem wrapS_ok (hc : Ci kek E D) {n : Nat} (hn : 0 < n) (hn2 : n ≤ 100) {l : List Int} (hl : l.length = 8 * n) (hb : InL .u8 l) : OKs n (wrapS E n l) := itr_ok hc hn (6 * n) 0 _ (by omega) ⟨show mark < 2 ^ 64 by decide, Good.of hl hb⟩
theorem unwS_ok (hc : Ci kek E D) {n : Nat} (hn : 0 < n) (hn2 : n ≤ 100) {l : List Int} (hl : l.length = 8 * (n + 1)) (hb : InL .u8 l) : OKs n (unwS D n l) := itd_ok hc hn (6 * n) _ (by omega) ⟨num_lt _, Good.of (by rw [List.length_drop]; omega) (inl_drop hb 8)⟩
theorem aWrap (hc : Ci kek E D) (hs : Szd kek) {n : Nat} (hn : 2 ≤ n) (hn2 : n ≤ 100) {l : List Int} (hl : l.length = 8 * n) (hb : InL .u8 l) : wrap_Wrap.f 1000 kek l = some (wrapD E n l, 0) ∧ ref11_Wrap.f 1000 kek l = some (wrapD E n l, 0) := by
  have h0 : OKs n (mark, chs n l) := ⟨show mark < 2 ^ 64 by decide, Good.of hl hb⟩
  have hok := wrapS_ok hc (by omega) hn2 hl hb
  have hf := hok.2.flat
  constructor
  · have e0 : wrap_wrong.f 1000 kek l 16 4096 = some 0 := wrong0 hs 1000 (by omega) (by omega) (by rw [hl]; exact rem8 (by omega))
    have e1 := (wChunks 1000 hl (by omega) (by omega)).1
    have e2 : wrap_Wrap.l1 1000 1000 kek ((6 * n : Nat) : Int) 1 12008468691120727718 (chs n l) = some (((wrapS E n l).1 : Int), (wrapS E n l).2) := w_l1 hc (by omega) (by omega) (show 6 * n ≤ 999 by omega) (6 * n) 0 1000 (mark, chs n l) (by omega) (by omega) h0
    have j1 := (aJoin 1000 (W := (wrapS E n l).2) (by rw [hok.2.len]; omega) (by rw [hok.2.len]; omega) (by rw [hf]; omega)).1
    have j2 := (aJoin2 (a := be8 (wrapS E n l).1) (b := (wrapS E n l).2.flatten) (by rw [be8_len, hf]; omega)).1
    unfold wrap_Wrap.f
    simp only [e0, clone (show l.length < 1000000 by omega), e1, chs_len, mul6 (show n < 1000 by omega), e2, aBe, j1, j2, if_true, Option.bind_some]
    rfl
  · have c1 : ¬ ((l.length : Nat) : Int) < 16 := by omega
    have c2 : ¬ ((l.length : Nat) : Int) > 4096 := by omega
    have c3 : irem .i64 ((l.length : Nat) : Int) 8 = 0 := by rw [hl]; exact rem8 (by omega)
    have c4 : ([] : List Int).length + l.length ≤ 140737488355328 := by rw [List.length_nil]; omega
    have q : iquo .i64 ((l.length : Nat) : Int) 8 = ((n : Nat) : Int) := by rw [hl]; exact quo8 (by omega)
    have e := rw_l0 hc (show 0 < n by omega) hn2 6 0 1000 (mark, chs n l) (by omega) (by omega) h0
    rw [show (mark, chs n l).2.flatten = l from chs_flat n l hl, show n * 6 = 6 * n by omega, Nat.mul_zero] at e
    have e2 : ref11_Wrap.l0 1000 1000 kek (n : Int) 12008468691120727718 0 l = some (((wrapS E n l).1 : Int), (wrapS E n l).2.flatten) := e
    have c5 : (be8 (wrapS E n l).1).length + (wrapS E n l).2.flatten.length ≤ 140737488355328 := by rw [be8_len, hf]; omega
    unfold ref11_Wrap.f
    simp only [szd_T hs, c1, c2, c3, c4, q, List.nil_append, e2, rBe hok.1, c5, if_true, if_false, Option.bind_some]
    rfl
theorem aUnwrap (hc : Ci kek E D) (hs : Szd kek) {n : Nat} (hn : 2 ≤ n) (hn2 : n ≤ 100) {l : List Int} (hl : l.length = 8 * (n + 1)) (hb : InL .u8 l) :
    (wrap_Unwrap.f 1000 kek l = some (if (unwS D n l).1 = mark then ((unwS D n l).2.flatten, 0) else ([], 16))) ∧ ref11_Unwrap.f 1000 kek l = some (if (unwS D n l).1 = mark then ((unwS D n l).2.flatten, 0) else ([], 16)) := by
  have hd : (l.drop 8).length = 8 * n := by rw [List.length_drop]; omega
  have h0 : OKs n (num (l.take 8), chs n (l.drop 8)) := ⟨num_lt _, Good.of hd (inl_drop hb 8)⟩
  have hok := unwS_ok hc (by omega) hn2 hl hb
  have hf := hok.2.flat
  have c4 : (0 : Int) ≤ 0 := by decide
  have c5 : (0 : Int) ≤ 8 := by decide
  have c6 : (8 : Int) ≤ ((l.length : Nat) : Int) := by omega
  have c7 : ((l.length : Nat) : Int) ≤ ((l.length : Nat) : Int) := Int.le_refl _
  have t8 : (l.take 8).length = 8 := by rw [List.length_take]; omega
  obtain ⟨n1, n2⟩ := aNum 1000 (inl_take hb 8) (by rw [t8]; decide) (by rw [t8]; decide)
  have s8 : subL l 8 ((l.length : Nat) : Int) = l.drop 8 := by
    show (l.take ((l.length : Nat) : Int).toNat).drop 8 = l.drop 8
    rw [Int.toNat_natCast, List.take_length]
  have hm : ((unwS D n l).1 : Int) = 12008468691120727718 ↔ (unwS D n l).1 = mark := by unfold mark; omega
  constructor
  · have e0 : wrap_wrong.f 1000 kek l 24 4104 = some 0 := wrong0 hs 1000 (by omega) (by omega) (by rw [hl]; exact rem8 (by omega))
    have e1 := (wChunks 1000 hd (by omega) (by omega)).2
    have e2 : wrap_Unwrap.l1 1000 1000 kek ((6 * n : Nat) : Int) 1 (chs n (l.drop 8)) ((num (l.take 8) : Nat) : Int) = some ((unwS D n l).2, ((unwS D n l).1 : Int)) := u_l1 hc (by omega) (by omega) (show 6 * n ≤ 999 by omega) (6 * n) 0 1000 (num (l.take 8), chs n (l.drop 8)) (by omega) (by omega) h0
    have j1 := (aJoin 1000 (W := (unwS D n l).2) (by rw [hok.2.len]; omega) (by rw [hok.2.len]; omega) (by rw [hf]; omega)).1
    unfold wrap_Unwrap.f
    simp only [e0, c4, c5, c6, c7, sub08, n1, s8, clone (show (l.drop 8).length < 1000000 by omega), e1, chs_len, mul6 (show n < 1000 by omega), e2, j1, hm, if_true, Option.bind_some]
    split <;> rfl
  · have c1 : ¬ ((l.length : Nat) : Int) < 24 := by omega
    have c2 : ¬ ((l.length : Nat) : Int) > 4104 := by omega
    have c3 : irem .i64 ((l.length : Nat) : Int) 8 = 0 := by rw [hl]; exact rem8 (by omega)
    have c9 : ([] : List Int).length + (l.drop 8).length ≤ 140737488355328 := by rw [List.length_nil]; omega
    have q : iquo .i64 (((l.drop 8).length : Nat) : Int) 8 = ((n : Nat) : Int) := by rw [hd]; exact quo8 (by omega)
    have e := ru_l0 hc (show 0 < n by omega) hn2 6 1000 (num (l.take 8), chs n (l.drop 8)) (by omega) (by omega) h0
    rw [show (num (l.take 8), chs n (l.drop 8)).2.flatten = l.drop 8 from chs_flat n _ hd, show n * 6 = 6 * n by omega] at e
    have e2 : ref11_Unwrap.l0 1000 1000 kek (n : Int) ((num (l.take 8) : Nat) : Int) 5 (l.drop 8) = some (((unwS D n l).1 : Int), (unwS D n l).2.flatten) := e
    unfold ref11_Unwrap.f
    simp only [szd_T hs, c1, c2, c3, c4, c5, c6, c7, sub08, n2, s8, c9, List.nil_append, q, e2, hm, if_true, if_false, Option.bind_some]
    split <;> rfl
end
end Go.Proofs.Ytmpagpbnpgcecaa
