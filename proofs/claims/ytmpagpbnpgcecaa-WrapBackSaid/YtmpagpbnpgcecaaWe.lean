/- Layer 11 (wrap), plain laws: there and back. -/
import Derived.Test.YtmpagpbnpgcecaaWd
import Derived.Test.YtmpagpbnpgcecaaEp
set_option linter.unusedSimpArgs false
set_option linter.unusedVariables false
set_option maxRecDepth 100000
namespace Go.Proofs.Ytmpagpbnpgcecaa
open Go Go.Mx
/-! ### eight bytes and their number -/
theorem horner {a i : Nat} (ha : a < 2 ^ 64) : (a / 2 ^ (8 * (i + 1)) * 256 + a / 2 ^ (8 * i) % 256) % 2 ^ 64 = a / 2 ^ (8 * i) := by
  have h1 : a / 2 ^ (8 * (i + 1)) = a / 2 ^ (8 * i) / 256 := by
    rw [Nat.div_div_eq_div_mul, show 8 * (i + 1) = 8 * i + 8 by omega, Nat.pow_add]
  have h2 : a / 2 ^ (8 * i) ≤ a := Nat.div_le_self _ _
  rw [h1]
  omega
def hF (n : Nat) (c : Int) : Nat := (n * 256 + c.toNat) % 2 ^ 64
theorem hF_by {a : Nat} (ha : a < 2 ^ 64) (i : Nat) : hF (a / 2 ^ (8 * (i + 1))) (by8 a i) = a / 2 ^ (8 * i) := by
  unfold hF by8
  rw [Int.toNat_natCast]
  exact horner ha
theorem num_be8 {a : Nat} (ha : a < 2 ^ 64) : num (be8 a) = a := by
  have z : a / 2 ^ (8 * (7 + 1)) = 0 := Nat.div_eq_of_lt ha
  have s7 : hF 0 (by8 a 7) = a / 2 ^ (8 * 7) := by
    have := hF_by ha 7
    rw [z] at this
    exact this
  have s6 : hF (a / 2 ^ (8 * 7)) (by8 a 6) = a / 2 ^ (8 * 6) := hF_by ha 6
  have s5 : hF (a / 2 ^ (8 * 6)) (by8 a 5) = a / 2 ^ (8 * 5) := hF_by ha 5
  have s4 : hF (a / 2 ^ (8 * 5)) (by8 a 4) = a / 2 ^ (8 * 4) := hF_by ha 4
  have s3 : hF (a / 2 ^ (8 * 4)) (by8 a 3) = a / 2 ^ (8 * 3) := hF_by ha 3
  have s2 : hF (a / 2 ^ (8 * 3)) (by8 a 2) = a / 2 ^ (8 * 2) := hF_by ha 2
  have s1 : hF (a / 2 ^ (8 * 2)) (by8 a 1) = a / 2 ^ (8 * 1) := hF_by ha 1
  have s0 : hF (a / 2 ^ (8 * 1)) (by8 a 0) = a / 2 ^ (8 * 0) := hF_by ha 0
  show hF (hF (hF (hF (hF (hF (hF (hF 0 (by8 a 7)) (by8 a 6)) (by8 a 5)) (by8 a 4)) (by8 a 3)) (by8 a 2)) (by8 a 1)) (by8 a 0) = a
  rw [s7, s6, s5, s4, s3, s2, s1, s0, Nat.mul_zero, Nat.pow_zero, Nat.div_one]
theorem hF_m {n m : Nat} (hn : n < 2 ^ 56) (hm : m < 256) : hF n (m : Int) = n * 256 + m ∧ n * 256 + m < 2 ^ 64 := by
  unfold hF
  rw [Int.toNat_natCast]
  exact ⟨Nat.mod_eq_of_lt (by omega), by omega⟩
theorem by8_z {n m : Nat} (hm : m < 256) : by8 (n * 256 + m) 0 = (m : Int) := by
  unfold by8
  rw [Nat.mul_zero, Nat.pow_zero, Nat.div_one]
  omega
theorem by8_s {n m : Nat} (hm : m < 256) (i : Nat) : by8 (n * 256 + m) (i + 1) = by8 n i := by
  unfold by8
  have h : (n * 256 + m) / 2 ^ (8 * (i + 1)) = n / 2 ^ (8 * i) := by
    rw [show 8 * (i + 1) = 8 + 8 * i by omega, Nat.pow_add, ← Nat.div_div_eq_div_mul, show (n * 256 + m) / 2 ^ 8 = n by omega]
  rw [h]
theorem be8_num {v : List Int} (hv : InL .u8 v) (hl : v.length = 8) : be8 (num v) = v := by
  match v, hl with
  | [x0, x1, x2, x3, x4, x5, x6, x7], _ =>
    obtain ⟨m0, rfl, l0⟩ := byte_nat hv (x := x0) (by simp)
    obtain ⟨m1, rfl, l1⟩ := byte_nat hv (x := x1) (by simp)
    obtain ⟨m2, rfl, l2⟩ := byte_nat hv (x := x2) (by simp)
    obtain ⟨m3, rfl, l3⟩ := byte_nat hv (x := x3) (by simp)
    obtain ⟨m4, rfl, l4⟩ := byte_nat hv (x := x4) (by simp)
    obtain ⟨m5, rfl, l5⟩ := byte_nat hv (x := x5) (by simp)
    obtain ⟨m6, rfl, l6⟩ := byte_nat hv (x := x6) (by simp)
    obtain ⟨m7, rfl, l7⟩ := byte_nat hv (x := x7) (by simp)
    have a0 := (hF_m (n := 0) (m := m0) (by decide) l0).1
    obtain ⟨n1, e1⟩ : ∃ n1, n1 = 0 * 256 + m0 := ⟨_, rfl⟩
    rw [← e1] at a0
    have a1 := (hF_m (n := n1) (m := m1) (by omega) l1).1
    obtain ⟨n2, e2⟩ : ∃ n2, n2 = n1 * 256 + m1 := ⟨_, rfl⟩
    rw [← e2] at a1
    have a2 := (hF_m (n := n2) (m := m2) (by omega) l2).1
    obtain ⟨n3, e3⟩ : ∃ n3, n3 = n2 * 256 + m2 := ⟨_, rfl⟩
    rw [← e3] at a2
    have a3 := (hF_m (n := n3) (m := m3) (by omega) l3).1
    obtain ⟨n4, e4⟩ : ∃ n4, n4 = n3 * 256 + m3 := ⟨_, rfl⟩
    rw [← e4] at a3
    have a4 := (hF_m (n := n4) (m := m4) (by omega) l4).1
    obtain ⟨n5, e5⟩ : ∃ n5, n5 = n4 * 256 + m4 := ⟨_, rfl⟩
    rw [← e5] at a4
    have a5 := (hF_m (n := n5) (m := m5) (by omega) l5).1
    obtain ⟨n6, e6⟩ : ∃ n6, n6 = n5 * 256 + m5 := ⟨_, rfl⟩
    rw [← e6] at a5
    have a6 := (hF_m (n := n6) (m := m6) (by omega) l6).1
    obtain ⟨n7, e7⟩ : ∃ n7, n7 = n6 * 256 + m6 := ⟨_, rfl⟩
    rw [← e7] at a6
    have a7 := (hF_m (n := n7) (m := m7) (by omega) l7).1
    have h0 : num [(m0 : Int), (m1 : Int), (m2 : Int), (m3 : Int), (m4 : Int), (m5 : Int), (m6 : Int), (m7 : Int)] = n7 * 256 + m7 := by
      show hF (hF (hF (hF (hF (hF (hF (hF 0 (m0 : Int)) (m1 : Int)) (m2 : Int)) (m3 : Int)) (m4 : Int)) (m5 : Int)) (m6 : Int)) (m7 : Int) = _
      rw [a0, a1, a2, a3, a4, a5, a6, a7]
    rw [h0]
    unfold be8
    rw [by8_z l7, by8_s l7 0, by8_s l7 1, by8_s l7 2, by8_s l7 3, by8_s l7 4, by8_s l7 5, by8_s l7 6, e7]
    rw [by8_z l6, by8_s l6 0, by8_s l6 1, by8_s l6 2, by8_s l6 3, by8_s l6 4, by8_s l6 5, e6]
    rw [by8_z l5, by8_s l5 0, by8_s l5 1, by8_s l5 2, by8_s l5 3, by8_s l5 4, e5]
    rw [by8_z l4, by8_s l4 0, by8_s l4 1, by8_s l4 2, by8_s l4 3, e4]
    rw [by8_z l3, by8_s l3 0, by8_s l3 1, by8_s l3 2, e3]
    rw [by8_z l2, by8_s l2 0, by8_s l2 1, e2]
    rw [by8_z l1, by8_s l1 0, e1]
    rw [by8_z l0]
theorem chs_unflat : ∀ {n : Nat} {W : List (List Int)}, Good n W → chs n W.flatten = W
  | 0, W, h => by rw [List.eq_nil_of_length_eq_zero h.len]; rfl
  | n + 1, [], h => by have := h.len; simp at this
  | n + 1, w :: W, h => by
    have hw := (h.each w List.mem_cons_self).1
    have hg : Good n W := ⟨by have := h.len; simpa using this, fun x hx => h.each x (List.mem_cons_of_mem _ hx)⟩
    show (w ++ W.flatten).take 8 :: chs n ((w ++ W.flatten).drop 8) = w :: W
    rw [List.take_left' hw, List.drop_left' hw, chs_unflat hg]
/-! ### a cipher that can be undone -/
theorem ci_inv {kek : List Int} (hb : InL .u8 kek) (hs : Szd kek) : ∃ E D, Ci kek E D ∧ ∀ b, InL .u8 b → b.length = 16 → D (E b) = b ∧ E (D b) = b := by
  obtain ⟨nk, hn, hl⟩ : ∃ nk, (nk = 4 ∨ nk = 6 ∨ nk = 8) ∧ kek.length = 4 * nk := by
    rcases hs with h | h | h
    · exact ⟨4, by simp, h⟩
    · exact ⟨6, by simp, h⟩
    · exact ⟨8, by simp, h⟩
  obtain ⟨g, hg⟩ := keysOf 1000 (by decide) hb (nk := nk) (by omega) (by omega) hl
  have hbg : BG g (4 * (nk + 7)) := by obtain ⟨_, _, _, _, _, _, _, _, _, _, h⟩ := hg; exact h
  have h1 : ∀ b : List Int, ∃ y, InL .u8 b → b.length = 16 → aes_Block.f 1000 kek b = some (y, 0) ∧ ref10_Block.f 1000 kek b = some (y, 0) ∧ y.length = 16 ∧ InL .u8 y ∧ LsS y (tF g (nk + 7) (bS b)) := fun b => by
    by_cases h : InL .u8 b ∧ b.length = 16
    · obtain ⟨y, e⟩ := blockThereK 1000 (by decide) aMade (a := kek) h.1 hn hl h.2 hg
      exact ⟨y, fun _ _ => e⟩
    · exact ⟨[], fun a c => absurd ⟨a, c⟩ h⟩
  have h2 : ∀ b : List Int, ∃ y, InL .u8 b → b.length = 16 → aes_Back.f 1000 kek b = some (y, 0) ∧ ref10_Back.f 1000 kek b = some (y, 0) ∧ y.length = 16 ∧ InL .u8 y ∧ LsS y (bF g (nk + 7) (bS b)) := fun b => by
    by_cases h : InL .u8 b ∧ b.length = 16
    · obtain ⟨y, e⟩ := blockBackK 1000 (by decide) aMade (a := kek) h.1 hn hl h.2 hg
      exact ⟨y, fun _ _ => e⟩
    · exact ⟨[], fun a c => absurd ⟨a, c⟩ h⟩
  refine ⟨fun b => Classical.choose (h1 b), fun b => Classical.choose (h2 b), ⟨fun b hb hl => ?_, fun b hb hl => ?_⟩, fun b hb hl => ?_⟩
  · obtain ⟨a1, a2, a3, a4, _⟩ := Classical.choose_spec (h1 b) hb hl
    exact ⟨a1, a2, a3, a4⟩
  · obtain ⟨a1, a2, a3, a4, _⟩ := Classical.choose_spec (h2 b) hb hl
    exact ⟨a1, a2, a3, a4⟩
  · obtain ⟨_, _, l1, b1, s1⟩ := Classical.choose_spec (h1 b) hb hl
    obtain ⟨_, _, l2, b2, s2⟩ := Classical.choose_spec (h2 b) hb hl
    obtain ⟨_, _, _, _, s3⟩ := Classical.choose_spec (h2 _) b1 l1
    obtain ⟨_, _, _, _, s4⟩ := Classical.choose_spec (h1 _) b2 l2
    exact ⟨(inv_blocks (by omega) hbg hb hl).1 s1 s3, (inv_blocks (by omega) hbg hb hl).2 s2 s4⟩
section
variable {kek : List Int} {E D : List Int → List Int}
theorem xor_twice (a q : Nat) : (a ^^^ q) ^^^ q = a := by rw [Nat.xor_assoc, Nat.xor_self, Nat.xor_zero]
theorem getD_set {W : List (List Int)} {i : Nat} (h : i < W.length) (v : List Int) : (W.set i v).getD i [] = v := by
  rw [List.getD_eq_getElem?_getD, List.getElem?_set_self h]
  rfl
theorem set_get {W : List (List Int)} {i : Nat} (h : i < W.length) : W.set i (W.getD i []) = W := by
  rw [List.getD_eq_getElem?_getD, List.getElem?_eq_getElem h]
  exact List.set_getElem_self h
theorem ust_stp (hc : Ci kek E D) (hi : ∀ b, InL .u8 b → b.length = 16 → D (E b) = b ∧ E (D b) = b) {n q : Nat} {s : WSt} (hn : 0 < n) (hq : q < 1000) (hs : OKs n s) : ust D n q (stp E n q s) = s ∧ stp E n q (ust D n q s) = s := by
  have hm := Nat.mod_lt q hn
  have hlen : q % n < s.2.length := by rw [hs.2.len]; exact hm
  constructor
  · obtain ⟨h1, h2⟩ := inp8 hs.2 (i := q % n) (a := s.1) hm
    obtain ⟨_, _, l1, b1⟩ := hc.there _ h2 h1
    have hv := (hi _ h2 h1).1
    have ht : be8 (num ((E (be8 s.1 ++ s.2.getD (q % n) [])).take 8)) = (E (be8 s.1 ++ s.2.getD (q % n) [])).take 8 := be8_num (inl_take b1 8) (by rw [List.length_take, l1]; rfl)
    unfold ust stp
    simp only [xor_twice, ht, getD_set hlen, List.take_append_drop, hv, List.set_set]
    rw [List.take_left' (be8_len _), List.drop_left' (be8_len _), num_be8 hs.1, set_get hlen]
  · obtain ⟨h1, h2⟩ := inp8 hs.2 (i := q % n) (a := s.1 ^^^ (q + 1)) hm
    obtain ⟨_, _, l1, b1⟩ := hc.back _ h2 h1
    have hv := (hi _ h2 h1).2
    have ht : be8 (num ((D (be8 (s.1 ^^^ (q + 1)) ++ s.2.getD (q % n) [])).take 8)) = (D (be8 (s.1 ^^^ (q + 1)) ++ s.2.getD (q % n) [])).take 8 := be8_num (inl_take b1 8) (by rw [List.length_take, l1]; rfl)
    unfold ust stp
    simp only [ht, getD_set hlen, List.take_append_drop, hv, List.set_set]
    rw [List.take_left' (be8_len _), List.drop_left' (be8_len _), num_be8 (xor64 hs.1 (show q + 1 < 2 ^ 64 by omega)), xor_twice, set_get hlen]
theorem itr_snoc {σ : Type} (f : Nat → σ → σ) (c q : Nat) (s : σ) : itr f (c + 1) q s = f (q + c) (itr f c q s) := itr_add f c 1 q s
theorem itd_itr (hc : Ci kek E D) (hi : ∀ b, InL .u8 b → b.length = 16 → D (E b) = b ∧ E (D b) = b) {n : Nat} (hn : 0 < n) : ∀ (c : Nat) (s : WSt), c ≤ 1000 → OKs n s → itd (ust D n) c (itr (stp E n) c 0 s) = s
  | 0, _, _, _ => rfl
  | c + 1, s, hq, hs => by
    rw [itr_snoc, Nat.zero_add]
    show itd (ust D n) c (ust D n c (stp E n c (itr (stp E n) c 0 s))) = s
    rw [(ust_stp hc hi hn (by omega) (itr_ok hc hn c 0 s (by omega) hs)).1]
    exact itd_itr hc hi hn c s (by omega) hs
theorem itr_itd (hc : Ci kek E D) (hi : ∀ b, InL .u8 b → b.length = 16 → D (E b) = b ∧ E (D b) = b) {n : Nat} (hn : 0 < n) : ∀ (c : Nat) (s : WSt), c ≤ 1000 → OKs n s → itr (stp E n) c 0 (itd (ust D n) c s) = s
  | 0, _, _, _ => rfl
  | c + 1, s, hq, hs => by
    rw [itr_snoc, Nat.zero_add]
    show stp E n c (itr (stp E n) c 0 (itd (ust D n) c (ust D n c s))) = s
    rw [itr_itd hc hi hn c _ (by omega) (stp_ok hc hn (by omega) hs).2]
    exact (ust_stp hc hi hn (by omega) hs).2
theorem wrapD_len (hc : Ci kek E D) {n : Nat} (hn : 0 < n) (hn2 : n ≤ 100) {l : List Int} (hl : l.length = 8 * n) (hb : InL .u8 l) : (wrapD E n l).length = 8 * (n + 1) ∧ InL .u8 (wrapD E n l) := by
  have hok := wrapS_ok hc hn hn2 hl hb
  unfold wrapD
  exact ⟨by rw [List.length_append, be8_len, hok.2.flat]; omega, inl_app (be8_in _) hok.2.flat_in⟩
theorem unw_wrap (hc : Ci kek E D) (hi : ∀ b, InL .u8 b → b.length = 16 → D (E b) = b ∧ E (D b) = b) {n : Nat} (hn : 0 < n) (hn2 : n ≤ 100) {l : List Int} (hl : l.length = 8 * n) (hb : InL .u8 l) : unwS D n (wrapD E n l) = (mark, chs n l) := by
  have hok := wrapS_ok hc hn hn2 hl hb
  unfold unwS wrapD
  rw [List.take_left' (be8_len _), List.drop_left' (be8_len _), num_be8 hok.1, chs_unflat hok.2]
  exact itd_itr hc hi hn (6 * n) (mark, chs n l) (by omega) ⟨show mark < 2 ^ 64 by decide, Good.of hl hb⟩
theorem wrap_unw (hc : Ci kek E D) (hi : ∀ b, InL .u8 b → b.length = 16 → D (E b) = b ∧ E (D b) = b) {n : Nat} (hn : 0 < n) (hn2 : n ≤ 100) {l : List Int} (hl : l.length = 8 * (n + 1)) (hb : InL .u8 l) (hm : (unwS D n l).1 = mark) : wrapD E n (unwS D n l).2.flatten = l := by
  have hok := unwS_ok hc hn hn2 hl hb
  have hd : (l.drop 8).length = 8 * n := by rw [List.length_drop]; omega
  have t8 : (l.take 8).length = 8 := by rw [List.length_take]; omega
  have h0 : OKs n (num (l.take 8), chs n (l.drop 8)) := ⟨num_lt _, Good.of hd (inl_drop hb 8)⟩
  have e : wrapS E n (unwS D n l).2.flatten = (num (l.take 8), chs n (l.drop 8)) := by
    unfold wrapS
    rw [chs_unflat hok.2, ← hm]
    exact itr_itd hc hi hn (6 * n) _ (by omega) h0
  unfold wrapD
  rw [e]
  show be8 (num (l.take 8)) ++ (chs n (l.drop 8)).flatten = l
  rw [be8_num (inl_take hb 8) t8, chs_flat n _ hd, List.take_append_drop]
end
/-! ### what is refused -/
theorem rem_ne {l : List Int} (hl : l.length ≤ 100) (h : ¬ l.length % 8 = 0) : ¬ irem .i64 ((l.length : Nat) : Int) 8 = 0 := by
  have h2 : irem .i64 ((l.length : Nat) : Int) 8 = ((l.length % 8 : Nat) : Int) := irem_nat (b := 8) (by omega)
  rw [h2]
  omega
theorem wrap_no {kek l : List Int} (hl : l.length ≤ 100) (h : ¬ (Szd kek ∧ 16 ≤ l.length ∧ l.length % 8 = 0)) : ∃ e, wrap_Wrap.f 1000 kek l = some ([], e) ∧ ¬ e = 0 := by
  by_cases hs : Szd kek
  · refine ⟨14, ?_, by decide⟩
    have e0 : wrap_wrong.f 1000 kek l 16 4096 = some 14 := wrong14 hs 1000 (by
      by_cases h1 : 16 ≤ l.length
      · exact .inr (.inr (rem_ne hl fun h2 => h ⟨hs, h1, h2⟩))
      · exact .inl (by omega))
    have c : ¬ (14 : Int) = 0 := by decide
    unfold wrap_Wrap.f
    simp only [e0, c, if_false, Option.bind_some]
  · refine ⟨10, ?_, by decide⟩
    have c : ¬ (10 : Int) = 0 := by decide
    unfold wrap_Wrap.f
    simp only [wrong10 hs, c, if_false, Option.bind_some]
theorem unw_no {kek l : List Int} (hl : l.length ≤ 100) (h : ¬ (Szd kek ∧ 24 ≤ l.length ∧ l.length % 8 = 0)) : ∃ e, wrap_Unwrap.f 1000 kek l = some ([], e) ∧ ¬ e = 0 := by
  by_cases hs : Szd kek
  · refine ⟨14, ?_, by decide⟩
    have e0 : wrap_wrong.f 1000 kek l 24 4104 = some 14 := wrong14 hs 1000 (by
      by_cases h1 : 24 ≤ l.length
      · exact .inr (.inr (rem_ne hl fun h2 => h ⟨hs, h1, h2⟩))
      · exact .inl (by omega))
    have c : ¬ (14 : Int) = 0 := by decide
    unfold wrap_Unwrap.f
    simp only [e0, c, if_false, Option.bind_some]
  · refine ⟨10, ?_, by decide⟩
    have c : ¬ (10 : Int) = 0 := by decide
    unfold wrap_Unwrap.f
    simp only [wrong10 hs, c, if_false, Option.bind_some]
end Go.Proofs.Ytmpagpbnpgcecaa
