/- Layer 10 (aes), plain laws: blocks xored, texts in parts of sixteen, chains there and back. -/
import Derived.Test.YtmpagpbnpgcecaaRFAesBlocks
import Derived.Test.YtmpagpbnpgcecaaRFAesChains
import Derived.Test.YtmpagpbnpgcecaaEq
import Derived.Laws.Strings
set_option linter.unusedSimpArgs false
set_option linter.unusedVariables false
set_option maxRecDepth 100000
namespace Go.Proofs.Ytmpagpbnpgcecaa
open Go Go.Mx
theorem tk_in {k : IntKind} {l : List Int} (h : InL k l) (m : Nat) : InL k (l.take m) := fun x hx => h x (List.mem_of_mem_take hx)
theorem dp_in {k : IntKind} {l : List Int} (h : InL k l) (m : Nat) : InL k (l.drop m) := fun x hx => h x (List.mem_of_mem_drop hx)
theorem ap_in {k : IntKind} {a b : List Int} (ha : InL k a) (hb : InL k b) : InL k (a ++ b) := fun x hx => (List.mem_append.1 hx).elim (ha x) (hb x)
theorem clone10 {l : List Int} (h : l.length < 1000000) (K : Nat) : slices_Clone_byte_byte.f K l = some l := by
  unfold slices_Clone_byte_byte.f
  cases l with
  | nil => rfl
  | cons x l =>
    have c : ([] : List Int).length + (x :: l).length ≤ 140737488355328 := by rw [List.length_nil]; omega
    rw [if_neg (by simp), if_pos c]
    rfl
/-! ### two blocks xored -/
def xorB (a b : List Int) : List Int := (List.range 16).map fun j => ((xk (bS a) (bS b) j : Nat) : Int)
theorem xorB_len (a b : List Int) : (xorB a b).length = 16 := by simp [xorB]
theorem xorB_S (a b : List Int) : LsS (xorB a b) (xk (bS a) (bS b)) := ⟨xorB_len a b, fun j hj => by
  unfold rdL xorB
  rw [Int.toNat_natCast, List.getD_eq_getElem?_getD, List.getElem?_map, List.getElem?_range hj]
  rfl⟩
theorem xorB_in {a b : List Int} (ha : InL .u8 a) (hb : InL .u8 b) (la : a.length = 16) (lb : b.length = 16) : InL .u8 (xorB a b) := (bytes_of (xorB_S a b) (xk_bd (ls_of ha la).2.1 (ls_of hb lb).2.1)).2
theorem rXorB {a b : List Int} (ha : InL .u8 a) (hb : InL .u8 b) (la : a.length = 16) (lb : b.length = 16) : ref01_Xor.f 1000 a b = some (xorB a b) := by
  obtain ⟨x, e, h⟩ := rXor 1000 (by decide) (ls_of ha la).1 (ls_of hb lb).1 (ls_of ha la).2.1 (ls_of hb lb).2.1
  rw [e, list_of h (xorB_S a b) (E16.refl _)]
theorem aXor_l0 (K : Nat) {a b : List Int} (ha : InL .u8 a) (hb : InL .u8 b) (la : a.length = 16) (lb : b.length = 16) : ∀ (m i k : Nat) (z : List Int), i + m = 16 → m < k → LsS z (fun j => if j < i then xk (bS a) (bS b) j else bS a j) → bits_Xor.l0 K k b a (i : Int) z = some (xorB a b) := by
  intro m
  induction m with
  | zero =>
    intro i k z hi hk hz
    obtain ⟨k, rfl⟩ : ∃ q, k = q + 1 := ⟨k - 1, by omega⟩
    have c : ¬ (i : Int) < ((a.length : Nat) : Int) := by omega
    simp only [bits_Xor.l0, c, if_false]
    rw [list_of hz (xorB_S a b) fun j hj => by
      show (if j < i then xk (bS a) (bS b) j else bS a j) = _
      rw [if_pos (show j < i by omega)]]
  | succ m ih =>
    intro i k z hi hk hz
    obtain ⟨k, rfl⟩ : ∃ q, k = q + 1 := ⟨k - 1, by omega⟩
    have c0 : (i : Int) < ((a.length : Nat) : Int) := by omega
    have c1 : (0 : Int) ≤ (i : Int) := by omega
    have c2 : (i : Int) < ((z.length : Nat) : Int) := by rw [hz.1]; omega
    have c3 : (i : Int) < ((b.length : Nat) : Int) := by omega
    have e1 : rdL (CI .u8) z (i : Int) = ((bS a i : Nat) : Int) := by
      rw [hz.2 i (by omega)]
      show (((if i < i then xk (bS a) (bS b) i else bS a i : Nat)) : Int) = _
      rw [if_neg (Nat.lt_irrefl i)]
    have e2 : rdL (CI .u8) b (i : Int) = ((bS b i : Nat) : Int) := (ls_of hb lb).1.2 i (by omega)
    have e3 : ixor .u8 ((bS a i : Nat) : Int) ((bS b i : Nat) : Int) = ((xk (bS a) (bS b) i : Nat) : Int) := ix8 ((ls_of ha la).2.1 i (by omega)) ((ls_of hb lb).2.1 i (by omega))
    obtain ⟨s1, s2⟩ := setL 16 z i ((xk (bS a) (bS b) i : Nat) : Int) hz.1 (by omega)
    simp only [bits_Xor.l0, c0, c1, c2, c3, e1, e2, e3, if_true, Option.bind_some, inc (i := i) (by omega)]
    refine ih (i + 1) k _ (by omega) (by omega) ⟨s1, fun j hj => ?_⟩
    rw [s2 j hj]
    show _ = (((if j < i + 1 then xk (bS a) (bS b) j else bS a j : Nat)) : Int)
    by_cases h : i = j
    · subst h
      rw [if_pos rfl, if_pos (Nat.lt_succ_self i)]
    · rw [if_neg h, hz.2 j hj]
      show (((if j < i then xk (bS a) (bS b) j else bS a j : Nat)) : Int) = _
      by_cases h2 : j < i
      · rw [if_pos h2, if_pos (Nat.lt_succ_of_lt h2)]
      · rw [if_neg h2, if_neg (show ¬ j < i + 1 by omega)]
theorem aXorB {a b : List Int} (ha : InL .u8 a) (hb : InL .u8 b) (la : a.length = 16) (lb : b.length = 16) : bits_Xor.f 1000 a b = some (xorB a b) := by
  have m : imin ((a.length : Nat) : Int) ((b.length : Nat) : Int) = 16 := by rw [la, lb]; rfl
  have c0 : (0 : Int) ≤ 0 := by decide
  have c1 : (0 : Int) ≤ 16 := by decide
  have c2 : (16 : Int) ≤ ((a.length : Nat) : Int) := by omega
  have h0 : bits_Xor.l0 1000 1000 b a 0 a = some (xorB a b) := aXor_l0 1000 ha hb la lb 16 0 1000 a (by decide) (by decide) ⟨la, fun j hj => by
    show _ = (((if j < 0 then xk (bS a) (bS b) j else bS a j : Nat)) : Int)
    rw [if_neg (Nat.not_lt_zero j)]
    exact (ls_of ha la).1.2 j hj⟩
  unfold bits_Xor.f
  simp only [m, c0, c1, c2, subL_all la, clone10 (show a.length < 1000000 by omega), h0, if_true, Option.bind_some]
theorem xorB_twice {a b : List Int} (ha : InL .u8 a) (la : a.length = 16) : xorB (xorB a b) b = a := by
  refine list_of (xorB_S _ b) (ls_of ha la).1 ?_
  have h := xk_c (k := bS b) (bS_of (xorB_S a b))
  rw [xk_xk] at h
  exact h
/-! ### parts of sixteen -/
theorem imin16 {n : Nat} (h : 16 ≤ n) : imin 16 ((n : Nat) : Int) = 16 := by
  unfold imin
  rw [if_neg (by omega)]
theorem add16 {p : Nat} (h : p < 100000) : iadd .i64 ((16 * p : Nat) : Int) 16 = ((16 * (p + 1) : Nat) : Int) := by
  rw [add64 (by omega) (by omega)]
  omega
theorem sub16 (l : List Int) (p : Nat) : subL l ((16 * p : Nat) : Int) ((16 * (p + 1) : Nat) : Int) = (l.drop (16 * p)).take 16 := by
  unfold subL
  rw [Int.toNat_natCast, Int.toNat_natCast, List.drop_take, show 16 * (p + 1) - 16 * p = 16 by omega]
theorem dp16 (l : List Int) (p : Nat) : (l.drop (16 * p)).drop 16 = l.drop (16 * (p + 1)) := by
  rw [List.drop_drop, show 16 * p + 16 = 16 * (p + 1) by omega]
def chain (E : List Int → List Int) : Nat → List Int → List Int → List Int
  | 0, _, _ => []
  | n + 1, last, l => E (xorB (l.take 16) last) ++ chain E n (E (xorB (l.take 16) last)) (l.drop 16)
def unch (D : List Int → List Int) : Nat → List Int → List Int → List Int
  | 0, _, _ => []
  | n + 1, last, l => xorB (D (l.take 16)) last ++ unch D n (l.take 16) (l.drop 16)
section
variable {kek : List Int} {rk : List (Arr 16)} {z : List Int} {E D : List Int → List Int}
def Blk (b : List Int) : Prop := InL .u8 b ∧ b.length = 16
theorem Cy.e (hc : Cy kek rk z E D) {b : List Int} (h : Blk b) : Blk (E b) := by obtain ⟨y, _, _, _, h1, h2⟩ := hc.there b h.1 h.2; exact ⟨h2, h1⟩
theorem Cy.d (hc : Cy kek rk z E D) {b : List Int} (h : Blk b) : Blk (D b) := by obtain ⟨y, _, _, _, h1, h2⟩ := hc.back b h.1 h.2; exact ⟨h2, h1⟩
theorem Blk.xor {a b : List Int} (ha : Blk a) (hb : Blk b) : Blk (xorB a b) := ⟨xorB_in ha.1 hb.1 ha.2 hb.2, xorB_len a b⟩
theorem Blk.part {l : List Int} (h : InL .u8 l) (hl : 16 ≤ l.length) : Blk (l.take 16) := ⟨tk_in h 16, by rw [List.length_take]; omega⟩
theorem chain_ok (hc : Cy kek rk z E D) : ∀ (n : Nat) (last l : List Int), Blk last → InL .u8 l → l.length = 16 * n → InL .u8 (chain E n last l) ∧ (chain E n last l).length = 16 * n
  | 0, _, _, _, _, _ => ⟨fun x hx => (by cases hx), rfl⟩
  | n + 1, last, l, hb, h, hl => by
    have h1 := hc.e ((Blk.part h (by omega)).xor hb)
    have h2 := chain_ok hc n _ (l.drop 16) h1 (dp_in h 16) (by rw [List.length_drop]; omega)
    exact ⟨ap_in h1.1 h2.1, by show (_ ++ _ : List Int).length = _; rw [List.length_append, h1.2, h2.2]; omega⟩
theorem unch_ok (hc : Cy kek rk z E D) : ∀ (n : Nat) (last l : List Int), Blk last → InL .u8 l → l.length = 16 * n → InL .u8 (unch D n last l) ∧ (unch D n last l).length = 16 * n
  | 0, _, _, _, _, _ => ⟨fun x hx => (by cases hx), rfl⟩
  | n + 1, last, l, hb, h, hl => by
    have hp := Blk.part h (show 16 ≤ l.length by omega)
    have h1 := (hc.d hp).xor hb
    have h2 := unch_ok hc n _ (l.drop 16) hp (dp_in h 16) (by rw [List.length_drop]; omega)
    exact ⟨ap_in h1.1 h2.1, by show (_ ++ _ : List Int).length = _; rw [List.length_append, h1.2, h2.2]; omega⟩
theorem unch_chain (hc : Cy kek rk z E D) : ∀ (n : Nat) (last l : List Int), Blk last → InL .u8 l → l.length = 16 * n → unch D n last (chain E n last l) = l
  | 0, _, l, _, _, hl => (List.eq_nil_of_length_eq_zero (by omega : l.length = 0)).symm
  | n + 1, last, l, hb, h, hl => by
    have hp := Blk.part h (show 16 ≤ l.length by omega)
    have hx := hp.xor hb
    have h1 := hc.e hx
    show xorB (D ((E (xorB (l.take 16) last) ++ chain E n (E (xorB (l.take 16) last)) (l.drop 16)).take 16)) last ++ unch D n ((E (xorB (l.take 16) last) ++ chain E n (E (xorB (l.take 16) last)) (l.drop 16)).take 16) ((E (xorB (l.take 16) last) ++ chain E n (E (xorB (l.take 16) last)) (l.drop 16)).drop 16) = l
    rw [List.take_left' h1.2, List.drop_left' h1.2, (hc.inv _ hx.1 hx.2).1, xorB_twice hp.1 hp.2, unch_chain hc n _ (l.drop 16) h1 (dp_in h 16) (by rw [List.length_drop]; omega), List.take_append_drop]
theorem chain_unch (hc : Cy kek rk z E D) : ∀ (n : Nat) (last l : List Int), Blk last → InL .u8 l → l.length = 16 * n → chain E n last (unch D n last l) = l
  | 0, _, l, _, _, hl => (List.eq_nil_of_length_eq_zero (by omega : l.length = 0)).symm
  | n + 1, last, l, hb, h, hl => by
    have hp := Blk.part h (show 16 ≤ l.length by omega)
    have h1 := hc.d hp
    have hx := h1.xor hb
    have e : E (xorB ((xorB (D (l.take 16)) last ++ unch D n (l.take 16) (l.drop 16)).take 16) last) = l.take 16 := by
      rw [List.take_left' hx.2, xorB_twice h1.1 h1.2]
      exact (hc.inv _ hp.1 hp.2).2
    show E (xorB ((xorB (D (l.take 16)) last ++ unch D n (l.take 16) (l.drop 16)).take 16) last) ++ chain E n (E (xorB ((xorB (D (l.take 16)) last ++ unch D n (l.take 16) (l.drop 16)).take 16) last)) ((xorB (D (l.take 16)) last ++ unch D n (l.take 16) (l.drop 16)).drop 16) = l
    rw [e, List.drop_left' hx.2, chain_unch hc n _ (l.drop 16) hp (dp_in h 16) (by rw [List.length_drop]; omega), List.take_append_drop]
/-! ### the loops -/
theorem aChain_l0 (hc : Cy kek rk z E D) {all : List Int} (h : InL .u8 all) {n : Nat} (hl : all.length = 16 * n) (hn : n ≤ 100) : ∀ (m p k : Nat) (out last : List Int), p + m = n → m < k → out.length = 16 * p → Blk last →
    ∃ last', aes_Chain.l0 1000 k tabs.1 tabs.2 rk all ((16 * p : Nat) : Int) out last = some (out ++ chain E m last (all.drop (16 * p)), last') := by
  intro m
  induction m with
  | zero =>
    intro p k out last hp hk ho hb
    obtain ⟨k, rfl⟩ : ∃ q, k = q + 1 := ⟨k - 1, by omega⟩
    have c : ¬ ((16 * p : Nat) : Int) < ((all.length : Nat) : Int) := by omega
    exact ⟨last, by simp only [aes_Chain.l0, c, if_false, chain, List.append_nil]⟩
  | succ m ih =>
    intro p k out last hp hk ho hb
    obtain ⟨k, rfl⟩ : ∃ q, k = q + 1 := ⟨k - 1, by omega⟩
    have c0 : ((16 * p : Nat) : Int) < ((all.length : Nat) : Int) := by omega
    have c1 : (0 : Int) ≤ ((16 * p : Nat) : Int) := by omega
    have c2 : ((16 * p : Nat) : Int) ≤ ((all.length : Nat) : Int) := by omega
    have c3 : ((all.length : Nat) : Int) ≤ ((all.length : Nat) : Int) := Int.le_refl _
    have s1 : (subL all ((16 * p : Nat) : Int) ((all.length : Nat) : Int)).length = all.length - 16 * p := subL_lenN (by omega) (Nat.le_refl _)
    have m1 : imin 16 ((all.length - 16 * p : Nat) : Int) = 16 := imin16 (by omega)
    have c4 : ((16 * p : Nat) : Int) ≤ ((16 * (p + 1) : Nat) : Int) := by omega
    have c5 : ((16 * (p + 1) : Nat) : Int) ≤ ((16 * (p + 1) : Nat) : Int) := Int.le_refl _
    have c6 : ((16 * (p + 1) : Nat) : Int) ≤ ((all.length : Nat) : Int) := by omega
    have hpt : Blk ((all.drop (16 * p)).take 16) := Blk.part (dp_in h _) (by rw [List.length_drop]; omega)
    have hx := hpt.xor hb
    obtain ⟨y, e1, e2, _, _, _⟩ := hc.there _ hx.1 hx.2
    have he := hc.e hx
    have c7 : 16 ≤ (xorB ((all.drop (16 * p)).take 16) last).length := by rw [hx.2]; exact Nat.le_refl _
    have c8 : out.length + (E (xorB ((all.drop (16 * p)).take 16) last)).length ≤ 140737488355328 := by rw [ho, he.2]; omega
    obtain ⟨l', f⟩ := ih (p + 1) k (out ++ E (xorB ((all.drop (16 * p)).take 16) last)) _ (by omega) (by omega) (by rw [List.length_append, ho, he.2]; omega) he
    refine ⟨l', ?_⟩
    simp only [aes_Chain.l0, c0, c1, c2, c3, s1, m1, add16 (show p < 100000 by omega), c4, c5, c6, sub16, aXorB hpt.1 hb.1 hpt.2 hb.2, c7, e1, e2, subL_all he.2, c8, if_true, Option.bind_some]
    rw [f]
    show _ = some (out ++ (E (xorB ((all.drop (16 * p)).take 16) last) ++ chain E m (E (xorB ((all.drop (16 * p)).take 16) last)) ((all.drop (16 * p)).drop 16)), l')
    rw [dp16, List.append_assoc]
theorem rChain_l1 (hc : Cy kek rk z E D) {all : List Int} (h : InL .u8 all) {n : Nat} (hl : all.length = 16 * n) (hn : n ≤ 100) : ∀ (m p k : Nat) (out last : List Int), p + m = n → m < k → out.length = 16 * p → Blk last →
    ref10_Chain.l1 1000 k all tabs.1 z ((16 * p : Nat) : Int) out last = some (out ++ chain E m last (all.drop (16 * p))) := by
  intro m
  induction m with
  | zero =>
    intro p k out last hp hk ho hb
    obtain ⟨k, rfl⟩ : ∃ q, k = q + 1 := ⟨k - 1, by omega⟩
    have c : ¬ ((16 * p : Nat) : Int) < ((all.length : Nat) : Int) := by omega
    simp only [ref10_Chain.l1, c, if_false, chain, List.append_nil]
  | succ m ih =>
    intro p k out last hp hk ho hb
    obtain ⟨k, rfl⟩ : ∃ q, k = q + 1 := ⟨k - 1, by omega⟩
    have c0 : ((16 * p : Nat) : Int) < ((all.length : Nat) : Int) := by omega
    have c1 : (0 : Int) ≤ ((16 * p : Nat) : Int) := by omega
    have c4 : ((16 * p : Nat) : Int) ≤ ((16 * (p + 1) : Nat) : Int) := by omega
    have c6 : ((16 * (p + 1) : Nat) : Int) ≤ ((all.length : Nat) : Int) := by omega
    have hpt : Blk ((all.drop (16 * p)).take 16) := Blk.part (dp_in h _) (by rw [List.length_drop]; omega)
    have hx := hpt.xor hb
    obtain ⟨y, _, _, e1, _, _⟩ := hc.there _ hx.1 hx.2
    have he := hc.e hx
    have c8 : out.length + (E (xorB ((all.drop (16 * p)).take 16) last)).length ≤ 140737488355328 := by rw [ho, he.2]; omega
    have f := ih (p + 1) k (out ++ E (xorB ((all.drop (16 * p)).take 16) last)) _ (by omega) (by omega) (by rw [List.length_append, ho, he.2]; omega) he
    simp only [ref10_Chain.l1, c0, c1, add16 (show p < 100000 by omega), c4, c6, sub16, rXorB hpt.1 hb.1 hpt.2 hb.2, e1, c8, if_true, Option.bind_some]
    rw [f]
    show _ = some (out ++ (E (xorB ((all.drop (16 * p)).take 16) last) ++ chain E m (E (xorB ((all.drop (16 * p)).take 16) last)) ((all.drop (16 * p)).drop 16)))
    rw [dp16, List.append_assoc]
theorem aUn_l0 (hc : Cy kek rk z E D) {all : List Int} (h : InL .u8 all) {n : Nat} (hl : all.length = 16 * n) (hn : n ≤ 100) : ∀ (m p k : Nat) (out last : List Int), p + m = n → m < k → out.length = 16 * p → Blk last →
    ∃ last', aes_Unchain.l0 1000 k all tabs.1 tabs.2 rk ((16 * p : Nat) : Int) out last = some (out ++ unch D m last (all.drop (16 * p)), last') := by
  intro m
  induction m with
  | zero =>
    intro p k out last hp hk ho hb
    obtain ⟨k, rfl⟩ : ∃ q, k = q + 1 := ⟨k - 1, by omega⟩
    have c : ¬ ((16 * p : Nat) : Int) < ((all.length : Nat) : Int) := by omega
    exact ⟨last, by simp only [aes_Unchain.l0, c, if_false, unch, List.append_nil]⟩
  | succ m ih =>
    intro p k out last hp hk ho hb
    obtain ⟨k, rfl⟩ : ∃ q, k = q + 1 := ⟨k - 1, by omega⟩
    have c0 : ((16 * p : Nat) : Int) < ((all.length : Nat) : Int) := by omega
    have c1 : (0 : Int) ≤ ((16 * p : Nat) : Int) := by omega
    have c2 : ((16 * p : Nat) : Int) ≤ ((all.length : Nat) : Int) := by omega
    have c3 : ((all.length : Nat) : Int) ≤ ((all.length : Nat) : Int) := Int.le_refl _
    have s1 : (subL all ((16 * p : Nat) : Int) ((all.length : Nat) : Int)).length = all.length - 16 * p := subL_lenN (by omega) (Nat.le_refl _)
    have m1 : imin 16 ((all.length - 16 * p : Nat) : Int) = 16 := imin16 (by omega)
    have c4 : ((16 * p : Nat) : Int) ≤ ((16 * (p + 1) : Nat) : Int) := by omega
    have c5 : ((16 * (p + 1) : Nat) : Int) ≤ ((16 * (p + 1) : Nat) : Int) := Int.le_refl _
    have c6 : ((16 * (p + 1) : Nat) : Int) ≤ ((all.length : Nat) : Int) := by omega
    have hpt : Blk ((all.drop (16 * p)).take 16) := Blk.part (dp_in h _) (by rw [List.length_drop]; omega)
    obtain ⟨y, e1, e2, _, _, _⟩ := hc.back _ hpt.1 hpt.2
    have he := hc.d hpt
    have hx := he.xor hb
    have c7 : 16 ≤ ((all.drop (16 * p)).take 16).length := by rw [hpt.2]; exact Nat.le_refl _
    have c8 : out.length + (xorB (D ((all.drop (16 * p)).take 16)) last).length ≤ 140737488355328 := by rw [ho, hx.2]; omega
    obtain ⟨l', f⟩ := ih (p + 1) k (out ++ xorB (D ((all.drop (16 * p)).take 16)) last) _ (by omega) (by omega) (by rw [List.length_append, ho, hx.2]; omega) hpt
    refine ⟨l', ?_⟩
    simp only [aes_Unchain.l0, c0, c1, c2, c3, s1, m1, add16 (show p < 100000 by omega), c4, c5, c6, sub16, c7, e1, e2, subL_all he.2, aXorB he.1 hb.1 he.2 hb.2, c8, if_true, Option.bind_some]
    rw [f]
    show _ = some (out ++ (xorB (D ((all.drop (16 * p)).take 16)) last ++ unch D m ((all.drop (16 * p)).take 16) ((all.drop (16 * p)).drop 16)), l')
    rw [dp16, List.append_assoc]
theorem rUn_l0 (hc : Cy kek rk z E D) {all : List Int} (h : InL .u8 all) {n : Nat} (hl : all.length = 16 * n) (hn : n ≤ 100) : ∀ (m p k : Nat) (out last : List Int), p + m = n → m < k → out.length = 16 * p → Blk last →
    ref10_Unchain.l0 1000 k all tabs.2 z ((16 * p : Nat) : Int) out last = some (out ++ unch D m last (all.drop (16 * p))) := by
  intro m
  induction m with
  | zero =>
    intro p k out last hp hk ho hb
    obtain ⟨k, rfl⟩ : ∃ q, k = q + 1 := ⟨k - 1, by omega⟩
    have c : ¬ ((16 * p : Nat) : Int) < ((all.length : Nat) : Int) := by omega
    simp only [ref10_Unchain.l0, c, if_false, unch, List.append_nil]
  | succ m ih =>
    intro p k out last hp hk ho hb
    obtain ⟨k, rfl⟩ : ∃ q, k = q + 1 := ⟨k - 1, by omega⟩
    have c0 : ((16 * p : Nat) : Int) < ((all.length : Nat) : Int) := by omega
    have c1 : (0 : Int) ≤ ((16 * p : Nat) : Int) := by omega
    have c4 : ((16 * p : Nat) : Int) ≤ ((16 * (p + 1) : Nat) : Int) := by omega
    have c6 : ((16 * (p + 1) : Nat) : Int) ≤ ((all.length : Nat) : Int) := by omega
    have hpt : Blk ((all.drop (16 * p)).take 16) := Blk.part (dp_in h _) (by rw [List.length_drop]; omega)
    obtain ⟨y, _, _, e1, _, _⟩ := hc.back _ hpt.1 hpt.2
    have he := hc.d hpt
    have hx := he.xor hb
    have c8 : out.length + (xorB (D ((all.drop (16 * p)).take 16)) last).length ≤ 140737488355328 := by rw [ho, hx.2]; omega
    have f := ih (p + 1) k (out ++ xorB (D ((all.drop (16 * p)).take 16)) last) _ (by omega) (by omega) (by rw [List.length_append, ho, hx.2]; omega) hpt
    simp only [ref10_Unchain.l0, c0, c1, add16 (show p < 100000 by omega), c4, c6, sub16, e1, rXorB he.1 hb.1 he.2 hb.2, c8, if_true, Option.bind_some]
    rw [f]
    show _ = some (out ++ (xorB (D ((all.drop (16 * p)).take 16)) last ++ unch D m ((all.drop (16 * p)).take 16) ((all.drop (16 * p)).drop 16)))
    rw [dp16, List.append_assoc]
end
end Go.Proofs.Ytmpagpbnpgcecaa
