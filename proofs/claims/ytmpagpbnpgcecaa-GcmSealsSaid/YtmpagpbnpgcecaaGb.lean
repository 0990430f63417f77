/- Layer 12 (gcm), plain laws: texts xored, joined, numbers as bytes and back. -/
import Derived.Test.YtmpagpbnpgcecaaGFAesBlocks
import Derived.Test.YtmpagpbnpgcecaaGFGcmSeals
import Derived.Test.YtmpagpbnpgcecaaMb
import Derived.Test.YtmpagpbnpgcecaaMp
set_option linter.unusedSimpArgs false
set_option linter.unusedVariables false
set_option maxRecDepth 100000
namespace Go.Proofs.Ytmpagpbnpgcecaa
open Go Go.Mx
theorem ginc {i : Nat} (h : i < 1000000) : iadd .i64 (i : Int) 1 = ((i + 1 : Nat) : Int) := by rw [add64 (by omega) (by omega)]; omega
theorem g_take {k : IntKind} {l : List Int} (h : InL k l) (m : Nat) : InL k (l.take m) := fun x hx => h x (List.mem_of_mem_take hx)
theorem g_drop {k : IntKind} {l : List Int} (h : InL k l) (m : Nat) : InL k (l.drop m) := fun x hx => h x (List.mem_of_mem_drop hx)
theorem g_app {k : IntKind} {a b : List Int} (ha : InL k a) (hb : InL k b) : InL k (a ++ b) := fun x hx => (List.mem_append.1 hx).elim (ha x) (hb x)
theorem g_sub (l : List Int) (a b : Nat) : subL l (a : Int) (b : Int) = (l.take b).drop a := by unfold subL; rw [Int.toNat_natCast, Int.toNat_natCast]
/-! ### a number as eight bytes, and back -/
def by8 (n i : Nat) : Int := ((n / 2 ^ (8 * i) % 256 : Nat) : Int)
def be8 (n : Nat) : List Int := [by8 n 7, by8 n 6, by8 n 5, by8 n 4, by8 n 3, by8 n 2, by8 n 1, by8 n 0]
theorem be8_len (n : Nat) : (be8 n).length = 8 := rfl
theorem by8_in (n i : Nat) : InR .u8 (by8 n i) := (⟨by unfold by8; omega, by unfold by8; omega⟩ : (0 : Int) ≤ by8 n i ∧ by8 n i ≤ 255)
theorem be8_in (n : Nat) : InL .u8 (be8 n) := fun x hx => by
  simp only [be8, List.mem_cons, List.not_mem_nil, or_false] at hx
  rcases hx with rfl | rfl | rfl | rfl | rfl | rfl | rfl | rfl <;> exact by8_in n _
theorem cv8 (n : Nat) : iconv .u8 (n : Int) = ((n % 256 : Nat) : Int) := by
  unfold iconv
  rw [wu8]
  omega
theorem cvs (n : Nat) {i : Nat} (hi : i ≤ 64) : iconv .u8 (ishr .u64 (n : Int) (i : Int)) = ((n / 2 ^ i % 256 : Nat) : Int) := by
  rw [ishr_nat (k := .u64) hi, cv8]
theorem aBe (n : Nat) : bits_Be.f 1000 (n : Int) 8 = some (be8 n) := by
  have h1 : bits_Be.f 1000 (n : Int) 8 = some [iconv .u8 (ishr .u64 (n : Int) ((56 : Nat) : Int)), iconv .u8 (ishr .u64 (n : Int) ((48 : Nat) : Int)), iconv .u8 (ishr .u64 (n : Int) ((40 : Nat) : Int)), iconv .u8 (ishr .u64 (n : Int) ((32 : Nat) : Int)), iconv .u8 (ishr .u64 (n : Int) ((24 : Nat) : Int)), iconv .u8 (ishr .u64 (n : Int) ((16 : Nat) : Int)), iconv .u8 (ishr .u64 (n : Int) ((8 : Nat) : Int)), iconv .u8 (ishr .u64 (n : Int) ((0 : Nat) : Int))] := by kernel_rfl
  rw [h1, cvs n (i := 56) (by decide), cvs n (i := 48) (by decide), cvs n (i := 40) (by decide), cvs n (i := 32) (by decide), cvs n (i := 24) (by decide), cvs n (i := 16) (by decide), cvs n (i := 8) (by decide), cvs n (i := 0) (by decide)]
  rfl
def num (l : List Int) : Nat := l.foldl (fun n c => (n * 256 + c.toNat) % 2 ^ 64) 0
theorem num_lt (l : List Int) : num l < 2 ^ 64 := by
  unfold num
  rcases List.eq_nil_or_concat l with rfl | ⟨l', x, rfl⟩
  · decide
  · rw [List.concat_eq_append, List.foldl_append]
    exact Nat.mod_lt _ (by decide)
theorem num_step {n x : Nat} (hn : n < 2 ^ 64) (hx : x < 256) : ior .u64 (ishl .u64 (n : Int) 8) (iconv .u64 (x : Int)) = (((n * 256 + x) % 2 ^ 64 : Nat) : Int) ∧ iadd .u64 (imul .u64 (n : Int) 256) (iconv .u64 (x : Int)) = (((n * 256 + x) % 2 ^ 64 : Nat) : Int) := by
  have hc : iconv .u64 (x : Int) = (x : Int) := by unfold iconv; rw [wu64]; omega
  have hs : ishl .u64 (n : Int) 8 = ((n % 2 ^ 56 * 2 ^ 8 : Nat) : Int) := by
    unfold ishl
    rw [show min (8 : Int).toNat IntKind.u64.bits = 8 from rfl, wu64]
    omega
  have hm : imul .u64 (n : Int) 256 = ((n % 2 ^ 56 * 2 ^ 8 : Nat) : Int) := by
    unfold imul
    rw [wu64]
    omega
  rw [hc, hs, hm]
  constructor
  · rw [ior_nat (k := .u64) (show _ < 2 ^ 64 by omega) (show _ < 2 ^ 64 by omega), Nat.or_comm, or_parts (h := 8) hx]
    omega
  · unfold iadd
    rw [wu64]
    omega
theorem byte_nat {l : List Int} (h : InL .u8 l) {x : Int} (hx : x ∈ l) : ∃ n : Nat, x = (n : Int) ∧ n < 256 := by
  obtain ⟨h0, h1⟩ : 0 ≤ x ∧ x ≤ 255 := h x hx
  exact ⟨x.toNat, by omega, by omega⟩
theorem rdL_get {l : List Int} {i : Nat} (h : i < l.length) : rdL (CI .u8) l (i : Int) = l[i] := by
  unfold rdL
  rw [Int.toNat_natCast, List.getD_eq_getElem?_getD, List.getElem?_eq_getElem h]
  rfl

theorem gNum_l0 (K : Nat) {a : List Int} (ha : InL .u8 a) (hl : a.length < 100000) : ∀ (m i k n : Nat), i + m = a.length → m < k → n < 2 ^ 64 →
    bits_Num.l0 K k a (n : Int) (i : Int) = some (((a.drop i).foldl (fun n c => (n * 256 + c.toNat) % 2 ^ 64) n : Nat) : Int) := by
  intro m
  induction m with
  | zero =>
    intro i k n hi hk hn
    obtain ⟨k, rfl⟩ : ∃ q, k = q + 1 := ⟨k - 1, by omega⟩
    have c : ¬ (i : Int) < ((a.length : Nat) : Int) := by omega
    simp only [bits_Num.l0, c, if_false, List.drop_of_length_le (Nat.le_of_eq (show a.length = i by omega)), List.foldl_nil]
  | succ m ih =>
    intro i k n hi hk hn
    obtain ⟨k, rfl⟩ : ∃ q, k = q + 1 := ⟨k - 1, by omega⟩
    have hil : i < a.length := by omega
    have c0 : (i : Int) < ((a.length : Nat) : Int) := by omega
    have c1 : (0 : Int) ≤ (i : Int) := by omega
    obtain ⟨x, hx, hx2⟩ := byte_nat ha (List.getElem_mem hil)
    obtain ⟨e1, e2⟩ := num_step hn hx2
    have hd : a.drop i = a[i] :: a.drop (i + 1) := List.drop_eq_getElem_cons hil
    have i1 := ih (i + 1) k ((n * 256 + x) % 2 ^ 64) (by omega) (by omega) (Nat.mod_lt _ (by decide))
    rw [hd, List.foldl_cons, hx, Int.toNat_natCast]
    simp only [bits_Num.l0, c0, c1, rdL_get hil, hx, e1, if_true, Option.bind_some, ginc (i := i) (by omega)]
    exact i1
theorem gNum (K : Nat) {a : List Int} (ha : InL .u8 a) (hl : a.length < K) (hl2 : a.length < 100000) : bits_Num.f K a = some ((num a : Nat) : Int) := by
  have h1' : bits_Num.l0 K K a 0 0 = some ((num a : Nat) : Int) := gNum_l0 K ha hl2 a.length 0 K 0 (by omega) hl (by decide)
  unfold bits_Num.f
  rw [h1']
  rfl
def be4 (n : Nat) : List Int := [by8 n 3, by8 n 2, by8 n 1, by8 n 0]
theorem be4_in (n : Nat) : InL .u8 (be4 n) := fun x hx => by
  simp only [be4, List.mem_cons, List.not_mem_nil, or_false] at hx
  rcases hx with rfl | rfl | rfl | rfl <;> exact by8_in n _
theorem gBe4 (n : Nat) : bits_Be.f 1000 (n : Int) 4 = some (be4 n) := by
  have h1 : bits_Be.f 1000 (n : Int) 4 = some [iconv .u8 (ishr .u64 (n : Int) ((24 : Nat) : Int)), iconv .u8 (ishr .u64 (n : Int) ((16 : Nat) : Int)), iconv .u8 (ishr .u64 (n : Int) ((8 : Nat) : Int)), iconv .u8 (ishr .u64 (n : Int) ((0 : Nat) : Int))] := by kernel_rfl
  rw [h1, cvs n (i := 24) (by decide), cvs n (i := 16) (by decide), cvs n (i := 8) (by decide), cvs n (i := 0) (by decide)]
  rfl
/-! ### texts behind one another -/
theorem g_rdLL {W : List (List Int)} {i : Nat} (h : i < W.length) : rdLL W (i : Int) = W[i] := by
  unfold rdLL
  rw [Int.toNat_natCast, List.getD_eq_getElem?_getD, List.getElem?_eq_getElem h]
  rfl
theorem g_flt {W : List (List Int)} {i : Nat} (h : i < W.length) : (W.take (i + 1)).flatten = (W.take i).flatten ++ W[i] := by
  rw [List.take_succ_eq_append_getElem h, List.flatten_append]
  simp
theorem g_fle (W : List (List Int)) (i : Nat) : (W.take i).flatten.length ≤ W.flatten.length := by
  have h : W.flatten = (W.take i).flatten ++ (W.drop i).flatten := by rw [← List.flatten_append, List.take_append_drop]
  rw [h, List.length_append]
  omega
theorem g_ct0 (K : Nat) {W : List (List Int)} (hl : W.length < 100000) (hf : W.flatten.length < 100000) : ∀ (m i k : Nat), i + m = W.length → m < k → slices_Concat_byte_byte.l0 K k W (((W.take i).flatten.length : Nat) : Int) (i : Int) = some ((W.flatten.length : Nat) : Int) := by
  intro m
  induction m with
  | zero =>
    intro i k hi hk
    obtain ⟨k, rfl⟩ : ∃ q, k = q + 1 := ⟨k - 1, by omega⟩
    have c : ¬ (i : Int) < ((W.length : Nat) : Int) := by omega
    simp only [slices_Concat_byte_byte.l0, c, if_false, List.take_of_length_le (Nat.le_of_eq (show W.length = i by omega))]
  | succ m ih =>
    intro i k hi hk
    obtain ⟨k, rfl⟩ : ∃ q, k = q + 1 := ⟨k - 1, by omega⟩
    have hil : i < W.length := by omega
    have c0 : (i : Int) < ((W.length : Nat) : Int) := by omega
    have c1 : (0 : Int) ≤ (i : Int) := by omega
    have h2 := g_fle W (i + 1)
    rw [g_flt hil, List.length_append] at h2
    have p : iadd .i64 (((W.take i).flatten.length : Nat) : Int) ((W[i].length : Nat) : Int) = (((W.take (i + 1)).flatten.length : Nat) : Int) := by
      rw [add64 (by omega) (by omega), g_flt hil, List.length_append]
      omega
    have c2 : ¬ (((W.take (i + 1)).flatten.length : Nat) : Int) < 0 := by omega
    simp only [slices_Concat_byte_byte.l0, c0, c1, hil, g_rdLL hil, p, c2, if_true, if_false, Option.bind_some, ginc (i := i) (by omega)]
    exact ih (i + 1) k (by omega) (by omega)
theorem g_ct1 (K : Nat) {W : List (List Int)} (hl : W.length < 100000) (hf : W.flatten.length < 100000) : ∀ (m i k : Nat), i + m = W.length → m < k → slices_Concat_byte_byte.l1 K k W (i : Int) (W.take i).flatten = some W.flatten := by
  intro m
  induction m with
  | zero =>
    intro i k hi hk
    obtain ⟨k, rfl⟩ : ∃ q, k = q + 1 := ⟨k - 1, by omega⟩
    have c : ¬ (i : Int) < ((W.length : Nat) : Int) := by omega
    simp only [slices_Concat_byte_byte.l1, c, if_false, List.take_of_length_le (Nat.le_of_eq (show W.length = i by omega))]
  | succ m ih =>
    intro i k hi hk
    obtain ⟨k, rfl⟩ : ∃ q, k = q + 1 := ⟨k - 1, by omega⟩
    have hil : i < W.length := by omega
    have c0 : (i : Int) < ((W.length : Nat) : Int) := by omega
    have c1 : (0 : Int) ≤ (i : Int) := by omega
    have h2 := g_fle W (i + 1)
    rw [g_flt hil, List.length_append] at h2
    have c2 : (W.take i).flatten.length + W[i].length ≤ 140737488355328 := by omega
    simp only [slices_Concat_byte_byte.l1, c0, c1, hil, g_rdLL hil, c2, if_true, Option.bind_some, ginc (i := i) (by omega), ← g_flt hil]
    exact ih (i + 1) k (by omega) (by omega)
theorem gJoinW (K : Nat) {W : List (List Int)} (hK : W.length < K) (hl : W.length < 100000) (hf : W.flatten.length < 100000) : bits_Join.f K W = some W.flatten := by
  have h0 : slices_Concat_byte_byte.l0 K K W 0 0 = some ((W.flatten.length : Nat) : Int) := g_ct0 K hl hf W.length 0 K (by omega) hK
  have h1 := g_ct1 K hl hf W.length 0 K (by omega) hK
  have h1' : slices_Concat_byte_byte.l1 K K W 0 [] = some W.flatten := h1
  unfold bits_Join.f slices_Concat_byte_byte.f
  have c0 : ¬ ((W.flatten.length : Nat) : Int) < 0 := by omega
  have p : isub .i64 ((W.flatten.length : Nat) : Int) 0 = ((W.flatten.length : Nat) : Int) := by rw [sub64 (by omega) (by omega)]; omega
  rw [h0]
  simp only [Option.bind_some, c0, if_false, p]
  by_cases hz : ((W.flatten.length : Nat) : Int) > 0
  · have c1 : (1 : Int) ≤ ((W.flatten.length : Nat) : Int) := by omega
    have c2 : ((W.flatten.length : Nat) : Int) ≤ 140737488355328 := by omega
    have c3 : (0 : Int) ≤ (((List.replicate (((W.flatten.length : Nat) : Int)).toNat (Cod.zero (CI .u8))).length : Nat) : Int) := by omega
    have c4 : (0 : Int) ≤ 0 := by decide
    simp only [hz, c1, c2, c3, c4, if_true, Option.bind_some, show (0 : Int).toNat = 0 from rfl, List.take_zero, h1']
  · simp only [hz, if_false, Option.bind_some, h1']
theorem gJoin {a b : List Int} (hl : a.length + b.length < 100000) : bits_Join.f 1000 [a, b] = some (a ++ b) := by
  have h := gJoinW 1000 (W := [a, b]) (by show 2 < 1000; decide) (by show 2 < 100000; decide) (by simp; omega)
  simpa using h

/-! ### texts xored -/
def xr (a b : List Int) : List Int := List.zipWith (fun x y => ixor .u8 x y) a b
theorem xr_len {a b : List Int} (h : a.length ≤ b.length) : (xr a b).length = a.length := by
  unfold xr
  rw [List.length_zipWith]
  omega
theorem xr_get {a b : List Int} {i : Nat} (h : i < (xr a b).length) (ha : i < a.length) (hb : i < b.length) : (xr a b)[i] = ixor .u8 a[i] b[i] := List.getElem_zipWith ..
theorem ix_in {x y : Int} (hx : InR .u8 x) (hy : InR .u8 y) : InR .u8 (ixor .u8 x y) := by
  obtain ⟨a0, a1⟩ : 0 ≤ x ∧ x ≤ 255 := hx
  obtain ⟨b0, b1⟩ : 0 ≤ y ∧ y ≤ 255 := hy
  obtain ⟨a, rfl⟩ : ∃ n : Nat, x = (n : Int) := ⟨x.toNat, by omega⟩
  obtain ⟨b, rfl⟩ : ∃ n : Nat, y = (n : Int) := ⟨y.toNat, by omega⟩
  have h := Nat.xor_lt_two_pow (n := 8) (x := a) (y := b) (by omega) (by omega)
  rw [ixor_nat (k := .u8) (by show a < 2 ^ 8; omega) (by show b < 2 ^ 8; omega)]
  exact (⟨by omega, by omega⟩ : (0 : Int) ≤ ((a ^^^ b : Nat) : Int) ∧ ((a ^^^ b : Nat) : Int) ≤ 255)
theorem xr_in {a b : List Int} (ha : InL .u8 a) (hb : InL .u8 b) : InL .u8 (xr a b) := fun x hx => by
  obtain ⟨i, hi, rfl⟩ := List.getElem_of_mem hx
  have hi2 : i < min a.length b.length := by
    have := hi
    unfold xr at this
    rwa [List.length_zipWith] at this
  rw [xr_get hi (by omega) (by omega)]
  exact ix_in (ha _ (List.getElem_mem _)) (hb _ (List.getElem_mem _))
theorem gClone {l : List Int} (h : l.length < 1000000) (K : Nat) : slices_Clone_byte_byte.f K l = some l := by
  unfold slices_Clone_byte_byte.f
  cases l with
  | nil => rfl
  | cons x l =>
    have c : ([] : List Int).length + (x :: l).length ≤ 140737488355328 := by rw [List.length_nil]; omega
    rw [if_neg (by simp), if_pos c]
    rfl
theorem gXor_l0 (K : Nat) {a b : List Int} (h : a.length ≤ b.length) (hs : a.length < 100000) : ∀ (m i k : Nat), i + m = a.length → m < k → bits_Xor.l0 K k b a (i : Int) ((xr a b).take i ++ a.drop i) = some (xr a b) := by
  have hx := xr_len h
  intro m
  induction m with
  | zero =>
    intro i k hi hk
    obtain ⟨k, rfl⟩ : ∃ q, k = q + 1 := ⟨k - 1, by omega⟩
    have c : ¬ (i : Int) < ((a.length : Nat) : Int) := by omega
    simp only [bits_Xor.l0, c, if_false, List.drop_of_length_le (Nat.le_of_eq (show a.length = i by omega)), List.append_nil, List.take_of_length_le (Nat.le_of_eq (show (xr a b).length = i by omega))]
  | succ m ih =>
    intro i k hi hk
    obtain ⟨k, rfl⟩ : ∃ q, k = q + 1 := ⟨k - 1, by omega⟩
    have hil : i < a.length := by omega
    have hib : i < b.length := by omega
    have hix : i < (xr a b).length := by omega
    have c0 : (i : Int) < ((a.length : Nat) : Int) := by omega
    have c1 : (0 : Int) ≤ (i : Int) := by omega
    have ht : ((xr a b).take i).length = i := by rw [List.length_take]; omega
    have c2 : (i : Int) < ((((xr a b).take i ++ a.drop i).length : Nat) : Int) := by rw [List.length_append, ht, List.length_drop]; omega
    have c3 : (i : Int) < ((b.length : Nat) : Int) := by omega
    have e1 : rdL (CI .u8) ((xr a b).take i ++ a.drop i) (i : Int) = a[i] := by
      rw [rdL_get (by omega), List.getElem_append_right (by omega)]
      simp [ht]
    have e3 : ixor .u8 a[i] b[i] = (xr a b)[i] := (xr_get hix hil hib).symm
    have e4 : wrL ((xr a b).take i ++ a.drop i) (i : Int) (xr a b)[i] = (xr a b).take (i + 1) ++ a.drop (i + 1) := by
      unfold wrL
      rw [Int.toNat_natCast, List.set_append_right _ _ (by omega), ht, Nat.sub_self, List.drop_eq_getElem_cons hil, List.set_cons_zero, List.take_succ_eq_append_getElem hix, List.append_assoc]
      rfl
    simp only [bits_Xor.l0, c0, c1, c2, c3, e1, rdL_get hib, e3, e4, if_true, Option.bind_some, ginc (i := i) (by omega)]
    exact ih (i + 1) k (by omega) (by omega)
theorem gXor (K : Nat) {a b : List Int} (h : a.length ≤ b.length) (hK : a.length < K) (hs : a.length < 100000) : bits_Xor.f K a b = some (xr a b) := by
  have m : imin ((a.length : Nat) : Int) ((b.length : Nat) : Int) = ((a.length : Nat) : Int) := by
    unfold imin
    split <;> omega
  have c0 : (0 : Int) ≤ 0 := by decide
  have c1 : (0 : Int) ≤ ((a.length : Nat) : Int) := by omega
  have c2 : ((a.length : Nat) : Int) ≤ ((a.length : Nat) : Int) := Int.le_refl _
  have hsub : subL a 0 ((a.length : Nat) : Int) = a := by
    unfold subL
    rw [Int.toNat_natCast, List.take_length]
    rfl
  have h0 : bits_Xor.l0 K K b a 0 a = some (xr a b) := gXor_l0 K h hs a.length 0 K (by omega) hK
  unfold bits_Xor.f
  simp only [m, c0, c1, c2, hsub, gClone (show a.length < 1000000 by omega), h0, if_true, Option.bind_some]
end Go.Proofs.Ytmpagpbnpgcecaa
