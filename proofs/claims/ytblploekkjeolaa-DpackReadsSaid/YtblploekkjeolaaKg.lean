/- Layer 1 (bits), plain laws: the document's bytes of numbers; texts that are the same. -/
import Derived.Test.YtblploekkjeolaaKf
set_option linter.unusedSimpArgs false
set_option linter.unusedVariables false
namespace Go.Proofs.Ytblploekkjeolaa
open Go Go.Mx
theorem NB_set : ∀ (l : List Int) (j : Nat) (x : Int), j < l.length → NB (l.set j x) + 256 ^ j * (l.getD j 0).toNat = NB l + 256 ^ j * x.toNat
  | [], j, x, h => by cases h
  | y :: l, 0, x, h => by
    show x.toNat + 256 * NB l + 256 ^ 0 * y.toNat = y.toNat + 256 * NB l + 256 ^ 0 * x.toNat
    rw [Nat.pow_zero, Nat.one_mul, Nat.one_mul]
    omega
  | y :: l, j + 1, x, h => by
    have ih := NB_set l j x (by simpa using h)
    show y.toNat + 256 * NB (l.set j x) + 256 ^ (j + 1) * (l.getD j 0).toNat = y.toNat + 256 * NB l + 256 ^ (j + 1) * x.toNat
    rw [Nat.pow_succ, Nat.mul_comm (256 ^ j) 256, Nat.mul_assoc, Nat.mul_assoc]
    omega
theorem byt_set {l : List Int} (h : Byt l) (j : Nat) {x : Int} (h0 : 0 ≤ x) (h1 : x ≤ 255) : Byt (l.set j x) := fun y hy => by
  rcases List.mem_or_eq_of_mem_set hy with hy | rfl
  · exact h y hy
  · exact ⟨h0, h1⟩
/-- one bit more -/
theorem set_bit {l : List Int} (hl : Byt l) (t bit : Nat) (ht : t / 8 < l.length) (hb : bit < 2) (hN : NB l < 2 ^ t) :
    ∃ c : Nat, rdL (CI .u8) l ((t / 8 : Nat) : Int) = (c : Int) ∧ ior .u8 (c : Int) (ishl .u8 (iconv .u8 (bit : Int)) ((t % 8 : Nat) : Int)) = ((c + bit * 2 ^ (t % 8) : Nat) : Int) ∧
      Byt (wrL l ((t / 8 : Nat) : Int) ((c + bit * 2 ^ (t % 8) : Nat) : Int)) ∧ NB (wrL l ((t / 8 : Nat) : Int) ((c + bit * 2 ^ (t % 8) : Nat) : Int)) = NB l + bit * 2 ^ t := by
  obtain ⟨c, h1, h2, h3⟩ := rdL_u8 hl (t / 8)
  have h8 : t % 8 < 8 := Nat.mod_lt _ (by decide)
  have hat := NB_at hl (t / 8) ht
  have hc : c = NB l / 256 ^ (t / 8) % 256 := by rw [← h3, hat, Int.toNat_natCast]
  have hclt : c < 2 ^ (t % 8) := by
    rw [hc]
    refine Nat.lt_of_le_of_lt (Nat.mod_le _ _) (Nat.div_lt_of_lt_mul ?_)
    rw [two_mul8, ← Nat.pow_add, show 8 * (t / 8) + t % 8 = t by omega]
    exact hN
  have hp : 2 ^ (t % 8) * 2 ≤ 256 := by
    have : 2 ^ (t % 8 + 1) ≤ 2 ^ 8 := Nat.pow_le_pow_right (by decide) (by omega)
    rwa [Nat.pow_succ] at this
  have hbm : bit * 2 ^ (t % 8) ≤ 1 * 2 ^ (t % 8) := Nat.mul_le_mul_right _ (by omega)
  rw [Nat.one_mul] at hbm
  refine ⟨c, h1, ?_, ?_, ?_⟩
  · have e1 : iconv .u8 (bit : Int) = (bit : Int) := wrap_nat (by simp only [top, IntKind.bits, IntKind.signed]; exact Nat.lt_of_lt_of_le hb (by decide))
    have e2 : ishl .u8 (bit : Int) ((t % 8 : Nat) : Int) = ((bit * 2 ^ (t % 8) : Nat) : Int) := ishl_nat (by simp only [IntKind.bits]; omega) (by simp only [top, IntKind.bits, IntKind.signed]; show _ < 256; omega)
    rw [e1, e2, ior_nat (by simp only [top, IntKind.bits, IntKind.signed]; exact h2) (by simp only [top, IntKind.bits, IntKind.signed]; show _ < 256; omega), or_parts hclt]
  · exact byt_set hl _ (by omega) (by omega)
  · have h := NB_set l (t / 8) ((c + bit * 2 ^ (t % 8) : Nat) : Int) ht
    rw [h3, Int.toNat_natCast, Nat.mul_add] at h
    have e : 256 ^ (t / 8) * (bit * 2 ^ (t % 8)) = bit * 2 ^ t := by
      rw [two_mul8, Nat.mul_comm, Nat.mul_assoc, ← Nat.pow_add, show t % 8 + 8 * (t / 8) = t by omega]
    rw [e] at h
    show NB (l.set ((t / 8 : Nat) : Int).toNat _) = _
    rw [Int.toNat_natCast]
    omega
theorem bit32 {n s : Nat} (hn : n < 2 ^ 32) (hs : s ≤ 32) : iand .u32 (ishr .u32 (n : Int) (s : Int)) 1 = ((n / 2 ^ s % 2 : Nat) : Int) := by
  have h1 : n / 2 ^ s ≤ n := Nat.div_le_self _ _
  rw [ishr_nat (by simp only [IntKind.bits]; omega)]
  generalize n / 2 ^ s = q at *
  have : iand .u32 (q : Int) 1 = ((q &&& 1 : Nat) : Int) := iand_nat (y := 1) (by simp only [top, IntKind.bits, IntKind.signed]; exact Nat.lt_of_le_of_lt h1 hn) (by decide)
  rw [this, Nat.and_one_is_mod]
theorem mod_bit (n j : Nat) : n % 2 ^ (j + 1) = n % 2 ^ j + n / 2 ^ j % 2 * 2 ^ j := by
  rw [Nat.pow_succ, Nat.mod_mul, Nat.mul_comm (2 ^ j)]
theorem ref01_Pack_l1 (K d i : Nat) (l : List Nat) (hl : ∀ x ∈ l, x < 2 ^ 32) (hil : i < l.length) (hd : d ≤ 24) (hn : l.length ≤ 100000) : ∀ (r j k : Nat) (out : List Int), j + r = d → r < k → Byt out → out.length = (d * l.length + 7) / 8 →
    NB out = ND d (l.take i) + l[i] % 2 ^ j * 2 ^ (d * i) → ∃ out', ref01_Pack.l1 K k (l.map fun (n : Nat) => (n : Int)) (d : Int) (i : Int) (j : Int) out = some out' ∧ Byt out' ∧ out'.length = (d * l.length + 7) / 8 ∧ NB out' = ND d (l.take (i + 1)) := by
  intro r
  induction r with
  | zero =>
    intro j k out hj hk hB hlen hN
    obtain ⟨k, rfl⟩ : ∃ m, k = m + 1 := ⟨k - 1, by omega⟩
    obtain rfl : j = d := by omega
    refine ⟨out, ?_, hB, hlen, by rw [hN, ND_take _ _ _ hil]⟩
    simp only [ref01_Pack.l1, show ¬ (j : Int) < (j : Int) by omega, if_false]
  | succ r ih =>
    intro j k out hj hk hB hlen hN
    obtain ⟨k, rfl⟩ : ∃ m, k = m + 1 := ⟨k - 1, by omega⟩
    have hle : d * (i + 1) ≤ d * l.length := Nat.mul_le_mul_left d hil
    rw [Nat.mul_add, Nat.mul_one] at hle
    have hle2 : d * l.length ≤ 24 * 100000 := Nat.mul_le_mul hd hn
    have hmul : (i : Int) * (d : Int) = ((d * i : Nat) : Int) := by rw [Int.natCast_mul, Int.mul_comm]
    have hT : ND d (l.take i) < 2 ^ (d * i) := by
      have := ND_lt d (l.take i)
      rwa [show (l.take i).length = i by rw [List.length_take]; omega] at this
    have g1 : iadd .i64 (imul .i64 (i : Int) (d : Int)) (j : Int) = ((d * i + j : Nat) : Int) := by
      rw [mul64 (by rw [hmul]; omega) (by rw [hmul]; omega), hmul, add64 (by omega) (by omega)]
      omega
    have g2 : iquo .i64 ((d * i + j : Nat) : Int) 8 = (((d * i + j) / 8 : Nat) : Int) := by
      unfold iquo
      rw [tdivN (by omega), id64 (by omega) (by omega)]
      omega
    have g3 : irem .i64 ((d * i + j : Nat) : Int) 8 = (((d * i + j) % 8 : Nat) : Int) := by
      unfold irem
      rw [tmodN (by omega)]
      omega
    have hlt : NB out < 2 ^ (d * i + j) := by
      rw [hN, Nat.pow_add]
      have h1 : l[i] % 2 ^ j + 1 ≤ 2 ^ j := Nat.mod_lt _ (Nat.two_pow_pos j)
      have h2 := Nat.mul_le_mul_right (2 ^ (d * i)) h1
      rw [Nat.add_mul, Nat.one_mul, Nat.mul_comm (2 ^ j)] at h2
      omega
    have hbit : l[i] / 2 ^ j % 2 < 2 := Nat.mod_lt _ (by decide)
    have hx := hl l[i] (List.getElem_mem hil)
    obtain ⟨c, s1, s2, s3, s4⟩ := set_bit hB (d * i + j) (l[i] / 2 ^ j % 2) (by omega) hbit hlt
    have g4 := bit32 (s := j) hx (by omega)
    have g5 : iadd .i64 (j : Int) 1 = ((j + 1 : Nat) : Int) := by rw [add64 (by omega) (by omega)]; rfl
    simp only [ref01_Pack.l1, show (j : Int) < (d : Int) by omega, if_true, g1, g2, g3, Option.bind_some, show (0 : Int) ≤ (((d * i + j) / 8 : Nat) : Int) by omega, show (((d * i + j) / 8 : Nat) : Int) < (out.length : Int) by omega,
      show (0 : Int) ≤ (i : Int) by omega, List.length_map, show (i : Int) < (l.length : Int) by omega, show (0 : Int) ≤ (j : Int) by omega, show (0 : Int) ≤ (((d * i + j) % 8 : Nat) : Int) by omega, nats l i hil, g4, s1, s2, g5]
    refine ih (j + 1) k _ (by omega) (by omega) s3 (by simp [wrL, hlen]) ?_
    rw [s4, hN, mod_bit, Nat.add_mul, Nat.pow_add, Nat.mul_comm (2 ^ (d * i)) (2 ^ j), Nat.mul_assoc, Nat.add_assoc]
theorem ref01_Pack_l0 (K d : Nat) (l : List Nat) (hl : ∀ x ∈ l, x < 2 ^ 32) (hd1 : 1 ≤ d) (hd : d ≤ 24) (hn : l.length ≤ 100000) (hK : 30 < K) : ∀ (r i k : Nat) (out : List Int), i + r = l.length → r < k → Byt out → out.length = (d * l.length + 7) / 8 →
    NB out = ND d (l.take i) → ∃ out', ref01_Pack.l0 K k (l.map fun (n : Nat) => (n : Int)) (d : Int) (i : Int) out = some out' ∧ Byt out' ∧ out'.length = (d * l.length + 7) / 8 ∧ NB out' = ND d l := by
  intro r
  induction r with
  | zero =>
    intro i k out hi hk hB hlen hN
    obtain ⟨k, rfl⟩ : ∃ m, k = m + 1 := ⟨k - 1, by omega⟩
    obtain rfl : i = l.length := by omega
    refine ⟨out, ?_, hB, hlen, by rw [hN, List.take_length]⟩
    simp only [ref01_Pack.l0, List.length_map, show ¬ (l.length : Int) < (l.length : Int) by omega, if_false]
  | succ r ih =>
    intro i k out hi hk hB hlen hN
    obtain ⟨k, rfl⟩ : ∃ m, k = m + 1 := ⟨k - 1, by omega⟩
    have hil : i < l.length := by omega
    obtain ⟨out', h1, h2, h3, h4⟩ := ref01_Pack_l1 K d i l hl hil hd hn d 0 K out (by omega) (by omega) hB hlen (by rw [hN, Nat.pow_zero, Nat.mod_one, Nat.zero_mul, Nat.add_zero])
    have h0 : ((0 : Nat) : Int) = 0 := rfl
    rw [h0] at h1
    have e4 : iadd .i64 (i : Int) 1 = ((i + 1 : Nat) : Int) := by rw [add64 (by omega) (by omega)]; rfl
    simp only [ref01_Pack.l0, List.length_map, show (i : Int) < (l.length : Int) by omega, if_true, h1, Option.bind_some, e4]
    exact ih (i + 1) k out' (by omega) (by omega) h2 h3 h4
theorem NB_rep (n : Nat) : NB (List.replicate n 0) = 0 := by
  induction n with
  | zero => rfl
  | succ n ih => rw [List.replicate_succ]; show (0 : Int).toNat + 256 * NB _ = 0; rw [ih]; rfl
theorem ref01_Pack_eq (K d : Nat) (l : List Nat) (hl : ∀ x ∈ l, x < 2 ^ 32) (hd1 : 1 ≤ d) (hd : d ≤ 24) (hn : l.length ≤ 100000) (hK : 30 < K) (hKn : l.length < K) :
    ref01_Pack.f K (l.map fun (n : Nat) => (n : Int)) (d : Int) = some (dig 8 ((d * l.length + 7) / 8) (ND d l)) := by
  have hle : d * l.length ≤ 24 * 100000 := Nat.mul_le_mul hd hn
  unfold ref01_Pack.f
  rw [if_neg (by omega), if_neg (by omega), List.length_map, pack_len hd hn, if_pos (by omega), if_pos (by omega)]
  have hr : List.replicate (((d * l.length + 7) / 8 : Nat) : Int).toNat (Cod.zero (CI .u8)) = List.replicate ((d * l.length + 7) / 8) (0 : Int) := by rw [Int.toNat_natCast]; rfl
  rw [hr]
  obtain ⟨out', h1, h2, h3, h4⟩ := ref01_Pack_l0 K d l hl hd1 hd hn hK l.length 0 K (List.replicate ((d * l.length + 7) / 8) (0 : Int)) (by omega) hKn (fun x hx => by rw [List.eq_of_mem_replicate hx]; decide) (by simp) (by rw [NB_rep]; rfl)
  have h0 : ((0 : Nat) : Int) = 0 := rfl
  rw [h0] at h1
  rw [h1]
  show some out' = _
  refine congrArg some (NB_inj h2 (dig_byt _ _) (by rw [h3, dig_len]) ?_)
  rw [h4, NB_dig, Nat.mod_eq_of_lt]
  refine Nat.lt_of_lt_of_le (ND_lt d l) ?_
  rw [two_mul8]
  exact Nat.pow_le_pow_right (by decide) (by omega)
/-! ### texts that are the same -/
theorem ref01_Same_l0 (K : Nat) (a : List Int) (ha : a.length ≤ 9223372036854775807) : ∀ (r i k : Nat), i + r = a.length → r < k → ref01_Same.l0 K k a a (i : Int) = some (.inl ()) := by
  intro r
  induction r with
  | zero =>
    intro i k hi hk
    obtain ⟨k, rfl⟩ : ∃ m, k = m + 1 := ⟨k - 1, by omega⟩
    simp only [ref01_Same.l0, show ¬ (i : Int) < (a.length : Int) by omega, if_false]
  | succ r ih =>
    intro i k hi hk
    obtain ⟨k, rfl⟩ : ∃ m, k = m + 1 := ⟨k - 1, by omega⟩
    have e4 : iadd .i64 (i : Int) 1 = ((i + 1 : Nat) : Int) := by rw [add64 (by omega) (by omega)]; rfl
    simp only [ref01_Same.l0, show (i : Int) < (a.length : Int) by omega, if_true, show (0 : Int) ≤ (i : Int) by omega, Option.bind_some, e4]
    exact ih (i + 1) k (by omega) (by omega)
theorem ref01_Same_self (K : Nat) (a : List Int) (ha : a.length ≤ 9223372036854775807) (hK : a.length < K) : ref01_Same.f K a a = some true := by
  unfold ref01_Same.f
  rw [if_pos rfl]
  have := ref01_Same_l0 K a ha a.length 0 K (by omega) hK
  have h0 : ((0 : Nat) : Int) = 0 := rfl
  rw [h0] at this
  rw [this]
  rfl
end Go.Proofs.Ytblploekkjeolaa
