/- Layer 22 (dpack), plain laws: the keys, and the signature, that bytes are. -/
import Derived.Test.YtblploekkjeolaaDF0
import Derived.Test.YtblploekkjeolaaDg
set_option linter.unusedSimpArgs false
set_option linter.unusedVariables false
set_option maxRecDepth 100000
namespace Go.Proofs.Ytblploekkjeolaa
open Go Go.Mx
theorem subL_take (b : List Int) (n : Nat) : subL b 0 (n : Int) = b.take n := by
  unfold subL; rw [Int.toNat_natCast]; rfl
theorem subL_drop (b : List Int) (n : Nat) : subL b (n : Int) (b.length : Int) = b.drop n := by
  unfold subL; rw [Int.toNat_natCast, Int.toNat_natCast, List.take_length]
theorem clone_eq (K : Nat) (b : List Int) (h : b.length ≤ 1000000) : slices_Clone_byte_byte.f K b = some b := by
  unfold slices_Clone_byte_byte.f
  cases b with
  | nil => rfl
  | cons x b =>
    rw [if_neg (by simp), if_pos (by simp at h ⊢; omega)]
    rfl
theorem bytTake {b : List Int} (h : Byt b) (n : Nat) : Byt (b.take n) := fun x hx => h x (List.mem_of_mem_take hx)
theorem bytDrop {b : List Int} (h : Byt b) (n : Nat) : Byt (b.drop n) := fun x hx => h x (List.mem_of_mem_drop hx)
/-- so many polynomials out of bytes -/
def rdR (lo hi : Int) : Nat → List Int → List (Arr 256)
  | 0, _ => []
  | n + 1, b => (unpS lo hi (b.take (32 * widS lo hi))).1 :: rdR lo hi n (b.drop (32 * widS lo hi))
def rdK (lo hi : Int) : Nat → List Int → Bool
  | 0, _ => true
  | n + 1, b => (unpS lo hi (b.take (32 * widS lo hi))).2 && rdK lo hi n (b.drop (32 * widS lo hi))
theorem rdR_len (lo hi : Int) : ∀ (n : Nat) (b : List Int), (rdR lo hi n b).length = n
  | 0, _ => rfl
  | n + 1, b => by show (rdR lo hi n _).length + 1 = n + 1; rw [rdR_len lo hi n]
/-- as the program reads a row -/
theorem rowR (K : Nat) (hK : 256 < K) (lo hi : Int) (hfit : fitS lo hi = true) (n : Nat) (hn : n ≤ 1000) (f : Nat → Int → List (Arr 256) → Int → Int → Int → Int → Int → Int → Int → Int → Bool → List Int → Option (List (Arr 256) × Int × Int × Int × Int × Int × Int × Int × Int × Bool × List Int))
    (hf : ∀ k z out c0 c1 c2 c3 c4 c5 c6 c7 bad b, f (k + 1) z out c0 c1 c2 c3 c4 c5 c6 c7 bad b = if z < (n : Int) then ((((dpack_span_size.f K lo hi).bind fun r71 => if 0 ≤ (0 : Int) then (if (0 : Int) ≤ r71 then (if r71 ≤ b.length then (if 0 ≤ r71 then (if r71 ≤ (b.length : Int) then (if (b.length : Int) ≤ b.length then ((slices_Clone_byte_byte.f K (subL b 0 r71)).bind fun r74 => (dpack_Unpack.f K r74 lo hi).bind fun (r75, r76) => some (r75, r76, c0, c1, c2, c3, c4, c5, c6, c7, bad, (subL b r71 (b.length : Int)))) else none) else none) else none) else none) else none) else none : Option ((Arr 256) × Bool × Int × Int × Int × Int × Int × Int × Int × Int × Bool × (List Int)))).bind fun (y67, y68, y69_0_0, y69_0_1, y69_0_2, y69_0_3, y69_0_4, y69_0_5, y69_0_6, y69_0_7, y69_2, y70) => ((if y69_2 = true then (some (y69_0_0, y69_0_1, y69_0_2, y69_0_3, y69_0_4, y69_0_5, y69_0_6, y69_0_7, true)) else ((some (!y68)).bind fun x95 => some (y69_0_0, y69_0_1, y69_0_2, y69_0_3, y69_0_4, y69_0_5, y69_0_6, y69_0_7, x95)) : Option (Int × Int × Int × Int × Int × Int × Int × Int × Bool))).bind fun (y94_0_0, y94_0_1, y94_0_2, y94_0_3, y94_0_4, y94_0_5, y94_0_6, y94_0_7, y94_2) => if out.length + ([y67] : List (Arr 256)).length ≤ 137438953472 then (f k (iadd .i64 z 1) (out ++ ([y67] : List (Arr 256))) y94_0_0 y94_0_1 y94_0_2 y94_0_3 y94_0_4 y94_0_5 y94_0_6 y94_0_7 y94_2 y70) else none) else (some (out, c0, c1, c2, c3, c4, c5, c6, c7, bad, b)))
    (c0 c1 c2 c3 c4 c5 c6 c7 : Int) :
    ∀ (r i k : Nat) (out : List (Arr 256)) (bad : Bool) (b : List Int), i + r = n → r < k → r * (32 * widS lo hi) ≤ b.length → b.length ≤ 1000000 → Byt b → out.length + r ≤ 1000000 →
      f k (i : Int) out c0 c1 c2 c3 c4 c5 c6 c7 bad b = some (out ++ rdR lo hi r b, c0, c1, c2, c3, c4, c5, c6, c7, bad || !rdK lo hi r b, b.drop (r * (32 * widS lo hi))) := by
  intro r
  induction r with
  | zero =>
    intro i k out bad b hi' hk _ _ _ _
    obtain ⟨k, rfl⟩ : ∃ m, k = m + 1 := ⟨k - 1, by omega⟩
    have c : ¬ (i : Int) < (n : Int) := by omega
    rw [hf, if_neg c]
    simp [rdR, rdK]
  | succ r ih =>
    intro i k out bad b hi' hk hb1 hb2 hb ho
    obtain ⟨k, rfl⟩ : ∃ m, k = m + 1 := ⟨k - 1, by omega⟩
    have c : (i : Int) < (n : Int) := by omega
    have e4 : iadd .i64 (i : Int) 1 = ((i + 1 : Nat) : Int) := by rw [add64 (by omega) (by omega)]; omega
    have hm : (r + 1) * (32 * widS lo hi) = r * (32 * widS lo hi) + 32 * widS lo hi := Nat.succ_mul _ _
    generalize hw : 32 * widS lo hi = sz at *
    have ht : (b.take sz).length ≤ 1000000 := by rw [List.length_take]; omega
    rw [hf, if_pos c, dSize K hfit, hw, Option.bind_some, if_pos (by decide), if_pos (by omega), if_pos (by omega), if_pos (by omega), if_pos (by omega), if_pos (by omega), subL_take, subL_drop, clone_eq K _ ht, Option.bind_some, dUnpack K hK _ (bytTake hb sz) ht lo hi, Option.bind_some]
    obtain ⟨u, ok, hu⟩ : ∃ u ok, unpS lo hi (b.take sz) = (u, ok) := ⟨_, _, rfl⟩
    rw [hu]
    dsimp only
    rw [Option.bind_some]
    dsimp only
    have hb' : ((if bad = true then (some (c0, c1, c2, c3, c4, c5, c6, c7, true)) else ((some (!ok)).bind fun x95 => some (c0, c1, c2, c3, c4, c5, c6, c7, x95)) : Option (Int × Int × Int × Int × Int × Int × Int × Int × Bool))) = some (c0, c1, c2, c3, c4, c5, c6, c7, bad || !ok) := by cases bad <;> rfl
    rw [hb', Option.bind_some]
    dsimp only
    have e1 : rdR lo hi (r + 1) b = u :: rdR lo hi r (b.drop sz) := by show (unpS lo hi (b.take (32 * widS lo hi))).1 :: rdR lo hi r (b.drop (32 * widS lo hi)) = _; rw [hw, hu]
    have e2 : rdK lo hi (r + 1) b = (ok && rdK lo hi r (b.drop sz)) := by show ((unpS lo hi (b.take (32 * widS lo hi))).2 && rdK lo hi r (b.drop (32 * widS lo hi))) = _; rw [hw, hu]
    rw [if_pos (by simp; omega), e4, ih (i + 1) k _ _ _ (by omega) (by omega) (by rw [List.length_drop]; omega) (by rw [List.length_drop]; omega) (bytDrop hb sz) (by simp; omega), e1, e2, List.drop_drop, List.append_assoc, hm, Nat.add_comm sz]
    cases bad <;> cases ok <;> rfl
/-! ### all numbers of so many bits can be -/
theorem unpS_ok {lo hi : Int} (hfit : fitS lo hi = true) (hall : allS lo hi + 1 = 2 ^ widS lo hi) (b : List Int) (hb : b.length = 32 * widS lo hi) : (unpS lo hi b).2 = true := by
  unfold unpS
  rw [if_pos hfit, if_pos hb, if_pos]
  refine List.all_eq_true.2 fun i hi' => ?_
  obtain ⟨v, hv, hlt⟩ := getD_dig (d := widS lo hi) (n := 256) (M := NB b) (List.mem_range.1 hi')
  rw [hv]
  exact decide_eq_true (by omega)
theorem rdK_all {lo hi : Int} (hfit : fitS lo hi = true) (hall : allS lo hi + 1 = 2 ^ widS lo hi) : ∀ (n : Nat) (b : List Int), n * (32 * widS lo hi) ≤ b.length → rdK lo hi n b = true
  | 0, _, _ => rfl
  | n + 1, b, h => by
    have hm : (n + 1) * (32 * widS lo hi) = n * (32 * widS lo hi) + 32 * widS lo hi := Nat.succ_mul _ _
    show ((unpS lo hi (b.take (32 * widS lo hi))).2 && rdK lo hi n (b.drop (32 * widS lo hi))) = true
    rw [unpS_ok hfit hall _ (by rw [List.length_take]; omega), rdK_all hfit hall n _ (by rw [List.length_drop]; omega)]
    rfl
/-! ### kinds, once more -/
structure KD (a0 a1 a2 a3 a4 a5 a6 a7 : Int) (kk ll om sz w wz : Nat) : Prop where
  e0 : a0 = kk
  e1 : a1 = ll
  e6 : a6 = om
  e7 : a7 = sz
  f2 : fitS a2 a2 = true
  w2 : widS a2 a2 = w
  f4 : fitS (isub .i32 a4 1) a4 = true
  w4 : widS (isub .i32 a4 1) a4 = wz
  al : allS (isub .i32 a4 1) a4 + 1 = 2 ^ widS (isub .i32 a4 1) a4
  ds : dpack_Sizes.f 60000 a0 a1 a2 a3 a4 a5 a6 a7 = some (((32 + kk * 320 : Nat) : Int), ((128 + (ll + kk) * (32 * w) + kk * 416 : Nat) : Int), ((sz + ll * (32 * wz) + om + kk : Nat) : Int))
  b1 : kk ≤ 8 ∧ 1 ≤ kk
  b2 : ll ≤ 7
  b3 : om ≤ 80
  b4 : sz ≤ 64
  b5 : w ≤ 4
  b6 : wz ≤ 20
theorem kinds {a0 a1 a2 a3 a4 a5 a6 a7 : Int} (h : kind3 a0 a1 a2 a3 a4 a5 a6 a7) : ∃ kk ll om sz w wz, KD a0 a1 a2 a3 a4 a5 a6 a7 kk ll om sz w wz := by
  rcases h with ⟨rfl, rfl, rfl, rfl, rfl, rfl, rfl, rfl⟩ | ⟨rfl, rfl, rfl, rfl, rfl, rfl, rfl, rfl⟩ | ⟨rfl, rfl, rfl, rfl, rfl, rfl, rfl, rfl⟩
  · exact ⟨4, 4, 80, 32, 3, 18, rfl, rfl, rfl, rfl, by decide +kernel, by decide +kernel, by decide +kernel, by decide +kernel, by decide +kernel, d44, by decide, by decide, by decide, by decide, by decide, by decide⟩
  · exact ⟨6, 5, 55, 48, 4, 20, rfl, rfl, rfl, rfl, by decide +kernel, by decide +kernel, by decide +kernel, by decide +kernel, by decide +kernel, d65, by decide, by decide, by decide, by decide, by decide, by decide⟩
  · exact ⟨8, 7, 75, 64, 3, 20, rfl, rfl, rfl, rfl, by decide +kernel, by decide +kernel, by decide +kernel, by decide +kernel, by decide +kernel, d87, by decide, by decide, by decide, by decide, by decide, by decide⟩
theorem fitT : fitS (-1) 1023 = true ∧ widS (-1) 1023 = 10 ∧ allS (-1) 1023 + 1 = 2 ^ widS (-1) 1023 := by decide +kernel
theorem fitU : fitS 4095 4096 = true ∧ widS 4095 4096 = 13 ∧ allS 4095 4096 + 1 = 2 ^ widS 4095 4096 := by decide +kernel
/-! ### the keys -/
def upubS (kk : Nat) (b : List Int) : List Int × List (Arr 256) × Bool :=
  if b.length = 32 + kk * 320 then (b.take 32, rdR (-1) 1023 kk (b.drop 32), true) else ([], [], false)
theorem dUnPublic {a0 a1 a2 a3 a4 a5 a6 a7 : Int} {kk ll om sz w wz : Nat} (h : KD a0 a1 a2 a3 a4 a5 a6 a7 kk ll om sz w wz) (b : List Int) (hb : Byt b) : dpack_UnPublic.f 60000 a0 a1 a2 a3 a4 a5 a6 a7 b = some (upubS kk b) := by
  have h1 := h.b1
  have he := h.e0
  unfold dpack_UnPublic.f upubS
  rw [h.ds, Option.bind_some]
  dsimp only
  rw [if_neg (by omega)]
  by_cases hl : b.length = 32 + kk * 320
  · rw [if_pos (by omega), if_pos hl, if_pos (by decide), if_pos (by decide), if_pos (by omega), if_pos (by decide), if_pos (by omega), if_pos (by omega)]
    have s1 : subL b 0 32 = b.take 32 := subL_take b 32
    have s2 : subL b 32 (b.length : Int) = b.drop 32 := subL_drop b 32
    rw [s1, s2, clone_eq 60000 _ (by rw [List.length_take]; omega), Option.bind_some]
    subst he
    have q := rowR 60000 (by decide) (-1) 1023 fitT.1 kk (by omega) (fun k z o c0 c1 c2 c3 c4 c5 c6 c7 bad b => dpack_UnPublic.l0 60000 k (kk : Int) z o c0 c1 c2 c3 c4 c5 c6 c7 bad b) (fun k z o c0 c1 c2 c3 c4 c5 c6 c7 bad b => rfl) (kk : Int) a1 a2 a3 a4 a5 a6 a7 kk 0 60000 [] false (b.drop 32) (by omega) (by omega) (by rw [fitT.2.1, List.length_drop]; omega) (by rw [List.length_drop]; omega) (bytDrop hb 32) (by simp; omega)
    have q' : dpack_UnPublic.l0 60000 60000 (kk : Int) 0 [] (kk : Int) a1 a2 a3 a4 a5 a6 a7 false (b.drop 32) = _ := q
    rw [q']
    rfl
  · rw [if_neg (by omega), if_neg hl]
def uprivS (kk ll w : Nat) (eta : Int) (b : List Int) : List Int × List Int × List Int × List (Arr 256) × List (Arr 256) × List (Arr 256) × Bool :=
  if b.length = 128 + (ll + kk) * (32 * w) + kk * 416 then
    if (rdK eta eta ll (b.drop 128) && rdK eta eta kk ((b.drop 128).drop (ll * (32 * w)))) = true then
      (b.take 32, (b.drop 32).take 32, (b.drop 64).take 64, rdR eta eta ll (b.drop 128), rdR eta eta kk ((b.drop 128).drop (ll * (32 * w))), rdR 4095 4096 kk (((b.drop 128).drop (ll * (32 * w))).drop (kk * (32 * w))), true)
    else ([], [], [], [], [], [], false)
  else ([], [], [], [], [], [], false)
theorem dUnPrivate {a0 a1 a2 a3 a4 a5 a6 a7 : Int} {kk ll om sz w wz : Nat} (h : KD a0 a1 a2 a3 a4 a5 a6 a7 kk ll om sz w wz) (b : List Int) (hb : Byt b) : dpack_UnPrivate.f 60000 a0 a1 a2 a3 a4 a5 a6 a7 b = some (uprivS kk ll w a2 b) := by
  have h1 := h.b1
  have h2 := h.b2
  have h5 := h.b5
  obtain rfl := h.e0
  obtain rfl := h.e1
  have hw := h.w2
  unfold dpack_UnPrivate.f uprivS
  rw [h.ds, Option.bind_some]
  dsimp only
  rw [if_neg (by omega)]
  by_cases hl : b.length = 128 + (ll + kk) * (32 * w) + kk * 416
  · have hm : (ll + kk) * (32 * w) = ll * (32 * w) + kk * (32 * w) := Nat.add_mul _ _ _
    have m1 : ll * (32 * w) ≤ 7 * 128 := Nat.mul_le_mul h2 (by omega)
    have m2 : kk * (32 * w) ≤ 8 * 128 := Nat.mul_le_mul h1.1 (by omega)
    rw [if_pos (by omega), if_pos hl, if_pos (by decide), if_pos (by decide), if_pos (by omega), if_pos (by decide), if_pos (by omega), if_pos (by omega)]
    have s1 : subL b 0 32 = b.take 32 := subL_take b 32
    have s2 : subL b 32 (b.length : Int) = b.drop 32 := subL_drop b 32
    have d2 : (b.drop 32).length = b.length - 32 := List.length_drop
    rw [s1, s2, clone_eq 60000 _ (by rw [List.length_take]; omega), Option.bind_some, if_pos (by decide), if_pos (by decide), if_pos (by omega), if_pos (by decide), if_pos (by omega), if_pos (by omega)]
    have s3 : subL (b.drop 32) 0 32 = (b.drop 32).take 32 := subL_take _ 32
    have s4 : subL (b.drop 32) 32 ((b.drop 32).length : Int) = b.drop 64 := by rw [show (32 : Int) = ((32 : Nat) : Int) from rfl, subL_drop, List.drop_drop]
    have d4 : (b.drop 64).length = b.length - 64 := List.length_drop
    rw [s3, s4, clone_eq 60000 _ (by rw [List.length_take]; omega), Option.bind_some, if_pos (by decide), if_pos (by decide), if_pos (by omega), if_pos (by decide), if_pos (by omega), if_pos (by omega)]
    have s5 : subL (b.drop 64) 0 64 = (b.drop 64).take 64 := subL_take _ 64
    have s6 : subL (b.drop 64) 64 ((b.drop 64).length : Int) = b.drop 128 := by rw [show (64 : Int) = ((64 : Nat) : Int) from rfl, subL_drop, List.drop_drop]
    have d6 : (b.drop 128).length = b.length - 128 := List.length_drop
    rw [s5, s6, clone_eq 60000 _ (by rw [List.length_take]; omega), Option.bind_some]
    have hbb := bytDrop hb 128
    generalize hB : b.drop 128 = B at *
    have q1 := rowR 60000 (by decide) a2 a2 h.f2 ll (by omega) (fun k z o c0 c1 c2 c3 c4 c5 c6 c7 bad b => dpack_UnPrivate.l0 60000 k (ll : Int) a2 z o c0 c1 c2 c3 c4 c5 c6 c7 bad b) (fun k z o c0 c1 c2 c3 c4 c5 c6 c7 bad b => rfl) (kk : Int) (ll : Int) a2 a3 a4 a5 a6 a7 ll 0 60000 [] false B (by omega) (by omega) (by rw [hw]; omega) (by omega) hbb (by simp; omega)
    have q1' : dpack_UnPrivate.l0 60000 60000 (ll : Int) a2 0 [] (kk : Int) (ll : Int) a2 a3 a4 a5 a6 a7 false B = _ := q1
    rw [q1', Option.bind_some]
    dsimp only
    rw [hw]
    have d7 : (B.drop (ll * (32 * w))).length = B.length - ll * (32 * w) := List.length_drop
    have hbc := bytDrop hbb (ll * (32 * w))
    generalize hC : B.drop (ll * (32 * w)) = C at *
    have q2 := rowR 60000 (by decide) a2 a2 h.f2 kk (by omega) (fun k z o c0 c1 c2 c3 c4 c5 c6 c7 bad b => dpack_UnPrivate.l1 60000 k (kk : Int) a2 z o c0 c1 c2 c3 c4 c5 c6 c7 bad b) (fun k z o c0 c1 c2 c3 c4 c5 c6 c7 bad b => rfl) (kk : Int) (ll : Int) a2 a3 a4 a5 a6 a7 kk 0 60000 [] (false || !rdK a2 a2 ll B) C (by omega) (by omega) (by rw [hw]; omega) (by omega) hbc (by simp; omega)
    have q2' : dpack_UnPrivate.l1 60000 60000 (kk : Int) a2 0 [] (kk : Int) (ll : Int) a2 a3 a4 a5 a6 a7 (false || !rdK a2 a2 ll B) C = _ := q2
    rw [q2', Option.bind_some]
    dsimp only
    rw [hw]
    have d8 : (C.drop (kk * (32 * w))).length = C.length - kk * (32 * w) := List.length_drop
    have hbd := bytDrop hbc (kk * (32 * w))
    generalize hD : C.drop (kk * (32 * w)) = D at *
    have q3 := rowR 60000 (by decide) 4095 4096 fitU.1 kk (by omega) (fun k z o c0 c1 c2 c3 c4 c5 c6 c7 bad b => dpack_UnPrivate.l2 60000 k (kk : Int) z o c0 c1 c2 c3 c4 c5 c6 c7 bad b) (fun k z o c0 c1 c2 c3 c4 c5 c6 c7 bad b => rfl) (kk : Int) (ll : Int) a2 a3 a4 a5 a6 a7 kk 0 60000 [] ((false || !rdK a2 a2 ll B) || !rdK a2 a2 kk C) D (by omega) (by omega) (by rw [fitU.2.1]; omega) (by omega) hbd (by simp; omega)
    have q3' : dpack_UnPrivate.l2 60000 60000 (kk : Int) 0 [] (kk : Int) (ll : Int) a2 a3 a4 a5 a6 a7 ((false || !rdK a2 a2 ll B) || !rdK a2 a2 kk C) D = _ := q3
    rw [q3', Option.bind_some, rdK_all fitU.1 fitU.2.2 kk D (by rw [fitU.2.1]; omega)]
    dsimp only
    cases rdK a2 a2 ll B <;> cases rdK a2 a2 kk C <;> rfl
  · rw [if_neg (by omega), if_neg hl]
def usigS (kk ll om sz wz : Nat) (lo hi : Int) (b : List Int) : List Int × List (Arr 256) × List (Arr 256) × Bool :=
  if b.length = sz + ll * (32 * wz) + om + kk then
    if (unhV ((b.drop sz).drop (ll * (32 * wz))) (kk : Int) (om : Int)).2 = true then (b.take sz, rdR lo hi ll (b.drop sz), (unhV ((b.drop sz).drop (ll * (32 * wz))) (kk : Int) (om : Int)).1, true) else ([], [], [], false)
  else ([], [], [], false)
theorem dUnSig {a0 a1 a2 a3 a4 a5 a6 a7 : Int} {kk ll om sz w wz : Nat} (h : KD a0 a1 a2 a3 a4 a5 a6 a7 kk ll om sz w wz) (b : List Int) (hb : Byt b) : dpack_UnSig.f 60000 a0 a1 a2 a3 a4 a5 a6 a7 b = some (usigS kk ll om sz wz (isub .i32 a4 1) a4 b) := by
  have h1 := h.b1
  have h2 := h.b2
  have h3 := h.b3
  have h4 := h.b4
  have h6 := h.b6
  obtain rfl := h.e0
  obtain rfl := h.e1
  obtain rfl := h.e6
  obtain rfl := h.e7
  have hw := h.w4
  unfold dpack_UnSig.f usigS
  rw [h.ds, Option.bind_some]
  dsimp only
  rw [if_neg (by omega)]
  by_cases hl : b.length = sz + ll * (32 * wz) + om + kk
  · have m1 : ll * (32 * wz) ≤ 7 * 640 := Nat.mul_le_mul h2 (by omega)
    rw [if_pos (by omega), if_pos hl, if_pos (by decide), if_pos (by omega), if_pos (by omega), if_pos (by omega), if_pos (by omega), if_pos (by omega), subL_take, subL_drop, clone_eq 60000 _ (by rw [List.length_take]; omega), Option.bind_some]
    have d6 : (b.drop sz).length = b.length - sz := List.length_drop
    have hbb := bytDrop hb sz
    generalize hB : b.drop sz = B at *
    have q1 := rowR 60000 (by decide) (isub .i32 a4 1) a4 h.f4 ll (by omega) (fun k z o c0 c1 c2 c3 c4 c5 c6 c7 bad b => dpack_UnSig.l0 60000 k (ll : Int) a4 z o c0 c1 c2 c3 c4 c5 c6 c7 bad b) (fun k z o c0 c1 c2 c3 c4 c5 c6 c7 bad b => rfl) (kk : Int) (ll : Int) a2 a3 a4 a5 (om : Int) (sz : Int) ll 0 60000 [] false B (by omega) (by omega) (by rw [hw]; omega) (by omega) hbb (by simp; omega)
    have q1' : dpack_UnSig.l0 60000 60000 (ll : Int) a4 0 [] (kk : Int) (ll : Int) a2 a3 a4 a5 (om : Int) (sz : Int) false B = _ := q1
    rw [q1', Option.bind_some]
    dsimp only
    rw [hw, dUnhints 60000 (by decide) _ (bytDrop hbb _), Option.bind_some]
    obtain ⟨u, ok, hu⟩ : ∃ u ok, unhV (B.drop (ll * (32 * wz))) (kk : Int) (om : Int) = (u, ok) := ⟨_, _, rfl⟩
    rw [hu]
    dsimp only
    cases ok <;> rfl
  · rw [if_neg (by omega), if_neg hl]
end Go.Proofs.Ytblploekkjeolaa
