/- Layer 8: fewer bytes of a sum are the beginning of more; a sum is what a sum of nothing tells that has absorbed the bytes; in plain Lean. -/
import Derived.Test.YtijahfdldlmnhaaDoorLKeccakSums
import Derived.Test.YtijahfdldlmnhaaDoorSd
set_option linter.unusedSimpArgs false
set_option linter.unusedVariables false
namespace Go.Proofs.YtijahfdldlmnhaaDoor.Pure
open Go Go.Mx
theorem sq_take (r : Nat) : ∀ (n m : Nat) (s : Arr 25 × Nat), (sq r (n + m) s).1.take n = (sq r n s).1
  | 0, _, _ => rfl
  | n + 1, m, s => by
    rw [show n + 1 + m = (n + m) + 1 by omega]
    show byteS (nrm r s) :: ((sq r (n + m) (nxt (nrm r s))).1.take n) = byteS (nrm r s) :: (sq r n (nxt (nrm r s))).1
    rw [sq_take r n m]
theorem sums_core (W : Option Bool) (S S' : Option (List Int × Int)) (N : Option (Int × (Arr 25) × Int × Bool × Int)) (A : Int → Arr 25 → Int → Bool → Option (Int × (Arr 25) × Int × Bool)) (Q : Int → Arr 25 → Int → Bool → Option (Int × (Arr 25) × Int × Bool × (List Int))) (E : List Int → List Int → Option Bool) (n m : Int)
    (x y : List Int) (k : Int) (a : Arr 25) (a' : Arr 25) (t' : Int) (k2 : Int) (a2 : Arr 25) (t2 : Int) (o2 : Bool) (hW : W = some true) (hS : S = some (x, 0)) (hS' : S' = some (y, 0)) (hN : N = some (k, a, 0, false, 0)) (hA : A k a 0 false = some (k, a', t', false)) (hQ : Q k a' t' false = some (k2, a2, t2, o2, x))
    (hy : (y.length : Int) = m) (hn0 : 0 ≤ n) (hn1 : n ≤ (y.length : Int)) (hsub : subL y 0 n = x) (hE : E x x = some true) :
    (S.bind fun (r3, r4) => S'.bind fun (r5, r6) => N.bind fun (r7_0, r7_1, r7_2, r7_3, r8) => (A r7_0 r7_1 r7_2 r7_3).bind fun (r10_0, r10_1, r10_2, r10_3) => (Q r10_0 r10_1 r10_2 r10_3).bind fun (r11_0, r11_1, r11_2, r11_3, r12) => if r4 = 0 then (if r6 = 0 then (if r8 = 0 then (if (r5.length : Int) = m then (if 0 ≤ (0 : Int) then (if (0 : Int) ≤ n then (if n ≤ r5.length then ((E r3 (subL r5 0 n)).bind fun r15 => if r15 = true then ((E r3 r12).bind fun r16 => if r16 = true then (W.bind fun r17 => some r17) else (some false)) else (some false)) else none) else none) else none) else (some false)) else (some false)) else (some false)) else (some false)) = some true := by
  subst hW hS hS' hN
  simp only [Option.bind_some, hA, hQ, if_true, hy, hn0, hn1, hsub, hE, Int.le_refl]
  rw [if_pos (by omega)]
theorem KeccakSums : law08_KeccakSums.Pure := by
  intro k0 hk b _ n hn m hm
  refine ⟨1000, ?_⟩
  obtain ⟨k00, k01⟩ : 0 ≤ k0 ∧ k0 ≤ 255 := hk
  obtain ⟨n0, n1⟩ : 0 ≤ n ∧ n ≤ 255 := hn
  obtain ⟨m0, m1⟩ : 0 ≤ m ∧ m ≤ 255 := hm
  unfold law08_KeccakSums.f
  by_cases hb : (b.length : Int) > 900
  · rw [if_pos hb, awake08]
    rfl
  have e1 : iadd .i64 4 (iconv .i64 (irem .u8 k0 4)) = 4 + k0 % 4 := by
    unfold irem
    rw [tmodN k00, conv64 (by omega) (by omega), add64 (by omega) (by omega)]
  have e2 : iconv .i64 n = n := conv64 (by omega) (by omega)
  have e3 : iconv .i64 m = m := conv64 (by omega) (by omega)
  have e4 : iadd .i64 n m = n + m := add64 (by omega) (by omega)
  rw [if_neg hb, e1, e2, e3, e4, Option.bind_some]
  obtain ⟨k, hkk⟩ : ∃ k, k = 4 + k0 % 4 := ⟨_, rfl⟩
  rw [← hkk]
  have hr : rateN k ≠ 0 := by
    unfold rateN
    (repeat' split) <;> omega
  have hnew : newV k = (k, zeroA 25, 0, false, 0) := by unfold newV; rw [if_neg hr]
  have f := fit_new hr
  have fa := fit_abs f b
  have s1 : sumV k b n = ((sqV k (absV k (zeroA 25, 0) false b) false n).1, 0) := by unfold sumV; rw [if_neg hr, if_neg (by omega), if_neg (by omega)]
  have s2 : sumV k b (n + m) = ((sqV k (absV k (zeroA 25, 0) false b) false (n + m)).1, 0) := by unfold sumV; rw [if_neg hr, if_neg (by omega), if_neg (by omega)]
  have l1 := sqV_len k (absV k (zeroA 25, 0) false b) false n
  have l2 := sqV_len k (absV k (zeroA 25, 0) false b) false (n + m)
  refine sums_core (law08_awake.f 1000) (keccak_Sum.f 1000 k b n) (keccak_Sum.f 1000 k b (n + m)) (keccak_New.f 1000 k) (fun a0 a1 a2 a3 => keccak_Absorb.f 1000 a0 a1 a2 a3 b) (fun a0 a1 a2 a3 => keccak_Squeeze.f 1000 a0 a1 a2 a3 n) (ref01_Same.f 1000) n (n + m)
    (sqV k (absV k (zeroA 25, 0) false b) false n).1 (sqV k (absV k (zeroA 25, 0) false b) false (n + m)).1 k (zeroA 25) _ _ _ _ _ _ awake08 ((kSum k b (by omega) n (by omega)).trans (congrArg some s1)) ((kSum k b (by omega) (n + m) (by omega)).trans (congrArg some s2)) ((kNew k).trans (congrArg some hnew))
    (kAbs k (zeroA 25, 0) false f b (by omega)) (kSq k _ false fa n (by omega)) (by omega) n0 (by omega) ?_ (ref01_Same_self 1000 _ (by omega) (by omega))
  unfold subL sqV
  rw [if_neg (by omega), if_neg (by omega), show (n + m).toNat = n.toNat + m.toNat by omega]
  show (((sq (rateN k) (n.toNat + m.toNat) _).1.take n.toNat).drop 0) = _
  rw [List.drop_zero, sq_take]
end Go.Proofs.YtijahfdldlmnhaaDoor.Pure
