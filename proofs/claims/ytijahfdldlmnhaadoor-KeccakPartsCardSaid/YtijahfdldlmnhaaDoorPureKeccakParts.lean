/- Layer 8: what is absorbed in parts is absorbed as a whole; what is squeezed in parts is what is squeezed at once; what is squeezed absorbs nothing any more; in plain Lean. -/
import Derived.Test.YtijahfdldlmnhaaDoorLKeccakParts
import Derived.Test.YtijahfdldlmnhaaDoorSd
set_option linter.unusedSimpArgs false
set_option linter.unusedVariables false
namespace Go.Proofs.YtijahfdldlmnhaaDoor.Pure
open Go Go.Mx
theorem w_of {a : Arr 25} (h : InA .u64 a) : InW a := fun i hi => by
  obtain ⟨h0, h1⟩ := inA_rd h i hi
  have e0 : IntKind.u64.min = 0 := rfl
  have e1 : IntKind.u64.max = 18446744073709551615 := rfl
  constructor <;> omega
theorem join_l0 (K k : Nat) (xs : List (List Int)) (out : List Int) (i : Int) (h0 : 0 ≤ i) (h1 : i < (xs.length : Int)) (h2 : out.length + (rdLL xs i).length ≤ 1000000) : ref01_Join.l0 K (k + 1) xs i out = ref01_Join.l0 K k xs (iadd .i64 i 1) (out ++ rdLL xs i) := by
  have h3 : out.length + (rdLL xs i).length ≤ 140737488355328 := by omega
  simp only [ref01_Join.l0, h0, h1, h3, if_true, Option.bind_some]
theorem join_end (K k : Nat) (xs : List (List Int)) (out : List Int) (i : Int) (h1 : ¬ i < (xs.length : Int)) : ref01_Join.l0 K (k + 1) xs i out = some out := by
  simp only [ref01_Join.l0, h1, if_false]
theorem join2K (K : Nat) (x y : List Int) (h : x.length + y.length ≤ 1000000) : ref01_Join.f (K + 3) [x, y] = some (x ++ y) := by
  have i0 : iadd .i64 0 1 = 1 := by rw [add64 (by omega) (by omega)]; rfl
  have i1 : iadd .i64 1 1 = 2 := by rw [add64 (by omega) (by omega)]; rfl
  have r0 : rdLL [x, y] 0 = x := rfl
  have r1 : rdLL [x, y] 1 = y := rfl
  unfold ref01_Join.f
  rw [join_l0 (K + 3) (K + 2) [x, y] [] 0 (by decide) (by show (0 : Int) < 2; decide) (by rw [r0, List.length_nil]; omega), i0, r0,
    join_l0 (K + 3) (K + 1) [x, y] _ 1 (by decide) (by show (1 : Int) < 2; decide) (by rw [r1, List.nil_append]; omega), i1, r1, join_end (K + 3) K [x, y] _ 2 (by show ¬ (2 : Int) < 2; decide)]
  rfl
theorem join2 (x y : List Int) (h : x.length + y.length ≤ 1000000) : ref01_Join.f 1000 [x, y] = some (x ++ y) := join2K 997 x y h
theorem abs_app (kind : Int) (s : Arr 25 × Nat) (o : Bool) (a b : List Int) : absV kind (absV kind s o a) o b = absV kind s o (a ++ b) := by
  unfold absV
  cases o with
  | true => rfl
  | false =>
    rw [if_neg (by decide), if_neg (by decide), if_neg (by decide), List.foldl_append]
theorem abs_nil (kind : Int) (s : Arr 25 × Nat) (o : Bool) : absV kind s o [] = s := by
  unfold absV
  cases o <;> rfl
theorem sq_app (r : Nat) : ∀ (n m : Nat) (s : Arr 25 × Nat), sq r (n + m) s = ((sq r n s).1 ++ (sq r m (sq r n s).2).1, (sq r m (sq r n s).2).2)
  | 0, m, s => by
    rw [Nat.zero_add]
    rfl
  | n + 1, m, s => by
    rw [show n + 1 + m = (n + m) + 1 by omega]
    show (byteS (nrm r s) :: (sq r (n + m) (nxt (nrm r s))).1, (sq r (n + m) (nxt (nrm r s))).2) = _
    rw [sq_app r n m]
    rfl
theorem parts_core (W : Option Bool) (A : Int → Arr 25 → Int → Bool → List Int → Option (Int × (Arr 25) × Int × Bool)) (Q : Int → Arr 25 → Int → Bool → Int → Option (Int × (Arr 25) × Int × Bool × (List Int))) (J : List (List Int) → Option (List Int)) (E : List Int → List Int → Option Bool) (a b : List Int) (n m nm : Int)
    (k : Int) (w : Arr 25) (t : Int) (o : Bool) (p0 : Int) (p1 : Arr 25) (p2 : Int) (p3 : Bool) (q0 : Int) (q1 : Arr 25) (q2 : Int) (q3 : Bool) (ab : List Int) (u0 : Int) (u1 : Arr 25) (u2 : Int) (u3 : Bool) (x : List Int) (v0 : Int) (v1 : Arr 25) (v2 : Int) (v3 : Bool) (y z : List Int)
    (hW : W = some true) (h1 : A k w t o a = some (p0, p1, p2, p3)) (h2 : A p0 p1 p2 p3 b = some (q0, q1, q2, q3)) (h3 : J [a, b] = some ab) (h4 : A k w t o ab = some (q0, q1, q2, q3)) (h5 : A k w t o [] = some (k, w, t, o)) (h6 : Q k w t o n = some (u0, u1, u2, u3, x)) (h7 : Q u0 u1 u2 u3 m = some (v0, v1, v2, v3, y)) (h8 : Q k w t o nm = some (v0, v1, v2, v3, z))
    (h9 : J [x, y] = some z) (h10 : E z z = some true) (h11 : A u0 u1 u2 u3 a = some (u0, u1, u2, u3)) (h12 : (z.length : Int) = nm) :
    ((((A k w t o a).bind fun (r5_0, r5_1, r5_2, r5_3) => (A r5_0 r5_1 r5_2 r5_3 b).bind fun (r6_0, r6_1, r6_2, r6_3) => (J ([a, b] : List (List Int))).bind fun r8 => (A k w t o r8).bind fun (r9_0, r9_1, r9_2, r9_3) => if (!((r6_0 == r9_0) && ((eqA r6_1 r9_1) && ((r6_2 == r9_2) && ((r6_3 == r9_3) && true))))) = true then (some true) else ((A k w t o ([] : List Int)).bind fun (r10_0, r10_1, r10_2, r10_3) => if (!((r10_0 == k) && ((eqA r10_1 w) && ((r10_2 == t) && ((r10_3 == o) && true))))) = true then (some true) else (some false)) : Option (Bool))).bind fun y4 => if y4 = true then (some false) else ((Q k w t o n).bind fun (r22_0, r22_1, r22_2, r22_3, r23) => (Q r22_0 r22_1 r22_2 r22_3 m).bind fun (r25_0, r25_1, r25_2, r25_3, r26) => (Q k w t o nm).bind fun (r28_0, r28_1, r28_2, r28_3, r29) => if ((r25_0 == r28_0) && ((eqA r25_1 r28_1) && ((r25_2 == r28_2) && ((r25_3 == r28_3) && true)))) = true then ((J ([r23, r26] : List (List Int))).bind fun r32 => (E r32 r29).bind fun r33 => if r33 = true then ((A r22_0 r22_1 r22_2 r22_3 a).bind fun (r34_0, r34_1, r34_2, r34_3) => if ((r34_0 == r22_0) && ((eqA r34_1 r22_1) && ((r34_2 == r22_2) && ((r34_3 == r22_3) && true)))) = true then (if (r29.length : Int) = nm then (W.bind fun r35 => some r35) else (some false)) else (some false)) else (some false)) else (some false))) = some true := by
  subst hW
  simp only [h1, h2, h3, h4, h5, h6, h7, h8, h9, h10, h11, h12, Option.bind_some, eqA_self, beq_self_eq_true, Bool.and_self, Bool.not_true, Bool.false_eq_true, if_false, if_true]
theorem KeccakParts : law08_KeccakParts.Pure := by
  intro kind w t o _ hw0 _ a _ la b _ lb n hn m hm
  refine ⟨1000, ?_⟩
  have hw := w_of hw0
  obtain ⟨n0, n1⟩ : 0 ≤ n ∧ n ≤ 255 := hn
  obtain ⟨m0, m1⟩ : 0 ≤ m ∧ m ≤ 255 := hm
  have e2 : iconv .i64 n = n := conv64 (by omega) (by omega)
  have e3 : iconv .i64 m = m := conv64 (by omega) (by omega)
  have e4 : iadd .i64 n m = n + m := add64 (by omega) (by omega)
  have e5 : iadd .i64 (a.length : Int) (b.length : Int) = (a.length : Int) + (b.length : Int) := add64 (by omega) (by omega)
  unfold law08_KeccakParts.f
  rw [rFit, e2, e3, e4, e5]
  cases hf : fitB kind t o with
  | false =>
    rw [Option.bind_some, if_neg (by decide), awake08]
    rfl
  | true =>
    obtain ⟨q, rfl, f⟩ := fit_of hw hf
    rw [Option.bind_some, if_pos rfl]
    by_cases hb : (a.length : Int) + (b.length : Int) > 900
    · rw [if_pos hb, awake08]
      rfl
    rw [if_neg hb]
    have fa := fit_abs f a
    have fq := fit_sq f n
    have l1 := sqV_len kind (w, q) o n
    have l3 := sqV_len kind (w, q) o (n + m)
    have hu : (sqV kind (w, q) o n).2.2 = true := by unfold sqV; rw [if_neg (by omega)]
    have l2 := sqV_len kind (sqV kind (w, q) o n).2.1 (sqV kind (w, q) o n).2.2 m
    have hnm : (n + m).toNat = n.toNat + m.toNat := by omega
    have hz : (sqV kind (w, q) o (n + m)).1 = (sqV kind (w, q) o n).1 ++ (sqV kind (sqV kind (w, q) o n).2.1 (sqV kind (w, q) o n).2.2 m).1 := by
      rw [hu]
      unfold sqV
      rw [if_neg (by omega), if_neg (by omega), if_neg (by omega), hnm, sq_app]
      rfl
    have hs : (sqV kind (w, q) o (n + m)).2 = (sqV kind (sqV kind (w, q) o n).2.1 (sqV kind (w, q) o n).2.2 m).2 := by
      rw [hu]
      unfold sqV
      rw [if_neg (by omega), if_neg (by omega), if_neg (by omega), hnm, sq_app]
      rfl
    refine parts_core (law08_awake.f 1000) (keccak_Absorb.f 1000) (keccak_Squeeze.f 1000) (ref01_Join.f 1000) (ref01_Same.f 1000) a b n m (n + m) kind w (q : Int) o _ _ _ _ _ _ _ _ (a ++ b) _ _ _ _ _ _ _ _ _ _ (sqV kind (w, q) o (n + m)).1
      awake08 (kAbs kind (w, q) o f a (by omega)) (kAbs kind _ o fa b (by omega)) (join2 a b (by omega)) ?_ ?_ (kSq kind (w, q) o f n (by omega)) (kSq kind _ _ fq m (by omega)) ?_ ?_ (ref01_Same_self 1000 _ (by omega) (by omega)) ?_ (by omega)
    · rw [abs_app]
      exact kAbs kind (w, q) o f (a ++ b) (by rw [List.length_append]; omega)
    · have := kAbs kind (w, q) o f [] (by decide)
      rw [abs_nil] at this
      exact this
    · rw [← hs]
      exact kSq kind (w, q) o f (n + m) (by omega)
    · rw [hz]
      exact join2 _ _ (by omega)
    · have := kAbs kind _ _ fq a (by omega)
      rw [this]
      unfold absV
      rw [hu, if_pos rfl]
      rfl
end Go.Proofs.YtijahfdldlmnhaaDoor.Pure
