/- Layer 22 (dpack), plain laws: keys and signatures as bytes. -/
import Derived.Test.YtblploekkjeolaaDF0
import Derived.Test.YtblploekkjeolaaDg
import Derived.Test.YtblploekkjeolaaDc
set_option linter.unusedSimpArgs false
set_option linter.unusedVariables false
set_option maxRecDepth 100000
namespace Go.Proofs.Ytblploekkjeolaa
open Go Go.Mx
/-- polynomials as bytes -/
def packL (lo hi : Int) (l : List (Arr 256)) : List Int := l.flatMap (packS lo hi)
def okL (lo hi : Int) (l : List (Arr 256)) : Bool := l.all fun a => !(packS lo hi a).isEmpty
theorem packL_len (lo hi : Int) : ∀ l : List (Arr 256), (packL lo hi l).length ≤ 704 * l.length
  | [] => Nat.le_refl _
  | a :: l => by
    have h1 := packL_len lo hi l
    have h2 := packS_len lo hi a
    show (packS lo hi a ++ packL lo hi l).length ≤ _
    rw [List.length_append, List.length_cons]
    omega
theorem rowW (K : Nat) (hK : 256 < K) (lo hi : Int) (l : List (Arr 256)) (hl : l.length ≤ 1000) (f : Nat → Int → List Int → Bool → Option (List Int × Bool))
    (hf : ∀ k z out bad, f (k + 1) z out bad = if z < (l.length : Int) then (if 0 ≤ z then (if z < l.length then ((dpack_Pack.f K (rdL CP l z) lo hi).bind fun r => ((if bad = true then (some true) else ((some (r.isEmpty)).bind fun x => some x) : Option (Bool))).bind fun y => if out.length + r.length ≤ 140737488355328 then (f k (iadd .i64 z 1) (out ++ r) y) else none) else none) else none) else (some (out, bad))) :
    ∀ (r i k : Nat) (out : List Int) (bad : Bool), i + r = l.length → r < k → out.length + 704 * r ≤ 100000000 → f k (i : Int) out bad = some (out ++ packL lo hi (l.drop i), bad || !okL lo hi (l.drop i)) := by
  intro r
  induction r with
  | zero =>
    intro i k out bad hi' hk ho
    obtain ⟨k, rfl⟩ : ∃ m, k = m + 1 := ⟨k - 1, by omega⟩
    have c : ¬ (i : Int) < (l.length : Int) := by omega
    rw [hf, if_neg c, List.drop_of_length_le (by omega)]
    simp [packL, okL]
  | succ r ih =>
    intro i k out bad hi' hk ho
    obtain ⟨k, rfl⟩ : ∃ m, k = m + 1 := ⟨k - 1, by omega⟩
    have c : (i : Int) < (l.length : Int) := by omega
    have c0 : (0 : Int) ≤ (i : Int) := by omega
    have e4 : iadd .i64 (i : Int) 1 = ((i + 1 : Nat) : Int) := by rw [add64 (by omega) (by omega)]; omega
    have hlt : i < l.length := by omega
    have h7 := packS_len lo hi l[i]
    rw [hf, if_pos c, if_pos c0, if_pos c, dPack K hK, Option.bind_some, rdL_P l i hlt, e4]
    have hb : ((if bad = true then (some true) else ((some ((packS lo hi l[i]).isEmpty)).bind fun x => some x) : Option (Bool))) = some (bad || (packS lo hi l[i]).isEmpty) := by cases bad <;> rfl
    rw [hb, Option.bind_some, if_pos (by omega), ih (i + 1) k _ _ (by omega) (by omega) (by rw [List.length_append]; omega), List.drop_eq_getElem_cons hlt]
    have e1 : packL lo hi (l[i] :: l.drop (i + 1)) = packS lo hi l[i] ++ packL lo hi (l.drop (i + 1)) := rfl
    have e2 : okL lo hi (l[i] :: l.drop (i + 1)) = (!(packS lo hi l[i]).isEmpty && okL lo hi (l.drop (i + 1))) := rfl
    rw [e1, e2, List.append_assoc]
    cases bad <;> cases (packS lo hi l[i]).isEmpty <;> cases okL lo hi (l.drop (i + 1)) <;> rfl
/-! ### texts, one behind the other -/
/-! ### the keys -/
theorem orB (b c : Bool) : ((if b = true then (some true) else ((some c).bind fun x => some x) : Option (Bool))) = some (b || c) := by cases b <;> rfl
theorem doneB (b kn : Bool) (o : List Int) (d : Option Bool) (hd : d = some kn) : ((if b = true then (some ([] : List Int)) else (d.bind fun r21 => if r21 = true then (some o) else (some ([] : List Int))) : Option ((List Int)))) = some (if (!b && kn) = true then o else []) := by
  subst hd
  cases b <;> cases kn <;> rfl
def pubS (a0 a1 a2 a3 a4 a5 a6 a7 : Int) (rho : List Int) (t : List (Arr 256)) : List Int :=
  if ((!((((rho.length : Int) != 32) || ((t.length : Int) != a0)) || !okL (-1) 1023 t)) && decide (kind3 a0 a1 a2 a3 a4 a5 a6 a7)) = true then rho ++ packL (-1) 1023 t else []
theorem dPublic (a0 a1 a2 a3 a4 a5 a6 a7 : Int) (rho : List Int) (hr : rho.length ≤ 1000) (t : List (Arr 256)) (ht : t.length ≤ 1000) : dpack_Public.f 60000 a0 a1 a2 a3 a4 a5 a6 a7 rho t = some (pubS a0 a1 a2 a3 a4 a5 a6 a7 rho t) := by
  unfold dpack_Public.f
  rw [Option.bind_some, if_pos (by simp; omega), orB, Option.bind_some]
  have h := rowW 60000 (by decide) (-1) 1023 t ht (fun k z o b => dpack_Public.l0 60000 k t z o b) (fun k z o b => rfl) t.length 0 60000 ([] ++ rho) (((rho.length : Int) != 32) || ((t.length : Int) != a0)) (by omega) (by omega) (by simp; omega)
  have h' : dpack_Public.l0 60000 60000 t 0 ([] ++ rho) (((rho.length : Int) != 32) || ((t.length : Int) != a0)) = _ := h
  rw [h', List.drop_zero, Option.bind_some]
  dsimp only
  rw [doneB _ _ _ _ (dKnown a0 a1 a2 a3 a4 a5 a6 a7)]
  rfl
def privS (a0 a1 a2 a3 a4 a5 a6 a7 : Int) (rho key tr : List Int) (s1 s2 t0 : List (Arr 256)) : List Int :=
  if ((!((((((((((rho.length : Int) != 32) || ((key.length : Int) != 32)) || ((tr.length : Int) != 64)) || ((s1.length : Int) != a1)) || !okL a2 a2 s1) || ((s2.length : Int) != a0)) || !okL a2 a2 s2) || ((t0.length : Int) != a0)) || !okL 4095 4096 t0)) && decide (kind3 a0 a1 a2 a3 a4 a5 a6 a7)) = true then
    ((((rho ++ key) ++ tr) ++ packL a2 a2 s1) ++ packL a2 a2 s2) ++ packL 4095 4096 t0 else []
theorem dPrivate (a0 a1 a2 a3 a4 a5 a6 a7 : Int) (rho key tr : List Int) (h1 : rho.length ≤ 1000) (h2 : key.length ≤ 1000) (h3 : tr.length ≤ 1000) (s1 s2 t0 : List (Arr 256)) (h4 : s1.length ≤ 1000) (h5 : s2.length ≤ 1000) (h6 : t0.length ≤ 1000) :
    dpack_Private.f 60000 a0 a1 a2 a3 a4 a5 a6 a7 rho key tr s1 s2 t0 = some (privS a0 a1 a2 a3 a4 a5 a6 a7 rho key tr s1 s2 t0) := by
  have p1 := packL_len a2 a2 s1
  have p2 := packL_len a2 a2 s2
  unfold dpack_Private.f
  rw [Option.bind_some, if_pos (by simp; omega), orB, Option.bind_some, if_pos (by simp; omega), orB, Option.bind_some, if_pos (by simp; omega), orB, Option.bind_some]
  generalize hb1 : (((((rho.length : Int) != 32) || ((key.length : Int) != 32)) || ((tr.length : Int) != 64)) || ((s1.length : Int) != a1)) = b1
  have q1 := rowW 60000 (by decide) a2 a2 s1 h4 (fun k z o b => dpack_Private.l0 60000 k a2 s1 z o b) (fun k z o b => rfl) s1.length 0 60000 ((([] ++ rho) ++ key) ++ tr) b1 (by omega) (by omega) (by simp; omega)
  have q1' : dpack_Private.l0 60000 60000 a2 s1 0 ((([] ++ rho) ++ key) ++ tr) b1 = _ := q1
  rw [q1', List.drop_zero, Option.bind_some]
  dsimp only
  rw [orB, Option.bind_some]
  generalize hb2 : ((b1 || !okL a2 a2 s1) || ((s2.length : Int) != a0)) = b2
  have q2 := rowW 60000 (by decide) a2 a2 s2 h5 (fun k z o b => dpack_Private.l1 60000 k a2 s2 z o b) (fun k z o b => rfl) s2.length 0 60000 ((([] ++ rho) ++ key) ++ tr ++ packL a2 a2 s1) b2 (by omega) (by omega) (by simp; omega)
  have q2' : dpack_Private.l1 60000 60000 a2 s2 0 ((([] ++ rho) ++ key) ++ tr ++ packL a2 a2 s1) b2 = _ := q2
  rw [q2', List.drop_zero, Option.bind_some]
  dsimp only
  rw [orB, Option.bind_some]
  generalize hb3 : ((b2 || !okL a2 a2 s2) || ((t0.length : Int) != a0)) = b3
  have q3 := rowW 60000 (by decide) 4095 4096 t0 h6 (fun k z o b => dpack_Private.l2 60000 k t0 z o b) (fun k z o b => rfl) t0.length 0 60000 ((([] ++ rho) ++ key) ++ tr ++ packL a2 a2 s1 ++ packL a2 a2 s2) b3 (by omega) (by omega) (by simp; omega)
  have q3' : dpack_Private.l2 60000 60000 t0 0 ((([] ++ rho) ++ key) ++ tr ++ packL a2 a2 s1 ++ packL a2 a2 s2) b3 = _ := q3
  rw [q3', List.drop_zero, Option.bind_some]
  dsimp only
  rw [doneB _ _ _ _ (dKnown a0 a1 a2 a3 a4 a5 a6 a7)]
  subst hb3 hb2 hb1
  rfl
/-! ### signatures -/
def sigS (a0 a1 a2 a3 a4 a5 a6 a7 : Int) (c : List Int) (z h : List (Arr 256)) : List Int :=
  if (h.length : Int) = a0 then
    (if ((!((((((c.length : Int) != a7) || ((z.length : Int) != a1)) || !okL (isub .i32 a4 1) a4 z)) || (((hintS h a6).length : Int) != iadd .i64 a6 a0))) && decide (kind3 a0 a1 a2 a3 a4 a5 a6 a7)) = true then (c ++ packL (isub .i32 a4 1) a4 z) ++ hintS h a6 else []) else []
theorem dSig (a0 a1 a2 a3 a4 a5 a6 a7 : Int) (c : List Int) (h1 : c.length ≤ 1000) (z h : List (Arr 256)) (h2 : z.length ≤ 1000) (h3 : h.length ≤ 1000) : dpack_Sig.f 60000 a0 a1 a2 a3 a4 a5 a6 a7 c z h = some (sigS a0 a1 a2 a3 a4 a5 a6 a7 c z h) := by
  have p1 := packL_len (isub .i32 a4 1) a4 z
  have p2 := hintS_len h a6
  unfold dpack_Sig.f sigS
  rw [Option.bind_some, if_pos (by simp; omega), orB, Option.bind_some]
  generalize hb1 : (((c.length : Int) != a7) || ((z.length : Int) != a1)) = b1
  have q1 := rowW 60000 (by decide) (isub .i32 a4 1) a4 z h2 (fun k i o b => dpack_Sig.l0 60000 k a4 z i o b) (fun k z o b => rfl) z.length 0 60000 ([] ++ c) b1 (by omega) (by omega) (by simp; omega)
  have q1' : dpack_Sig.l0 60000 60000 a4 z 0 ([] ++ c) b1 = _ := q1
  rw [q1', List.drop_zero, Option.bind_some, dHints 60000 (by decide)]
  by_cases hh : (h.length : Int) = a0
  · rw [if_pos hh]
    dsimp only
    rw [if_pos hh, Option.bind_some, orB, Option.bind_some, if_pos (by simp; omega), doneB _ _ _ _ (dKnown a0 a1 a2 a3 a4 a5 a6 a7)]
    rfl
  · rw [if_neg hh]
    dsimp only
    rw [if_neg hh]
end Go.Proofs.Ytblploekkjeolaa
