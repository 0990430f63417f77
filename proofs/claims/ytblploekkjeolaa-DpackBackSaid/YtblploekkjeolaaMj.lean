/- Own library of this work (16): an element's element; a call that is followed in place; a loop that its function's return leaves. -/
import Derived.Test.YtblploekkjeolaaMi
set_option linter.unusedSimpArgs false
set_option linter.unusedVariables false
namespace Go.Mx
open Go.RowKit
section
variable {P : Program} {ops : Array Oper} {K Kn : Act → World → Prop} {a : Act} {w w' : World} {i : Nat} {w0 : World} {X : List Nat} {L R : List Ent} {Q : Exit → Act → World → Prop}
/-! ### an element's element -/
theorem row_some {n m c : Nat} {k : IntKind} {h : 0 < n} {A : Option Addr} {l : List (Arr n)} (hr : RowL (CA k n h) w A m c l) (hl : 0 < l.length) : ∃ b o, A = some ⟨b, o, none⟩ := by
  rcases hr.2.2 with h1 | ⟨b, o, cs, T, fz, rfl, _⟩
  · have h2 := encL_len (CA k n h) l
    rw [h1] at h2
    have : 0 < l.length * n := Nat.mul_pos hl h
    have h3 : (CA k n h).size = n := rfl
    rw [h3] at h2
    simp at h2
    omega
  · exact ⟨b, o, rfl⟩
theorem yld_idxLA {t e m c n : Nat} {k k' : IntKind} {h : 0 < n} {A : Option Addr} {l : List (Arr n)} {x y : Int} (hr : RowL (CA k n h) w A m c l) (he : execAt ops i a = nextV (Instr.indexAt t (.pointer (adr A (x.toNat * (CA k n h).size))) (.int k' y))) (hu : P.underlying t = some (.array n e)) (hs : szOf P e = some 1)
    (h0 : 0 ≤ x) (h1 : x < l.length) (h2 : 0 ≤ y) (h3 : y < n) : Yld P ops Any i a w (.pointer (adr A (x.toNat * (CA k n h).size + y.toNat * 1))) := by
  obtain ⟨b, o, rfl⟩ := row_some hr (by omega)
  have e1 : ∀ N, adr (some ⟨b, o, none⟩) N = some ⟨b, o + N, none⟩ := fun N => by simp [adr, add_plain]
  rw [e1] at he ⊢
  rw [← Nat.add_assoc]
  exact yld_idx he hu hs h2 h3
theorem encL_setE {n : Nat} {k : IntKind} {h : 0 < n} (l : List (Arr n)) (rest : List Value) (m : Nat) (hm : m < l.length) (y v : Int) (h2 : 0 ≤ y) (h3 : y < n) :
    (encL (CA k n h) l ++ rest).set (m * n + y.toNat) (.int k v) = encL (CA k n h) (l.set m (wr l[m] y v)) ++ rest := by
  have h1 : (encL (CA k n h) (l.take m)).length = m * n := encL_take_len (CA k n h) l m (by omega)
  have hq : y.toNat < ((CA k n h).cells l[m]).length := by rw [(CA k n h).len]; show y.toNat < n; omega
  have hset : l.set m (wr l[m] y v) = l.take m ++ wr l[m] y v :: l.drop (m + 1) := by rw [List.set_eq_take_append_cons_drop, if_pos hm]
  rw [hset, encL_append, encL_cons, encL_split (CA k n h) l m hm, List.append_assoc, List.append_assoc, List.append_assoc, List.append_assoc, List.set_append_right _ _ (by omega), h1, Nat.add_sub_cancel_left, List.set_append_left _ _ hq]
  have e : ((CA k n h).cells l[m]).set y.toNat (.int k v) = (CA k n h).cells (wr l[m] y v) := enc_set k l[m] y v
  rw [e]
theorem op_storeLE {d : Option Tmp} (hd : dstAt ops i = d) {t m c e n : Nat} {k : IntKind} {h : 0 < n} {A : Option Addr} {l : List (Arr n)} {x y v : Int} (hs : St w0 X L R w) (j : Nat) (hj : L[j]? = some (.ownL (CA k n h) A m c l e)) (he : execAt ops i a = nextU (Instr.storeAt t (.pointer (adr A (x.toNat * (CA k n h).size + y.toNat * 1))) (.int k v)))
    (hn : szOf P t = some 1) (h0 : 0 ≤ x) (h1 : x < l.length) (h2 : 0 ≤ y) (h3 : y < n)
    (kk : ∀ w', St w0 X (L.set j (.ownL (CA k n h) A m c (wrL l x (wr (rdL (CA k n h) l x) y v)) e)) R w' → K (a.put d undef) w') : wpOp P ops (NoP Kn) i K a w := by
  obtain ⟨hm, e1⟩ := rdL_get (C := CA k n h) h0 h1
  have hnl : m = l.length := RowL.length (hs.rowL j hj)
  obtain ⟨g, rest, rfl, hnc, hcm, hxl, hrl, hb⟩ := hs.openOwn j hj (by omega)
  have hjl : j < L.length := (List.getElem?_eq_some_iff.1 hj).1
  have hj' : (L.set j (.blk g (encL (CA k n h) l ++ rest) e))[j]? = some (.blk g (encL (CA k n h) l ++ rest) e) := by simp [hjl]
  have hsz : (CA k n h).size = n := rfl
  have hle : x.toNat * n + y.toNat < (encL (CA k n h) l).length := by
    rw [encL_len, hsz]
    have : (x.toNat + 1) * n ≤ l.length * n := Nat.mul_le_mul_right _ hm
    rw [Nat.add_mul] at this
    omega
  have ha : adr (some ⟨g, 0, none⟩) (x.toNat * (CA k n h).size + y.toNat * 1) = some ⟨g, x.toNat * n + y.toNat, none⟩ := by simp [adr, add_plain, hsz]
  rw [ha] at he
  refine op_store1 hd hb j hj' he rfl hn (by rw [List.length_append]; omega) fun w' _ hh => kk w' ?_
  rw [List.set_set, encL_setE l rest x.toNat hm y v h2 h3, ← e1] at hh
  have := hh.closeOwn j (n := m) (c := c) (size := n) (xs := encL (CA k n h) (wrL l x (wr (rdL (CA k n h) l x) y v))) (rest := rest) (e := e) (g := g) (by simp [hjl, wrL]) hnc hcm (by rw [encL_len, hnl]; simp [wrL, hsz]) (by
    rw [List.length_append, encL_len] at hrl ⊢
    simpa [wrL, hsz] using hrl)
  rw [List.set_set] at this
  exact this
/-! ### a call that is followed in place -/
theorem op_inline {d : Option Tmp} (hd : dstAt ops i = d) {f : FuncId} {args : Array Value} (he : ∀ w, (execAt ops i a).run P w = .ok (.enter f args) w)
    (h : ∀ R' : Ending → World → Prop, (∀ v w', K (a.put d v) w' → R' (.returned v) w') → Calls P f args w R') : wpOp P ops (NoP Kn) i K a w :=
  wpOp_call hd he (h (fun e w' => ∃ v, e = .returned v ∧ K (a.put d v) w') fun v w' hk => ⟨v, rfl, hk⟩) fun _ _ hr => hr
/-- The same where several ways come back: N tells what they have in common. -/
theorem op_inlineJ {d : Option Tmp} (hd : dstAt ops i = d) {f : FuncId} {args : Array Value} (he : ∀ w, (execAt ops i a).run P w = .ok (.enter f args) w) {N : Value → World → Prop}
    (h : ∀ R' : Ending → World → Prop, (∀ v w', N v w' → R' (.returned v) w') → Calls P f args w R') (k : ∀ v w', N v w' → K (a.put d v) w') : wpOp P ops (NoP Kn) i K a w :=
  op_inline hd he fun R' hR => h R' fun v w' hn => hR v w' (k v w' hn)
/-! ### is a slice nil? -/
theorem yld_nilS {T : Type} {C : Cod T} {t e n c : Nat} {A : Option Addr} {l : List T} (xo yo : Operand) (hr : RowL C w A n c l) (hn : l = [] → A = none)
    (he : execAt ops i a = nextV (do eqGuard .eql t xo yo (.slice A n c) (.slice none 0 0); binOp .eql t (.slice A n c) (.slice none 0 0))) (hq : P.eqGuardType P.depth t = false) (hu : P.underlying t = some (.slice e)) : Yld P ops Any i a w (.bool l.isEmpty) := by
  refine yld fun w' => ?_
  rw [he]
  refine run_nextV ?_
  refine (rb (x := ()) (w' := w') ?_).trans ?_
  · unfold eqGuard
    simp [hq]
  · show ((do pure (.bool (← Op.equal t (.slice A n c) (.slice none 0 0))) : Sem Value)).run P w' = _
    have hb : (Op.equal t (.slice A n c) (.slice none 0 0)).run P w' = .ok l.isEmpty w' := by
      unfold Op.equal Op.maxDepth
      unfold Op.equalIn
      rw [rb (run_underlying hu w')]
      cases A with
      | none =>
        have h1 := hr.length
        have h2 := hr.2.1
        have : l = [] := List.eq_nil_of_length_eq_zero (by have := h2.2 rfl; omega)
        subst this
        rfl
      | some x =>
        have : l ≠ [] := fun h => by cases hn h
        cases l with
        | nil => exact absurd rfl this
        | cons y l => rfl
    rw [rb hb]
    rfl
theorem op_callHF {d : Option Tmp} {H : Type} (hd : dstAt ops i = d) {f : FuncId} {args : Array Value} {v : H → Value} {L1 : H → List Ent} {F : H → Prop} (hs : St w0 X L R w) (he : ∀ w, (execAt ops i a).run P w = .ok (.enter f args) w)
    (c : Calls P f args w fun e w' => ∃ h : H, e = .returned (v h) ∧ St w [] (L1 h) [] w' ∧ F h) (k : ∀ h w', F h → Grow w w' → St w0 X (L1 h ++ L) R w' → K (a.put d (v h)) w') : wpOp P ops (NoP Kn) i K a w :=
  wpOp_call hd he c fun _ w' ⟨h, h1, h2, h3⟩ => ⟨v h, h1, k h w' h3 h2.grow (hs.grown h2)⟩
end
end Go.Mx
