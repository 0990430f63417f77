/- Own library of this work (12): blocks that came in and may be written, tables that are only read, structs with a row of numbers. -/
import Derived.Test.YtblploekkjeolaaMt
set_option linter.unusedSimpArgs false
set_option linter.unusedVariables false
namespace Go.Mx
open Go.RowKit
section
variable {P : Program} {ops : Array Oper} {K Kn : Act → World → Prop} {a : Act} {w w' : World} {i : Nat} {w0 : World} {X : List Nat} {L R : List Ent}
/-! ### a pointer that came in -/
/-! ### the order of what is owned -/
theorem St.front (h : St w0 X L R w) (j : Nat) {e : Ent} (hj : L[j]? = some e) : St w0 X (e :: L.eraseIdx j) R w := by
  have hjm := List.mem_of_getElem? hj
  obtain ⟨hjl, hje⟩ := List.getElem?_eq_some_iff.1 hj
  have hsub : ∀ x ∈ e :: L.eraseIdx j, x ∈ L := fun x hx => by
    rcases List.mem_cons.1 hx with rfl | hx
    · exact hjm
    · exact List.mem_of_mem_eraseIdx hx
  refine ⟨h.os, h.tape, h.output, h.size, h.block, fun x hx => h.own x (hsub x hx), ?_, fun x hx => ⟨(h.read x hx).1, fun b hb => ⟨((h.read x hx).2 b hb).1, fun e' he' => ((h.read x hx).2 b hb).2 e' (hsub e' he')⟩⟩⟩
  refine .cons (fun y hy b hb hb' => ?_) (h.apart.sublist (List.eraseIdx_sublist ..))
  rw [List.mem_iff_getElem?] at hy
  obtain ⟨m, hm⟩ := hy
  rw [List.getElem?_eraseIdx] at hm
  have hp := List.pairwise_iff_getElem.1 h.apart
  split at hm
  · obtain ⟨hml, hme⟩ := List.getElem?_eq_some_iff.1 hm
    exact hp m j hml hjl (by omega) b (by rw [hme]; exact hb') (by rw [hje]; exact hb)
  · obtain ⟨hml, hme⟩ := List.getElem?_eq_some_iff.1 hm
    exact hp j (m + 1) hjl hml (by omega) b (by rw [hje]; exact hb) (by rw [hme]; exact hb')
/-! ### a body that ends at its end -/
theorem calls_kn {f : FuncId} {fn : Func} {c : Code} {args : Array Value} {R' : Ending → World → Prop} (hf : P.funcs[f]? = some fn) (hb : fn.body = some c)
    (h : ∀ Q : Exit → Act → World → Prop, (∀ a w, bodyPost P fn R' .ret a w → Q .ret a w) → (∀ a w, bodyPost P fn R' .normal a w → Q .normal a w) → c.wpIn (FR none) 0 P Q { tmps := args ++ Array.replicate (fn.ntmps - args.size) undef, defers := [] } w) : Calls P f args w R' :=
  callsIn_wide.1 (callsIn_of_wp (n := 0) hf hb trivial (h _ (fun _ _ h => h) (fun _ _ h => h)))
theorem post_nrm {fn : Func} {R' : Ending → World → Prop} {v : Value} (hd : a.defers = []) (h : (results fn a.tmps).run P w = .ok v w) (hR : R' (.returned v) w) : bodyPost P fn R' .normal a w := ⟨hd, v, h, hR⟩
/-! ### tables -/
/-! ### a part of a row in a block, as an array -/
/-! ### cells of a struct with a row -/
section
variable {n o : Nat} {k : IntKind} {pre post : List Value} {c c' : Arr n} {v : Value}
end
/-! ### '==' of structs -/
/-- what '==' of two structs' fields tells -/
inductive FEq (P : Program) (d : Nat) (xs ys : List Value) : List Field → Bool → Prop
  | nil : FEq P d xs ys [] true
  | cons {f : Field} {fs : List Field} {u v : Value} {b r : Bool} (hn : (f.name == "_") = false) (hu : ∀ w, (part f.type xs.toArray f.offset).run P w = .ok u w) (hv : ∀ w, (part f.type ys.toArray f.offset).run P w = .ok v w)
      (hb : ∀ w, (Op.equalIn d f.type u v).run P w = .ok b w) (hr : FEq P d xs ys fs r) : FEq P d xs ys (f :: fs) (b && r)
theorem run_fields {d : Nat} {xs ys : List Value} {fs : List Field} {r : Bool} (h : FEq P d xs ys fs r) (w : World) :
    (forIn (m := Sem) fs ((none : Option Bool), ()) fun f _ => do
      if f.name ≠ "_" then
        let u ← part f.type xs.toArray f.offset
        let v ← part f.type ys.toArray f.offset
        let c ← Op.equalIn d f.type u v
        if (!c) = true then pure (ForInStep.done (some false, ())) else pure (ForInStep.yield (none, ()))
      else pure (ForInStep.yield (none, ()))).run P w = .ok (if r then none else some false, ()) w := by
  induction h with
  | nil => rfl
  | @cons f fs u v b r hn hu hv hb hr ih =>
    have hn' : f.name ≠ "_" := fun e => by rw [e] at hn; cases hn
    rw [List.forIn_cons]
    cases b with
    | false =>
      refine (rb (x := ForInStep.done (some false, ())) (w' := w) ?_).trans ?_
      · rw [if_pos hn', rb (hu w), rb (hv w), rb (hb w)]
        rfl
      · rfl
    | true =>
      refine (rb (x := ForInStep.yield (none, ())) (w' := w) ?_).trans ?_
      · rw [if_pos hn', rb (hu w), rb (hv w), rb (hb w)]
        rfl
      · simp only [Bool.true_and]
        exact ih
theorem run_equalS {d : Nat} {t : TypeId} {xs ys : List Value} {fs : List Field} {r : Bool} (hu : P.underlying t = some (.struct fs.toArray)) (hst : P.stoodInHeld t = false) (h : FEq P d xs ys fs r) :
    (Op.equalIn (d + 1) t (.agg xs.toArray) (.agg ys.toArray)).run P w = .ok r w := by
  unfold Op.equalIn
  rw [rb (run_underlying hu w)]
  simp only []
  refine (rb (x := P) (w' := w) rfl).trans ?_
  simp only [hst, Bool.false_eq_true, if_false]
  rw [List.forIn_toArray]
  rw [rb (run_fields h w)]
  cases r <;> rfl
theorem yld_eqS {t : TypeId} {xs ys : List Value} {fs : List Field} {r : Bool} (xo yo : Operand) (he : execAt ops i a = nextV (do eqGuard .eql t xo yo (.agg xs.toArray) (.agg ys.toArray); binOp .eql t (.agg xs.toArray) (.agg ys.toArray)))
    (hq : P.eqGuardType P.depth t = false) (hu : P.underlying t = some (.struct fs.toArray)) (hst : P.stoodInHeld t = false) (h : FEq P 9999 xs ys fs r) : Yld P ops Any i a w (.bool r) := by
  refine yld fun w' => ?_
  rw [he]
  refine run_nextV ?_
  refine (rb (x := ()) (w' := w') ?_).trans ?_
  · unfold eqGuard
    simp [hq]
  · show ((do pure (.bool (← Op.equal t (.agg xs.toArray) (.agg ys.toArray))) : Sem Value)).run P w' = _
    unfold Op.equal Op.maxDepth
    rw [rb (run_equalS (d := 9999) hu hst h)]
    rfl
end
end Go.Mx
