/- Own library of this work (3): control: conditions, loops, what a function returns; plain words for numbers and rows of numbers. -/
import Derived.Test.YtemdbgmldljbpaaDoorMo
namespace Go.Mx
open Go.RowKit

/-! ### numbers -/
def iadd (k : IntKind) (x y : Int) : Int := k.wrap (x + y)
def isub (k : IntKind) (x y : Int) : Int := k.wrap (x - y)
def imul (k : IntKind) (x y : Int) : Int := k.wrap (x * y)
def iquo (k : IntKind) (x y : Int) : Int := k.wrap (x.tdiv y)
def irem (_ : IntKind) (x y : Int) : Int := x.tmod y
def iand (k : IntKind) (x y : Int) : Int := k.wrap ((BitVec.ofInt k.bits x &&& BitVec.ofInt k.bits y).toNat : Int)
def ior (k : IntKind) (x y : Int) : Int := k.wrap ((BitVec.ofInt k.bits x ||| BitVec.ofInt k.bits y).toNat : Int)
def ixor (k : IntKind) (x y : Int) : Int := k.wrap ((BitVec.ofInt k.bits x ^^^ BitVec.ofInt k.bits y).toNat : Int)
def iandn (k : IntKind) (x y : Int) : Int := k.wrap ((BitVec.ofInt k.bits x &&& ~~~ BitVec.ofInt k.bits y).toNat : Int)
def ishl (k : IntKind) (x n : Int) : Int := k.wrap (x * 2 ^ (min n.toNat k.bits))
def ishr (k : IntKind) (x n : Int) : Int := x.fdiv (2 ^ (min n.toNat k.bits))
def iconv (k : IntKind) (x : Int) : Int := k.wrap x
def imin (x y : Int) : Int := if y < x then y else x
/-! ### rows of numbers -/
abbrev Arr (n : Nat) := Vector Int n
def rd {n : Nat} (a : Arr n) (i : Int) : Int := a.toList.getD i.toNat 0
def wr {n : Nat} (a : Arr n) (i : Int) (x : Int) : Arr n := a.setIfInBounds i.toNat x
def enc {n : Nat} (k : IntKind) (a : Arr n) : List Value := a.toList.map (Value.int k)
def zeroA (n : Nat) : Arr n := Vector.replicate n 0
def strAt (l : List UInt8) (i : Int) : Int := (l.getD i.toNat 0).toNat
theorem enc_len {n : Nat} (k : IntKind) (a : Arr n) : (enc k a).length = n := by simp [enc]
theorem enc_one {n : Nat} (k : IntKind) (a : Arr n) : ∀ v ∈ enc k a, v.oneCell' = true := by
  intro v hv
  obtain ⟨x, _, rfl⟩ := List.mem_map.1 hv
  rfl
theorem enc_get {n : Nat} (k : IntKind) (a : Arr n) (x : Int) (_h0 : 0 ≤ x) (h1 : x < n) : (enc k a)[x.toNat]? = some (.int k (rd a x)) := by
  have hl : x.toNat < a.toList.length := by rw [Vector.length_toList]; omega
  simp only [enc, rd, List.getElem?_map, List.getD_eq_getElem?_getD, List.getElem?_eq_getElem hl, Option.map_some, Option.getD_some]
theorem enc_set {n : Nat} (k : IntKind) (a : Arr n) (x : Int) (v : Int) : (enc k a).set x.toNat (.int k v) = enc k (wr a x v) := by
  simp only [enc, wr, Vector.toList, Vector.toArray_setIfInBounds, Array.toList_setIfInBounds, List.map_set]
theorem enc_get' {n m : Nat} {pre post : List Value} (k : IntKind) (a : Arr n) (x : Int) (h0 : 0 ≤ x) (h1 : x < n) (hm : pre.length = m) : (pre ++ enc k a ++ post)[m + x.toNat]? = some (.int k (rd a x)) := by
  subst hm
  have hl : x.toNat < n := by omega
  rw [List.append_assoc, List.getElem?_append_right (by omega), Nat.add_sub_cancel_left, List.getElem?_append_left (by rw [enc_len]; exact hl)]
  exact enc_get k a x h0 h1
theorem enc_set' {n m : Nat} {pre post : List Value} (k : IntKind) (a : Arr n) (x : Int) (v : Int) (h0 : 0 ≤ x) (h1 : x < n) (hm : pre.length = m) : (pre ++ enc k a ++ post).set (m + x.toNat) (.int k v) = pre ++ enc k (wr a x v) ++ post := by
  subst hm
  have hl : x.toNat < n := by omega
  rw [List.append_assoc, List.set_append_right _ _ (by omega), Nat.add_sub_cancel_left, List.set_append_left _ _ (by rw [enc_len]; exact hl), enc_set, List.append_assoc]

/-! ### steps of the plain functions -/
theorem dt {p : Prop} [Decidable p] (h : p) : decide p = true := decide_eq_true h
theorem df {p : Prop} [Decidable p] (h : ¬ p) : decide p = false := decide_eq_false h
theorem et {x y : Int} (h : x = y) : (x == y) = true := beq_iff_eq.2 h
theorem ef {x y : Int} (h : ¬ x = y) : (x == y) = false := beq_eq_false_iff_ne.2 h
theorem nt {x y : Int} (h : ¬ x = y) : (x != y) = true := bne_iff_ne.2 h
theorem nf {x y : Int} (h : x = y) : (x != y) = false := by subst h; exact bne_self_eq_false x
theorem of_chk {α : Type} {p : Prop} [Decidable p] {A : Option α} {r : α} (h : (if p then A else none) = some r) : p ∧ A = some r := by
  split at h
  · exact ⟨‹_›, h⟩
  · cases h
theorem of_if {α : Type} {p : Prop} [Decidable p] {A B : Option α} {r : α} (h : (if p then A else B) = some r) : (p ∧ A = some r) ∨ (¬ p ∧ B = some r) := by
  split at h
  · exact .inl ⟨‹_›, h⟩
  · exact .inr ⟨‹_›, h⟩
theorem of_bind {α β : Type} {x : Option α} {f : α → Option β} {r : β} (h : x.bind f = some r) : ∃ y, x = some y ∧ f y = some r := by
  cases x with
  | none => cases h
  | some y => exact ⟨y, rfl, h⟩
theorem of_some {α : Type} {x y : α} (h : some x = some y) : x = y := Option.some.inj h

section
variable {P : Program} {ops : Array Oper} {K Kn : Act → World → Prop} {a a' : Act} {w w' : World} {i : Nat} {w0 : World} {X : List Nat} {L R : List Ent} {Q : Exit → Act → World → Prop}
theorem yld_b {b c : Bool} (hb : b = c) (h : ∀ w', (execAt ops i a).run P w' = .ok (.value (.bool b)) w') : Yld P ops Any i a w (.bool c) := by
  subst hb
  exact yld h
theorem yld_int {k : IntKind} {e x : Int} (hx : some e = some x) (h : ∀ w', (execAt ops i a).run P w' = .ok (.value (.int k e)) w') : Yld P ops Any i a w (.int k x) := by
  cases hx
  exact yld h

variable {r : Option Nat}
theorem wp_conv {c : Code} (ha : a = a') (h : c.wpIn (FR r) 0 P Q a' w) : c.wpIn (FR r) 0 P Q a w := ha ▸ h
theorem wp_cond_t {c : Operand} {x y : Code} (hc : a.eval c = .bool true) (h : x.wpIn (FR r) 0 P Q a w) : (Code.cond c x y).wpIn (FR r) 0 P Q a w := wpIn_cond_true hc h
theorem wp_cond_f {c : Operand} {x y : Code} (hc : a.eval c = .bool false) (h : y.wpIn (FR r) 0 P Q a w) : (Code.cond c x y).wpIn (FR r) 0 P Q a w := wpIn_cond_false hc h

theorem xskip (h : Q .normal a w) : Code.skip.wpIn (FR r) 0 P Q a w := wpIn_skip h
theorem xexit {id : Nat} (h : Q (.exit id) a w) : (Code.exit id).wpIn (FR r) 0 P Q a w := wpIn_exit h
theorem xret (h : Q .ret a w) : Code.ret.wpIn (FR r) 0 P Q a w := wpIn_ret h
theorem xblock {id : Nat} {c : Code} (h : c.wpIn (FR r) 0 P (Exit.inBlock id Q) a w) : (Code.block id c).wpIn (FR r) 0 P Q a w := wpIn_block h
theorem xseq_k {x y : Code} (h : ∀ K : Act → World → Prop, (∀ a w, y.wpIn (FR r) 0 P Q a w → K a w) → x.wpIn (FR r) 0 P (Exit.then K Q) a w) : (Code.seq x y).wpIn (FR r) 0 P Q a w := wpIn_seq_k h
theorem wpIn_loop_ghost {c : Code} (I : Nat → Act → World → Prop) (n₀ : Nat) (h₀ : I n₀ a w)
    (round : ∀ n a w, I n a w → c.wpIn (FR r) 0 P (Exit.then (fun a' w' => ∃ n', n' < n ∧ I n' a' w') Q) a w) : (Code.loop c).wpIn (FR r) 0 P Q a w := by
  refine wpIn_loop (fun a w => ∃ n, I n a w) (fun a w => leastOf (fun n => I n a w)) ⟨n₀, h₀⟩ ?_
  intro a w hI
  refine wpIn_mono (round _ a w (leastOf_spec hI).1) ?_
  intro e a' w' hq
  cases e with
  | normal =>
    obtain ⟨n', hlt, hI'⟩ := hq
    exact show (∃ n, I n a' w') ∧ leastOf (fun n => I n a' w') < leastOf (fun n => I n a w) from ⟨⟨n', hI'⟩, Nat.lt_of_le_of_lt ((leastOf_spec ⟨n', hI'⟩).2 n' hI') hlt⟩
  | exit id => exact hq
  | goto l => exact hq
  | ret => exact hq
  | panic c => exact hq
  | outgrown => exact hq
/-- a loop: by the number of rounds that the plain function has -/
theorem wp_loop_k {c : Code} (I : Nat → Act → World → Prop) (n : Nat) (h0 : I n a w)
    (round : ∀ n a w, I n a w → ∀ K : Act → World → Prop, (∀ a' w', (∃ n', n' < n ∧ I n' a' w') → K a' w') → c.wpIn (FR r) 0 P (Exit.then K Q) a w) : (Code.loop c).wpIn (FR r) 0 P Q a w := wpIn_loop_ghost I n h0 fun n a w h => round n a w h _ fun _ _ h => h

/-! what a function returns -/
def resS (tmps : Array Value) : ResultVar → Sem Value
  | .tmp t => pure (tmps.getD t undef)
  | .cell a t => do loadVar t (← asAddr (tmps.getD a undef))
def ResOK (P : Program) (tmps : Array Value) (w : World) (rv : ResultVar) (v : Value) : Prop := (resS tmps rv).run P w = .ok v w
inductive All2 {α β : Type} (r : α → β → Prop) : List α → List β → Prop
  | nil : All2 r [] []
  | cons {x : α} {y : β} {l : List α} {m : List β} (h : r x y) (t : All2 r l m) : All2 r (x :: l) (y :: m)
theorem run_mapM_res {tmps : Array Value} : ∀ (rs : List ResultVar) (vs : List Value), All2 (ResOK P tmps w) rs vs → (rs.mapM (resS tmps)).run P w = .ok vs w
  | [], _, h => by cases h; rfl
  | rv :: rs, _, h => by
    cases h with
    | cons h1 h2 =>
      rw [List.mapM_cons, rb h1, rb (run_mapM_res rs _ h2)]
      rfl
theorem results_eq (fn : Func) (tmps : Array Value) : results fn tmps = (do let vs ← fn.results.mapM (resS tmps); pure (if h : vs.size = 1 then vs[0] else .tuple vs)) := by
  unfold results
  congr
theorem run_results {fn : Func} {tmps : Array Value} (rs : List ResultVar) (vs : List Value) (hr : fn.results = rs.toArray) (h : All2 (ResOK P tmps w) rs vs) :
    (results fn tmps).run P w = .ok (if h : vs.toArray.size = 1 then vs.toArray[0] else .tuple vs.toArray) w := by
  have := run_mapM_res rs vs h
  rw [results_eq, hr, List.mapM_toArray, Sem.run_bind, Sem.run_map, this]
  rfl
theorem res_tmp {tmps : Array Value} {t : Tmp} {v : Value} (h : tmps.getD t undef = v) : ResOK P tmps w (.tmp t) v := by subst h; rfl
theorem res_cell1 {tmps : Array Value} {s b : Nat} {t T : TypeId} {c : List Value} {v : Value} (hs : St w0 X L R w) (j : Nat) (hj : L[j]? = some (.blk b c T)) (h : tmps.getD s undef = .pointer (some ⟨b, 0, none⟩))
    (hg : aggB P t = some false) (hv : c[0]? = some v) : ResOK P tmps w (.cell s t) v := by
  show ((do loadVar t (← asAddr (tmps.getD s undef)) : Sem Value)).run P w = _
  rw [h]
  exact run_loadVar1 (hs.blkAt j hj) hg hv
theorem res_cellN {tmps : Array Value} {s b n : Nat} {t T : TypeId} {c : List Value} (hs : St w0 X L R w) (j : Nat) (hj : L[j]? = some (.blk b c T)) (h : tmps.getD s undef = .pointer (some ⟨b, 0, none⟩))
    (hg : aggB P t = some true) (hn : szOf P t = some n) (hl : c.length = n) : ResOK P tmps w (.cell s t) (.agg c.toArray) := by
  show ((do loadVar t (← asAddr (tmps.getD s undef)) : Sem Value)).run P w = _
  rw [h]
  exact run_loadVarN (hs.blkAt j hj) hg hn (by rw [List.drop_zero, List.take_of_length_le (by omega)]) hl
/-- A call that returns v and leaves what was there. -/
def Ret (P : Program) (f : FuncId) (args : Array Value) (w : World) (v : Value) : Prop := Calls P f args w fun e w' => e = .returned v ∧ St w [] [] [] w'
theorem post_ret {fn : Func} {R' : Ending → World → Prop} {v : Value} (hd : a.defers = []) (h : (results fn a.tmps).run P w = .ok v w) (hR : R' (.returned v) w) : bodyPost P fn R' .ret a w := ⟨hd, v, h, hR⟩
theorem op_call {d : Option Tmp} (hd : dstAt ops i = d) {f : FuncId} {args : Array Value} {v : Value} (hs : St w0 X L R w) (he : ∀ w, (execAt ops i a).run P w = .ok (.enter f args) w) (c : Ret P f args w v)
    (k : ∀ w', Grow w w' → St w0 X L R w' → K (a.put d v) w') : wpOp P ops (NoP Kn) i K a w :=
  wpOp_call hd he c fun _ w' ⟨h1, h2⟩ => ⟨v, h1, k w' h2.grow (hs.grown h2)⟩
theorem St.reads {w0 w : World} {X : List Nat} {L R : List Ent} (h : St w0 X L R w) (j : Nat) {b : Nat} {c : List Value} {t : TypeId} (hj : L[j]? = some (.blk b c t)) : w.heap[b]? = some (.cells c.toArray t (0, 0)) := h.blkAt j hj

theorem of_if_t {α : Type} {A B : Option α} {r : α} (h : (if true = true then A else B) = some r) : A = some r := h
theorem of_if_f {α : Type} {A B : Option α} {r : α} (h : (if false = true then A else B) = some r) : B = some r := h
theorem then_n {N : Act → World → Prop} (h : N a w) : Exit.then N Q .normal a w := h
theorem then_x {N : Act → World → Prop} {id : Nat} (h : Q (.exit id) a w) : Exit.then N Q (.exit id) a w := h
theorem then_r {N : Act → World → Prop} (h : Q .ret a w) : Exit.then N Q .ret a w := h
theorem inBlock_n {id : Nat} (h : Q .normal a w) : Exit.inBlock id Q .normal a w := h
theorem inBlock_r {id : Nat} (h : Q .ret a w) : Exit.inBlock id Q .ret a w := h
theorem inBlock_hit {id : Nat} (h : Q .normal a w) : Exit.inBlock id Q (.exit id) a w := by
  show (if id = id then Q .normal a w else Q (.exit id) a w)
  rw [if_pos rfl]
  exact h
def ExQ (N : Act → World → Prop) (Q : Exit → Act → World → Prop) : Exit → Act → World → Prop
  | .normal, a, w => N a w
  | .ret, a, w => Q .ret a w
  | _, _, _ => False
theorem wp_exq {c : Code} {N : Act → World → Prop} (h : ∀ N' : Act → World → Prop, (∀ a w, N a w → N' a w) → c.wpIn (FR r) 0 P (ExQ N' Q) a w) (k : ∀ a w, N a w → Q .normal a w) : c.wpIn (FR r) 0 P Q a w :=
  wpIn_mono (h N fun _ _ h => h) fun e a w hq => by
    cases e <;> first | exact k a w hq | exact hq | exact hq.elim
theorem calls_k {f : FuncId} {fn : Func} {c : Code} {args : Array Value} {R' : Ending → World → Prop} (hf : P.funcs[f]? = some fn) (hb : fn.body = some c)
    (h : ∀ Q : Exit → Act → World → Prop, (∀ a w, bodyPost P fn R' .ret a w → Q .ret a w) → c.wpIn (FR none) 0 P Q { tmps := args ++ Array.replicate (fn.ntmps - args.size) undef, defers := [] } w) : Calls P f args w R' :=
  callsIn_wide.1 (callsIn_of_wp (n := 0) hf hb trivial (h _ fun _ _ h => h))
theorem wp_join {c : Code} {N : Act → World → Prop} (h : ∀ N' : Act → World → Prop, (∀ a w, N a w → N' a w) → c.wpIn (FR r) 0 P (NoP N') a w) (k : ∀ a w, N a w → Q .normal a w) : c.wpIn (FR r) 0 P Q a w :=
  wpIn_mono (h N fun _ _ h => h) (NoP.imp k)
theorem exq_n {N : Act → World → Prop} (h : N a w) : ExQ N Q .normal a w := h
theorem exq_r {N : Act → World → Prop} (h : Q .ret a w) : ExQ N Q .ret a w := h
theorem exg {T : (Nat → Value) → Act} (h : a = T (fun i => a.tmps.getD i undef)) : ∃ g : Nat → Value, a = T g := ⟨_, h⟩

/-! operations on numbers that ask something -/
theorem yld_quo {t : TypeId} {k : IntKind} {x y : Int} (he : execAt ops i a = nextV (do eqGuard .quo t (.const undef) (.const undef) (.int k x) (.int k y); Op.intDiv .quo k x y)) (h0 : ¬ y = 0) : Yld P ops Any i a w (.int k (iquo k x y)) := by
  refine yld fun w' => ?_
  rw [he]
  refine run_nextV ?_
  refine (rb (x := ()) (w' := w') rfl).trans ?_
  unfold Op.intDiv
  rw [if_neg h0]
  rfl
theorem yld_shl {t : TypeId} {k k' : IntKind} {x y : Int} (he : execAt ops i a = nextV (do eqGuard .shl t (.const undef) (.const undef) (.int k x) (.int k' y); Op.shift .shl k x k' y)) (h0 : 0 ≤ y) : Yld P ops Any i a w (.int k (ishl k x y)) := by
  refine yld fun w' => ?_
  rw [he]
  refine run_nextV ?_
  refine (rb (x := ()) (w' := w') rfl).trans ?_
  unfold Op.shift
  rw [if_neg (by omega)]
  rfl
theorem yld_shr {t : TypeId} {k k' : IntKind} {x y : Int} (he : execAt ops i a = nextV (do eqGuard .shr t (.const undef) (.const undef) (.int k x) (.int k' y); Op.shift .shr k x k' y)) (h0 : 0 ≤ y) : Yld P ops Any i a w (.int k (ishr k x y)) := by
  refine yld fun w' => ?_
  rw [he]
  refine run_nextV ?_
  refine (rb (x := ()) (w' := w') rfl).trans ?_
  unfold Op.shift
  rw [if_neg (by omega)]
  rfl

/-! an element of an array that is a value; of a constant text -/
theorem yld_at {t e : TypeId} {n : Nat} {k k' : IntKind} {b : Arr n} {x : Int} (he : execAt ops i a = nextV (Instr.index t (.agg (enc k b).toArray) (.int k' x))) (hu : P.underlying t = some (.array n e)) (hs : szOf P e = some 1) (hg : aggB P e = some false)
    (h0 : 0 ≤ x) (h1 : x < n) : Yld P ops Any i a w (.int k (rd b x)) := by
  refine yld fun w' => ?_
  rw [he]
  refine run_nextV ?_
  unfold Instr.index
  simp [asIntOf, run_underlying hu, h0, h1, run_sizeOf hs, part, run_isAgg hg, enc_get k b x h0 h1]
theorem yld_str {t : TypeId} {l : List UInt8} {k' : IntKind} {x : Int} (he : execAt ops i a = nextV (Instr.index t (.string ⟨l.toArray⟩) (.int k' x))) (hu : P.underlying t = some .string)
    (h0 : 0 ≤ x) (h1 : x < l.length) : Yld P ops Any i a w (.int .u8 (strAt l x)) := by
  refine yld fun w' => ?_
  rw [he]
  refine run_nextV ?_
  unfold Instr.index
  have hl : x.toNat < l.length := by omega
  have hg : (ByteArray.mk l.toArray)[x.toNat]? = some l[x.toNat] := by
    rw [getElem?_pos _ _ (by show x.toNat < l.toArray.size; simpa using hl)]
    rfl
  simp [asIntOf, run_underlying hu, h0, hg, strAt, List.getD_eq_getElem?_getD, List.getElem?_eq_getElem hl]

/-! rows of numbers in blocks -/
theorem yld_loadA {ρ : World → World → Prop} {n : Nat} (hs : St w0 X L R w) (j : Nat) {b : Nat} {t e : TypeId} {k : IntKind} {c : Arr n} {x : Int} (hj : L[j]? = some (.blk b (enc k c) t)) (he : execAt ops i a = nextV (Instr.loadAt e (.pointer (some ⟨b, 0 + x.toNat * 1, none⟩))))
    (hg : aggB P e = some false) (h0 : 0 ≤ x) (h1 : x < n) (hB : Bears ρ w b) : Yld P ops ρ i a w (.int k (rd c x)) :=
  yld_load1 hs j hj he hg (by rw [Nat.zero_add, Nat.mul_one]; exact enc_get k c x h0 h1) hB
theorem yld_loadP {ρ : World → World → Prop} {n m : Nat} (hs : St w0 X L R w) (j : Nat) {b : Nat} {t e : TypeId} {k : IntKind} {pre post : List Value} {c : Arr n} {x : Int} (hj : L[j]? = some (.blk b (pre ++ enc k c ++ post) t)) (he : execAt ops i a = nextV (Instr.loadAt e (.pointer (some ⟨b, m + x.toNat * 1, none⟩))))
    (hg : aggB P e = some false) (h0 : 0 ≤ x) (h1 : x < n) (hm : pre.length = m) (hB : Bears ρ w b) : Yld P ops ρ i a w (.int k (rd c x)) :=
  yld_load1 hs j hj he hg (by rw [Nat.mul_one]; exact enc_get' k c x h0 h1 hm) hB
theorem yld_loadW {ρ : World → World → Prop} (hs : St w0 X L R w) (j : Nat) {b n : Nat} {c : List Value} {t e : TypeId} (hj : L[j]? = some (.blk b c t)) (he : execAt ops i a = nextV (Instr.loadAt e (.pointer (some ⟨b, 0, none⟩))))
    (hg : aggB P e = some true) (hn : szOf P e = some n) (hl : c.length = n) (hB : Bears ρ w b) : Yld P ops ρ i a w (.agg c.toArray) :=
  yld_loadN hs j hj he hg hn (by rw [List.drop_zero, List.take_of_length_le (by omega)]) hl hB
theorem op_storeA {d : Option Tmp} (hd : dstAt ops i = d) {n : Nat} {t : TypeId} {v : Int} {b : Nat} {c : Arr n} {T : TypeId} {k : IntKind} {x : Int} (hs : St w0 X L R w) (j : Nat) (hj : L[j]? = some (.blk b (enc k c) T)) (he : execAt ops i a = nextU (Instr.storeAt t (.pointer (some ⟨b, 0 + x.toNat * 1, none⟩)) (.int k v)))
    (hn : szOf P t = some 1) (h0 : 0 ≤ x) (h1 : x < n) (K' : ∀ w', Keep (fun k => k = b) w w' → St w0 X (L.set j (.blk b (enc k (wr c x v)) T)) R w' → K (a.put d undef) w') : wpOp P ops (NoP Kn) i K a w := by
  refine op_store1 hd hs j hj he rfl hn (by rw [enc_len]; omega) fun w' hk h => K' w' hk ?_
  rw [Nat.zero_add, Nat.mul_one, enc_set] at h
  exact h
theorem op_storeP {d : Option Tmp} (hd : dstAt ops i = d) {n m : Nat} {t : TypeId} {v : Int} {b : Nat} {pre post : List Value} {c : Arr n} {T : TypeId} {k : IntKind} {x : Int} (hs : St w0 X L R w) (j : Nat) (hj : L[j]? = some (.blk b (pre ++ enc k c ++ post) T)) (he : execAt ops i a = nextU (Instr.storeAt t (.pointer (some ⟨b, m + x.toNat * 1, none⟩)) (.int k v)))
    (hn : szOf P t = some 1) (h0 : 0 ≤ x) (h1 : x < n) (hm : pre.length = m) (K' : ∀ w', Keep (fun k => k = b) w w' → St w0 X (L.set j (.blk b (pre ++ enc k (wr c x v) ++ post) T)) R w' → K (a.put d undef) w') : wpOp P ops (NoP Kn) i K a w := by
  refine op_store1 hd hs j hj he rfl hn (by simp only [List.length_append, enc_len]; omega) fun w' hk h => K' w' hk ?_
  rw [Nat.mul_one, enc_set' k c x v h0 h1 hm] at h
  exact h
theorem op_storeW {d : Option Tmp} (hd : dstAt ops i = d) {n : Nat} {t : TypeId} {v : Value} {b : Nat} {c vs : List Value} {T : TypeId} (hs : St w0 X L R w) (j : Nat) (hj : L[j]? = some (.blk b c T)) (he : execAt ops i a = nextU (Instr.storeAt t (.pointer (some ⟨b, 0, none⟩)) v))
    (hc : v.cells = vs.toArray) (hn : szOf P t = some n) (hv : vs.length = n) (hl : c.length = n) (hone : ∀ u ∈ vs, u.oneCell' = true)
    (k : ∀ w', Keep (fun k => k = b) w w' → St w0 X (L.set j (.blk b vs T)) R w' → K (a.put d undef) w') : wpOp P ops (NoP Kn) i K a w := by
  subst hv
  refine op_storeN hd hs j hj he hc hn (by omega) hone fun w' hk h => k w' hk ?_
  unfold splice at h
  rw [List.take_zero, List.nil_append, Nat.zero_add, ← hl, List.drop_length, List.append_nil] at h
  exact h
theorem op_callB {d : Option Tmp} (hd : dstAt ops i = d) {f : FuncId} {args : Array Value} {v : Nat → Value} {L' : Nat → List Ent} (hs : St w0 X L R w) (he : ∀ w, (execAt ops i a).run P w = .ok (.enter f args) w)
    (c : Calls P f args w fun e w' => ∃ b, e = .returned (v b) ∧ St w [] (L' b) [] w') (k : ∀ b w', Grow w w' → St w0 X (L' b ++ L) R w' → K (a.put d (v b)) w') : wpOp P ops (NoP Kn) i K a w :=
  wpOp_call hd he c fun _ w' ⟨b, h1, h2⟩ => ⟨v b, h1, k b w' ⟨h2.os, h2.tape, h2.output, h2.size, fun k hk => h2.block k hk (by simp)⟩ (hs.grown h2)⟩

/-! '==' of rows of numbers -/
theorem run_equalIn_int {d : Nat} {t : TypeId} {k : IntKind} {x y : Int} (hu : P.underlying t = some (.int k)) : (Op.equalIn (d + 1) t (.int k x) (.int k y)).run P w = .ok (x == y) w := by
  unfold Op.equalIn
  rw [rb (run_underlying hu w)]
  simp
theorem run_part1 {e : TypeId} {c : Array Value} {o : Nat} {v : Value} (hg : aggB P e = some false) (hv : c[o]? = some v) : (part e c o).run P w = .ok v w := by
  unfold part
  rw [rb (run_isAgg hg)]
  simp [hv]
end
end Go.Mx
