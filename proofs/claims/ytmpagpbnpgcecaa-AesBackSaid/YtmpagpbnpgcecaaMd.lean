/- Own library of this work (22): rows of which the beginning alone is known; bytes as strings. -/
import Derived.Test.YtmpagpbnpgcecaaMa
import Derived.Lib.MakeNoZero
import Derived.Laws.Externs
import Derived.Laws.BytesString
set_option linter.unusedSimpArgs false
set_option linter.unusedVariables false
namespace Go.Mx
open Go.RowKit
section
variable {T : Type} {C : Cod T} {P : Program} {ops : Array Oper} {K Kn : Act → World → Prop} {a : Act} {w w' : World} {i : Nat} {w0 : World} {X : List Nat} {L R : List Ent}
/-- A block of at least n elements, of which the first are l. -/
def Ent.known (C : Cod T) (b n : Nat) (l : List T) (e : TypeId) : Ent where
  foot := fun k => k = b
  p := fun w => ∃ vs : List Value, n * C.size ≤ (encL C l ++ vs).length ∧ w.heap[b]? = some (.cells (encL C l ++ vs).toArray e (0, 0))
  loc := fun _ _ h hp => by obtain ⟨vs, h1, h2⟩ := hp; exact ⟨vs, h1, (h b rfl).trans h2⟩
theorem op_noZero {d : Option Tmp} (hd : dstAt ops i = d) {f t e : Nat} {fn : Func} {ps : Array TypeId} {x : Int} (hs : St w0 X L R w) (he : ∀ w, (execAt ops i a).run P w = (callFunc f #[.int .i64 x]).run P w) (hf : P.funcs[f]? = some fn) (hname : (fn.name == "runtime.NumGoroutine") = false)
    (hb : fn.body.isNone = true) (hn : Extern.findNext fn = none) (hx : Extern.find fn = some (Extern.BytealgMakeNoZero.makeNoZero ps #[t])) (hu : P.underlying t = some (.slice e)) (h0 : 0 ≤ x) (h1 : x ≤ 140737488355328)
    (kk : ∀ (b c : Nat) w', Grow w w' → x.toNat ≤ c → St w0 X (.known (CI .u8) b x.toNat [] e :: L) R w' → K (a.put d (.slice (some ⟨b, 0, none⟩) x.toNat c)) w') : wpOp P ops (NoP Kn) i K a w := by
  obtain ⟨n, rfl⟩ := Int.eq_ofNat_of_zero_le h0
  rw [Int.toNat_natCast] at kk
  obtain ⟨cs, hr, hle, _⟩ := Lib.run_makeNoZero (P := P) w ps t e hu n (by omega)
  have hg : Grow w (w.drew.drew.alloc (.cells cs e)) := ⟨rfl, rfl, rfl, by simp, fun q hq => heap_alloc_old w.drew.drew _ hq⟩
  refine wpOp_val hd (w' := w.drew.drew.alloc (.cells cs e)) ?_ (kk w.heap.size cs.size _ hg hle ?_)
  · rw [he, run_callFunc_extern hf hname hb hn hx, hr]
    rfl
  · refine hs.grown (L' := [.known (CI .u8) w.heap.size n [] e]) ⟨rfl, rfl, rfl, by simp, fun k hk _ => heap_alloc_old w.drew.drew _ hk, fun e' he' => ?_, .cons (fun _ h => (by cases h)) .nil, fun _ h => (by cases h)⟩
    obtain rfl := List.mem_singleton.1 he'
    refine ⟨⟨cs.toList, ?_, ?_⟩, fun b hb => ?_⟩
    · show n * 1 ≤ (([] : List Value) ++ cs.toList).length
      simpa using hle
    · have h2 : (w.drew.drew.alloc (.cells cs e)).heap[w.heap.size]? = some (.cells cs e (0, 0)) := heap_alloc_new w.drew.drew _
      rw [h2]
      simp [encL]
    · obtain rfl : b = w.heap.size := hb
      exact ⟨by simp, .inr (Nat.le_refl _)⟩
theorem St.knownAt (h : St w0 X L R w) (j : Nat) {b n e : Nat} {l : List T} (hj : L[j]? = some (.known C b n l e)) : ∃ vs : List Value, n * C.size ≤ (encL C l ++ vs).length ∧ w.heap[b]? = some (.cells (encL C l ++ vs).toArray e (0, 0)) := (h.own _ (List.mem_of_getElem? hj)).1
/-- what is known of it, as a slice that is read -/
theorem St.rowW (h : St w0 X L R w) (j : Nat) {b n e c : Nat} {l : List T} {x : Int} (hj : L[j]? = some (.known C b n l e)) (h0 : 0 ≤ x) (h1 : x ≤ l.length) (hc : x.toNat ≤ c) : RowL C w (some ⟨b, 0, Option.none⟩) x.toNat c (l.take x.toNat) := by
  obtain ⟨vs, _, hb⟩ := h.knownAt j hj
  refine ⟨by rw [encL_len, List.length_take, Nat.min_eq_left (by omega)], ⟨hc, fun h => by cases h⟩, .inr ⟨b, 0, _, _, _, rfl, hb, fun q u hq => ?_⟩⟩
  rw [encL_take, List.getElem?_take] at hq
  split at hq
  · rw [Nat.zero_add, List.getElem?_toArray]
    obtain ⟨hl, hx⟩ := List.getElem?_eq_some_iff.1 hq
    rw [List.getElem?_append_left hl]
    exact hq
  · cases hq
/-- all is known: it is only read from here on -/
theorem St.knownRow (h : St w0 X L R w) (j : Nat) {b n e c : Nat} {l : List T} (hj : L[j]? = some (.known C b n l e)) (hn : n = l.length) (hc : n ≤ c) : St w0 X (L.set j (.rowL C (some ⟨b, 0, Option.none⟩) n c l)) R w := by
  have h1 := h.rowW (x := (l.length : Int)) (c := c) j hj (by omega) (by omega) (by rw [Int.toNat_natCast, ← hn]; exact hc)
  rw [Int.toNat_natCast, List.take_length, ← hn] at h1
  exact h.weaken j hj h1 (by rintro b' ⟨_, x, hx, rfl⟩; obtain rfl := Option.some.inj hx; rfl)
/-- slices of a slice, whatever stands in it -/
theorem yld_sl {t e n n' c c' sz : Nat} {A A' : Option Addr} {low high : Option Value} {lo hi : Int} (he : execAt ops i a = nextV (Instr.sliceAt t (.slice A n c) low high none)) (hu : P.underlying t = some (.slice e)) (hs : szOf P e = some sz)
    (hlo : (low = none ∧ lo = 0) ∨ ∃ k, low = some (.int k lo)) (hhi : (high = none ∧ hi = (n : Int)) ∨ ∃ k, high = some (.int k hi)) (h0 : 0 ≤ lo) (h1 : lo ≤ hi) (h2 : hi ≤ n) (hnc : n ≤ c)
    (hA : A' = if c = lo.toNat then A else adr A (lo.toNat * sz)) (hn : n' = hi.toNat - lo.toNat) (hc : c' = c - lo.toNat) : Yld P ops Any i a w (.slice A' n' c') := by
  refine yld fun w' => ?_
  rw [he]
  refine run_nextV ?_
  unfold Instr.sliceAt
  simp only [run_underlying hu, Sem.run_bind, Result.andThen]
  unfold Instr.slice
  simp only [run_underlying hu, Sem.run_bind, Result.andThen, run_bounds hlo hhi h0 h1 h2 hnc, run_sizeOf hs, Sem.run_pure, hA, hn, hc]
  rfl
theorem yld_cap {t e n c sz b : Nat} {kh km : IntKind} {x : Int} (he : execAt ops i a = nextV (Instr.sliceAt t (.slice (some ⟨b, 0, none⟩) n c) none (some (.int kh x)) (some (.int km x)))) (hu : P.underlying t = some (.slice e)) (hs : szOf P e = some sz) (h0 : 0 ≤ x) (h1 : x.toNat ≤ c) :
    Yld P ops Any i a w (.slice (some ⟨b, 0, none⟩) x.toNat x.toNat) := by
  refine yld fun w' => ?_
  rw [he]
  refine run_nextV ?_
  have hA : (some ⟨b, 0, none⟩ : Option Addr) = if x.toNat = (0 : Int).toNat then some ⟨b, 0, none⟩ else adr (some ⟨b, 0, none⟩) ((0 : Int).toNat * sz) := by
    split
    · rfl
    · simp [adr_zero]
  have hv : Value.slice (some ⟨b, 0, none⟩) x.toNat x.toNat = .slice (if x.toNat = (0 : Int).toNat then some ⟨b, 0, none⟩ else adr (some ⟨b, 0, none⟩) ((0 : Int).toNat * sz)) (x.toNat - (0 : Int).toNat) (x.toNat - (0 : Int).toNat) := by
    rw [← hA]
    simp
  rw [hv]
  unfold Instr.sliceAt
  simp only [run_underlying hu, Sem.run_bind, Result.andThen]
  unfold Instr.slice
  simp only [run_underlying hu, Sem.run_bind, Result.andThen, run_bounds3 (low := none) (lo := 0) (hi := x) (mx := x) (.inl ⟨rfl, rfl⟩) ⟨_, rfl⟩ (by omega) h0 (Int.le_refl _) (show x ≤ (c : Int) by omega), run_sizeOf hs, Sem.run_pure]
  rfl
theorem yld_dst {t e n b : Nat} {k : IntKind} {lo : Int} (he : execAt ops i a = nextV (Instr.sliceAt t (.slice (some ⟨b, 0, none⟩) n n) (some (.int k lo)) none none)) (hu : P.underlying t = some (.slice e)) (hs : szOf P e = some 1) (h0 : 0 ≤ lo) (h1 : lo < n) :
    Yld P ops Any i a w (.slice (some ⟨b, lo.toNat, none⟩) (n - lo.toNat) (n - lo.toNat)) := by
  refine yld_sl (lo := lo) (hi := (n : Int)) he hu hs (.inr ⟨_, rfl⟩) (.inl ⟨rfl, rfl⟩) h0 (by omega) (Int.le_refl _) (Nat.le_refl _) ?_ (by omega) rfl
  rw [if_neg (by omega)]
  simp [adr, add_plain]
theorem yld_src {t e n c b sz : Nat} {k : IntKind} {hi : Int} (he : execAt ops i a = nextV (Instr.sliceAt t (.slice (some ⟨b, 0, none⟩) n c) none (some (.int k hi)) none)) (hu : P.underlying t = some (.slice e)) (hs : szOf P e = some sz) (h0 : 0 ≤ hi) (h1 : hi ≤ n) (hnc : n ≤ c) :
    Yld P ops Any i a w (.slice (some ⟨b, 0, none⟩) hi.toNat c) := by
  refine yld_sl (lo := 0) (hi := hi) he hu hs (.inl ⟨rfl, rfl⟩) (.inr ⟨_, rfl⟩) (by omega) h0 h1 hnc ?_ (by simp) (by simp)
  simp [adr_zero]
theorem op_copyW {d : Option Tmp} (hd : dstAt ops i = d) {td ts ty e b n n1 c1 nx cx : Nat} {k : IntKind} {l m : List Int} {A1 Ax : Option Addr} (hs : St w0 X L R w) (j : Nat) (hj : L[j]? = some (.known (CI k) b n l e)) (hr : RowL (CI k) w Ax nx cx m) (hA1 : A1 = some ⟨b, l.length, none⟩) (hv : l.length + n1 ≤ n)
    (he : execAt ops i a = nextV (Builtin.copy_ #[td, ts] ty #[.slice A1 n1 c1, .slice Ax nx cx])) (hu : P.underlying td = some (.slice e)) (hsz : szOf P e = some 1)
    (KK : ∀ w', Keep (fun k => k = b) w w' → St w0 X (L.set j (.known (CI k) b n (l ++ m.take n1) e)) R w' → K (a.put d (.int .i64 ((min m.length n1 : Nat) : Int))) w') : wpOp P ops (NoP Kn) i K a w := by
  subst hA1
  obtain ⟨vs, hvs, hb0⟩ := hs.knownAt j hj
  have hnx := hr.length
  have hs1 : (CI k).size = 1 := rfl
  have hll : (encL (CI k) l).length = l.length := by rw [encL_len]; exact Nat.mul_one _
  rw [List.length_append, hll, hs1, Nat.mul_one] at hvs
  have hlen : (m.take n1).length = min m.length n1 := by rw [List.length_take]; omega
  have hel : (encL (CI k) (m.take n1)).length = min nx n1 := by
    rw [encL_len, hlen, hnx]
    exact Nat.mul_one _
  obtain ⟨w2, hr2, hb, q1, q2, q3, q4, q5⟩ := run_storeCells (P := P) (b := b) (t := e) (o := l.length) (encL (CI k) (m.take n1)) 0 (encL (CI k) l ++ vs) w hb0 (by rw [hel, List.length_append, hll]; omega) (encL_one _ _)
  have hsp : splice (encL (CI k) l ++ vs) (l.length + 0) (encL (CI k) (m.take n1)) = encL (CI k) (l ++ m.take n1) ++ vs.drop (encL (CI k) (m.take n1)).length := by
    unfold splice
    rw [Nat.add_zero, encL_append, List.take_left' hll, ← hll, List.drop_length_add_append]
  rw [hsp] at hb
  have hrun : (Builtin.copy_ #[td, ts] ty #[.slice (some ⟨b, l.length, none⟩) n1 c1, .slice Ax nx cx]).run P w = .ok (.int .i64 ((min m.length n1 : Nat) : Int)) w2 := by
    have hmin : Nat.min nx n1 = min m.length n1 := by rw [hnx]
    have hfc : (Builtin.firstCells 1 (Nat.min nx n1) (.slice Ax nx cx)).run P w = .ok (encL (CI k) (m.take n1)).toArray w := by
      cases Ax with
      | none =>
        have h5 := hr.2.1.2 rfl
        have h6 : m = [] := List.eq_nil_of_length_eq_zero (by have := hr.2.1.1; omega)
        subst h6
        simp [Builtin.firstCells, encL]
      | some ad =>
        exact run_firstCells_some (P := P) (w := w) 1 (Nat.min nx n1) ad nx cx (encL (CI k) (m.take n1)) (by rw [hel, Nat.mul_one]) fun q v hq => by
          rw [encL_take, List.getElem?_take] at hq
          split at hq
          · obtain ⟨b2, o2, cs2, T2, fz2, hA2, hh2, hc2⟩ := hr.cell hq
            obtain rfl := Option.some.inj hA2
            rw [add_plain]
            simp [World.cell?, hh2, hc2]
          · cases hq
    unfold Builtin.copy_
    simp only [List.getElem?_toArray, List.getElem?_cons_zero, List.getElem?_cons_succ, run_underlying hu, Sem.run_bind, Result.andThen, Builtin.lenOf, Sem.run_pure, run_sizeOf hsz, hfc, hr2]
    rw [← hmin]
    rfl
  have hfb := (hs.own _ (List.mem_of_getElem? hj)).2 b rfl
  refine wpOp_val hd (w' := w2) ?_ (KK w2 (fun x o hx ho => (q5 x hx).trans ho) (hs.entSet j hj q1 q2 q3 (Nat.le_of_eq q4.symm) (fun x _ hx => q5 x hx) ⟨_, ?_, hb⟩ fun x hx => ?_))
  · rw [he]
    exact run_nextV hrun
  · rw [List.length_append, List.length_drop, encL_append, List.length_append, hll, hel, hs1]
    omega
  · obtain rfl : x = b := hx
    exact ⟨by rw [q4]; exact hfb.1, .inl rfl⟩
/-! ### bytes as a string -/
def strL (l : List Int) : ByteArray := l.foldl (fun r n => r.push (UInt8.ofNat n.toNat)) ByteArray.empty
theorem encL_u8 (l : List Int) : encL (CI .u8) l = l.map (Value.int .u8) := by
  induction l with
  | nil => rfl
  | cons y m ih => rw [encL_cons, ih]; rfl
theorem yld_conv {src dst e n c : Nat} {A : Option Addr} {l : List Int} (hr : RowL (CI .u8) w A n c l) (he : execAt ops i a = nextV (convert src dst (.slice A n c))) (h1 : P.underlying src = some (.slice e)) (h2 : P.underlying e = some (.int .u8)) (h3 : P.underlying dst = some .string) : Yld P ops Grow i a w (.string (strL l)) := by
  intro w' g
  rw [he]
  refine run_nextV ?_
  rw [run_convert_bytes_string w' src dst e A n c h1 h2 h3]
  have hr' : RowL (CI .u8) w' A n c l := (Ent.rowL (CI .u8) A n c l).loc w w' (fun b hb => g.block b (RowP.foot_lt hr b hb)) hr
  have hn := RowL.length (C := CI .u8) hr'
  cases A with
  | none =>
    have h5 := hr'.2.1.2 rfl
    have h6 : l = [] := List.eq_nil_of_length_eq_zero (by have := hr'.2.1.1; omega)
    subst h6
    rfl
  | some ad =>
    refine run_bytesToString w' ad n c l ?_
    have := run_firstCells_some (P := P) (w := w') 1 n ad n c (encL (CI .u8) l) (by rw [encL_len, hn]; rfl) fun q v hq => by
      obtain ⟨b2, o2, cs2, T2, fz2, hA2, hh2, hc2⟩ := hr'.cell hq
      obtain rfl := Option.some.inj hA2
      rw [add_plain]
      simp [World.cell?, hh2, hc2]
    rw [encL_u8] at this
    have e1 : Builtin.firstCells 1 n (.slice (some ad) n c) = loadCells ad n := by
      show loadCells ad (n * 1) = _
      rw [Nat.mul_one]
    rw [e1] at this
    exact this
end
end Go.Mx
