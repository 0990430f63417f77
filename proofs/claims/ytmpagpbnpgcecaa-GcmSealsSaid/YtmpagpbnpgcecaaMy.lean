/- Own library of this work (20): parts with room, arrays out of slices and slices of arrays, copy, rows that are owned and only read. -/
import Derived.Test.YtmpagpbnpgcecaaMv
set_option linter.unusedSimpArgs false
set_option linter.unusedVariables false
namespace Go.Mx
open Go.RowKit
section
variable {T : Type} {C : Cod T} {P : Program} {ops : Array Oper} {K Kn : Act → World → Prop} {a : Act} {w w' : World} {i : Nat} {w0 : World} {X : List Nat} {L R : List Ent}
/-! ### a part with room -/
theorem RowL.sub3 {A A' : Option Addr} {n n' c c' : Nat} {l : List T} {lo hi mx : Int} (hr : RowL C w A n c l) (h0 : 0 ≤ lo) (h1 : lo ≤ hi) (h2 : hi ≤ mx) (h3 : mx ≤ l.length) (hA : A' = if mx.toNat = lo.toNat then A else adr A (lo.toNat * C.size)) (hn : n' = hi.toNat - lo.toNat) (hc : c' = mx.toNat - lo.toNat) :
    RowL C w A' n' c' (subL l lo hi) ∧ ∀ b, (Ent.rowL C A' n' c' (subL l lo hi)).foot b → (Ent.rowL C A n c l).foot b := by
  have hnl := hr.length
  by_cases hcl : mx.toNat = lo.toNat
  · have e : subL l lo hi = [] := by
      unfold subL
      exact sub_nil _ _ _ (by omega)
    rw [e]
    refine ⟨⟨by rw [encL_len, List.length_nil, Nat.zero_mul, hn, show hi.toNat - lo.toNat = 0 by omega, Nat.zero_mul], ⟨by omega, fun _ => by omega⟩, .inl rfl⟩, fun b hb => absurd rfl hb.1⟩
  · rw [if_neg hcl] at hA
    have hcc : ¬ c = lo.toNat := by have := hr.2.1.1; omega
    have hA2 : A' = if c = lo.toNat then A else adr A (lo.toNat * C.size) := by rw [if_neg hcc]; exact hA
    have h := RowL.sub (c' := c - lo.toNat) hr h0 h1 (by omega) hA2 hn rfl
    have hf := sub_foot (c' := c - lo.toNat) (n' := n') (hi := hi) hr hA2
    refine ⟨⟨h.1, ⟨by omega, fun hnone => ?_⟩, h.2.2⟩, hf⟩
    have := h.2.1.2 hnone
    have := hr.2.1.1
    omega
theorem run_bounds3 {low high : Option Value} {lo hi mx : Int} {n c : Nat} {k : IntKind} (hlo : (low = none ∧ lo = 0) ∨ ∃ k, low = some (.int k lo)) (hhi : ∃ k, high = some (.int k hi)) (h0 : 0 ≤ lo) (h1 : lo ≤ hi) (h2 : hi ≤ mx) (h3 : mx ≤ c) :
    (Instr.sliceBounds true n c low high (some (.int k mx))).run P w = .ok (lo.toNat, hi.toNat, mx.toNat) w := by
  unfold Instr.sliceBounds
  have b0 : ∀ code, (Instr.sliceBound (.int k mx) c code).run P w = .ok mx.toNat w := fun code => run_bound (by omega) (by omega)
  have b1 : ∀ k code, (Instr.sliceBound (.int k hi) mx.toNat code).run P w = .ok hi.toNat w := fun k code => run_bound (by omega) (by omega)
  have b2 : ∀ k code, (Instr.sliceBound (.int k lo) hi.toNat code).run P w = .ok lo.toNat w := fun k code => run_bound h0 (by omega)
  obtain ⟨k2, rfl⟩ := hhi
  rcases hlo with ⟨rfl, rfl⟩ | ⟨k1, rfl⟩
  · simp [Sem.run_bind, Result.andThen, b0, b1]
  · simp [Sem.run_bind, Result.andThen, b0, b1, b2]
theorem yld_sub3 {t e n n' c c' : Nat} {A A' : Option Addr} {l : List T} {low high : Option Value} {lo hi mx : Int} {k : IntKind} (hr : RowL C w A n c l) (he : execAt ops i a = nextV (Instr.sliceAt t (.slice A n c) low high (some (.int k mx)))) (hu : P.underlying t = some (.slice e)) (hs : szOf P e = some C.size)
    (hlo : (low = none ∧ lo = 0) ∨ ∃ k, low = some (.int k lo)) (hhi : ∃ k, high = some (.int k hi)) (h0 : 0 ≤ lo) (h1 : lo ≤ hi) (h2 : hi ≤ mx) (h3 : mx ≤ l.length)
    (hA : A' = if mx.toNat = lo.toNat then A else adr A (lo.toNat * C.size)) (hn : n' = hi.toNat - lo.toNat) (hc : c' = mx.toNat - lo.toNat) : Yld P ops Any i a w (.slice A' n' c') := by
  refine yld fun w' => ?_
  rw [he]
  refine run_nextV ?_
  have hnl := hr.length
  have hnc := hr.2.1.1
  unfold Instr.sliceAt
  simp only [run_underlying hu, Sem.run_bind, Result.andThen]
  unfold Instr.slice
  simp only [run_underlying hu, Sem.run_bind, Result.andThen, run_bounds3 hlo hhi h0 h1 h2 (show mx ≤ (c : Int) by omega), run_sizeOf hs, Sem.run_pure, hA, hn, hc]
  rfl
theorem St.addSub3 (h : St w0 X L R w) (j : Nat) {A A' : Option Addr} {n n' c c' : Nat} {l : List T} {lo hi mx : Int} (hj : R[j]? = some (.rowL C A n c l)) (h0 : 0 ≤ lo) (h1 : lo ≤ hi) (h2 : hi ≤ mx) (h3 : mx ≤ l.length) (hA : A' = if mx.toNat = lo.toNat then A else adr A (lo.toNat * C.size)) (hn : n' = hi.toNat - lo.toNat) (hc : c' = mx.toNat - lo.toNat) :
    St w0 X L (.rowL C A' n' c' (subL l lo hi) :: R) w := by
  have hm := List.mem_of_getElem? hj
  obtain ⟨g1, g2⟩ := RowL.sub3 (h.rowR j hj) h0 h1 h2 h3 hA hn hc
  exact h.addRow g1 fun e he b hb => ((h.read _ hm).2 b (g2 b hb)).2 e he
/-! ### an array out of a slice -/
def arrL (n : Nat) (l : List Int) : Arr n := Vector.ofFn fun i : Fin n => l.getD i 0
theorem enc_arrL {n : Nat} (k : IntKind) (l : List Int) (h : n ≤ l.length) : enc k (arrL n l) = (encL (CI k) l).take n := by
  have e : ∀ m : List Int, encL (CI k) m = m.map (Value.int k) := fun m => by
    induction m with
    | nil => rfl
    | cons y m ih => rw [encL_cons, ih]; rfl
  rw [e]
  apply List.ext_getElem?
  intro j
  by_cases hj : j < n
  · have h1 := enc_get k (arrL n l) (j : Int) (by omega) (by omega)
    rw [Int.toNat_natCast] at h1
    have h2 : rd (arrL n l) (j : Int) = l[j]'(by omega) := by
      rw [show rd (arrL n l) (j : Int) = l.getD j 0 by simp [rd, arrL, List.getD_eq_getElem?_getD, hj], List.getD_eq_getElem?_getD, List.getElem?_eq_getElem (by omega)]
      rfl
    rw [h1, h2, List.getElem?_take, if_pos hj, List.getElem?_map, List.getElem?_eq_getElem (by omega)]
    rfl
  · rw [List.getElem?_eq_none (by rw [enc_len]; omega), List.getElem?_take, if_neg hj]
theorem row_arr {n m c : Nat} {k : IntKind} {A : Option Addr} {l : List Int} (hn : 0 < n) (hr : RowL (CI k) w A m c l) (h : n ≤ l.length) : (∃ b o, A = some ⟨b, o, none⟩) ∧ RowL (CA k n hn) w A 1 1 [arrL n l] := by
  have hl := encL_len (CI k) l
  have hne : ¬ encL (CI k) l = [] := fun e => by rw [e] at hl; simp [CI] at hl; omega
  have he : encL (CA k n hn) [arrL n l] = (encL (CI k) l).take n := by
    show enc k (arrL n l) ++ [] = _
    rw [List.append_nil, enc_arrL k l h]
  rcases hr.2.2 with h3 | ⟨b, o, cs, T', fz, rfl, hh, hc⟩
  · exact absurd h3 hne
  · refine ⟨⟨b, o, rfl⟩, ?_, ⟨Nat.le_refl _, fun h => by cases h⟩, .inr ⟨b, o, cs, T', fz, rfl, hh, fun j u hj => ?_⟩⟩
    · rw [encL_len]; rfl
    · rw [he, List.getElem?_take] at hj
      split at hj
      · exact hc j u hj
      · cases hj
theorem yld_loadArr {e n m c : Nat} {k : IntKind} {A : Option Addr} {l : List Int} (hn : 0 < n) (hr : RowL (CI k) w A m c l) (h : n ≤ l.length) (he : execAt ops i a = nextV (Instr.loadAt e (.pointer A))) (hg : aggB P e = some true) (hsz : szOf P e = some n) :
    Yld P ops Grow i a w (.agg (enc k (arrL n l)).toArray) := by
  obtain ⟨⟨b, o, rfl⟩, hr'⟩ := row_arr hn hr h
  have e1 : adr (some ⟨b, o, none⟩) ((0 : Int).toNat * (CA k n hn).size) = some ⟨b, o, none⟩ := by simp [adr, add_plain]
  exact yld_loadLA (C := CA k n hn) (x := 0) hr' (by rw [e1]; exact he) rfl hg hsz (by decide) (by simp)
/-! ### a block's row as a slice -/
def lA {n : Nat} (c : Arr n) : List Int := c.toList
theorem encL_lA {n : Nat} (k : IntKind) (c : Arr n) : encL (CI k) (lA c) = enc k c := by
  have e : ∀ m : List Int, encL (CI k) m = m.map (Value.int k) := fun m => by
    induction m with
    | nil => rfl
    | cons y m ih => rw [encL_cons, ih]; rfl
  rw [e]
  rfl
theorem lA_len {n : Nat} (c : Arr n) : (lA c).length = n := by simp [lA]
theorem St.rowB (h : St w0 X L R w) (j : Nat) {b n : Nat} {k : IntKind} {c : Arr n} {t : TypeId} {lo hi : Int} (hj : L[j]? = some (.blk b (enc k c) t)) (h0 : 0 ≤ lo) (h1 : lo ≤ hi) (h2 : hi ≤ n) : RowL (CI k) w (some ⟨b, 0 + lo.toNat * 1, Option.none⟩) (hi.toNat - lo.toNat) (n - lo.toNat) (subL (lA c) lo hi) := by
  have hb := h.blkAt j hj
  have hl := lA_len c
  refine ⟨?_, ⟨by omega, fun h => by cases h⟩, .inr ⟨b, 0 + lo.toNat * 1, _, _, _, rfl, hb, fun q u hq => ?_⟩⟩
  · rw [encL_len, subL_len h1 (by rw [hl]; exact h2) h0]
  · have e := encL_sub (CI k) (lA c) lo.toNat hi.toNat (by omega) (by omega)
    unfold subL at hq
    have hsz : (CI k).size = 1 := rfl
    rw [e, encL_lA, hsz, List.getElem?_drop, List.getElem?_take] at hq
    split at hq
    · rw [List.getElem?_toArray, Nat.zero_add]
      exact hq
    · cases hq
theorem yld_slA2 {t e n b o : Nat} {low high : Option Value} {lo hi : Int} (he : execAt ops i a = nextV (Instr.sliceAt t (.pointer (some ⟨b, o, none⟩)) low high none)) (hu : P.underlying t = some (.array n e)) (hs : szOf P e = some 1)
    (hlo : (low = none ∧ lo = 0) ∨ ∃ k, low = some (.int k lo)) (hhi : (high = none ∧ hi = n) ∨ ∃ k, high = some (.int k hi)) (h0 : 0 ≤ lo) (h1 : lo ≤ hi) (h2 : hi ≤ n) (h3 : lo < n) : Yld P ops Any i a w (.slice (some ⟨b, o + lo.toNat * 1, none⟩) (hi.toNat - lo.toNat) (n - lo.toNat)) := by
  refine yld fun w' => ?_
  rw [he]
  refine run_nextV ?_
  unfold Instr.sliceAt
  have hne : ¬ n = lo.toNat := by omega
  have hb : (Instr.sliceBounds false n n low high none).run P w' = .ok (lo.toNat, hi.toNat, n) w' := by
    unfold Instr.sliceBounds
    have b1 : ∀ k code, (Instr.sliceBound (.int k hi) n code).run P w' = .ok hi.toNat w' := fun k code => run_bound (by omega) (by omega)
    have b2 : ∀ k code, (Instr.sliceBound (.int k lo) hi.toNat code).run P w' = .ok lo.toNat w' := fun k code => run_bound h0 (by omega)
    rcases hlo with ⟨rfl, rfl⟩ | ⟨k1, rfl⟩ <;> rcases hhi with ⟨rfl, rfl⟩ | ⟨k2, rfl⟩
    · simp [Sem.run_bind, Result.andThen]
    · simp [Sem.run_bind, Result.andThen, b1]
    · have b3 : ∀ code, (Instr.sliceBound (.int k1 lo) n code).run P w' = .ok lo.toNat w' := fun code => run_bound h0 (by omega)
      simp [Sem.run_bind, Result.andThen, b3]
    · simp [Sem.run_bind, Result.andThen, b1, b2]
  simp [run_underlying hu, Sem.run_bind, Result.andThen, Instr.sureAddr, hb, run_sizeOf hs, hne, add_plain]
/-! ### copy into a block's row -/
def cpA {n : Nat} (c : Arr n) (lo : Int) (vs : List Int) : Arr n := Vector.ofFn fun i : Fin n => if lo.toNat ≤ i.val ∧ i.val < lo.toNat + vs.length then vs.getD (i.val - lo.toNat) 0 else rd c (i.val : Int)
theorem rd_cpA {n : Nat} (c : Arr n) (lo : Int) (vs : List Int) (j : Nat) (hj : j < n) : rd (cpA c lo vs) (j : Int) = if lo.toNat ≤ j ∧ j < lo.toNat + vs.length then vs.getD (j - lo.toNat) 0 else rd c (j : Int) := by
  simp [cpA, rd, List.getD_eq_getElem?_getD, hj]
theorem enc_cpA {n : Nat} (k : IntKind) (c : Arr n) (lo : Int) (vs : List Int) (h : lo.toNat + vs.length ≤ n) : enc k (cpA c lo vs) = splice (enc k c) lo.toNat (encL (CI k) vs) := by
  have e : ∀ m : List Int, encL (CI k) m = m.map (Value.int k) := fun m => by
    induction m with
    | nil => rfl
    | cons y m ih => rw [encL_cons, ih]; rfl
  rw [e]
  have hc := enc_len k c
  apply List.ext_getElem?
  intro j
  unfold splice
  by_cases hj : j < n
  · have h1 := enc_get k (cpA c lo vs) (j : Int) (by omega) (by omega)
    rw [Int.toNat_natCast] at h1
    rw [h1, rd_cpA c lo vs j hj]
    have h2 := enc_get k c (j : Int) (by omega) (by omega)
    rw [Int.toNat_natCast] at h2
    have ht : ((enc k c).take lo.toNat).length = lo.toNat := by rw [List.length_take, hc]; omega
    by_cases q1 : lo.toNat ≤ j
    · by_cases q2 : j < lo.toNat + vs.length
      · rw [if_pos ⟨q1, q2⟩, List.append_assoc, List.getElem?_append_right (by omega), ht, List.getElem?_append_left (by simp; omega), List.getElem?_map, List.getElem?_eq_getElem (by omega), List.getD_eq_getElem?_getD, List.getElem?_eq_getElem (by omega)]
        rfl
      · rw [if_neg (by omega), List.getElem?_append_right (by simp; omega), List.getElem?_drop, ← h2]
        congr 1
        simp
        omega
    · rw [if_neg (by omega), List.append_assoc, List.getElem?_append_left (by omega), List.getElem?_take, if_pos (by omega), h2]
  · rw [List.getElem?_eq_none (by rw [enc_len]; omega), List.getElem?_eq_none (by simp [hc]; omega)]
theorem op_copyA {d : Option Tmp} (hd : dstAt ops i = d) {td ts ty e b n nx cx : Nat} {k : IntKind} {c : Arr n} {t : TypeId} {lo hi : Int} {Ax : Option Addr} {m : List Int} (hs : St w0 X L R w) (j : Nat) (hj : L[j]? = some (.blk b (enc k c) t)) (hr : RowL (CI k) w Ax nx cx m)
    (he : execAt ops i a = nextV (Builtin.copy_ #[td, ts] ty #[.slice (some ⟨b, 0 + lo.toNat * 1, none⟩) (hi.toNat - lo.toNat) (n - lo.toNat), .slice Ax nx cx])) (hu : P.underlying td = some (.slice e)) (hsz : szOf P e = some 1) (h0 : 0 ≤ lo) (h1 : lo ≤ hi) (h2 : hi ≤ n)
    (KK : ∀ w', Keep (fun k => k = b) w w' → St w0 X (L.set j (.blk b (enc k (cpA c lo (m.take (hi.toNat - lo.toNat)))) t)) R w' → K (a.put d (.int .i64 ((min m.length (hi.toNat - lo.toNat) : Nat) : Int))) w') : wpOp P ops (NoP Kn) i K a w := by
  have hnx := hr.length
  have hlen : (m.take (hi.toNat - lo.toNat)).length = min m.length (hi.toNat - lo.toNat) := by rw [List.length_take]; omega
  have e1 : encL (CI k) (m.take (hi.toNat - lo.toNat)) = (encL (CI k) m).take (min nx (hi.toNat - lo.toNat)) := by
    have := encL_take_len (CI k) m (min nx (hi.toNat - lo.toNat)) (by omega)
    have h3 : m.take (hi.toNat - lo.toNat) = m.take (min nx (hi.toNat - lo.toNat)) := by
      rw [hnx]
      rw [Nat.min_comm, ← List.take_take, List.take_of_length_le (l := m) (Nat.le_refl _)]
    have h4 := encL_sub (CI k) m 0 (min nx (hi.toNat - lo.toNat)) (by omega) (by omega)
    have hs1 : (CI k).size = 1 := rfl
    rw [List.drop_zero, Nat.zero_mul, List.drop_zero, hs1, Nat.mul_one] at h4
    rw [h3, h4]
  have hel : (encL (CI k) (m.take (hi.toNat - lo.toNat))).length = min nx (hi.toNat - lo.toNat) := by
    rw [encL_len, hlen, hnx]
    exact Nat.mul_one _
  obtain ⟨w2, hr2, hb, q1, q2, q3, q4, q5⟩ := run_storeCells (P := P) (b := b) (t := t) (o := 0 + lo.toNat * 1) (encL (CI k) (m.take (hi.toNat - lo.toNat))) 0 (enc k c) w (hs.blkAt j hj) (by rw [hel, enc_len]; omega) (encL_one _ _)
  have hsp : splice (enc k c) (0 + lo.toNat * 1 + 0) (encL (CI k) (m.take (hi.toNat - lo.toNat))) = enc k (cpA c lo (m.take (hi.toNat - lo.toNat))) := by
    rw [enc_cpA k c lo _ (by rw [hlen]; omega)]
    congr 1
    omega
  rw [hsp] at hb
  have hrun : (Builtin.copy_ #[td, ts] ty #[.slice (some ⟨b, 0 + lo.toNat * 1, none⟩) (hi.toNat - lo.toNat) (n - lo.toNat), .slice Ax nx cx]).run P w = .ok (.int .i64 ((min m.length (hi.toNat - lo.toNat) : Nat) : Int)) w2 := by
    have hmin : Nat.min nx (hi.toNat - lo.toNat) = min m.length (hi.toNat - lo.toNat) := by rw [hnx]
    have hfc : (Builtin.firstCells 1 (Nat.min nx (hi.toNat - lo.toNat)) (.slice Ax nx cx)).run P w = .ok (encL (CI k) (m.take (hi.toNat - lo.toNat))).toArray w := by
      cases Ax with
      | none =>
        have h5 := hr.2.1.2 rfl
        have h6 : m = [] := List.eq_nil_of_length_eq_zero (by have := hr.2.1.1; omega)
        subst h6
        simp [Builtin.firstCells, encL]
      | some ad =>
        have := run_firstCells_some (P := P) (w := w) 1 (Nat.min nx (hi.toNat - lo.toNat)) ad nx cx (encL (CI k) (m.take (hi.toNat - lo.toNat))) (by rw [hel, Nat.mul_one]) fun q v hq => by
          rw [e1, List.getElem?_take] at hq
          split at hq
          · obtain ⟨b2, o2, cs2, T2, fz2, hA2, hh2, hc2⟩ := hr.cell hq
            obtain rfl := Option.some.inj hA2
            rw [add_plain]
            simp [World.cell?, hh2, hc2]
          · cases hq
        exact this
    unfold Builtin.copy_
    simp only [List.getElem?_toArray, List.getElem?_cons_zero, List.getElem?_cons_succ, run_underlying hu, Sem.run_bind, Result.andThen, Builtin.lenOf, Sem.run_pure, run_sizeOf hsz, hfc, hr2]
    rw [← hmin]
    rfl
  refine wpOp_val hd (w' := w2) ?_ (KK w2 (fun x o hx ho => (q5 x hx).trans ho) (hs.blkSet j hj q1 q2 q3 q4 hb q5))
  rw [he]
  exact run_nextV hrun
/-! ### rows that are owned, and only read -/
/-- one entry told in fewer words -/
theorem St.weaken (h : St w0 X L R w) (j : Nat) {e e' : Ent} (hj : L[j]? = some e) (hp : e'.p w) (hf : ∀ b, e'.foot b → e.foot b) : St w0 X (L.set j e') R w :=
  h.entSet j hj rfl rfl rfl (Nat.le_refl _) (fun _ _ _ => rfl) hp fun b hb => ⟨((h.own _ (List.mem_of_getElem? hj)).2 b (hf b hb)).1, .inl (hf b hb)⟩
theorem St.ownRow (h : St w0 X L R w) (j : Nat) {A : Option Addr} {n c e : Nat} {l : List T} (hj : L[j]? = some (.ownL C A n c l e)) : St w0 X (L.set j (.rowL C A n c l)) R w :=
  h.weaken j hj (h.rowL j hj) (own_foot (h.own _ (List.mem_of_getElem? hj)).1)
theorem St.blkRow (h : St w0 X L R w) (j : Nat) {b n : Nat} {k : IntKind} {c : Arr n} {t : TypeId} {lo hi : Int} (hj : L[j]? = some (.blk b (enc k c) t)) (h0 : 0 ≤ lo) (h1 : lo ≤ hi) (h2 : hi ≤ n) : St w0 X (L.set j (.rowL (CI k) (some ⟨b, 0 + lo.toNat * 1, Option.none⟩) (hi.toNat - lo.toNat) (n - lo.toNat) (subL (lA c) lo hi))) R w :=
  h.weaken j hj (h.rowB j hj h0 h1 h2) (by rintro b' ⟨_, x, hx, rfl⟩; obtain rfl := Option.some.inj hx; rfl)
theorem St.addNilR (h : St w0 X L R w) (C : Cod T) : St w0 X (.rowL C Option.none 0 0 ([] : List T) :: L) R w := by
  have h1 := h.addNilL C 0
  have h2 := h1.ownRow 0 rfl
  exact h2
/-- An owned row that is only read: among those that are read. -/
theorem St.toR (h : St w0 X L R w) (j : Nat) {A : Option Addr} {n c : Nat} {l : List T} (hj : L[j]? = some (.rowL C A n c l)) : St w0 X (L.eraseIdx j) (.rowL C A n c l :: R) w := by
  have hjm := List.mem_of_getElem? hj
  have hd : St w0 X (L.eraseIdx j) R w := h.drop (List.eraseIdx_sublist ..)
  refine hd.addRow (h.own _ hjm).1 fun e he b hb hb2 => ?_
  rw [List.mem_iff_getElem?] at he
  obtain ⟨m, hm⟩ := he
  rw [List.getElem?_eraseIdx] at hm
  have hpw := List.pairwise_iff_getElem.1 h.apart
  obtain ⟨hjl, hje⟩ := List.getElem?_eq_some_iff.1 hj
  split at hm
  · obtain ⟨hml, hme⟩ := List.getElem?_eq_some_iff.1 hm
    exact hpw m j hml hjl (by omega) b (by rw [hme]; exact hb2) (by rw [hje]; exact hb)
  · obtain ⟨hml, hme⟩ := List.getElem?_eq_some_iff.1 hm
    exact hpw j (m + 1) hjl hml (by omega) b (by rw [hje]; exact hb) (by rw [hme]; exact hb2)
theorem St.toRF (h : St w0 [] L R w) (j : Nat) {A : Option Addr} {n c : Nat} {l : List T} (hj : L[j]? = some (.rowL C A n c l)) : St w0 [] (L.eraseIdx j) (.rowF (Ent.rowL C A n c l).foot C A n c l :: R) w ∧ ∀ b, (Ent.rowL C A n c l).foot b → w0.heap.size ≤ b := by
  have h1 := h.toR j hj
  have hjm := List.mem_of_getElem? hj
  refine ⟨⟨h1.os, h1.tape, h1.output, h1.size, h1.block, h1.own, h1.apart, fun e' he' => ?_⟩, fun b hb => ?_⟩
  · rcases List.mem_cons.1 he' with rfl | he'
    · have h2 := h1.read _ (List.mem_cons_self ..)
      exact ⟨⟨h2.1, fun _ hb => hb⟩, h2.2⟩
    · exact h1.read e' (List.mem_cons_of_mem _ he')
  · rcases ((h.own _ hjm).2 b hb).2 with h2 | h2
    · cases h2
    · exact h2
/-! ### rows of the world at the start -/
theorem keepW {L' R' : List Ent} {w' : World} (h : St w0 [] L R w) (h' : St w0 [] L' R' w') : Keep (fun k => ¬ k < w0.heap.size) w w' := fun k o hk ho => by
  have hk := Classical.not_not.1 hk
  rw [h'.block k hk (by simp), ← h.block k hk (by simp)]
  exact ho
theorem yld_w0 {S : Nat → Prop} {v : Value} {A : Option Addr} {n c : Nat} {l : List T} (hp : RowL C w0 A n c l) (hs : St w0 [] L R w) (hS : ∀ k, k < w0.heap.size → ¬ S k) (H : ∀ {w' : World}, RowL C w' A n c l → Yld P ops Grow i a w' v) : Yld P ops (Keep S) i a w v := fun w' hk => by
  have hr : RowL C w' A n c l := (Ent.rowL C A n c l).loc w0 w' (fun b hb => by
    have hb' := hp.foot_lt b hb
    have ho := Array.getElem?_eq_getElem hb'
    rw [ho]
    exact hk b _ (hS b hb') (by rw [hs.block b hb' (by simp), ho])) hp
  exact H hr w' (Grow.refl w')
end
end Go.Mx
