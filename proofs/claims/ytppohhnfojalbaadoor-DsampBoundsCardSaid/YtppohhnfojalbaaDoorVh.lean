/- Layer 23 (dsamp), plain laws: what is drawn is fit, and within its bounds. -/
import Derived.Test.YtppohhnfojalbaaDoorVF0
import Derived.Test.YtppohhnfojalbaaDoorVFDsampBounds
import Derived.Test.YtppohhnfojalbaaDoorVe
import Derived.Test.YtppohhnfojalbaaDoorQz
set_option linter.unusedSimpArgs false
set_option linter.unusedVariables false
set_option maxRecDepth 100000
namespace Go.Proofs.YtppohhnfojalbaaDoor
open Go Go.Mx
theorem fillP_all (Q : Int → Prop) : ∀ (l : List Int) (p : Arr 256 × Nat), (∀ x ∈ l, Q x) → (∀ i : Nat, i < 256 → Q (rd p.1 i)) → ∀ i : Nat, i < 256 → Q (rd (fillP p l).1 i)
  | [], p, _, h => h
  | x :: l, p, hl, h => by
    have e : fillP p (x :: l) = if p.2 < 256 then fillP (wr p.1 (p.2 : Int) x, p.2 + 1) l else p := rfl
    rw [e]
    by_cases hp : p.2 < 256
    · rw [if_pos hp]
      refine fillP_all Q l _ (fun y hy => hl y (List.mem_cons_of_mem _ hy)) fun i hi => ?_
      show Q (rd (wr p.1 (p.2 : Int) x) i)
      rw [rd_wr _ _ _ _ hi]
      split
      · exact hl x List.mem_cons_self
      · exact h i hi
    · rw [if_neg hp]; exact h
theorem vals_q : ∀ (l : List Int), Byt l → ∀ x ∈ vals l, 0 ≤ x ∧ x < 8380417
  | [], _, x, hx => by cases hx
  | [_], _, x, hx => by cases hx
  | [_, _], _, x, hx => by cases hx
  | a :: b :: c :: l, hb, x, hx => by
    obtain ⟨x0, x1⟩ := hb.head
    obtain ⟨y0, y1⟩ := hb.tail.head
    obtain ⟨z0, z1⟩ := hb.tail.tail.head
    have hx' : x ∈ if q3 a b c < 8380417 then q3 a b c :: vals l else vals l := hx
    by_cases hq : q3 a b c < 8380417
    · rw [if_pos hq] at hx'
      rcases List.mem_cons.1 hx' with rfl | h
      · exact ⟨by unfold q3; omega, hq⟩
      · exact vals_q l hb.tail.tail.tail x h
    · rw [if_neg hq] at hx'
      exact vals_q l hb.tail.tail.tail x hx'
theorem hv_q {e t w v : Int} (hk : Kd e t w) (h0 : 0 ≤ v) : ∀ x ∈ hv e t w v, (0 ≤ x ∧ x < 8380417) ∧ amt x ≤ e := fun x hx => by
  unfold hv at hx
  by_cases hw : v < w
  · rw [if_pos hw] at hx
    rw [List.mem_singleton.1 hx]
    unfold amt
    rcases hk with ⟨rfl, rfl, rfl⟩ | ⟨rfl, rfl, rfl⟩
    · refine ⟨by omega, ?_⟩
      split <;> omega
    · refine ⟨by omega, ?_⟩
      split <;> omega
  · rw [if_neg hw] at hx
    cases hx
theorem cnd_q {e t w : Int} (hk : Kd e t w) : ∀ (l : List Int), Byt l → ∀ x ∈ cnd e t w l, (0 ≤ x ∧ x < 8380417) ∧ amt x ≤ e
  | [], _, x, hx => by cases hx
  | a :: l, hb, x, hx => by
    obtain ⟨x0, x1⟩ := hb.head
    rcases List.mem_append.1 hx with h | h
    · exact hv_q hk (by omega) x h
    · rcases List.mem_append.1 h with h | h
      · exact hv_q hk (by omega) x h
      · exact cnd_q hk l hb.tail x h
theorem fold_imax (f : Nat → Int) (c : Int) : ∀ (l : List Nat) (s : Int), s ≤ c → (∀ i ∈ l, f i ≤ c) → l.foldl (fun s i => imax s (f i)) s ≤ c
  | [], s, h, _ => h
  | i :: l, s, h, hl => by
    refine fold_imax f c l _ ?_ fun j hj => hl j (List.mem_cons_of_mem _ hj)
    have := hl i List.mem_cons_self
    show imax s (f i) ≤ c
    unfold imax
    split <;> omega
theorem fold_ge (f : Nat → Int) : ∀ (l : List Nat) (s : Int), s ≤ l.foldl (fun s i => imax s (f i)) s ∧ ∀ i ∈ l, f i ≤ l.foldl (fun s i => imax s (f i)) s
  | [], s => ⟨Int.le_refl _, fun i h => by cases h⟩
  | j :: l, s => by
    obtain ⟨h1, h2⟩ := fold_ge f l (imax s (f j))
    have hm : s ≤ imax s (f j) ∧ f j ≤ imax s (f j) := by unfold imax; split <;> omega
    refine ⟨Int.le_trans hm.1 h1, fun i hi => ?_⟩
    rcases List.mem_cons.1 hi with rfl | hi
    · exact Int.le_trans hm.2 h1
    · exact h2 i hi
theorem pnorm_le {a : Arr 256} {c : Int} (h0 : 0 ≤ c) (h : ∀ i : Nat, i < 256 → amt (rd a i) ≤ c) : pnorm a ≤ c :=
  fold_imax (fun i => amt (rd a (i : Nat))) c (List.range 256) 0 h0 fun i hi => h i (List.mem_range.1 hi)
theorem pnorm_ge {a : Arr 256} {i : Nat} (hi : i < 256) : amt (rd a i) ≤ pnorm a :=
  (fold_ge (fun i => amt (rd a (i : Nat))) (List.range 256) 0).2 i (List.mem_range.2 hi)
theorem fit_zero : FitP (zeroA 256) := fun i hi => by rw [rd_zeroA _ hi]; exact ⟨by decide, by decide⟩
theorem norm_zero {c : Int} (h : 0 ≤ c) : pnorm (zeroA 256) ≤ c := pnorm_le h fun i hi => by rw [rd_zeroA _ hi]; exact h
/-- within bounds: a fit row, its greatest number, and none beside an error -/
def Good (c : Int) (v : Arr 256 × Int) : Prop := FitP v.1 ∧ pnorm v.1 ≤ c ∧ (v.2 = 0 ∨ v.1 = zeroA 256)
theorem valB {s : List Int} (ls : s.length ≤ 300) (i j : Int) : ∃ v : Arr 256 × Int, dsamp_Values.f 60000 s i j = some v ∧ FitP v.1 ∧ (v.2 = 0 ∨ v.1 = zeroA 256) := by
  obtain ⟨bs, e1, e2⟩ := kValues (i := i) (j := j) ls
  refine ⟨_, e2, ?_⟩
  have hb : Byt bs := by rw [e1]; exact sqv_byt _ _ _ _
  have hf := fillP_all (fun x => 0 ≤ x ∧ x < 8380417) (vals bs) (zeroA 256, 0) (vals_q bs hb) fit_zero
  generalize fillP (zeroA 256, 0) (vals bs) = p at hf
  by_cases h : p.2 < 256
  · rw [if_pos h]
    exact ⟨fit_zero, .inr rfl⟩
  · rw [if_neg h]
    exact ⟨hf, .inl rfl⟩
theorem smallB {e t w : Int} (hk : Kd e t w) {s : List Int} (ls : s.length ≤ 300) {n : Nat} (hn : n < 65536) : ∃ v : Arr 256 × Int, dsamp_Small.f 60000 s (n : Int) e = some v ∧ Good e v := by
  refine ⟨_, kSmall hk ls hn, ?_⟩
  have he : 0 ≤ e := by rcases hk with ⟨rfl, _, _⟩ | ⟨rfl, _, _⟩ <;> decide
  obtain ⟨bs, e1⟩ : ∃ bs, bs = (sqV 7 (absV 7 (zeroA 25, 0) false (sdt s n)) false 4096).1 := ⟨_, rfl⟩
  have hb : Byt bs := by rw [e1]; exact sqv_byt _ _ _ _
  rw [← e1]
  have hf := fillP_all (fun x => (0 ≤ x ∧ x < 8380417) ∧ amt x ≤ e) (cnd e t w bs) (zeroA 256, 0) (cnd_q hk bs hb) (fun i hi => by
    show (0 ≤ rd (zeroA 256) (i : Int) ∧ rd (zeroA 256) (i : Int) < 8380417) ∧ amt (rd (zeroA 256) (i : Int)) ≤ e
    rw [rd_zeroA _ hi]
    exact ⟨⟨by decide, by decide⟩, he⟩)
  unfold smlV
  generalize fillP (zeroA 256, 0) (cnd e t w bs) = p at hf ⊢
  by_cases h : p.2 < 256
  · rw [if_pos h]
    exact ⟨fit_zero, norm_zero he, .inr rfl⟩
  · rw [if_neg h]
    exact ⟨fun i hi => (hf i hi).1, pnorm_le he fun i hi => (hf i hi).2, .inl rfl⟩
theorem unp_in {m : Int} (h0 : 0 < m) (h1 : m ≤ 524288) (b : List Int) : FitP (unpS (m - 1) m b).1 ∧ pnorm (unpS (m - 1) m b).1 ≤ m := by
  have hz : FitP (zeroA 256) ∧ pnorm (zeroA 256) ≤ m := ⟨fit_zero, norm_zero (by omega)⟩
  unfold unpS
  by_cases c1 : fitS (m - 1) m = true
  · rw [if_pos c1]
    by_cases c2 : b.length = 32 * widS (m - 1) m
    · rw [if_pos c2]
      obtain ⟨D, eD⟩ : ∃ D, D = dig (widS (m - 1) m) 256 (NB b) := ⟨_, rfl⟩
      have hD : ∀ i : Nat, i < 256 → ∃ v : Nat, D.getD i 0 = (v : Int) := fun i hi => by
        obtain ⟨v, hv, _⟩ := getD_dig (d := widS (m - 1) m) (n := 256) (M := NB b) hi
        exact ⟨v, by rw [eD]; exact hv⟩
      rw [← eD]
      by_cases c3 : (List.range 256).all (fun i => decide (D.getD i 0 ≤ allS (m - 1) m)) = true
      · rw [if_pos c3]
        have hall : ((allS (m - 1) m : Nat) : Int) = 2 * m - 1 := by
          unfold allS
          rw [if_neg (by omega)]
          omega
        have hr : ∀ i : Nat, i < 256 → (0 ≤ rd (mapA 256 fun i => bkS (m - 1) m (D.getD i 0)) (i : Int) ∧ rd (mapA 256 fun i => bkS (m - 1) m (D.getD i 0)) (i : Int) < 8380417) ∧ amt (rd (mapA 256 fun i => bkS (m - 1) m (D.getD i 0)) (i : Int)) ≤ m := fun i hi => by
          obtain ⟨v, hv⟩ := hD i hi
          have hle := List.all_eq_true.1 c3 i (List.mem_range.2 hi)
          have hle' := of_decide_eq_true hle
          rw [hall, hv] at hle'
          rw [rd_mapA _ _ hi, hv]
          unfold bkS amt
          rw [if_neg (by omega)]
          by_cases hn : m - (v : Int) < 0
          · rw [if_pos hn]
            refine ⟨by omega, ?_⟩
            split <;> omega
          · rw [if_neg hn]
            refine ⟨by omega, ?_⟩
            split <;> omega
        exact ⟨fun i hi => (hr i hi).1, pnorm_le (by omega) fun i hi => (hr i hi).2⟩
      · rw [if_neg c3]; exact hz
    · rw [if_neg c2]; exact hz
  · rw [if_neg c1]; exact hz
theorem maskB {s : List Int} (ls : s.length ≤ 300) {n : Nat} (hn : n < 65536) {m : Int} {z : Nat} (hz : m = 131072 ∧ z = 18 ∨ m = 524288 ∧ z = 20) : ∃ v : Arr 256 × Int, dsamp_Mask.f 60000 s (n : Int) m = some v ∧ FitP v.1 ∧ pnorm v.1 ≤ m ∧ v.2 = 0 := by
  refine ⟨_, kMask ls hn hz, ?_⟩
  have e : isub .i32 m 1 = m - 1 := by
    unfold isub
    rw [w32]
    rcases hz with ⟨rfl, _⟩ | ⟨rfl, _⟩ <;> rfl
  rw [e]
  have := unp_in (m := m) (by omega) (by omega) (sqV 7 (absV 7 (zeroA 25, 0) false (sdt s n)) false ((32 * z : Nat) : Int)).1
  exact ⟨this.1, this.2, rfl⟩
/-! ### how many numbers are not 0 -/
def sumN (f : Nat → Nat) : Nat → Nat
  | 0 => 0
  | n + 1 => sumN f n + f n
theorem sumN_upd (f g : Nat → Nat) (c v : Nat) (h1 : g c = v) (h2 : ∀ j, j ≠ c → g j = f j) : ∀ n, sumN g n + (if c < n then f c else 0) = sumN f n + (if c < n then v else 0)
  | 0 => rfl
  | n + 1 => by
    have ih := sumN_upd f g c v h1 h2 n
    show sumN g n + g n + _ = sumN f n + f n + _
    by_cases h : c = n
    · subst h
      rw [if_neg (by omega), if_neg (by omega)] at ih
      rw [if_pos (by omega), if_pos (by omega), h1]
      omega
    · rw [h2 n (fun q => h q.symm)]
      by_cases hc : c < n
      · rw [if_pos hc, if_pos hc] at ih
        rw [if_pos (by omega), if_pos (by omega)]
        omega
      · rw [if_neg hc, if_neg hc] at ih
        rw [if_neg (by omega), if_neg (by omega)]
        omega
def nz (a : Arr 256) (j : Nat) : Nat := if rd a (j : Int) = 0 then 0 else 1
def cnt (a : Arr 256) : Nat := sumN (nz a) 256
theorem cnt_zero : cnt (zeroA 256) = 0 := by decide +kernel
/-- each number is 0, 1, or -1; none behind i -/
def BallI (a : Arr 256) (i n : Nat) : Prop := (∀ j : Nat, j < 256 → rd a (j : Int) = 0 ∨ rd a (j : Int) = 1 ∨ rd a (j : Int) = 8380416) ∧ (∀ j : Nat, i ≤ j → j < 256 → rd a (j : Int) = 0) ∧ cnt a = n
theorem swp_rd {a : Arr 256} {i x : Nat} (hi : i < 256) (hx : x < 256) (s : Int) {j : Nat} (hj : j < 256) :
    rd (swp a (i : Int) (x : Int) s) (j : Int) = if x = j then (if s % 2 = 1 then 8380416 else 1) else if i = j then rd a (x : Int) else rd a (j : Int) := by
  unfold swp
  by_cases hs : s % 2 = 1
  · rw [if_pos hs, if_pos hs, rd_wr _ _ _ _ hj, rd_wr _ _ _ _ hj, rd_wr _ _ _ _ hj]
    by_cases h : x = j
    · rw [if_pos h, if_pos h]
    · rw [if_neg h, if_neg h, if_neg h]
  · rw [if_neg hs, if_neg hs, rd_wr _ _ _ _ hj, rd_wr _ _ _ _ hj]
theorem swp_ball {a : Arr 256} {i x n : Nat} (hi : i < 256) (hx : x ≤ i) (s : Int) (h : BallI a i n) : BallI (swp a (i : Int) (x : Int) s) (i + 1) (n + 1) := by
  obtain ⟨h1, h2, h3⟩ := h
  have hx2 : x < 256 := by omega
  refine ⟨fun j hj => ?_, fun j hj hj2 => ?_, ?_⟩
  · rw [swp_rd hi hx2 s hj]
    split
    · split
      · exact .inr (.inr rfl)
      · exact .inr (.inl rfl)
    · split
      · exact h1 x hx2
      · exact h1 j hj
  · rw [swp_rd hi hx2 s hj2, if_neg (by omega), if_neg (by omega)]
    exact h2 j (by omega) hj2
  · have z : nz a i = 0 := if_pos (h2 i (Nat.le_refl _) hi)
    -- the number at x is put to i first
    let f := nz a
    let g : Nat → Nat := fun j => if i = j then nz a x else nz a j
    have s1 := sumN_upd f g i (nz a x) (if_pos rfl) (fun j hj => if_neg (fun q => hj q.symm)) 256
    rw [if_pos hi, if_pos hi] at s1
    have z' : f i = 0 := z
    rw [z', Nat.add_zero] at s1
    -- then x is laid anew
    let g2 : Nat → Nat := fun j => if x = j then 1 else g j
    have s2 := sumN_upd g g2 x 1 (if_pos rfl) (fun j hj => if_neg (fun q => hj q.symm)) 256
    rw [if_pos hx2, if_pos hx2] at s2
    have gx : g x = nz a x := by
      show (if i = x then nz a x else nz a x) = _
      split <;> rfl
    have e : ∀ n, n ≤ 256 → sumN (nz (swp a (i : Int) (x : Int) s)) n = sumN g2 n := fun n => by
      induction n with
      | zero => exact fun _ => rfl
      | succ n ih =>
        intro hn
        show sumN (nz (swp a (i : Int) (x : Int) s)) n + nz (swp a (i : Int) (x : Int) s) n = sumN g2 n + g2 n
        rw [ih (by omega)]
        congr 1
        unfold nz
        rw [swp_rd hi hx2 s (show n < 256 by omega)]
        show _ = if x = n then 1 else if i = n then nz a x else nz a n
        by_cases c1 : x = n
        · rw [if_pos c1, if_pos c1]
          split
          · rw [if_neg (by decide)]
          · rw [if_neg (by decide)]
        · rw [if_neg c1, if_neg c1]
          by_cases c2 : i = n
          · rw [if_pos c2, if_pos c2]
            rfl
          · rw [if_neg c2, if_neg c2]
            rfl
    show sumN (nz (swp a (i : Int) (x : Int) s)) 256 = n + 1
    rw [e 256 (Nat.le_refl _)]
    have h3' : sumN f 256 = n := h3
    rw [gx] at s2
    omega
theorem ballF_ball : ∀ (l : List Int), Byt l → ∀ (i n : Nat) (a : Arr 256) (s : Int) (r : Arr 256), i < 256 → BallI a i n → ballF l (i : Int) a s = some r → BallI r 256 (n + (256 - i))
  | [], _, _, _, _, _, _, _, _, h => by cases h
  | c :: l, hb, i, n, a, s, r, hi, ha, h => by
    obtain ⟨c0, c1⟩ := hb.head
    have h' : (if c > (i : Int) then ballF l (i : Int) a s else if (i : Int) + 1 = 256 then some (swp a (i : Int) c s) else ballF l ((i : Int) + 1) (swp a (i : Int) c s) (s / 2)) = some r := h
    by_cases hc : c > (i : Int)
    · rw [if_pos hc] at h'
      exact ballF_ball l hb.tail i n a s r hi ha h'
    · rw [if_neg hc] at h'
      obtain ⟨x, rfl⟩ : ∃ x : Nat, c = (x : Int) := ⟨c.toNat, by omega⟩
      have hs := swp_ball hi (show x ≤ i by omega) s ha
      by_cases hl : (i : Int) + 1 = 256
      · rw [if_pos hl] at h'
        have := Option.some.inj h'
        rw [← this, show n + (256 - i) = n + 1 by omega]
        rw [show i + 1 = 256 by omega] at hs
        exact hs
      · rw [if_neg hl] at h'
        have := ballF_ball l hb.tail (i + 1) (n + 1) _ (s / 2) r (by omega) hs h'
        rw [show n + (256 - i) = n + 1 + (256 - (i + 1)) by omega]
        exact this
theorem sumN_pos {f : Nat → Nat} : ∀ {n : Nat}, 0 < sumN f n → ∃ j, j < n ∧ 0 < f j
  | 0, h => absurd h (Nat.lt_irrefl 0)
  | n + 1, h => by
    by_cases hn : 0 < f n
    · exact ⟨n, by omega, hn⟩
    · have h' : 0 < sumN f n + f n := h
      obtain ⟨j, h1, h2⟩ := sumN_pos (show 0 < sumN f n by omega)
      exact ⟨j, by omega, h2⟩
theorem ballI_norm {r : Arr 256} {n : Nat} (h : BallI r 256 n) (hn : 0 < n) : FitP r ∧ pnorm r = 1 := by
  obtain ⟨h1, _, h3⟩ := h
  have ha : ∀ j : Nat, j < 256 → amt (rd r (j : Int)) ≤ 1 := fun j hj => by
    rcases h1 j hj with h | h | h <;> rw [h] <;> decide
  refine ⟨fun j hj => by rcases h1 j hj with h | h | h <;> rw [h] <;> decide, ?_⟩
  have hle := pnorm_le (a := r) (c := 1) (by decide) ha
  obtain ⟨j, hj, hp⟩ := sumN_pos (f := nz r) (n := 256) (by show 0 < cnt r; omega)
  have hne : rd r (j : Int) ≠ 0 := fun q => by
    unfold nz at hp
    rw [if_pos q] at hp
    exact absurd hp (by decide)
  have hge := pnorm_ge (a := r) hj
  have h1' : amt (rd r (j : Int)) = 1 := by
    rcases h1 j hj with h | h | h
    · exact absurd h hne
    · rw [h]; decide
    · rw [h]; decide
  omega
theorem ballB {s : List Int} (ls : s.length ≤ 300) {k : Nat} (h1 : 1 ≤ k) (h2 : k ≤ 64) : ∃ v : Arr 256 × Int, dsamp_Ball.f 60000 s (k : Int) = some v ∧ FitP v.1 ∧ (v.2 = 0 ∧ cnt v.1 = k ∧ pnorm v.1 = 1 ∨ ¬ v.2 = 0 ∧ cnt v.1 = 0) := by
  refine ⟨_, kBall ls (by omega) (by omega), ?_⟩
  unfold balV
  obtain ⟨S, eS⟩ : ∃ S, S = absV 7 (zeroA 25, 0) false s := ⟨_, rfl⟩
  rw [← eS]
  have hb := sqv_byt 7 (sqV 7 S false 8).2.1 (sqV 7 S false 8).2.2 4096
  generalize (sqV 7 (sqV 7 S false 8).2.1 (sqV 7 S false 8).2.2 4096).1 = bs at hb ⊢
  generalize ((NB (sqV 7 S false 8).1 : Nat) : Int) = g
  obtain ⟨i, ei⟩ : ∃ i : Nat, 256 - (k : Int) = (i : Int) := ⟨256 - k, by omega⟩
  rw [ei]
  have hz : BallI (zeroA 256) i 0 := ⟨fun j hj => .inl (rd_zeroA _ hj), fun j _ hj => rd_zeroA _ hj, cnt_zero⟩
  have hB := fun r => ballF_ball bs hb i 0 (zeroA 256) g r (by omega) hz
  generalize ballF bs (i : Int) (zeroA 256) g = B at hB ⊢
  cases B with
  | none => exact ⟨fit_zero, .inr ⟨by show ¬ (12 : Int) = 0; decide, cnt_zero⟩⟩
  | some r =>
    have h := hB r rfl
    obtain ⟨f1, f2⟩ := ballI_norm h (by omega)
    refine ⟨f1, .inl ⟨rfl, ?_, f2⟩⟩
    show cnt r = k
    rw [h.2.2]
    omega
end Go.Proofs.YtppohhnfojalbaaDoor
