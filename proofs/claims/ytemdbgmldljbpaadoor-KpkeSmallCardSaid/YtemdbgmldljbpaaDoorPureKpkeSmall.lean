/- Layer 26: noise is small, keys and texts have their sizes, or the seed drew too few; in plain Lean. -/
import Derived.Test.YtemdbgmldljbpaaDoorLKpkeSmall
import Derived.Test.YtemdbgmldljbpaaDoorUg
set_option linter.unusedSimpArgs false
set_option linter.unusedVariables false
set_option maxRecDepth 100000
namespace Go.Proofs.YtemdbgmldljbpaaDoor.Pure
open Go Go.Mx
def SmA (e : Nat) (a : Arr 256) (j : Nat) : Prop := rd a (j : Int) ≤ (e : Int) ∨ 3329 - (e : Int) ≤ rd a (j : Int)
theorem nF_small (N : Nat) {e : Nat} (he : e ≤ 3) : ∀ (m i : Nat) (a : Arr 256), i + m = 256 → (∀ j, j < 256 → SmA e a j) → ∀ j, j < 256 → SmA e (nF N e m i a) j
  | 0, _, _, _, h => h
  | m + 1, i, a, hi, h => nF_small N he m (i + 1) _ (by omega) fun j hj => by
    have hb := nS_bd N e i e
    unfold SmA
    rw [rd_wr _ _ _ _ hj]
    split
    · have : ((3329 : Int) + nS N e i e) % 3329 = nS N e i e % 3329 := by omega
      rw [this]
      by_cases h0 : 0 ≤ nS N e i e
      · left; rw [Int.emod_eq_of_lt h0 (by omega)]; omega
      · right
        have : nS N e i e % 3329 = nS N e i e + 3329 := by omega
        omega
    · exact h j hj
theorem noiV_small (S : Arr 25 × Nat) {e : Nat} (he : e ≤ 3) : ∀ j, j < 256 → SmA e (noiV S e) j :=
  nF_small _ he 256 0 _ rfl fun j hj => .inl (by rw [rd_zeroA _ hj]; omega)
theorem small_l0 {e : Nat} {a : Arr 256} (ha : FitK a) (h : ∀ j, j < 256 → SmA e a j) : ∀ (m i k : Nat), i + m = 256 → m < k → law26_KpkeSmall.l0 60000 k (e : Int) a (i : Int) = some (.inl ()) := by
  intro m
  induction m with
  | zero =>
    intro i k hi hk
    obtain ⟨k, rfl⟩ : ∃ q, k = q + 1 := ⟨k - 1, by omega⟩
    have c : ¬ (i : Int) < 256 := by omega
    simp only [law26_KpkeSmall.l0, c, if_false]
  | succ m ih =>
    intro i k hi hk
    obtain ⟨k, rfl⟩ : ∃ q, k = q + 1 := ⟨k - 1, by omega⟩
    have c : (i : Int) < 256 := by omega
    have c0 : (0 : Int) ≤ (i : Int) := by omega
    have f : 0 ≤ rd a (i : Int) ∧ rd a (i : Int) < 3329 := ha i (by omega)
    have hs : SmA e a i := h i (by omega)
    have hm : ¬ (imin (rd a (i : Int)) (isub .i32 3329 (rd a (i : Int)))) > (e : Int) := by
      have : isub .i32 3329 (rd a (i : Int)) = 3329 - rd a (i : Int) := by unfold isub; exact i32_id (by omega) (by omega)
      rw [this]
      unfold imin
      rcases hs with hs | hs <;> split <;> omega
    simp only [law26_KpkeSmall.l0, c, c0, hm, ginc (i := i) (by omega), if_true, if_false, Option.bind_some]
    exact ih (i + 1) k (by omega) (by omega)
theorem kind26 (a0 : Int) (h : InR .u8 a0) : ∃ k e1 e2 du dv : Nat, KX k e1 e2 du dv ∧ law26_kind.f 60000 (irem .u8 a0 3) 0 0 0 0 0 = some ((k : Int), (e1 : Int), (e2 : Int), (du : Int), (dv : Int)) := by
  have h0 : 0 ≤ a0 ∧ a0 ≤ 255 := h
  have e : irem .u8 a0 3 = a0 % 3 := by unfold irem; rw [tmodN h0.1]
  rw [e]
  have h3 : a0 % 3 = 0 ∨ a0 % 3 = 1 ∨ a0 % 3 = 2 := by omega
  rcases h3 with h3 | h3 | h3 <;> rw [h3]
  · exact ⟨2, 3, 2, 10, 4, .inl ⟨rfl, rfl, rfl, rfl, rfl⟩, rfl⟩
  · exact ⟨3, 2, 2, 10, 4, .inr (.inl ⟨rfl, rfl, rfl, rfl, rfl⟩), rfl⟩
  · exact ⟨4, 2, 2, 11, 5, .inr (.inr ⟨rfl, rfl, rfl, rfl, rfl⟩), rfl⟩
theorem sub_lA (a : Arr 32) : subL (lA a) 0 32 = lA a := by
  have l : (lA a).length = 32 := lA_len a
  unfold subL
  simp [l]
  exact List.take_of_length_le (by rw [l]; decide)
theorem byt_lA {n : Nat} {a : Arr n} (h : InA .u8 a) : Byt (lA a) := fun x hx => h x hx
/-- one seed: the keys drawn, and what is told of a text there and back; or too few drawn -/
theorem seed_small {k e1 e2 du dv : Nat} (hx : KX k e1 e2 du dv) {seed m rnd : List Int} (ls : seed.length = 32) (hm : Byt m) (lm : m.length = 32) (lr : rnd.length = 32) :
    ∃ pk sk er, kpke_Keys.f 60000 (k : Int) (e1 : Int) (e2 : Int) (du : Int) (dv : Int) seed = some (pk, sk, er) ∧ (er = 12 ∨ er = 0 ∧ ∃ c q, kpke_Encrypt.f 60000 (k : Int) (e1 : Int) (e2 : Int) (du : Int) (dv : Int) pk m rnd = some (c, 0) ∧ kpke_Decrypt.f 60000 (k : Int) (e1 : Int) (e2 : Int) (du : Int) (dv : Int) sk c = some (q, 0) ∧ kpke_Sizes.f 60000 (k : Int) (e1 : Int) (e2 : Int) (du : Int) (dv : Int) = some ((pk.length : Int), (sk.length : Int), (c.length : Int)) ∧ q.length = 32) := by
  have hk := kKeys hx ls
  unfold keysV at hk
  cases hM : matF (pt (rhoV seed k)) k k 0 [] with
  | none =>
    rw [hM] at hk
    exact ⟨_, _, _, hk, .inl rfl⟩
  | some M =>
    rw [hM] at hk
    refine ⟨_, _, _, hk, .inr ⟨rfl, ?_⟩⟩
    obtain ⟨m1, m2, m3⟩ := matF_some (pt_good (rhoV seed k)) k 0 [] M hM (fun r h => by cases h)
    obtain ⟨C, hC⟩ := matF_ok (g := fun i j => pt (rhoV seed k) j i) (k := k) k 0 [] (fun p q _ hp hq => m3 q p (by omega) (by omega) (by omega))
    have ft : FL (tK seed k e1 M) := tV_fit _ _ _ _
    have lt : (tK seed k e1 M).length = k := tV_len _ _ _ _
    obtain ⟨c, c1, c2, c3⟩ := kEncrypt hx ft lt (byt_sub (gV_byt seed k) 0 32) (rhoV_len seed k) hm lm lr hC
    obtain ⟨q, q1, q2⟩ := kDecrypt hx (sK_fit seed k e1) (sK_len seed k e1) c3 c2
    obtain ⟨p1, _⟩ := pkV_len ft
    obtain ⟨p2, _⟩ := pkV_len (sK_fit seed k e1)
    refine ⟨c, q, c1, q1, ?_, q2⟩
    rw [List.length_append, p1, p2, lt, sK_len, rhoV_len, c2]
    exact hx.sizes
theorem small_core {W : Option Bool} (hW : W = some true) {Ki : Option (Int × Int × Int × Int × Int)} {a1 : Bool} {No : Int → Option (Arr 256)} {L : Int → Arr 256 → Option (Unit ⊕ Bool)} {Ke : Int → Int → Int → Int → Int → Option (List Int × List Int × Int)} {Fi : Arr 256 → Option Bool} {En : Int → Int → Int → Int → Int → List Int → Option (List Int × Int)} {De : Int → Int → Int → Int → Int → List Int → List Int → Option (List Int × Int)} {Sz : Int → Int → Int → Int → Int → Option (Int × Int × Int)}
    {p0 p1 p2 p3 p4 y : Int} {n : Arr 256} {pk sk : List Int} {er : Int} (hK : Ki = some (p0, p1, p2, p3, p4)) (hy : (if a1 = true then (some 3) else (some 2) : Option Int) = some y) (hN : No y = some n) (hL : L y n = some (.inl ())) (hF : Fi n = some true) (hE : Ke p0 p1 p2 p3 p4 = some (pk, sk, er))
    (h : er = 12 ∨ er = 0 ∧ ∃ c q, En p0 p1 p2 p3 p4 pk = some (c, 0) ∧ De p0 p1 p2 p3 p4 sk c = some (q, 0) ∧ Sz p0 p1 p2 p3 p4 = some ((pk.length : Int), (sk.length : Int), (c.length : Int)) ∧ q.length = 32) :
    (Ki.bind fun (r4_0, r4_1, r4_2, r4_3, r4_4) => ((if a1 = true then (some 3) else (some 2) : Option (Int))).bind fun y6 => (No y6).bind fun r7 => (L y6 r7).bind fun t0 => (match t0 with | .inl _ => (Ke r4_0 r4_1 r4_2 r4_3 r4_4).bind fun (r11, r12, r13) => (Fi r7).bind fun r14 => if r14 = true then (if r13 = 0 then ((En r4_0 r4_1 r4_2 r4_3 r4_4 r11).bind fun (r15, r16) => (De r4_0 r4_1 r4_2 r4_3 r4_4 r12 r15).bind fun (r17, r18) => (Sz r4_0 r4_1 r4_2 r4_3 r4_4).bind fun (r19, r20, r21) => if r16 = 0 then (if r18 = 0 then (if (r11.length : Int) = r19 then (if (r12.length : Int) = r20 then (if (r15.length : Int) = r21 then (if (r17.length : Int) = 32 then (W.bind fun r22 => some r22) else (some false)) else (some false)) else (some false)) else (some false)) else (some false)) else (some false)) else ((Fi r7).bind fun r23 => if r23 = true then (if r13 = 12 then (W.bind fun r24 => some r24) else (some false)) else (some false))) else ((Fi r7).bind fun r25 => if r25 = true then (if r13 = 12 then (W.bind fun r26 => some r26) else (some false)) else (some false)) | .inr r => some r)) = some true := by
  subst hW hK
  rw [hy]
  simp only [Option.bind_some, hN, hL, hE, hF, if_true]
  rcases h with rfl | ⟨rfl, c, q, e1, e2, e3, e4⟩
  · rfl
  · have e5 : ((q.length : Nat) : Int) = 32 := by omega
    simp only [Option.bind_some, if_true, e1, e2, e3, e5]
theorem KpkeSmall : law26_KpkeSmall.Pure := by
  intro a0 h0 a1 a2 h2 a3 h3 a4 h4 a5 h5
  refine ⟨60000, ?_⟩
  obtain ⟨k, e1, e2, du, dv, hx, hk⟩ := kind26 a0 h0
  obtain ⟨pk, sk, er, s1, s2⟩ := seed_small hx (seed := lA a3) (m := lA a4) (rnd := lA a5) (lA_len a3) (byt_lA h4) (lA_len a4) (lA_len a5)
  obtain ⟨e, he, hy⟩ : ∃ e : Nat, (e = 2 ∨ e = 3) ∧ (if a1 = true then (some 3) else (some 2) : Option Int) = some (e : Int) := by
    cases a1
    · exact ⟨2, .inl rfl, rfl⟩
    · exact ⟨3, .inr rfl, rfl⟩
  have l3 : (lA a3).length = 32 := lA_len a3
  have hn := kNoise (s := lA a3) (by omega) he a2
  have fn := fit_noiV (absV 7 (zeroA 25, 0) false (lA a3 ++ [a2])) e
  have sn := noiV_small (absV 7 (zeroA 25, 0) false (lA a3 ++ [a2])) (e := e) (by omega)
  generalize noiV (absV 7 (zeroA 25, 0) false (lA a3 ++ [a2])) e = n at hn fn sn
  have hF : ref25_Fit.f 60000 n = some true := by rw [ref25_Fit_eq 60000 (by decide), of_bel fn]
  have hL := small_l0 fn sn 256 0 60000 rfl (by decide)
  have ce : iconv .i64 (e : Int) = (e : Int) := by unfold iconv; rw [id64 (by omega) (by omega)]
  have core := small_core awake26 (a1 := a1) (No := fun y6 => kpke_Noise.f 60000 (iconv .i64 y6) (lA a3) a2) (L := fun y6 r7 => law26_KpkeSmall.l0 60000 60000 y6 r7 0) (Ke := fun p0 p1 p2 p3 p4 => kpke_Keys.f 60000 p0 p1 p2 p3 p4 (lA a3)) (Fi := ref25_Fit.f 60000) (En := fun p0 p1 p2 p3 p4 pk => kpke_Encrypt.f 60000 p0 p1 p2 p3 p4 pk (lA a4) (lA a5)) (De := kpke_Decrypt.f 60000) (Sz := kpke_Sizes.f 60000) (y := (e : Int)) (n := n) (pk := pk) (sk := sk) (er := er) hk hy (by show kpke_Noise.f 60000 (iconv .i64 (e : Int)) (lA a3) a2 = some n; rw [ce]; exact hn) hL hF s1 s2
  unfold law26_KpkeSmall.f
  rw [sub_lA a3, sub_lA a4, sub_lA a5]
  exact core
end Go.Proofs.YtemdbgmldljbpaaDoor.Pure
