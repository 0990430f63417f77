/- Layer 23: what is drawn is fit, and within its bounds; beside an error nothing is told; in plain Lean. -/
import Derived.Test.YtppohhnfojalbaaDoorLDsampBounds
import Derived.Test.YtppohhnfojalbaaDoorVh
import Derived.Test.YtppohhnfojalbaaDoorVg
set_option linter.unusedSimpArgs false
set_option linter.unusedVariables false
set_option maxRecDepth 100000
namespace Go.Proofs.YtppohhnfojalbaaDoor.Pure
open Go Go.Mx
theorem cnt_l0 (a : Arr 256) : ∀ (m i k : Nat), i + m = 256 → m < k → law23_DsampBounds.l0 60000 k a ((sumN (nz a) i : Nat) : Int) (i : Int) = some ((cnt a : Nat) : Int) := by
  have hle : ∀ n, sumN (nz a) n ≤ n := fun n => by
    induction n with
    | zero => exact Nat.le_refl _
    | succ n ih =>
      show sumN (nz a) n + nz a n ≤ n + 1
      have : nz a n ≤ 1 := by unfold nz; split <;> omega
      omega
  intro m
  induction m with
  | zero =>
    intro i k hi hk
    obtain ⟨k, rfl⟩ : ∃ q, k = q + 1 := ⟨k - 1, by omega⟩
    have hi' : i = 256 := by omega
    subst hi'
    have c : ¬ ((256 : Nat) : Int) < 256 := by omega
    simp only [law23_DsampBounds.l0, c, if_false]
    rfl
  | succ m ih =>
    intro i k hi hk
    obtain ⟨k, rfl⟩ : ∃ q, k = q + 1 := ⟨k - 1, by omega⟩
    have c : (i : Int) < 256 := by omega
    have c0 : (0 : Int) ≤ (i : Int) := by omega
    have hl := hle i
    have i1 := ih (i + 1) k (by omega) (by omega)
    have es : sumN (nz a) (i + 1) = sumN (nz a) i + nz a i := rfl
    by_cases hz : rd a (i : Int) = 0
    · have e0 : nz a i = 0 := if_pos hz
      rw [es, e0, Nat.add_zero] at i1
      simp only [law23_DsampBounds.l0, c, c0, hz, if_true, Option.bind_some, ginc (i := i) (by omega)]
      exact i1
    · have e0 : nz a i = 1 := if_neg hz
      rw [es, e0] at i1
      simp only [law23_DsampBounds.l0, c, c0, hz, if_true, if_false, Option.bind_some, ginc (i := i) (by omega), ginc (i := sumN (nz a) i) (by omega)]
      exact i1
theorem bounds_core {W c2 c3 : Option Int} {AW : Option Bool} (hW : AW = some true) {A1 : Option (Arr 256 × Int)} {S M B : Int → Option (Arr 256 × Int)} {Ft : Arr 256 → Option Bool} {Nm C : Arr 256 → Option Int} {e m k : Int} {v1 v2 v3 v4 : Arr 256 × Int} {p2 p3 p4 q4 : Int}
    (h2 : c2 = some e) (h3 : c3 = some m) (g1 : A1 = some v1) (g2 : S e = some v2) (g3 : M m = some v3) (g4 : B k = some v4)
    (f1 : Ft v1.1 = some true) (f2 : Ft v2.1 = some true) (f3 : Ft v3.1 = some true) (f4 : Ft v4.1 = some true) (n2 : Nm v2.1 = some p2) (n3 : Nm v3.1 = some p3) (n4 : Nm v4.1 = some p4) (cc : C v4.1 = some q4)
    (b2 : p2 ≤ e) (b3 : p3 ≤ m) (e3 : v3.2 = 0) (b4 : v4.2 = 0 ∧ q4 = k ∧ p4 = 1 ∨ ¬ v4.2 = 0 ∧ q4 = 0) (z1 : v1.2 = 0 ∨ v1.1 = zeroA 256) (z2 : v2.2 = 0 ∨ v2.1 = zeroA 256) :
    (c2.bind fun y2 => c3.bind fun y3 => A1.bind fun (r4, r5) => (S y2).bind fun (r7, r8) => (M y3).bind fun (r10, r11) => (some k).bind fun x13 => (B x13).bind fun (r14, r15) => (Ft r4).bind fun r17 => if r17 = true then ((Ft r7).bind fun r18 => if r18 = true then ((Ft r10).bind fun r19 => if r19 = true then ((Ft r14).bind fun r20 => if r20 = true then ((Nm r7).bind fun r21 => if r21 > y2 then (some false) else ((Nm r10).bind fun r22 => if r22 > y3 then (some false) else (if r11 = 0 then ((C r14).bind fun y25 => ((if r15 = 0 then (if y25 = x13 then ((Nm r14).bind fun r29 => if r29 = 1 then (if r15 = 0 then (some (.inl ())) else (if y25 = 0 then (some (.inl ())) else (some (.inr false)))) else (some (.inr false))) else (some (.inr false))) else (if r15 = 0 then (some (.inl ())) else (if y25 = 0 then (some (.inl ())) else (some (.inr false)))) : Option ((Unit) ⊕ (Bool)))).bind fun tv57 => (match tv57 with | .inl _ => if r5 = 0 then (if r8 = 0 then (AW.bind fun r30 => some r30) else (if (eqA r7 (zeroA 256)) = true then (AW.bind fun r31 => some r31) else (some false))) else (if (eqA r4 (zeroA 256)) = true then (if r8 = 0 then (AW.bind fun r32 => some r32) else (if (eqA r7 (zeroA 256)) = true then (AW.bind fun r33 => some r33) else (some false))) else (some false)) | .inr r => some r)) else (some false)))) else (some false)) else (some false)) else (some false)) else (some false)) = some true := by
  obtain ⟨a1, d1⟩ := v1
  obtain ⟨a2, d2⟩ := v2
  obtain ⟨a3, d3⟩ := v3
  obtain ⟨a4, d4⟩ := v4
  simp only at f1 f2 f3 f4 n2 n3 n4 cc e3 b4 z1 z2
  subst hW h2 h3 g1 e3
  have c2' : ¬ p2 > e := by omega
  have c3' : ¬ p3 > m := by omega
  simp only [Option.bind_some, g2, g3, g4, f1, f2, f3, f4, n2, n3, n4, cc, c2', c3', if_true, if_false]
  have hin : ((if d4 = 0 then (if q4 = k then (if p4 = 1 then (if d4 = 0 then (some (.inl ())) else (if q4 = 0 then (some (.inl ())) else (some (.inr false)))) else (some (.inr false))) else (some (.inr false))) else (if d4 = 0 then (some (.inl ())) else (if q4 = 0 then (some (.inl ())) else (some (.inr false)))) : Option ((Unit) ⊕ (Bool)))) = some (.inl ()) := by
    rcases b4 with ⟨r1, r2, r3⟩ | ⟨r1, r2⟩
    · rw [if_pos r1, if_pos r2, if_pos r3, if_pos r1]
    · rw [if_neg r1, if_neg r1, if_pos r2]
  rw [hin]
  simp only [Option.bind_some]
  rcases z1 with z1 | z1 <;> rcases z2 with z2 | z2 <;> by_cases y1 : d1 = 0 <;> by_cases y2 : d2 = 0 <;> simp [y1, y2, z1, z2, eqA_self] <;> omega
theorem DsampBounds : law23_DsampBounds.Pure := by
  intro s hs i hi four great tau ht
  refine ⟨60000, ?_⟩
  obtain ⟨i0, i1⟩ : 0 ≤ i ∧ i ≤ 65535 := hi
  obtain ⟨t0, t1⟩ : 0 ≤ tau ∧ tau ≤ 255 := ht
  obtain ⟨n, rfl⟩ : ∃ n : Nat, i = (n : Int) := ⟨i.toNat, by omega⟩
  obtain ⟨u, rfl⟩ : ∃ u : Nat, tau = (u : Int) := ⟨tau.toNat, by omega⟩
  unfold law23_DsampBounds.f
  by_cases hl : ((s.length : Nat) : Int) > 300
  · rw [if_pos hl, awake23]
    rfl
  · rw [if_neg hl]
    have ls : s.length ≤ 300 := by omega
    have hn : n < 65536 := by omega
    have ek : iadd .i64 1 (iconv .i64 (irem .u8 (u : Int) 64)) = ((1 + u % 64 : Nat) : Int) := by
      have e1 : irem .u8 (u : Int) 64 = ((u % 64 : Nat) : Int) := rfl
      have e2 : iconv .i64 ((u % 64 : Nat) : Int) = ((u % 64 : Nat) : Int) := by unfold iconv; exact id64 (by omega) (by omega)
      rw [e1, e2, add64 (by omega) (by omega)]
      omega
    rw [ek]
    obtain ⟨e, t, w, hk, he⟩ : ∃ e t w : Int, Kd e t w ∧ ((if four = true then (some 4) else (some 2) : Option Int)) = some e := by
      cases four with
      | true => exact ⟨4, 9, 9, .inr ⟨rfl, rfl, rfl⟩, rfl⟩
      | false => exact ⟨2, 5, 15, .inl ⟨rfl, rfl, rfl⟩, rfl⟩
    obtain ⟨m, z, hz, hm⟩ : ∃ (m : Int) (z : Nat), (m = 131072 ∧ z = 18 ∨ m = 524288 ∧ z = 20) ∧ ((if great = true then (some 524288) else (some 131072) : Option Int)) = some m := by
      cases great with
      | true => exact ⟨524288, 20, .inr ⟨rfl, rfl⟩, rfl⟩
      | false => exact ⟨131072, 18, .inl ⟨rfl, rfl⟩, rfl⟩
    obtain ⟨v1, g1, f1, z1⟩ := valB ls (iconv .u8 (n : Int)) (iconv .u8 (ishr .u16 (n : Int) 8))
    obtain ⟨v2, g2, f2, b2, z2⟩ := smallB hk ls hn
    obtain ⟨v3, g3, f3, b3, z3⟩ := maskB ls hn hz
    obtain ⟨v4, g4, f4, b4⟩ := ballB ls (k := 1 + u % 64) (by omega) (by omega)
    have fit : ∀ a : Arr 256, FitP a → ref21_Fit.f 60000 a = some true := fun a h => by rw [ref21_Fit_eq 60000 (by decide), of_fitP h]
    have cn : law23_DsampBounds.l0 60000 60000 v4.1 0 0 = some ((cnt v4.1 : Nat) : Int) := cnt_l0 v4.1 256 0 60000 (by decide) (by decide)
    exact bounds_core (W := none) awake23 (S := fun y => dsamp_Small.f 60000 s (n : Int) y) (M := fun y => dsamp_Mask.f 60000 s (n : Int) y) (B := fun y => dsamp_Ball.f 60000 s y) (Ft := ref21_Fit.f 60000) (Nm := ref21_Norm.f 60000) (C := fun r => law23_DsampBounds.l0 60000 60000 r 0 0) he hm g1 g2 g3 g4
      (fit _ f1) (fit _ f2) (fit _ f3) (fit _ f4) (ref21_Norm_eq 60000 (by decide) _ f2) (ref21_Norm_eq 60000 (by decide) _ f3) (ref21_Norm_eq 60000 (by decide) _ f4) cn b2 b3 z3
      (by
        rcases b4 with ⟨r1, r2, r3⟩ | ⟨r1, r2⟩
        · exact .inl ⟨r1, by rw [r2], r3⟩
        · exact .inr ⟨r1, by rw [r2]; rfl⟩) z1 z2
end Go.Proofs.YtppohhnfojalbaaDoor.Pure
