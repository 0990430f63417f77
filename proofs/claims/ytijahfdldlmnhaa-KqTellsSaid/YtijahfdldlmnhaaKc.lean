/- Layer 25 (kq), plain laws: the chapter's examples, played. -/
import Derived.Test.YtijahfdldlmnhaaKF0
set_option maxRecDepth 100000
set_option linter.unusedSimpArgs false
set_option linter.unusedVariables false
namespace Go.Proofs.Ytijahfdldlmnhaa
open Go Go.Mx
theorem aw1 : law25_awake.l0 1000 1000 0 (List.replicate (384 : Int).toNat (Cod.zero (CI .u8))) = some (List.replicate 384 255) := by decide +kernel
theorem aw2 : bits_Unpack.f 1000 (List.replicate 384 255) 12 256 = some (List.replicate 256 4095) := by decide +kernel
theorem aw3 : (kq_Unpack.f 1000 (List.replicate 384 255) 12).map (·.2) = some false := by
  unfold kq_Unpack.f
  rw [aw2]
  decide +kernel
theorem aw4 : (kq_Squeeze.f 1000 (wr (wr (wr (zeroA 256) 0 832) 1 833) 2 2497) 1).map (fun r => (rd r 0, rd r 1, rd r 2)) = some (0, 1, 0) := by decide +kernel
theorem awake_core (S : Option (Arr 256)) (L : Option (List Int)) (U : List Int → Option (Arr 256 × Bool)) (y : List Int) (h1 : L = some y) (h3 : (U y).map (·.2) = some false) (h4 : S.map (fun r => (rd r 0, rd r 1, rd r 2)) = some (0, 1, 0)) :
    (S.bind fun r1 => if 0 ≤ (384 : Int) then (if (384 : Int) ≤ 140737488355328 then (L.bind fun y6 => (U y6).bind fun (r7, r8) => if (rd r1 0) = 0 then (if (rd r1 1) = 1 then (if (rd r1 2) = 0 then (some (!r8)) else (some false)) else (some false)) else (some false)) else none) else none) = some true := by
  subst h1
  cases S with
  | none => cases h4
  | some r =>
    simp only [Option.map_some, Option.some.injEq, Prod.mk.injEq] at h4
    simp only [Option.bind_some]
    cases hu : U y with
    | none => rw [hu] at h3; cases h3
    | some p =>
      rw [hu] at h3
      obtain ⟨q, b⟩ := p
      simp only [Option.map_some, Option.some.injEq] at h3
      subst h3
      simp [h4]
theorem awake25 : law25_awake.f 1000 = some true := by
  unfold law25_awake.f
  exact awake_core _ _ _ _ aw1 aw3 aw4
end Go.Proofs.Ytijahfdldlmnhaa
