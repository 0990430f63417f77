/- Printed by this work's own program: the plain form of the law. -/
import Derived.Test.YtijahfdldlmnhaaF0
import Derived.Test.YtijahfdldlmnhaaMr
set_option linter.unusedVariables false
namespace Go.Proofs.Ytijahfdldlmnhaa
open Go.Mx

def law21_ZqParts.f (K : Nat) (a0 : Int) (a1 : Int) (a2 : Bool) (a3 : Bool) : Option (Bool) :=
  if a0 < 0 then ((law21_awake.f K).bind fun r1 => some r1) else (if a0 ≥ 8380417 then ((law21_awake.f K).bind fun r2 => some r2) else (if a1 < 0 then ((law21_awake.f K).bind fun r3 => some r3) else (if a1 ≥ 8380417 then ((law21_awake.f K).bind fun r4 => some r4) else (((if a3 = true then (some 261888) else (some 95232) : Option (Int))).bind fun y5 => (zq_Split.f K a0).bind fun (r6, r7) => (ref21_Split.f K a0).bind fun (r8, r9) => (zq_Parts.f K a0 y5).bind fun (r10, r11) => (ref21_Parts.f K a0 y5).bind fun (r12, r13) => if r6 = r8 then (if r7 = r9 then (if r10 = r12 then (if r11 = r13 then ((zq_Hint.f K a1 a0 y5).bind fun r14 => (ref21_Hint.f K a1 a0 y5).bind fun r15 => if (r14 == r15) = true then ((zq_Use.f K a2 a0 y5).bind fun r16 => (ref21_Use.f K a2 a0 y5).bind fun r17 => if r16 = r17 then ((law21_awake.f K).bind fun r18 => some r18) else (some false)) else (some false)) else (some false)) else (some false)) else (some false)) else (some false)))))

def law21_ZqParts.Pure : Prop := ∀ (a0 : Int), InR .i32 a0 → ∀ (a1 : Int), InR .i32 a1 → ∀ (a2 : Bool), ∀ (a3 : Bool), ∃ K, law21_ZqParts.f K a0 a1 a2 a3 = some true

end Go.Proofs.Ytijahfdldlmnhaa
