/- Printed by this work's own program: the plain form of the law. -/
import Derived.Test.YtijahfdldlmnhaaF0
import Derived.Test.YtijahfdldlmnhaaMr
set_option linter.unusedVariables false
namespace Go.Proofs.Ytijahfdldlmnhaa
open Go.Mx

def law21_ZqHints.f (K : Nat) (a0 : Int) (a1 : Int) (a2 : Bool) : Option (Bool) :=
  ((if a2 = true then (some 261888) else (some 95232) : Option (Int))).bind fun y1 => if a0 < 0 then ((law21_awake.f K).bind fun r2 => some r2) else (if a0 ≥ 8380417 then ((law21_awake.f K).bind fun r3 => some r3) else (if a1 < (isub .i32 0 y1) then ((law21_awake.f K).bind fun r4 => some r4) else (if a1 > y1 then ((law21_awake.f K).bind fun r5 => some r5) else ((zq_Split.f K a0).bind fun (r6, r7) => (zq_Parts.f K a0 y1).bind fun (r8, r9) => if (iadd .i32 (imul .i32 r6 8192) r7) = a0 then (if r7 ≤ (-4096) then (some false) else (if r7 > 4096 then (some false) else (if (irem .i32 (iadd .i32 (iadd .i32 (imul .i32 (imul .i32 r8 2) y1) r9) 8380417) 8380417) = a0 then (if r9 < (isub .i32 0 y1) then (some false) else (if r9 > y1 then (some false) else (if r8 < 0 then (some false) else (if ¬ (imul .i32 2 y1) = 0 then (if r8 ≥ (iquo .i32 8380416 (imul .i32 2 y1)) then (some false) else ((some (irem .i32 (iadd .i32 a1 8380417) 8380417)).bind fun x10 => (zq_Parts.f K (irem .i32 (iadd .i32 a0 x10) 8380417) y1).bind fun (r11, r12) => (zq_Hint.f K x10 a0 y1).bind fun r13 => (zq_Use.f K r13 a0 y1).bind fun r14 => if r14 = r11 then ((zq_Use.f K false a0 y1).bind fun r15 => if r15 = r8 then ((law21_awake.f K).bind fun r16 => some r16) else (some false)) else (some false))) else none)))) else (some false)))) else (some false)))))

def law21_ZqHints.Pure : Prop := ∀ (a0 : Int), InR .i32 a0 → ∀ (a1 : Int), InR .i32 a1 → ∀ (a2 : Bool), ∃ K, law21_ZqHints.f K a0 a1 a2 = some true

end Go.Proofs.Ytijahfdldlmnhaa
