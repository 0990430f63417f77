/- Printed by this work's own program: the plain form of the law. -/
import Derived.Test.YtijahfdldlmnhabKF0
import Derived.Test.YtijahfdldlmnhabMp
set_option linter.unusedVariables false
set_option linter.unusedSimpArgs false
namespace Go.Proofs.Ytijahfdldlmnhab
open Go.Mx

def law25_KqBack.f (K : Nat) (a0 : Arr 256) (a1 : Arr 256) (a2 : Arr 256) (a3 : Int) (a4 : List Int) : Option (Bool) :=
  (ref25_Fit.f K a0).bind fun r4 => if r4 = true then ((ref25_Fit.f K a1).bind fun r5 => if r5 = true then ((ref25_Fit.f K a2).bind fun r6 => if r6 = true then (if (a4.length : Int) > 1000 then ((law25_awake.f K).bind fun r7 => some r7) else ((kq_Ntt.f K a0).bind fun r8 => (kq_Back.f K r8).bind fun r9 => if (!(eqA r9 a0)) = true then (some false) else ((kq_Back.f K a0).bind fun r10 => (kq_Ntt.f K r10).bind fun r11 => if (!(eqA r11 a0)) = true then (some false) else ((kq_Times.f K a0 a1).bind fun r12 => (kq_Ntt.f K r12).bind fun r13 => (kq_Ntt.f K a0).bind fun r14 => (kq_Ntt.f K a1).bind fun r15 => (kq_Mul.f K r14 r15).bind fun r16 => if (!(eqA r13 r16)) = true then (some false) else ((kq_Add.f K a1 a2).bind fun r17 => (kq_Times.f K a0 r17).bind fun r18 => (kq_Times.f K a0 a1).bind fun r19 => (kq_Times.f K a0 a2).bind fun r20 => (kq_Add.f K r19 r20).bind fun r21 => if (!(eqA r18 r21)) = true then (some false) else ((kq_Sub.f K a0 a1).bind fun r22 => (kq_Add.f K r22 a1).bind fun r23 => if (!(eqA r23 a0)) = true then (some false) else ((kq_Times.f K (wr (zeroA 256) 128 1) a0).bind fun r25 => (kq_Times.f K (wr (zeroA 256) 128 1) r25).bind fun r26 => (kq_Add.f K r26 a0).bind fun r27 => if (!(eqA r27 (zeroA 256))) = true then (some false) else ((kq_Pack.f K a0 12).bind fun r28 => (kq_Unpack.f K r28 12).bind fun (r29, r30) => if r30 = true then ((kq_Unpack.f K a4 a3).bind fun (r32, r33) => if r33 = true then (if (eqA r29 a0) = true then ((kq_Pack.f K r32 a3).bind fun r35 => (ref01_Same.f K r35 a4).bind fun r36 => if r36 = true then ((law25_awake.f K).bind fun r37 => some r37) else (some false)) else (some false)) else (if (eqA r29 a0) = true then ((law25_awake.f K).bind fun r39 => some r39) else (some false))) else ((kq_Unpack.f K a4 a3).bind fun (r41, r42) => if r42 = true then (some false) else (some false)))))))))) else ((law25_awake.f K).bind fun r45 => some r45)) else ((law25_awake.f K).bind fun r46 => some r46)) else ((law25_awake.f K).bind fun r47 => some r47)

def law25_KqBack.Pure : Prop := ∀ (a0 : Arr 256), InA .i32 a0 → ∀ (a1 : Arr 256), InA .i32 a1 → ∀ (a2 : Arr 256), InA .i32 a2 → ∀ (a3 : Int), InR .i64 a3 → ∀ (a4 : List Int), InL .u8 a4 → ∃ K, law25_KqBack.f K a0 a1 a2 a3 a4 = some true

end Go.Proofs.Ytijahfdldlmnhab
