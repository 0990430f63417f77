/- own -/
import Derived.Test.YtemdbgmldljbpaaDoorYF0
set_option linter.unusedVariables false
set_option linter.unusedSimpArgs false
namespace Go.Proofs.YtemdbgmldljbpaaDoor
open Go.Mx
def ref26_Known.f (K:Nat) (a0_0:Int) (a0_1:Int) (a0_2:Int) (a0_3:Int) (a0_4:Int):Option (Bool):=
 (ref26_Set.f K 512).bind fun (r2_0,r2_1,r2_2,r2_3,r2_4,r3)=>(ref26_Set.f K 768).bind fun (r5_0,r5_1,r5_2,r5_3,r5_4,r6)=>(ref26_Set.f K 1024).bind fun (r8_0,r8_1,r8_2,r8_3,r8_4,r9)=>if ((a0_0 == r2_0) && ((a0_1 == r2_1) && ((a0_2 == r2_2) && ((a0_3 == r2_3) && ((a0_4 == r2_4) && true)))))=true then (some true) else (if ((a0_0 == r5_0) && ((a0_1 == r5_1) && ((a0_2 == r5_2) && ((a0_3 == r5_3) && ((a0_4 == r5_4) && true)))))=true then (some true) else (some ((a0_0 == r8_0) && ((a0_1 == r8_1) && ((a0_2 == r8_2) && ((a0_3 == r8_3) && ((a0_4 == r8_4) && true)))))))
def ref26_Sizes.f (K:Nat) (a0_0:Int) (a0_1:Int) (a0_2:Int) (a0_3:Int) (a0_4:Int):Option (Int × Int × Int):=
 (ref26_Known.f K a0_0 a0_1 a0_2 a0_3 a0_4).bind fun r2=>if r2=true then ((some (iadd .i64 (imul .i64 384 a0_0) 32)).bind fun x3=>(some (imul .i64 384 a0_0)).bind fun x4=>(some (imul .i64 32 (iadd .i64 (imul .i64 a0_3 a0_0) a0_4))).bind fun x5=>some (x3,x4,x5)) else (some (0,0,0))
def ref25_Below.l0 (K:Nat):Nat→(Arr 256)→Int→Int→Option ((Unit) ⊕ (Bool))
 | 0,_,_,_=>none
 | k+1,a0,a1,z2=>if z2<256 then (if 0≤z2 then (if z2<256 then (if (rd a0 z2)<0 then (some (.inr false)) else (if 0≤z2 then (if z2<256 then (if (rd a0 z2)≥a1 then (some (.inr false)) else ((some (iadd .i64 z2 1)).bind fun x3=>ref25_Below.l0 K k a0 a1 x3)) else none) else none)) else none) else none) else (some (.inl ()))
def ref25_Below.f (K:Nat) (a0:Arr 256) (a1:Int):Option (Bool):=
 (ref25_Below.l0 K K a0 a1 0).bind fun t0=>(match t0 with | .inl _=>some true | .inr r=>some r)
def ref25_bound.f (K:Nat) (a0:Int):Option (Int):=
 if a0=12 then (some 3329) else (if 0≤a0 then ((some (ishl .i32 1 a0)).bind fun x1=>some x1) else none)
def ref01_Pack.l1 (K:Nat):Nat→(List Int)→Int→Int→Int→(List Int)→Option ((List Int))
 | 0,_,_,_,_,_=>none
 | k+1,a0,a1,z2,z5,z6=>if z5<a1 then ((some (iadd .i64 (imul .i64 z2 a1) z5)).bind fun x8=>(some (iquo .i64 x8 8)).bind fun x9=>if 0≤x9 then (if x9<z6.length then (if 0≤z2 then (if z2<a0.length then (if 0≤z5 then (if 0≤(irem .i64 x8 8) then ((some (iquo .i64 x8 8)).bind fun x10=>if 0≤x10 then (if x10<z6.length then ((some (ior .u8 (rdL (CI .u8) z6 x9) (ishl .u8 (iconv .u8 (iand .u32 (ishr .u32 (rdL (CI .u32) a0 z2) z5) 1)) (irem .i64 x8 8)))).bind fun x11=>(some (iadd .i64 z5 1)).bind fun x12=>ref01_Pack.l1 K k a0 a1 z2 x12 (wrL z6 x10 x11)) else none) else none) else none) else none) else none) else none) else none) else none) else (some z6)
def ref01_Pack.l0 (K:Nat):Nat→(List Int)→Int→Int→(List Int)→Option ((List Int))
 | 0,_,_,_,_=>none
 | k+1,a0,a1,z2,z3=>if z2<(a0.length:Int) then ((ref01_Pack.l1 K K a0 a1 z2 0 z3).bind fun y7=>(some (iadd .i64 z2 1)).bind fun x13=>ref01_Pack.l0 K k a0 a1 x13 y7) else (some z3)
def ref01_Pack.f (K:Nat) (a0:List Int) (a1:Int):Option ((List Int)):=
 if a1<1 then (some ([]:List Int)) else (if a1>24 then (some ([]:List Int)) else (if 0≤(iquo .i64 (iadd .i64 (imul .i64 (a0.length:Int) a1) 7) 8) then (if (iquo .i64 (iadd .i64 (imul .i64 (a0.length:Int) a1) 7) 8)≤140737488355328 then ((ref01_Pack.l0 K K a0 a1 0 (List.replicate ((iquo .i64 (iadd .i64 (imul .i64 (a0.length:Int) a1) 7) 8):Int).toNat (Cod.zero (CI .u8)))).bind fun y4=>some y4) else none) else none))
def ref25_Pack.l0 (K:Nat):Nat→(Arr 256)→Int→(List Int)→Option ((List Int))
 | 0,_,_,_=>none
 | k+1,a0,z4,z5=>if z4<256 then (if 0≤z4 then (if z4<256 then (if z5.length+([(iconv .u32 (rd a0 z4))]:List Int).length≤35184372088832 then ((some (iadd .i64 z4 1)).bind fun x9=>ref25_Pack.l0 K k a0 x9 (z5++([(iconv .u32 (rd a0 z4))]:List Int))) else none) else none) else none) else (some z5)
def ref25_Pack.f (K:Nat) (a0:Arr 256) (a1:Int):Option ((List Int)):=
 if a1<1 then (some ([]:List Int)) else (if a1>12 then (some ([]:List Int)) else ((ref25_bound.f K a1).bind fun r2=>(ref25_Below.f K a0 r2).bind fun r3=>if r3=true then ((ref25_Pack.l0 K K a0 0 ([]:List Int)).bind fun y6=>(ref01_Pack.f K y6 a1).bind fun r10=>some r10) else (some ([]:List Int))))
def ref25_Add.l0 (K:Nat):Nat→(Arr 256)→Int→(Arr 256)→Option ((Arr 256))
 | 0,_,_,_=>none
 | k+1,a1,z4,z5=>if z4<256 then (if 0≤z4 then (if z4<256 then (if 0≤z4 then (if z4<256 then (if 0≤z4 then (if z4<256 then ((some (irem .i32 (iadd .i32 (rd z5 z4) (rd a1 z4)) 3329)).bind fun x7=>(some (iadd .i64 z4 1)).bind fun x8=>ref25_Add.l0 K k a1 x8 (wr z5 z4 x7)) else none) else none) else none) else none) else none) else none) else (some z5)
def ref25_Add.f (K:Nat) (a0:Arr 256) (a1:Arr 256):Option ((Arr 256)):=
 (ref25_Add.l0 K K a1 0 a0).bind fun y6=>some y6
def ref25_powers.l0 (K:Nat):Nat→Int→(Arr 256)→Option ((Arr 256))
 | 0,_,_=>none
 | k+1,z3,z4=>if z3<256 then ((some (isub .i64 z3 1)).bind fun x6=>if 0≤x6 then (if x6<256 then (if 0≤z3 then (if z3<256 then ((some (irem .i32 (imul .i32 (rd z4 x6) 17) 3329)).bind fun x7=>(some (iadd .i64 z3 1)).bind fun x8=>ref25_powers.l0 K k x8 (wr z4 z3 x7)) else none) else none) else none) else none) else (some z4)
def ref25_powers.f (K:Nat):Option ((Arr 256)):=
 (ref25_powers.l0 K K 1 (wr (zeroA 256) 0 1)).bind fun y5=>some y5
def ref25_turned.l0 (K:Nat):Nat→Int→Int→Int→Option (Int)
 | 0,_,_,_=>none
 | k+1,a0,z1,z2=>if z2<7 then (if 0≤z2 then ((some (iadd .i64 (imul .i64 z1 2) (iand .i64 (ishr .i64 a0 z2) 1))).bind fun x4=>(some (iadd .i64 z2 1)).bind fun x5=>ref25_turned.l0 K k a0 x4 x5) else none) else (some z1)
def ref25_turned.f (K:Nat) (a0:Int):Option (Int):=
 (ref25_turned.l0 K K a0 0 0).bind fun y3=>some y3
def ref25_Mul.l0 (K:Nat):Nat→(Arr 256)→(Arr 256)→(Arr 256)→Int→(Arr 256)→Option ((Arr 256))
 | 0,_,_,_,_,_=>none
 | k+1,a0,a1,r4,z7,z8=>if z7<128 then ((ref25_turned.f K z7).bind fun r10=>(some (iadd .i64 (imul .i64 2 r10) 1)).bind fun x11=>if 0≤x11 then (if x11<256 then ((some (rd r4 x11)).bind fun x12=>(some (imul .i64 2 z7)).bind fun x13=>if 0≤x13 then (if x13<256 then ((some (imul .i64 2 z7)).bind fun x14=>if 0≤x14 then (if x14<256 then ((some (iadd .i64 (imul .i64 2 z7) 1)).bind fun x15=>if 0≤x15 then (if x15<256 then ((some (iadd .i64 (imul .i64 2 z7) 1)).bind fun x16=>if 0≤x16 then (if x16<256 then ((some (imul .i64 2 z7)).bind fun x17=>if 0≤x17 then (if x17<256 then ((some (irem .i32 (iadd .i32 (imul .i32 (rd a0 x13) (rd a1 x14)) (imul .i32 (irem .i32 (imul .i32 (rd a0 x15) (rd a1 x16)) 3329) x12)) 3329)).bind fun x18=>(some (imul .i64 2 z7)).bind fun x19=>if 0≤x19 then (if x19<256 then ((some (iadd .i64 (imul .i64 2 z7) 1)).bind fun x20=>if 0≤x20 then (if x20<256 then ((some (iadd .i64 (imul .i64 2 z7) 1)).bind fun x21=>if 0≤x21 then (if x21<256 then ((some (imul .i64 2 z7)).bind fun x22=>if 0≤x22 then (if x22<256 then ((some (iadd .i64 (imul .i64 2 z7) 1)).bind fun x23=>if 0≤x23 then (if x23<256 then ((some (irem .i32 (iadd .i32 (imul .i32 (rd a0 x19) (rd a1 x20)) (imul .i32 (rd a0 x21) (rd a1 x22))) 3329)).bind fun x24=>(some (iadd .i64 z7 1)).bind fun x25=>ref25_Mul.l0 K k a0 a1 r4 x25 (wr (wr z8 x17 x18) x23 x24)) else none) else none) else none) else none) else none) else none) else none) else none) else none) else none) else none) else none) else none) else none) else none) else none) else none) else none) else none) else none) else none) else none) else (some z8)
def ref25_Mul.f (K:Nat) (a0:Arr 256) (a1:Arr 256):Option ((Arr 256)):=
 (ref25_powers.f K).bind fun r4=>(ref25_Mul.l0 K K a0 a1 r4 0 (zeroA 256)).bind fun y9=>some y9
def ref26_dot.l0 (K:Nat):Nat→(List (Arr 256))→(List (Arr 256))→Int→(Arr 256)→Option ((Arr 256))
 | 0,_,_,_,_=>none
 | k+1,a0,a1,z3,z4=>if z3<(a0.length:Int) then (if 0≤z3 then (if z3<a0.length then (if 0≤z3 then (if z3<a1.length then ((ref25_Mul.f K (rdL (CA .i32 256 (by decide)) a0 z3) (rdL (CA .i32 256 (by decide)) a1 z3)).bind fun r6=>(ref25_Add.f K z4 r6).bind fun r7=>(some (iadd .i64 z3 1)).bind fun x8=>ref26_dot.l0 K k a0 a1 x8 r7) else none) else none) else none) else none) else (some z4)
def ref26_dot.f (K:Nat) (a0:List (Arr 256)) (a1:List (Arr 256)):Option ((Arr 256)):=
 (ref26_dot.l0 K K a0 a1 0 (zeroA 256)).bind fun y5=>some y5
def ref01_such.f (K:Nat) (a0:List Int) (a1:Int) (a2:Int):Option (Bool):=
 if a1≥1 then (if a1≤24 then (if a2≥0 then (if ¬ a1=0 then (some (decide (a2≤(iquo .i64 (imul .i64 (a0.length:Int) 8) a1)))) else none) else (some false)) else (some false)) else (some false)
def ref01_Unpack.l1 (K:Nat):Nat→(List Int)→Int→Int→Int→Int→Option (Int)
 | 0,_,_,_,_,_=>none
 | k+1,a0,a1,z2,z6,z7=>if z7≥0 then ((some (iadd .i64 (imul .i64 z2 a1) z7)).bind fun x9=>(some (iquo .i64 x9 8)).bind fun x10=>if 0≤x10 then (if x10<a0.length then (if 0≤(irem .i64 x9 8) then ((some (iadd .u32 (imul .u32 z6 2) (iconv .u32 (iand .u8 (ishr .u8 (rdL (CI .u8) a0 x10) (irem .i64 x9 8)) 1)))).bind fun x11=>(some (isub .i64 z7 1)).bind fun x12=>ref01_Unpack.l1 K k a0 a1 z2 x11 x12) else none) else none) else none) else (some z6)
def ref01_Unpack.l0 (K:Nat):Nat→(List Int)→Int→Int→Int→(List Int)→Option ((List Int))
 | 0,_,_,_,_,_=>none
 | k+1,a0,a1,a2,z2,z3=>if z2<a2 then ((some (isub .i64 a1 1)).bind fun x5=>(ref01_Unpack.l1 K K a0 a1 z2 0 x5).bind fun y8=>if z3.length+([y8]:List Int).length≤35184372088832 then ((some (iadd .i64 z2 1)).bind fun x15=>ref01_Unpack.l0 K k a0 a1 a2 x15 (z3++([y8]:List Int))) else none) else (some z3)
def ref01_Unpack.f (K:Nat) (a0:List Int) (a1:Int) (a2:Int):Option ((List Int)):=
 (ref01_such.f K a0 a1 a2).bind fun r1=>if r1=true then ((ref01_Unpack.l0 K K a0 a1 a2 0 ([]:List Int)).bind fun y4=>some y4) else (some ([]:List Int))
def ref25_Unpack.l0 (K:Nat):Nat→(List Int)→Int→(Arr 256)→Option ((Arr 256))
 | 0,_,_,_=>none
 | k+1,r2,z4,z5=>if z4<256 then (if 0≤z4 then (if z4<r2.length then (if 0≤z4 then (if z4<256 then ((some (iconv .i32 (rdL (CI .u32) r2 z4))).bind fun x7=>(some (iadd .i64 z4 1)).bind fun x8=>ref25_Unpack.l0 K k r2 x8 (wr z5 z4 x7)) else none) else none) else none) else none) else (some z5)
def ref25_Unpack.f (K:Nat) (a0:List Int) (a1:Int):Option ((Arr 256) × Bool):=
 if a1<1 then (some ((zeroA 256),false)) else (if a1>12 then (some ((zeroA 256),false)) else (if (a0.length:Int)=(imul .i64 32 a1) then ((ref01_Unpack.f K a0 a1 256).bind fun r2=>(ref25_Unpack.l0 K K r2 0 (zeroA 256)).bind fun y6=>(ref25_bound.f K a1).bind fun r9=>(ref25_Below.f K y6 r9).bind fun r10=>if r10=true then (some (y6,true)) else (some ((zeroA 256),false))) else (some ((zeroA 256),false))))
def ref26_read.l0 (K:Nat):Nat→(List Int)→Int→Int→Int→(List (Arr 256))→Option (((List (Arr 256))) ⊕ ((List (Arr 256)) × Bool))
 | 0,_,_,_,_,_=>none
 | k+1,a0,a1,a2,z1,z2=>if z1<a1 then (if 0≤(imul .i64 (imul .i64 32 a2) z1) then (if (imul .i64 (imul .i64 32 a2) z1)≤(imul .i64 (imul .i64 32 a2) (iadd .i64 z1 1)) then (if (imul .i64 (imul .i64 32 a2) (iadd .i64 z1 1))≤a0.length then ((ref25_Unpack.f K (subL a0 (imul .i64 (imul .i64 32 a2) z1) (imul .i64 (imul .i64 32 a2) (iadd .i64 z1 1))) a2).bind fun (r5,r6)=>if r6=true then (if z2.length+([r5]:List (Arr 256)).length≤137438953472 then ((some (iadd .i64 z1 1)).bind fun x10=>ref26_read.l0 K k a0 a1 a2 x10 (z2++([r5]:List (Arr 256)))) else none) else (some (.inr (([]:List (Arr 256)),false)))) else none) else none) else none) else (some (.inl z2))
def ref26_read.f (K:Nat) (a0:List Int) (a1:Int) (a2:Int):Option ((List (Arr 256)) × Bool):=
 (ref26_read.l0 K K a0 a1 a2 0 ([]:List (Arr 256))).bind fun t0=>(match t0 with | .inl y3=>some (y3,true) | .inr r=>some r)
def ref25_Back.l1 (K:Nat):Nat→(Arr 256)→(Arr 256)→Int→Int→Int→Int→Option (Int × Int)
 | 0,_,_,_,_,_,_=>none
 | k+1,a0,r3,z6,z9,z10,z11=>if z11<128 then ((ref25_turned.f K z11).bind fun r14=>(some (irem .i64 (isub .i64 256 (irem .i64 (imul .i64 (iadd .i64 (imul .i64 2 r14) 1) z6) 256)) 256)).bind fun x15=>if 0≤x15 then (if x15<256 then ((some (rd r3 x15)).bind fun x16=>(some (imul .i64 2 z11)).bind fun x17=>if 0≤x17 then (if x17<256 then ((some (irem .i32 (iadd .i32 z9 (imul .i32 (rd a0 x17) x16)) 3329)).bind fun x18=>(some (iadd .i64 (imul .i64 2 z11) 1)).bind fun x19=>if 0≤x19 then (if x19<256 then ((some (irem .i32 (iadd .i32 z10 (imul .i32 (rd a0 x19) x16)) 3329)).bind fun x20=>(some (iadd .i64 z11 1)).bind fun x21=>ref25_Back.l1 K k a0 r3 z6 x18 x20 x21) else none) else none) else none) else none) else none) else none) else (some (z9,z10))
def ref25_Back.l0 (K:Nat):Nat→(Arr 256)→(Arr 256)→Int→(Arr 256)→Option ((Arr 256))
 | 0,_,_,_,_=>none
 | k+1,a0,r3,z6,z7=>if z6<128 then ((ref25_Back.l1 K K a0 r3 z6 0 0 0).bind fun (y12,y13)=>(some (imul .i64 2 z6)).bind fun x22=>if 0≤x22 then (if x22<256 then ((some (irem .i32 (imul .i32 y12 3303) 3329)).bind fun x23=>(some (iadd .i64 (imul .i64 2 z6) 1)).bind fun x24=>if 0≤x24 then (if x24<256 then ((some (irem .i32 (imul .i32 y13 3303) 3329)).bind fun x25=>(some (iadd .i64 z6 1)).bind fun x26=>ref25_Back.l0 K k a0 r3 x26 (wr (wr z7 x22 x23) x24 x25)) else none) else none) else none) else none) else (some z7)
def ref25_Back.f (K:Nat) (a0:Arr 256):Option ((Arr 256)):=
 (ref25_powers.f K).bind fun r3=>(ref25_Back.l0 K K a0 r3 0 (zeroA 256)).bind fun y8=>some y8
def ref25_Squeeze.l0 (K:Nat):Nat→Int→Int→(Arr 256)→Option ((Arr 256))
 | 0,_,_,_=>none
 | k+1,a1,z3,z4=>if z3<256 then (if 0≤z3 then (if z3<256 then (if 0≤a1 then (if 0≤a1 then (if ¬ (ishl .i32 1 a1)=0 then (if 0≤z3 then (if z3<256 then ((some (irem .i32 (iquo .i32 (iadd .i32 (ishl .i32 (imul .i32 2 (rd z4 z3)) a1) 3329) 6658) (ishl .i32 1 a1))).bind fun x6=>(some (iadd .i64 z3 1)).bind fun x7=>ref25_Squeeze.l0 K k a1 x7 (wr z4 z3 x6)) else none) else none) else none) else none) else none) else none) else none) else (some z4)
def ref25_Squeeze.f (K:Nat) (a0:Arr 256) (a1:Int):Option ((Arr 256)):=
 if a1<1 then (some (zeroA 256)) else (if a1>11 then (some (zeroA 256)) else ((ref25_Squeeze.l0 K K a1 0 a0).bind fun y5=>some y5))
def ref25_Widen.l0 (K:Nat):Nat→Int→Int→(Arr 256)→Option ((Arr 256))
 | 0,_,_,_=>none
 | k+1,a1,z4,z5=>if z4<256 then (if 0≤z4 then (if z4<256 then (if 0≤a1 then (if 0≤a1 then (if ¬ (ishl .i32 2 a1)=0 then (if 0≤z4 then (if z4<256 then ((some (iquo .i32 (iadd .i32 (imul .i32 (imul .i32 2 (rd z5 z4)) 3329) (ishl .i32 1 a1)) (ishl .i32 2 a1))).bind fun x7=>(some (iadd .i64 z4 1)).bind fun x8=>ref25_Widen.l0 K k a1 x8 (wr z5 z4 x7)) else none) else none) else none) else none) else none) else none) else none) else (some z5)
def ref25_Widen.f (K:Nat) (a0:Arr 256) (a1:Int):Option ((Arr 256)):=
 if a1<1 then (some (zeroA 256)) else (if a1>11 then (some (zeroA 256)) else (if 0≤a1 then ((ref25_Below.f K a0 (ishl .i32 1 a1)).bind fun r3=>if r3=true then ((ref25_Widen.l0 K K a1 0 a0).bind fun y6=>some y6) else (some (zeroA 256))) else none))
def ref25_Ntt.l1 (K:Nat):Nat→(Arr 256)→(Arr 256)→Int→Int→Int→Int→Option (Int × Int)
 | 0,_,_,_,_,_,_=>none
 | k+1,a0,r3,x10,z11,z12,z13=>if z13<128 then ((some (irem .i64 (imul .i64 x10 z13) 256)).bind fun x16=>if 0≤x16 then (if x16<256 then ((some (rd r3 x16)).bind fun x17=>(some (imul .i64 2 z13)).bind fun x18=>if 0≤x18 then (if x18<256 then ((some (irem .i32 (iadd .i32 z11 (imul .i32 (rd a0 x18) x17)) 3329)).bind fun x19=>(some (iadd .i64 (imul .i64 2 z13) 1)).bind fun x20=>if 0≤x20 then (if x20<256 then ((some (irem .i32 (iadd .i32 z12 (imul .i32 (rd a0 x20) x17)) 3329)).bind fun x21=>(some (iadd .i64 z13 1)).bind fun x22=>ref25_Ntt.l1 K k a0 r3 x10 x19 x21 x22) else none) else none) else none) else none) else none) else none) else (some (z11,z12))
def ref25_Ntt.l0 (K:Nat):Nat→(Arr 256)→(Arr 256)→Int→(Arr 256)→Option ((Arr 256))
 | 0,_,_,_,_=>none
 | k+1,a0,r3,z6,z7=>if z6<128 then ((ref25_turned.f K z6).bind fun r9=>(some (iadd .i64 (imul .i64 2 r9) 1)).bind fun x10=>(ref25_Ntt.l1 K K a0 r3 x10 0 0 0).bind fun (y14,y15)=>(some (imul .i64 2 z6)).bind fun x23=>if 0≤x23 then (if x23<256 then ((some (iadd .i64 (imul .i64 2 z6) 1)).bind fun x24=>if 0≤x24 then (if x24<256 then ((some (iadd .i64 z6 1)).bind fun x25=>ref25_Ntt.l0 K k a0 r3 x25 (wr (wr z7 x23 y14) x24 y15)) else none) else none) else none) else none) else (some z7)
def ref25_Ntt.f (K:Nat) (a0:Arr 256):Option ((Arr 256)):=
 (ref25_powers.f K).bind fun r3=>(ref25_Ntt.l0 K K a0 r3 0 (zeroA 256)).bind fun y8=>some y8
def ref25_Sub.l0 (K:Nat):Nat→(Arr 256)→Int→(Arr 256)→Option ((Arr 256))
 | 0,_,_,_=>none
 | k+1,a1,z4,z5=>if z4<256 then (if 0≤z4 then (if z4<256 then (if 0≤z4 then (if z4<256 then (if 0≤z4 then (if z4<256 then ((some (irem .i32 (iadd .i32 (isub .i32 (rd z5 z4) (rd a1 z4)) 3329) 3329)).bind fun x7=>(some (iadd .i64 z4 1)).bind fun x8=>ref25_Sub.l0 K k a1 x8 (wr z5 z4 x7)) else none) else none) else none) else none) else none) else none) else (some z5)
def ref25_Sub.f (K:Nat) (a0:Arr 256) (a1:Arr 256):Option ((Arr 256)):=
 (ref25_Sub.l0 K K a1 0 a0).bind fun y6=>some y6
def ref26_Decrypt.l0 (K:Nat):Nat→Int→Int→(List (Arr 256))→Int→(List (Arr 256))→Option ((List (Arr 256)))
 | 0,_,_,_,_,_=>none
 | k+1,a0_0,a0_3,r7,z9,z10=>if z9<a0_0 then (if 0≤z9 then (if z9<r7.length then ((ref25_Widen.f K (rdL (CA .i32 256 (by decide)) r7 z9) a0_3).bind fun r12=>(ref25_Ntt.f K r12).bind fun r13=>if z10.length+([r13]:List (Arr 256)).length≤137438953472 then ((some (iadd .i64 z9 1)).bind fun x16=>ref26_Decrypt.l0 K k a0_0 a0_3 r7 x16 (z10++([r13]:List (Arr 256)))) else none) else none) else none) else (some z10)
def ref26_Decrypt.f (K:Nat) (a0_0:Int) (a0_1:Int) (a0_2:Int) (a0_3:Int) (a0_4:Int) (a1:List Int) (a2:List Int):Option ((List Int) × Int):=
 (ref26_Sizes.f K a0_0 a0_1 a0_2 a0_3 a0_4).bind fun (r2,r3,r4)=>if r3=0 then (some (([]:List Int),9)) else (if (a1.length:Int)=r3 then ((ref26_read.f K a1 a0_0 12).bind fun (r5,r6)=>if r6=true then (if (a2.length:Int)=r4 then ((ref26_read.f K a2 a0_0 a0_3).bind fun (r7,r8)=>(ref26_Decrypt.l0 K K a0_0 a0_3 r7 0 ([]:List (Arr 256))).bind fun y11=>((if 0≤(imul .i64 (imul .i64 32 a0_3) a0_0) then (if (imul .i64 (imul .i64 32 a0_3) a0_0)≤(a2.length:Int) then (if (a2.length:Int)≤a2.length then ((ref25_Unpack.f K (subL a2 (imul .i64 (imul .i64 32 a0_3) a0_0) (a2.length:Int)) a0_4).bind fun (r20,r21)=>some r20) else none) else none) else none:Option ((Arr 256)))).bind fun y18=>(ref25_Widen.f K y18 a0_4).bind fun r26=>(ref26_dot.f K r5 y11).bind fun r27=>(ref25_Back.f K r27).bind fun r28=>(ref25_Sub.f K r26 r28).bind fun r29=>(ref25_Squeeze.f K r29 1).bind fun r31=>(ref25_Pack.f K r31 1).bind fun r32=>some (r32,0)) else (some (([]:List Int),14))) else (some (([]:List Int),10))) else (some (([]:List Int),10)))
def kem_Seal.f (K:Nat) (a0_0:Int) (a0_1:Int) (a0_2:Int) (a0_3:Int) (a0_4:Int) (a1:List Int) (a2:List Int):Option ((List Int) × (List Int) × Int):=
 (kem_Sizes.f K a0_0 a0_1 a0_2 a0_3 a0_4).bind fun (r2,r3,r4)=>if r2=0 then (some (([]:List Int),([]:List Int),9)) else ((kem_good.f K a0_0 a0_1 a0_2 a0_3 a0_4 a1).bind fun r5=>if r5=true then (if (a2.length:Int)=32 then ((kem_digest.f K a1).bind fun r6=>(bits_Join.f K ([a2,r6]:List (List Int))).bind fun r8=>(keccak_Sum.f K 5 r8 64).bind fun (r9,r10)=>if 0≤(0:Int) then (if (0:Int)≤(32:Int) then (if (32:Int)≤(32:Int) then (if (32:Int)≤r9.length then (if 0≤(32:Int) then (if (32:Int)≤(r9.length:Int) then (if (r9.length:Int)≤r9.length then ((kpke_Encrypt.f K a0_0 a0_1 a0_2 a0_3 a0_4 a1 a2 (subL r9 32 (r9.length:Int))).bind fun (r13,r14)=>if r14=0 then (some ((subL r9 0 32),r13,0)) else (some (([]:List Int),([]:List Int),r14))) else none) else none) else none) else none) else none) else none) else none) else (some (([]:List Int),([]:List Int),14))) else (some (([]:List Int),([]:List Int),10)))
end Go.Proofs.YtemdbgmldljbpaaDoor
