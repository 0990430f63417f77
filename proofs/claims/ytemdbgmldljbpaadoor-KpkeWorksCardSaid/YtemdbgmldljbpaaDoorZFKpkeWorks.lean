/- own -/
import Derived.Test.YtemdbgmldljbpaaDoorZF0
set_option linter.unusedVariables false
set_option linter.unusedSimpArgs false
namespace Go.Proofs.YtemdbgmldljbpaaDoor
open Go.Mx
def law26_few.l0 (K:Nat):Nat→(List (List Int))→Int→Option ((Unit) ⊕ (Bool))
 | 0,_,_=>none
 | k+1,a0,z1=>if z1<(a0.length:Int) then (if 0≤z1 then (if z1<a0.length then (if ((rdLL a0 z1).length:Int)>300 then (some (.inr false)) else (law26_few.l0 K k a0 (iadd .i64 z1 1))) else none) else none) else (some (.inl ()))
def law26_few.f (K:Nat) (a0:List (List Int)):Option (Bool):=
 (law26_few.l0 K K a0 0).bind fun t0=>(match t0 with | .inl _=>some true | .inr r=>some r)
def ref26_Known.f (K:Nat) (a0_0:Int) (a0_1:Int) (a0_2:Int) (a0_3:Int) (a0_4:Int):Option (Bool):=
 (ref26_Set.f K 512).bind fun (r2_0,r2_1,r2_2,r2_3,r2_4,r3)=>(ref26_Set.f K 768).bind fun (r5_0,r5_1,r5_2,r5_3,r5_4,r6)=>(ref26_Set.f K 1024).bind fun (r8_0,r8_1,r8_2,r8_3,r8_4,r9)=>if ((a0_0 == r2_0) && ((a0_1 == r2_1) && ((a0_2 == r2_2) && ((a0_3 == r2_3) && ((a0_4 == r2_4) && true)))))=true then (some true) else (if ((a0_0 == r5_0) && ((a0_1 == r5_1) && ((a0_2 == r5_2) && ((a0_3 == r5_3) && ((a0_4 == r5_4) && true)))))=true then (some true) else (some ((a0_0 == r8_0) && ((a0_1 == r8_1) && ((a0_2 == r8_2) && ((a0_3 == r8_3) && ((a0_4 == r8_4) && true)))))))
def ref01_Join.l0 (K:Nat):Nat→(List (List Int))→Int→(List Int)→Option ((List Int))
 | 0,_,_,_=>none
 | k+1,a0,z1,z2=>if z1<(a0.length:Int) then (if 0≤z1 then (if z1<a0.length then (if z2.length+(rdLL a0 z1).length≤140737488355328 then ((some (iadd .i64 z1 1)).bind fun x6=>ref01_Join.l0 K k a0 x6 (z2++(rdLL a0 z1))) else none) else none) else none) else (some z2)
def ref01_Join.f (K:Nat) (a0:List (List Int)):Option ((List Int)):=
 (ref01_Join.l0 K K a0 0 ([]:List Int)).bind fun y3=>some y3
def ref08_Rate.f (K:Nat) (a0:Int):Option (Int):=
 if a0=4 then (some 136) else (if a0=7 then (some 136) else (if a0=5 then (some 72) else (if a0=6 then (some 168) else (some 0))))
def ref08_New.f (K:Nat) (a0:Int):Option (Int × (Arr 25) × Int × Bool × Int):=
 (ref08_Rate.f K a0).bind fun r2=>if r2=0 then (some (0,(zeroA 25),0,false,9)) else (some (a0,(zeroA 25),0,false,0))
def ref08_constants.l0 (K:Nat):Nat→Int→Int→(Arr 24)→Option ((Arr 24))
 | 0,_,_,_=>none
 | k+1,z3,z4,z5=>if z4<168 then (((((if (iand .u64 z3 1)=1 then ((some (iquo .i64 z4 7)).bind fun x10=>if 0≤x10 then (if x10<24 then (if 0≤(irem .i64 z4 7) then (if 0≤(isub .u64 (ishl .u64 1 (irem .i64 z4 7)) 1) then ((some (iquo .i64 z4 7)).bind fun x11=>if 0≤x11 then (if x11<24 then ((some (ior .u64 (rd z5 x10) (ishl .u64 1 (isub .u64 (ishl .u64 1 (irem .i64 z4 7)) 1)))).bind fun x12=>some (wr z5 x11 x12)) else none) else none) else none) else none) else none) else none) else (some z5):Option ((Arr 24)))).bind fun y9=>(some (imul .u64 z3 2)).bind fun x13=>if x13≥256 then ((some (ixor .u64 (iand .u64 x13 255) 113)).bind fun x14=>some (x14,y9)) else (some (x13,y9)):Option (Int × (Arr 24)))).bind fun (y7,y8)=>(some (iadd .i64 z4 1)).bind fun x15=>ref08_constants.l0 K k y7 x15 y8) else (some z5)
def ref08_constants.f (K:Nat):Option ((Arr 24)):=
 (ref08_constants.l0 K K 1 0 (zeroA 24)).bind fun y6=>some y6
def ref08_left.f (K:Nat) (a0:Int) (a1:Int):Option (Int):=
 (some (irem .i64 a1 64)).bind fun x1=>if 0≤x1 then (if 0≤(isub .i64 64 x1) then ((some (ior .u64 (ishl .u64 a0 x1) (ishr .u64 a0 (isub .i64 64 x1)))).bind fun x2=>some x2) else none) else none
def ref08_move.l0 (K:Nat):Nat→(Arr 25)→Int→Int→Int→(Arr 25)→Option ((Arr 25))
 | 0,_,_,_,_,_=>none
 | k+1,a0,z5,z6,z7,z8=>if z7<24 then ((some (irem .i64 (iadd .i64 (imul .i64 2 z5) (imul .i64 3 z6)) 5)).bind fun x10=>(some (iadd .i64 z5 (imul .i64 5 z6))).bind fun x11=>if 0≤x11 then (if x11<25 then ((ref08_left.f K (rd a0 x11) (iquo .i64 (imul .i64 (iadd .i64 z7 1) (iadd .i64 z7 2)) 2)).bind fun r12=>(some (iadd .i64 z6 (imul .i64 5 x10))).bind fun x13=>if 0≤x13 then (if x13<25 then ((some (iadd .i64 z7 1)).bind fun x14=>ref08_move.l0 K k a0 z6 x10 x14 (wr z8 x13 r12)) else none) else none) else none) else none) else (some z8)
def ref08_move.f (K:Nat) (a0:Arr 25):Option ((Arr 25)):=
 (some (rd a0 0)).bind fun x4=>(ref08_move.l0 K K a0 1 0 0 (wr (zeroA 25) 0 x4)).bind fun y9=>some y9
def ref08_spread.l0 (K:Nat):Nat→(Arr 25)→Int→(Arr 5)→Option ((Arr 5))
 | 0,_,_,_=>none
 | k+1,a0,z4,z5=>if z4<25 then ((some (irem .i64 z4 5)).bind fun x7=>if 0≤x7 then (if x7<5 then (if 0≤z4 then (if z4<25 then ((some (irem .i64 z4 5)).bind fun x8=>if 0≤x8 then (if x8<5 then ((some (ixor .u64 (rd z5 x7) (rd a0 z4))).bind fun x9=>(some (iadd .i64 z4 1)).bind fun x10=>ref08_spread.l0 K k a0 x10 (wr z5 x8 x9)) else none) else none) else none) else none) else none) else none) else (some z5)
def ref08_spread.l1 (K:Nat):Nat→(Arr 5)→Int→(Arr 25)→Option ((Arr 25))
 | 0,_,_,_=>none
 | k+1,y6,z11,z12=>if z11<25 then (if 0≤z11 then (if z11<25 then ((some (irem .i64 (iadd .i64 z11 4) 5)).bind fun x14=>if 0≤x14 then (if x14<5 then ((some (irem .i64 (iadd .i64 z11 1) 5)).bind fun x15=>if 0≤x15 then (if x15<5 then ((ref08_left.f K (rd y6 x15) 1).bind fun r16=>if 0≤z11 then (if z11<25 then ((some (ixor .u64 (ixor .u64 (rd z12 z11) (rd y6 x14)) r16)).bind fun x17=>(some (iadd .i64 z11 1)).bind fun x18=>ref08_spread.l1 K k y6 x18 (wr z12 z11 x17)) else none) else none) else none) else none) else none) else none) else none) else none) else (some z12)
def ref08_spread.f (K:Nat) (a0:Arr 25):Option ((Arr 25)):=
 (ref08_spread.l0 K K a0 0 (zeroA 5)).bind fun y6=>(ref08_spread.l1 K K y6 0 a0).bind fun y13=>some y13
def ref08_Permute.l1 (K:Nat):Nat→(Arr 25)→Int→(Arr 25)→Option ((Arr 25))
 | 0,_,_,_=>none
 | k+1,r9,z11,z12=>if z11<25 then ((some (imul .i64 (iquo .i64 z11 5) 5)).bind fun x14=>if 0≤z11 then (if z11<25 then ((some (iadd .i64 x14 (irem .i64 (iadd .i64 z11 1) 5))).bind fun x15=>if 0≤x15 then (if x15<25 then ((some (iadd .i64 x14 (irem .i64 (iadd .i64 z11 2) 5))).bind fun x16=>if 0≤x16 then (if x16<25 then (if 0≤z11 then (if z11<25 then ((some (ixor .u64 (rd r9 z11) (iand .u64 (ixor .u64 (rd r9 x15) 18446744073709551615) (rd r9 x16)))).bind fun x17=>(some (iadd .i64 z11 1)).bind fun x18=>ref08_Permute.l1 K k r9 x18 (wr z12 z11 x17)) else none) else none) else none) else none) else none) else none) else none) else none) else (some z12)
def ref08_Permute.l0 (K:Nat):Nat→(Arr 24)→Int→(Arr 25)→Option ((Arr 25))
 | 0,_,_,_=>none
 | k+1,r3,z5,z6=>if z5<24 then ((ref08_spread.f K z6).bind fun r8=>(ref08_move.f K r8).bind fun r9=>(ref08_Permute.l1 K K r9 0 z6).bind fun y13=>if 0≤z5 then (if z5<24 then ((some (ixor .u64 (rd y13 0) (rd r3 z5))).bind fun x19=>(some (iadd .i64 z5 1)).bind fun x20=>ref08_Permute.l0 K k r3 x20 (wr y13 0 x19)) else none) else none) else (some z6)
def ref08_Permute.f (K:Nat) (a0:Arr 25):Option ((Arr 25)):=
 (ref08_constants.f K).bind fun r3=>(ref08_Permute.l0 K K r3 0 a0).bind fun y7=>some y7
def ref08_put.f (K:Nat) (a0:Arr 25) (a1:Int) (a2:Int):Option ((Arr 25)):=
 (some (iquo .i64 a1 8)).bind fun x3=>if 0≤x3 then (if x3<25 then (if 0≤(imul .i64 8 (irem .i64 a1 8)) then ((some (iquo .i64 a1 8)).bind fun x4=>if 0≤x4 then (if x4<25 then ((some (ixor .u64 (rd a0 x3) (ishl .u64 (iconv .u64 a2) (imul .i64 8 (irem .i64 a1 8))))).bind fun x5=>some (wr a0 x4 x5)) else none) else none) else none) else none) else none
def ref08_Squeeze.l0 (K:Nat):Nat→Int→Int→(List Int)→Int→(Arr 25)→Int→Bool→Option ((List Int) × Int × (Arr 25) × Int × Bool)
 | 0,_,_,_,_,_,_,_=>none
 | k+1,a1,r3,z9,z10_0,z10_1,z10_2,z10_3=>if (z9.length:Int)<a1 then (((if z10_2=r3 then ((ref08_Permute.f K z10_1).bind fun r14=>some (z10_0,r14,0,z10_3)) else (some (z10_0,z10_1,z10_2,z10_3)):Option (Int × (Arr 25) × Int × Bool))).bind fun (y13_0,y13_1,y13_2,y13_3)=>(some (iquo .i64 y13_2 8)).bind fun x15=>if 0≤x15 then (if x15<25 then (if 0≤(imul .i64 8 (irem .i64 y13_2 8)) then (if z9.length+([(iconv .u8 (ishr .u64 (rd y13_1 x15) (imul .i64 8 (irem .i64 y13_2 8))))]:List Int).length≤140737488355328 then ((some (iadd .i64 y13_2 1)).bind fun x18=>ref08_Squeeze.l0 K k a1 r3 (z9++([(iconv .u8 (ishr .u64 (rd y13_1 x15) (imul .i64 8 (irem .i64 y13_2 8))))]:List Int)) y13_0 y13_1 x18 y13_3) else none) else none) else none) else none) else (some (z9,z10_0,z10_1,z10_2,z10_3))
def ref08_Squeeze.f (K:Nat) (a0_0:Int) (a0_1:Arr 25) (a0_2:Int) (a0_3:Bool) (a1:Int):Option (Int × (Arr 25) × Int × Bool × (List Int)):=
 if a1<0 then (some (a0_0,a0_1,a0_2,a0_3,([]:List Int))) else ((ref08_Rate.f K a0_0).bind fun r3=>((if a0_3=true then (some (a0_0,a0_1,a0_2,true)) else (((if a0_0=4 then (some 6) else (if a0_0=5 then (some 6) else (some 31)):Option (Int))).bind fun y5=>(ref08_put.f K a0_1 a0_2 y5).bind fun r6=>(ref08_put.f K r6 (isub .i64 r3 1) 128).bind fun r7=>(ref08_Permute.f K r7).bind fun r8=>some (a0_0,r8,0,true)):Option (Int × (Arr 25) × Int × Bool))).bind fun (y4_0,y4_1,y4_2,y4_3)=>(ref08_Squeeze.l0 K K a1 r3 ([]:List Int) y4_0 y4_1 y4_2 y4_3).bind fun (y11,y12_0,y12_1,y12_2,y12_3)=>some (y12_0,y12_1,y12_2,y12_3,y11))
def ref08_Absorb.l0 (K:Nat):Nat→(List Int)→Int→Int→(Arr 25)→Int→Bool→Option (Int × (Arr 25) × Int × Bool)
 | 0,_,_,_,_,_,_=>none
 | k+1,a1,z3,z4_0,z4_1,z4_2,z4_3=>if z3<(a1.length:Int) then (((if 0≤z3 then (if z3<a1.length then ((ref08_put.f K z4_1 z4_2 (rdL (CI .u8) a1 z3)).bind fun r7=>(some (iadd .i64 z4_2 1)).bind fun x8=>(ref08_Rate.f K z4_0).bind fun r9=>if x8=r9 then ((ref08_Permute.f K r7).bind fun r10=>some (z4_0,r10,0,z4_3)) else (some (z4_0,r7,x8,z4_3))) else none) else none:Option (Int × (Arr 25) × Int × Bool))).bind fun (y6_0,y6_1,y6_2,y6_3)=>(some (iadd .i64 z3 1)).bind fun x11=>ref08_Absorb.l0 K k a1 x11 y6_0 y6_1 y6_2 y6_3) else (some (z4_0,z4_1,z4_2,z4_3))
def ref08_Absorb.f (K:Nat) (a0_0:Int) (a0_1:Arr 25) (a0_2:Int) (a0_3:Bool) (a1:List Int):Option (Int × (Arr 25) × Int × Bool):=
 if a0_3=true then (some (a0_0,a0_1,a0_2,true)) else ((ref08_Absorb.l0 K K a1 0 a0_0 a0_1 a0_2 false).bind fun (y5_0,y5_1,y5_2,y5_3)=>some (y5_0,y5_1,y5_2,y5_3))
def ref08_Sum.f (K:Nat) (a0:Int) (a1:List Int) (a2:Int):Option ((List Int) × Int):=
 (ref08_New.f K a0).bind fun (r1_0,r1_1,r1_2,r1_3,r2)=>if r2=0 then (if a2<0 then (some (([]:List Int),8)) else (if a2>16777216 then (some (([]:List Int),8)) else ((ref08_Absorb.f K r1_0 r1_1 r1_2 r1_3 a1).bind fun (r4_0,r4_1,r4_2,r4_3)=>(ref08_Squeeze.f K r4_0 r4_1 r4_2 r4_3 a2).bind fun (r5_0,r5_1,r5_2,r5_3,r6)=>some (r6,0)))) else (some (([]:List Int),r2))
def ref01_such.f (K:Nat) (a0:List Int) (a1:Int) (a2:Int):Option (Bool):=
 if a1≥1 then (if a1≤24 then (if a2≥0 then (if ¬ a1=0 then (some (decide (a2≤(iquo .i64 (imul .i64 (a0.length:Int) 8) a1)))) else none) else (some false)) else (some false)) else (some false)
def ref01_Unpack.l1 (K:Nat):Nat→(List Int)→Int→Int→Int→Int→Option (Int)
 | 0,_,_,_,_,_=>none
 | k+1,a0,a1,z2,z6,z7=>if z7≥0 then ((some (iadd .i64 (imul .i64 z2 a1) z7)).bind fun x9=>(some (iquo .i64 x9 8)).bind fun x10=>if 0≤x10 then (if x10<a0.length then (if 0≤(irem .i64 x9 8) then ((some (iadd .u32 (imul .u32 z6 2) (iconv .u32 (iand .u8 (ishr .u8 (rdL (CI .u8) a0 x10) (irem .i64 x9 8)) 1)))).bind fun x11=>(some (isub .i64 z7 1)).bind fun x12=>ref01_Unpack.l1 K k a0 a1 z2 x11 x12) else none) else none) else none) else (some z6)
def ref01_Unpack.l0 (K:Nat):Nat→(List Int)→Int→Int→Int→(List Int)→Option ((List Int))
 | 0,_,_,_,_,_=>none
 | k+1,a0,a1,a2,z2,z3=>if z2<a2 then ((some (isub .i64 a1 1)).bind fun x5=>(ref01_Unpack.l1 K K a0 a1 z2 0 x5).bind fun y8=>if z3.length+([y8]:List Int).length≤35184372088832 then ((some (iadd .i64 z2 1)).bind fun x15=>ref01_Unpack.l0 K k a0 a1 a2 x15 (z3++([y8]:List Int))) else none) else (some z3)
def ref01_Unpack.f (K:Nat) (a0:List Int) (a1:Int) (a2:Int):Option ((List Int)):=
 (ref01_such.f K a0 a1 a2).bind fun r1=>if r1=true then ((ref01_Unpack.l0 K K a0 a1 a2 0 ([]:List Int)).bind fun y4=>some y4) else (some ([]:List Int))
def ref26_drawn.l0 (K:Nat):Nat→(List Int)→Int→Int→(Arr 256)→Option (Int × (Arr 256))
 | 0,_,_,_,_=>none
 | k+1,r4,z6,z7,z8=>if z7<(r4.length:Int) then (if z6<256 then (((if 0≤z7 then (if z7<r4.length then (if (rdL (CI .u32) r4 z7)<3329 then (if 0≤z7 then (if z7<r4.length then (if 0≤z6 then (if z6<256 then ((some (iconv .i32 (rdL (CI .u32) r4 z7))).bind fun x13=>(some (iadd .i64 z6 1)).bind fun x14=>some (x14,(wr z8 z6 x13))) else none) else none) else none) else none) else (some (z6,z8))) else none) else none:Option (Int × (Arr 256)))).bind fun (y11,y12)=>(some (iadd .i64 z7 1)).bind fun x15=>ref26_drawn.l0 K k r4 y11 x15 y12) else (some (z6,z8))) else (some (z6,z8))
def ref26_drawn.f (K:Nat) (a0:List Int) (a1:Int):Option ((Arr 256) × Int):=
 (ref08_Sum.f K 6 a0 a1).bind fun (r2,r3)=>(ref01_Unpack.f K r2 12 (iquo .i64 (imul .i64 a1 2) 3)).bind fun r4=>(ref26_drawn.l0 K K r4 0 0 (zeroA 256)).bind fun (y9,y10)=>some (y10,y9)
def ref26_Parts.f (K:Nat) (a0:List Int) (a1:Int) (a2:Int):Option ((Arr 256) × Int):=
 (ref01_Join.f K ([a0,([a2,a1]:List Int)]:List (List Int))).bind fun r4=>(ref26_drawn.f K r4 672).bind fun (r5,r6)=>((if r6<256 then ((ref26_drawn.f K r4 12288).bind fun (r10,r11)=>some (r11,r10)) else (some (r6,r5)):Option (Int × (Arr 256)))).bind fun (y8,y9)=>if y8<256 then (some ((zeroA 256),12)) else (some (y9,0))
def ref25_powers.l0 (K:Nat):Nat→Int→(Arr 256)→Option ((Arr 256))
 | 0,_,_=>none
 | k+1,z3,z4=>if z3<256 then ((some (isub .i64 z3 1)).bind fun x6=>if 0≤x6 then (if x6<256 then (if 0≤z3 then (if z3<256 then ((some (irem .i32 (imul .i32 (rd z4 x6) 17) 3329)).bind fun x7=>(some (iadd .i64 z3 1)).bind fun x8=>ref25_powers.l0 K k x8 (wr z4 z3 x7)) else none) else none) else none) else none) else (some z4)
def ref25_powers.f (K:Nat):Option ((Arr 256)):=
 (ref25_powers.l0 K K 1 (wr (zeroA 256) 0 1)).bind fun y5=>some y5
def ref25_turned.l0 (K:Nat):Nat→Int→Int→Int→Option (Int)
 | 0,_,_,_=>none
 | k+1,a0,z1,z2=>if z2<7 then (if 0≤z2 then ((some (iadd .i64 (imul .i64 z1 2) (iand .i64 (ishr .i64 a0 z2) 1))).bind fun x4=>(some (iadd .i64 z2 1)).bind fun x5=>ref25_turned.l0 K k a0 x4 x5) else none) else (some z1)
def ref25_turned.f (K:Nat) (a0:Int):Option (Int):=
 (ref25_turned.l0 K K a0 0 0).bind fun y3=>some y3
def ref25_Ntt.l1 (K:Nat):Nat→(Arr 256)→(Arr 256)→Int→Int→Int→Int→Option (Int × Int)
 | 0,_,_,_,_,_,_=>none
 | k+1,a0,r3,x10,z11,z12,z13=>if z13<128 then ((some (irem .i64 (imul .i64 x10 z13) 256)).bind fun x16=>if 0≤x16 then (if x16<256 then ((some (rd r3 x16)).bind fun x17=>(some (imul .i64 2 z13)).bind fun x18=>if 0≤x18 then (if x18<256 then ((some (irem .i32 (iadd .i32 z11 (imul .i32 (rd a0 x18) x17)) 3329)).bind fun x19=>(some (iadd .i64 (imul .i64 2 z13) 1)).bind fun x20=>if 0≤x20 then (if x20<256 then ((some (irem .i32 (iadd .i32 z12 (imul .i32 (rd a0 x20) x17)) 3329)).bind fun x21=>(some (iadd .i64 z13 1)).bind fun x22=>ref25_Ntt.l1 K k a0 r3 x10 x19 x21 x22) else none) else none) else none) else none) else none) else none) else (some (z11,z12))
def ref25_Ntt.l0 (K:Nat):Nat→(Arr 256)→(Arr 256)→Int→(Arr 256)→Option ((Arr 256))
 | 0,_,_,_,_=>none
 | k+1,a0,r3,z6,z7=>if z6<128 then ((ref25_turned.f K z6).bind fun r9=>(some (iadd .i64 (imul .i64 2 r9) 1)).bind fun x10=>(ref25_Ntt.l1 K K a0 r3 x10 0 0 0).bind fun (y14,y15)=>(some (imul .i64 2 z6)).bind fun x23=>if 0≤x23 then (if x23<256 then ((some (iadd .i64 (imul .i64 2 z6) 1)).bind fun x24=>if 0≤x24 then (if x24<256 then ((some (iadd .i64 z6 1)).bind fun x25=>ref25_Ntt.l0 K k a0 r3 x25 (wr (wr z7 x23 y14) x24 y15)) else none) else none) else none) else none) else (some z7)
def ref25_Ntt.f (K:Nat) (a0:Arr 256):Option ((Arr 256)):=
 (ref25_powers.f K).bind fun r3=>(ref25_Ntt.l0 K K a0 r3 0 (zeroA 256)).bind fun y8=>some y8
def ref26_ntt.l0 (K:Nat):Nat→(List (Arr 256))→Int→(List (Arr 256))→Option ((List (Arr 256)))
 | 0,_,_,_=>none
 | k+1,a0,z1,z2=>if z1<(a0.length:Int) then (if 0≤z1 then (if z1<a0.length then ((ref25_Ntt.f K (rdL (CA .i32 256 (by decide)) a0 z1)).bind fun r4=>if z2.length+([r4]:List (Arr 256)).length≤137438953472 then ((some (iadd .i64 z1 1)).bind fun x7=>ref26_ntt.l0 K k a0 x7 (z2++([r4]:List (Arr 256)))) else none) else none) else none) else (some z2)
def ref26_ntt.f (K:Nat) (a0:List (Arr 256)):Option ((List (Arr 256))):=
 (ref26_ntt.l0 K K a0 0 ([]:List (Arr 256))).bind fun y3=>some y3
def ref26_bit.f (K:Nat) (a0:List Int) (a1:Int):Option (Int):=
 (some (iquo .i64 a1 8)).bind fun x1=>if 0≤x1 then (if x1<a0.length then (if 0≤(irem .i64 a1 8) then ((some (iconv .i32 (iand .u8 (ishr .u8 (rdL (CI .u8) a0 x1) (irem .i64 a1 8)) 1))).bind fun x2=>some x2) else none) else none) else none
def ref26_Noise.l1 (K:Nat):Nat→Int→(List Int)→Int→Int→Int→Option (Int)
 | 0,_,_,_,_,_=>none
 | k+1,a0,r7,z9,z12,z13=>if z13<a0 then ((ref26_bit.f K r7 (iadd .i64 (imul .i64 (imul .i64 2 z9) a0) z13)).bind fun r15=>(ref26_bit.f K r7 (iadd .i64 (iadd .i64 (imul .i64 (imul .i64 2 z9) a0) a0) z13)).bind fun r16=>(some (isub .i32 (iadd .i32 z12 r15) r16)).bind fun x17=>(some (iadd .i64 z13 1)).bind fun x18=>ref26_Noise.l1 K k a0 r7 z9 x17 x18) else (some z12)
def ref26_Noise.l0 (K:Nat):Nat→Int→(List Int)→Int→(Arr 256)→Option ((Arr 256))
 | 0,_,_,_,_=>none
 | k+1,a0,r7,z9,z10=>if z9<256 then ((ref26_Noise.l1 K K a0 r7 z9 0 0).bind fun y14=>if 0≤z9 then (if z9<256 then ((some (irem .i32 (iadd .i32 y14 3329) 3329)).bind fun x19=>(some (iadd .i64 z9 1)).bind fun x20=>ref26_Noise.l0 K k a0 r7 x20 (wr z10 z9 x19)) else none) else none) else (some z10)
def ref26_Noise.f (K:Nat) (a0:Int) (a1:List Int) (a2:Int):Option ((Arr 256)):=
 ((if a0=2 then (some (.inl (zeroA 256))) else (if a0=3 then (some (.inl (zeroA 256))) else (some (.inr (zeroA 256)))):Option (((Arr 256)) ⊕ ((Arr 256))))).bind fun tv6=>(match tv6 with | .inl y3=>(ref01_Join.f K ([a1,([a2]:List Int)]:List (List Int))).bind fun r6=>(ref08_Sum.f K 7 r6 (imul .i64 64 a0)).bind fun (r7,r8)=>(ref26_Noise.l0 K K a0 r7 0 (zeroA 256)).bind fun y11=>some y11 | .inr r=>some r)
def ref26_row.l0 (K:Nat):Nat→Int→Int→(List Int)→Int→Int→(List (Arr 256))→Option ((List (Arr 256)))
 | 0,_,_,_,_,_,_=>none
 | k+1,a0,a1,a2,a3,z1,z2=>if z1<a0 then ((ref26_Noise.f K a1 a2 (iconv .u8 (iadd .i64 a3 z1))).bind fun r4=>if z2.length+([r4]:List (Arr 256)).length≤137438953472 then ((some (iadd .i64 z1 1)).bind fun x7=>ref26_row.l0 K k a0 a1 a2 a3 x7 (z2++([r4]:List (Arr 256)))) else none) else (some z2)
def ref26_row.f (K:Nat) (a0:Int) (a1:Int) (a2:List Int) (a3:Int):Option ((List (Arr 256))):=
 (ref26_row.l0 K K a0 a1 a2 a3 0 ([]:List (Arr 256))).bind fun y3=>some y3
def ref25_bound.f (K:Nat) (a0:Int):Option (Int):=
 if a0=12 then (some 3329) else (if 0≤a0 then ((some (ishl .i32 1 a0)).bind fun x1=>some x1) else none)
def ref01_Pack.l1 (K:Nat):Nat→(List Int)→Int→Int→Int→(List Int)→Option ((List Int))
 | 0,_,_,_,_,_=>none
 | k+1,a0,a1,z2,z5,z6=>if z5<a1 then ((some (iadd .i64 (imul .i64 z2 a1) z5)).bind fun x8=>(some (iquo .i64 x8 8)).bind fun x9=>if 0≤x9 then (if x9<z6.length then (if 0≤z2 then (if z2<a0.length then (if 0≤z5 then (if 0≤(irem .i64 x8 8) then ((some (iquo .i64 x8 8)).bind fun x10=>if 0≤x10 then (if x10<z6.length then ((some (ior .u8 (rdL (CI .u8) z6 x9) (ishl .u8 (iconv .u8 (iand .u32 (ishr .u32 (rdL (CI .u32) a0 z2) z5) 1)) (irem .i64 x8 8)))).bind fun x11=>(some (iadd .i64 z5 1)).bind fun x12=>ref01_Pack.l1 K k a0 a1 z2 x12 (wrL z6 x10 x11)) else none) else none) else none) else none) else none) else none) else none) else none) else (some z6)
def ref01_Pack.l0 (K:Nat):Nat→(List Int)→Int→Int→(List Int)→Option ((List Int))
 | 0,_,_,_,_=>none
 | k+1,a0,a1,z2,z3=>if z2<(a0.length:Int) then ((ref01_Pack.l1 K K a0 a1 z2 0 z3).bind fun y7=>(some (iadd .i64 z2 1)).bind fun x13=>ref01_Pack.l0 K k a0 a1 x13 y7) else (some z3)
def ref01_Pack.f (K:Nat) (a0:List Int) (a1:Int):Option ((List Int)):=
 if a1<1 then (some ([]:List Int)) else (if a1>24 then (some ([]:List Int)) else (if 0≤(iquo .i64 (iadd .i64 (imul .i64 (a0.length:Int) a1) 7) 8) then (if (iquo .i64 (iadd .i64 (imul .i64 (a0.length:Int) a1) 7) 8)≤140737488355328 then ((ref01_Pack.l0 K K a0 a1 0 (List.replicate ((iquo .i64 (iadd .i64 (imul .i64 (a0.length:Int) a1) 7) 8):Int).toNat (Cod.zero (CI .u8)))).bind fun y4=>some y4) else none) else none))
def ref25_Pack.l0 (K:Nat):Nat→(Arr 256)→Int→(List Int)→Option ((List Int))
 | 0,_,_,_=>none
 | k+1,a0,z4,z5=>if z4<256 then (if 0≤z4 then (if z4<256 then (if z5.length+([(iconv .u32 (rd a0 z4))]:List Int).length≤35184372088832 then ((some (iadd .i64 z4 1)).bind fun x9=>ref25_Pack.l0 K k a0 x9 (z5++([(iconv .u32 (rd a0 z4))]:List Int))) else none) else none) else none) else (some z5)
def ref25_Pack.f (K:Nat) (a0:Arr 256) (a1:Int):Option ((List Int)):=
 if a1<1 then (some ([]:List Int)) else (if a1>12 then (some ([]:List Int)) else ((ref25_bound.f K a1).bind fun r2=>(ref25_Below.f K a0 r2).bind fun r3=>if r3=true then ((ref25_Pack.l0 K K a0 0 ([]:List Int)).bind fun y6=>(ref01_Pack.f K y6 a1).bind fun r10=>some r10) else (some ([]:List Int))))
def ref25_Add.l0 (K:Nat):Nat→(Arr 256)→Int→(Arr 256)→Option ((Arr 256))
 | 0,_,_,_=>none
 | k+1,a1,z4,z5=>if z4<256 then (if 0≤z4 then (if z4<256 then (if 0≤z4 then (if z4<256 then (if 0≤z4 then (if z4<256 then ((some (irem .i32 (iadd .i32 (rd z5 z4) (rd a1 z4)) 3329)).bind fun x7=>(some (iadd .i64 z4 1)).bind fun x8=>ref25_Add.l0 K k a1 x8 (wr z5 z4 x7)) else none) else none) else none) else none) else none) else none) else (some z5)
def ref25_Add.f (K:Nat) (a0:Arr 256) (a1:Arr 256):Option ((Arr 256)):=
 (ref25_Add.l0 K K a1 0 a0).bind fun y6=>some y6
def ref25_Mul.l0 (K:Nat):Nat→(Arr 256)→(Arr 256)→(Arr 256)→Int→(Arr 256)→Option ((Arr 256))
 | 0,_,_,_,_,_=>none
 | k+1,a0,a1,r4,z7,z8=>if z7<128 then ((ref25_turned.f K z7).bind fun r10=>(some (iadd .i64 (imul .i64 2 r10) 1)).bind fun x11=>if 0≤x11 then (if x11<256 then ((some (rd r4 x11)).bind fun x12=>(some (imul .i64 2 z7)).bind fun x13=>if 0≤x13 then (if x13<256 then ((some (imul .i64 2 z7)).bind fun x14=>if 0≤x14 then (if x14<256 then ((some (iadd .i64 (imul .i64 2 z7) 1)).bind fun x15=>if 0≤x15 then (if x15<256 then ((some (iadd .i64 (imul .i64 2 z7) 1)).bind fun x16=>if 0≤x16 then (if x16<256 then ((some (imul .i64 2 z7)).bind fun x17=>if 0≤x17 then (if x17<256 then ((some (irem .i32 (iadd .i32 (imul .i32 (rd a0 x13) (rd a1 x14)) (imul .i32 (irem .i32 (imul .i32 (rd a0 x15) (rd a1 x16)) 3329) x12)) 3329)).bind fun x18=>(some (imul .i64 2 z7)).bind fun x19=>if 0≤x19 then (if x19<256 then ((some (iadd .i64 (imul .i64 2 z7) 1)).bind fun x20=>if 0≤x20 then (if x20<256 then ((some (iadd .i64 (imul .i64 2 z7) 1)).bind fun x21=>if 0≤x21 then (if x21<256 then ((some (imul .i64 2 z7)).bind fun x22=>if 0≤x22 then (if x22<256 then ((some (iadd .i64 (imul .i64 2 z7) 1)).bind fun x23=>if 0≤x23 then (if x23<256 then ((some (irem .i32 (iadd .i32 (imul .i32 (rd a0 x19) (rd a1 x20)) (imul .i32 (rd a0 x21) (rd a1 x22))) 3329)).bind fun x24=>(some (iadd .i64 z7 1)).bind fun x25=>ref25_Mul.l0 K k a0 a1 r4 x25 (wr (wr z8 x17 x18) x23 x24)) else none) else none) else none) else none) else none) else none) else none) else none) else none) else none) else none) else none) else none) else none) else none) else none) else none) else none) else none) else none) else none) else none) else (some z8)
def ref25_Mul.f (K:Nat) (a0:Arr 256) (a1:Arr 256):Option ((Arr 256)):=
 (ref25_powers.f K).bind fun r4=>(ref25_Mul.l0 K K a0 a1 r4 0 (zeroA 256)).bind fun y9=>some y9
def ref26_dot.l0 (K:Nat):Nat→(List (Arr 256))→(List (Arr 256))→Int→(Arr 256)→Option ((Arr 256))
 | 0,_,_,_,_=>none
 | k+1,a0,a1,z3,z4=>if z3<(a0.length:Int) then (if 0≤z3 then (if z3<a0.length then (if 0≤z3 then (if z3<a1.length then ((ref25_Mul.f K (rdL (CA .i32 256 (by decide)) a0 z3) (rdL (CA .i32 256 (by decide)) a1 z3)).bind fun r6=>(ref25_Add.f K z4 r6).bind fun r7=>(some (iadd .i64 z3 1)).bind fun x8=>ref26_dot.l0 K k a0 a1 x8 r7) else none) else none) else none) else none) else (some z4)
def ref26_dot.f (K:Nat) (a0:List (Arr 256)) (a1:List (Arr 256)):Option ((Arr 256)):=
 (ref26_dot.l0 K K a0 a1 0 (zeroA 256)).bind fun y5=>some y5
def ref26_matrix_s.l1 (K:Nat):Nat→Int→(List Int)→Int→Int→(List (Arr 256))→Option (((List (Arr 256))) ⊕ ((List (List (Arr 256))) × Int))
 | 0,_,_,_,_,_=>none
 | k+1,ca0,ca5,z4,z7,z8=>if z7<ca0 then ((ref26_Parts.f K ca5 (iconv .u8 z4) (iconv .u8 z7)).bind fun (r10,r11)=>if r11=0 then (if z8.length+([r10]:List (Arr 256)).length≤137438953472 then ((some (iadd .i64 z7 1)).bind fun x15=>ref26_matrix_s.l1 K k ca0 ca5 z4 x15 (z8++([r10]:List (Arr 256)))) else none) else (some (.inr (([]:List (List (Arr 256))),r11)))) else (some (.inl z8))
def ref26_matrix_s.l0 (K:Nat):Nat→Int→(List Int)→Int→(List (List (Arr 256)))→Option (((List (List (Arr 256)))) ⊕ ((List (List (Arr 256))) × Int))
 | 0,_,_,_,_=>none
 | k+1,ca0,ca5,z4,z5=>if z4<ca0 then ((ref26_matrix_s.l1 K K ca0 ca5 z4 0 ([]:List (Arr 256))).bind fun t1=>(match t1 with | .inl y9=>if z5.length+1≤5864062014805 then ((some (iadd .i64 z4 1)).bind fun x18=>ref26_matrix_s.l0 K k ca0 ca5 x18 (z5++[y9])) else none | .inr r=>some (.inr r))) else (some (.inl z5))
def ref26_matrix_s.f (K:Nat) (ca0:Int) (ca1:Int) (ca2:Int) (ca3:Int) (ca4:Int) (ca5:List Int):Option ((List (List (Arr 256))) × Int):=
 (ref26_matrix_s.l0 K K ca0 ca5 0 ([]:List (List (Arr 256)))).bind fun t0=>(match t0 with | .inl y6=>some (y6,0) | .inr r=>some r)
def ref26_Keys.l0 (K:Nat):Nat→Int→(List (List (Arr 256)))→(List (Arr 256))→(List (Arr 256))→Int→(List Int)→(List Int)→Option ((List Int) × (List Int))
 | 0,_,_,_,_,_,_,_=>none
 | k+1,a0_0,r9,r17,r20,z21,z22,z23=>if z21<a0_0 then (if 0≤z21 then (if z21<r9.length then (if 0≤z21 then (if z21<r20.length then ((ref26_dot.f K (rdLL r9 z21) r17).bind fun r27=>(ref25_Add.f K r27 (rdL (CA .i32 256 (by decide)) r20 z21)).bind fun r28=>(ref25_Pack.f K r28 12).bind fun r29=>if z23.length+r29.length≤140737488355328 then (if 0≤z21 then (if z21<r17.length then ((ref25_Pack.f K (rdL (CA .i32 256 (by decide)) r17 z21) 12).bind fun r31=>if z22.length+r31.length≤140737488355328 then ((some (iadd .i64 z21 1)).bind fun x33=>ref26_Keys.l0 K k a0_0 r9 r17 r20 x33 (z22++r31) (z23++r29)) else none) else none) else none) else none) else none) else none) else none) else none) else (some (z22,z23))
def ref26_Keys.f (K:Nat) (a0_0:Int) (a0_1:Int) (a0_2:Int) (a0_3:Int) (a0_4:Int) (a1:List Int):Option ((List Int) × (List Int) × Int):=
 (ref26_Known.f K a0_0 a0_1 a0_2 a0_3 a0_4).bind fun r2=>if r2=true then (if (a1.length:Int)=32 then ((ref01_Join.f K ([a1,([(iconv .u8 a0_0)]:List Int)]:List (List Int))).bind fun r5=>(ref08_Sum.f K 5 r5 64).bind fun (r6,r7)=>if 0≤(0:Int) then (if (0:Int)≤(32:Int) then (if (32:Int)≤r6.length then ((ref26_matrix_s.f K a0_0 a0_1 a0_2 a0_3 a0_4 (subL r6 0 32)).bind fun (r9,r10)=>if r10=0 then (if 0≤(32:Int) then (if (32:Int)≤(r6.length:Int) then (if (r6.length:Int)≤r6.length then ((ref26_row.f K a0_0 a0_1 (subL r6 32 (r6.length:Int)) 0).bind fun r16=>(ref26_ntt.f K r16).bind fun r17=>if 0≤(32:Int) then (if (32:Int)≤(r6.length:Int) then (if (r6.length:Int)≤r6.length then ((ref26_row.f K a0_0 a0_1 (subL r6 32 (r6.length:Int)) a0_0).bind fun r19=>(ref26_ntt.f K r19).bind fun r20=>(ref26_Keys.l0 K K a0_0 r9 r17 r20 0 ([]:List Int) ([]:List Int)).bind fun (y24,y25)=>if 0≤(0:Int) then (if (0:Int)≤(32:Int) then (if (32:Int)≤r6.length then (if y25.length+(subL r6 0 32).length≤140737488355328 then (some ((y25++(subL r6 0 32)),y24,0)) else none) else none) else none) else none) else none) else none) else none) else none) else none) else none) else (some (([]:List Int),([]:List Int),r10))) else none) else none) else none) else (some (([]:List Int),([]:List Int),14))) else (some (([]:List Int),([]:List Int),9))
def ref26_Sizes.f (K:Nat) (a0_0:Int) (a0_1:Int) (a0_2:Int) (a0_3:Int) (a0_4:Int):Option (Int × Int × Int):=
 (ref26_Known.f K a0_0 a0_1 a0_2 a0_3 a0_4).bind fun r2=>if r2=true then ((some (iadd .i64 (imul .i64 384 a0_0) 32)).bind fun x3=>(some (imul .i64 384 a0_0)).bind fun x4=>(some (imul .i64 32 (iadd .i64 (imul .i64 a0_3 a0_0) a0_4))).bind fun x5=>some (x3,x4,x5)) else (some (0,0,0))
def ref25_Unpack.l0 (K:Nat):Nat→(List Int)→Int→(Arr 256)→Option ((Arr 256))
 | 0,_,_,_=>none
 | k+1,r2,z4,z5=>if z4<256 then (if 0≤z4 then (if z4<r2.length then (if 0≤z4 then (if z4<256 then ((some (iconv .i32 (rdL (CI .u32) r2 z4))).bind fun x7=>(some (iadd .i64 z4 1)).bind fun x8=>ref25_Unpack.l0 K k r2 x8 (wr z5 z4 x7)) else none) else none) else none) else none) else (some z5)
def ref25_Unpack.f (K:Nat) (a0:List Int) (a1:Int):Option ((Arr 256) × Bool):=
 if a1<1 then (some ((zeroA 256),false)) else (if a1>12 then (some ((zeroA 256),false)) else (if (a0.length:Int)=(imul .i64 32 a1) then ((ref01_Unpack.f K a0 a1 256).bind fun r2=>(ref25_Unpack.l0 K K r2 0 (zeroA 256)).bind fun y6=>(ref25_bound.f K a1).bind fun r9=>(ref25_Below.f K y6 r9).bind fun r10=>if r10=true then (some (y6,true)) else (some ((zeroA 256),false))) else (some ((zeroA 256),false))))
def ref26_read.l0 (K:Nat):Nat→(List Int)→Int→Int→Int→(List (Arr 256))→Option (((List (Arr 256))) ⊕ ((List (Arr 256)) × Bool))
 | 0,_,_,_,_,_=>none
 | k+1,a0,a1,a2,z1,z2=>if z1<a1 then (if 0≤(imul .i64 (imul .i64 32 a2) z1) then (if (imul .i64 (imul .i64 32 a2) z1)≤(imul .i64 (imul .i64 32 a2) (iadd .i64 z1 1)) then (if (imul .i64 (imul .i64 32 a2) (iadd .i64 z1 1))≤a0.length then ((ref25_Unpack.f K (subL a0 (imul .i64 (imul .i64 32 a2) z1) (imul .i64 (imul .i64 32 a2) (iadd .i64 z1 1))) a2).bind fun (r5,r6)=>if r6=true then (if z2.length+([r5]:List (Arr 256)).length≤137438953472 then ((some (iadd .i64 z1 1)).bind fun x10=>ref26_read.l0 K k a0 a1 a2 x10 (z2++([r5]:List (Arr 256)))) else none) else (some (.inr (([]:List (Arr 256)),false)))) else none) else none) else none) else (some (.inl z2))
def ref26_read.f (K:Nat) (a0:List Int) (a1:Int) (a2:Int):Option ((List (Arr 256)) × Bool):=
 (ref26_read.l0 K K a0 a1 a2 0 ([]:List (Arr 256))).bind fun t0=>(match t0 with | .inl y3=>some (y3,true) | .inr r=>some r)
def ref25_Back.l1 (K:Nat):Nat→(Arr 256)→(Arr 256)→Int→Int→Int→Int→Option (Int × Int)
 | 0,_,_,_,_,_,_=>none
 | k+1,a0,r3,z6,z9,z10,z11=>if z11<128 then ((ref25_turned.f K z11).bind fun r14=>(some (irem .i64 (isub .i64 256 (irem .i64 (imul .i64 (iadd .i64 (imul .i64 2 r14) 1) z6) 256)) 256)).bind fun x15=>if 0≤x15 then (if x15<256 then ((some (rd r3 x15)).bind fun x16=>(some (imul .i64 2 z11)).bind fun x17=>if 0≤x17 then (if x17<256 then ((some (irem .i32 (iadd .i32 z9 (imul .i32 (rd a0 x17) x16)) 3329)).bind fun x18=>(some (iadd .i64 (imul .i64 2 z11) 1)).bind fun x19=>if 0≤x19 then (if x19<256 then ((some (irem .i32 (iadd .i32 z10 (imul .i32 (rd a0 x19) x16)) 3329)).bind fun x20=>(some (iadd .i64 z11 1)).bind fun x21=>ref25_Back.l1 K k a0 r3 z6 x18 x20 x21) else none) else none) else none) else none) else none) else none) else (some (z9,z10))
def ref25_Back.l0 (K:Nat):Nat→(Arr 256)→(Arr 256)→Int→(Arr 256)→Option ((Arr 256))
 | 0,_,_,_,_=>none
 | k+1,a0,r3,z6,z7=>if z6<128 then ((ref25_Back.l1 K K a0 r3 z6 0 0 0).bind fun (y12,y13)=>(some (imul .i64 2 z6)).bind fun x22=>if 0≤x22 then (if x22<256 then ((some (irem .i32 (imul .i32 y12 3303) 3329)).bind fun x23=>(some (iadd .i64 (imul .i64 2 z6) 1)).bind fun x24=>if 0≤x24 then (if x24<256 then ((some (irem .i32 (imul .i32 y13 3303) 3329)).bind fun x25=>(some (iadd .i64 z6 1)).bind fun x26=>ref25_Back.l0 K k a0 r3 x26 (wr (wr z7 x22 x23) x24 x25)) else none) else none) else none) else none) else (some z7)
def ref25_Back.f (K:Nat) (a0:Arr 256):Option ((Arr 256)):=
 (ref25_powers.f K).bind fun r3=>(ref25_Back.l0 K K a0 r3 0 (zeroA 256)).bind fun y8=>some y8
def ref25_Squeeze.l0 (K:Nat):Nat→Int→Int→(Arr 256)→Option ((Arr 256))
 | 0,_,_,_=>none
 | k+1,a1,z3,z4=>if z3<256 then (if 0≤z3 then (if z3<256 then (if 0≤a1 then (if 0≤a1 then (if ¬ (ishl .i32 1 a1)=0 then (if 0≤z3 then (if z3<256 then ((some (irem .i32 (iquo .i32 (iadd .i32 (ishl .i32 (imul .i32 2 (rd z4 z3)) a1) 3329) 6658) (ishl .i32 1 a1))).bind fun x6=>(some (iadd .i64 z3 1)).bind fun x7=>ref25_Squeeze.l0 K k a1 x7 (wr z4 z3 x6)) else none) else none) else none) else none) else none) else none) else none) else (some z4)
def ref25_Squeeze.f (K:Nat) (a0:Arr 256) (a1:Int):Option ((Arr 256)):=
 if a1<1 then (some (zeroA 256)) else (if a1>11 then (some (zeroA 256)) else ((ref25_Squeeze.l0 K K a1 0 a0).bind fun y5=>some y5))
def ref25_Widen.l0 (K:Nat):Nat→Int→Int→(Arr 256)→Option ((Arr 256))
 | 0,_,_,_=>none
 | k+1,a1,z4,z5=>if z4<256 then (if 0≤z4 then (if z4<256 then (if 0≤a1 then (if 0≤a1 then (if ¬ (ishl .i32 2 a1)=0 then (if 0≤z4 then (if z4<256 then ((some (iquo .i32 (iadd .i32 (imul .i32 (imul .i32 2 (rd z5 z4)) 3329) (ishl .i32 1 a1)) (ishl .i32 2 a1))).bind fun x7=>(some (iadd .i64 z4 1)).bind fun x8=>ref25_Widen.l0 K k a1 x8 (wr z5 z4 x7)) else none) else none) else none) else none) else none) else none) else none) else (some z5)
def ref25_Widen.f (K:Nat) (a0:Arr 256) (a1:Int):Option ((Arr 256)):=
 if a1<1 then (some (zeroA 256)) else (if a1>11 then (some (zeroA 256)) else (if 0≤a1 then ((ref25_Below.f K a0 (ishl .i32 1 a1)).bind fun r3=>if r3=true then ((ref25_Widen.l0 K K a1 0 a0).bind fun y6=>some y6) else (some (zeroA 256))) else none))
def ref26_Encrypt.l1 (K:Nat):Nat→Int→(List (List (Arr 256)))→Int→Int→(List (Arr 256))→Option ((List (Arr 256)))
 | 0,_,_,_,_,_=>none
 | k+1,a0_0,r8,z17,z20,z21=>if z20<a0_0 then (if 0≤z20 then (if z20<r8.length then (if 0≤z17 then (if z17<(rdLL r8 z20).length then (if z21.length+([(rdL (CA .i32 256 (by decide)) (rdLL r8 z20) z17)]:List (Arr 256)).length≤137438953472 then ((some (iadd .i64 z20 1)).bind fun x26=>ref26_Encrypt.l1 K k a0_0 r8 z17 x26 (z21++([(rdL (CA .i32 256 (by decide)) (rdLL r8 z20) z17)]:List (Arr 256)))) else none) else none) else none) else none) else none) else (some z21)
def ref26_Encrypt.l0 (K:Nat):Nat→Int→Int→(List (List (Arr 256)))→(List (Arr 256))→(List (Arr 256))→Int→(List Int)→Option ((List Int))
 | 0,_,_,_,_,_,_,_=>none
 | k+1,a0_0,a0_3,r8,r15,r16,z17,z18=>if z17<a0_0 then ((ref26_Encrypt.l1 K K a0_0 r8 z17 0 ([]:List (Arr 256))).bind fun y22=>((if 0≤z17 then (if z17<r16.length then ((ref26_dot.f K y22 r15).bind fun r29=>(ref25_Back.f K r29).bind fun r30=>(ref25_Add.f K r30 (rdL (CA .i32 256 (by decide)) r16 z17)).bind fun r31=>some r31) else none) else none:Option ((Arr 256)))).bind fun y28=>(ref25_Squeeze.f K y28 a0_3).bind fun r42=>(ref25_Pack.f K r42 a0_3).bind fun r43=>if z18.length+r43.length≤140737488355328 then ((some (iadd .i64 z17 1)).bind fun x45=>ref26_Encrypt.l0 K k a0_0 a0_3 r8 r15 r16 x45 (z18++r43)) else none) else (some z18)
def ref26_Encrypt.l2 (K:Nat):Nat→(List Int)→Int→(Arr 256)→Option ((Arr 256))
 | 0,_,_,_=>none
 | k+1,a2,z47,z48=>if z47<256 then ((ref26_bit.f K a2 z47).bind fun r50=>if 0≤z47 then (if z47<256 then ((some (iadd .i64 z47 1)).bind fun x51=>ref26_Encrypt.l2 K k a2 x51 (wr z48 z47 r50)) else none) else none) else (some z48)
def ref26_Encrypt.f (K:Nat) (a0_0:Int) (a0_1:Int) (a0_2:Int) (a0_3:Int) (a0_4:Int) (a1:List Int) (a2:List Int) (a3:List Int):Option ((List Int) × Int):=
 (ref26_Sizes.f K a0_0 a0_1 a0_2 a0_3 a0_4).bind fun (r2,r3,r4)=>if r2=0 then (some (([]:List Int),9)) else (if (a1.length:Int)=r2 then ((ref26_read.f K a1 a0_0 12).bind fun (r5,r6)=>if r6=true then (if (a2.length:Int)=32 then (if (a3.length:Int)=32 then (if 0≤(isub .i64 r2 32) then (if (isub .i64 r2 32)≤(a1.length:Int) then (if (a1.length:Int)≤a1.length then ((ref26_matrix_s.f K a0_0 a0_1 a0_2 a0_3 a0_4 (subL a1 (isub .i64 r2 32) (a1.length:Int))).bind fun (r8,r9)=>if r9=0 then ((ref26_row.f K a0_0 a0_1 a3 0).bind fun r14=>(ref26_ntt.f K r14).bind fun r15=>(ref26_row.f K a0_0 a0_2 a3 a0_0).bind fun r16=>(ref26_Encrypt.l0 K K a0_0 a0_3 r8 r15 r16 0 ([]:List Int)).bind fun y19=>(ref26_Encrypt.l2 K K a2 0 (zeroA 256)).bind fun y49=>(((ref26_dot.f K r5 r15).bind fun r54=>(ref25_Back.f K r54).bind fun r55=>(ref26_Noise.f K a0_2 a3 (iconv .u8 (imul .i64 2 a0_0))).bind fun r56=>(ref25_Add.f K r55 r56).bind fun r57=>some r57:Option ((Arr 256)))).bind fun y53=>(ref25_Widen.f K y49 1).bind fun r73=>(ref25_Add.f K y53 r73).bind fun r74=>(ref25_Squeeze.f K r74 a0_4).bind fun r75=>(ref25_Pack.f K r75 a0_4).bind fun r76=>if y19.length+r76.length≤140737488355328 then (some ((y19++r76),0)) else none) else (some (([]:List Int),r9))) else none) else none) else none) else (some (([]:List Int),14))) else (some (([]:List Int),14))) else (some (([]:List Int),10))) else (some (([]:List Int),10)))
def ref25_Sub.l0 (K:Nat):Nat→(Arr 256)→Int→(Arr 256)→Option ((Arr 256))
 | 0,_,_,_=>none
 | k+1,a1,z4,z5=>if z4<256 then (if 0≤z4 then (if z4<256 then (if 0≤z4 then (if z4<256 then (if 0≤z4 then (if z4<256 then ((some (irem .i32 (iadd .i32 (isub .i32 (rd z5 z4) (rd a1 z4)) 3329) 3329)).bind fun x7=>(some (iadd .i64 z4 1)).bind fun x8=>ref25_Sub.l0 K k a1 x8 (wr z5 z4 x7)) else none) else none) else none) else none) else none) else none) else (some z5)
def ref25_Sub.f (K:Nat) (a0:Arr 256) (a1:Arr 256):Option ((Arr 256)):=
 (ref25_Sub.l0 K K a1 0 a0).bind fun y6=>some y6
def ref26_Decrypt.l0 (K:Nat):Nat→Int→Int→(List (Arr 256))→Int→(List (Arr 256))→Option ((List (Arr 256)))
 | 0,_,_,_,_,_=>none
 | k+1,a0_0,a0_3,r7,z9,z10=>if z9<a0_0 then (if 0≤z9 then (if z9<r7.length then ((ref25_Widen.f K (rdL (CA .i32 256 (by decide)) r7 z9) a0_3).bind fun r12=>(ref25_Ntt.f K r12).bind fun r13=>if z10.length+([r13]:List (Arr 256)).length≤137438953472 then ((some (iadd .i64 z9 1)).bind fun x16=>ref26_Decrypt.l0 K k a0_0 a0_3 r7 x16 (z10++([r13]:List (Arr 256)))) else none) else none) else none) else (some z10)
def ref26_Decrypt.f (K:Nat) (a0_0:Int) (a0_1:Int) (a0_2:Int) (a0_3:Int) (a0_4:Int) (a1:List Int) (a2:List Int):Option ((List Int) × Int):=
 (ref26_Sizes.f K a0_0 a0_1 a0_2 a0_3 a0_4).bind fun (r2,r3,r4)=>if r3=0 then (some (([]:List Int),9)) else (if (a1.length:Int)=r3 then ((ref26_read.f K a1 a0_0 12).bind fun (r5,r6)=>if r6=true then (if (a2.length:Int)=r4 then ((ref26_read.f K a2 a0_0 a0_3).bind fun (r7,r8)=>(ref26_Decrypt.l0 K K a0_0 a0_3 r7 0 ([]:List (Arr 256))).bind fun y11=>((if 0≤(imul .i64 (imul .i64 32 a0_3) a0_0) then (if (imul .i64 (imul .i64 32 a0_3) a0_0)≤(a2.length:Int) then (if (a2.length:Int)≤a2.length then ((ref25_Unpack.f K (subL a2 (imul .i64 (imul .i64 32 a0_3) a0_0) (a2.length:Int)) a0_4).bind fun (r20,r21)=>some r20) else none) else none) else none:Option ((Arr 256)))).bind fun y18=>(ref25_Widen.f K y18 a0_4).bind fun r26=>(ref26_dot.f K r5 y11).bind fun r27=>(ref25_Back.f K r27).bind fun r28=>(ref25_Sub.f K r26 r28).bind fun r29=>(ref25_Squeeze.f K r29 1).bind fun r31=>(ref25_Pack.f K r31 1).bind fun r32=>some (r32,0)) else (some (([]:List Int),14))) else (some (([]:List Int),10))) else (some (([]:List Int),10)))
def ref01_Same.l0 (K:Nat):Nat→(List Int)→(List Int)→Int→Option ((Unit) ⊕ (Bool))
 | 0,_,_,_=>none
 | k+1,a0,a1,z1=>if z1<(a0.length:Int) then (if 0≤z1 then (if z1<a0.length then (if 0≤z1 then (if z1<a1.length then (if (rdL (CI .u8) a0 z1)=(rdL (CI .u8) a1 z1) then ((some (iadd .i64 z1 1)).bind fun x2=>ref01_Same.l0 K k a0 a1 x2) else (some (.inr false))) else none) else none) else none) else none) else (some (.inl ()))
def ref01_Same.f (K:Nat) (a0:List Int) (a1:List Int):Option (Bool):=
 if (a0.length:Int)=(a1.length:Int) then ((ref01_Same.l0 K K a0 a1 0).bind fun t0=>(match t0 with | .inl _=>some true | .inr r=>some r)) else (some false)
end Go.Proofs.YtemdbgmldljbpaaDoor
