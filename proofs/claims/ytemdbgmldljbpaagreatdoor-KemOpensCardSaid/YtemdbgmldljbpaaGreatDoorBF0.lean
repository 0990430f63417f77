/- own -/
import Derived.Test.YtemdbgmldljbpaaGreatDoorMe
set_option linter.unusedVariables false
set_option linter.unusedSimpArgs false
namespace Go.Proofs.YtemdbgmldljbpaaGreatDoor
open Go.Mx
def tab_0:Arr 24:=⟨#[1,32898,9223372036854808714,9223372039002292224,32907,2147483649,9223372039002292353,9223372036854808585,138,136,2147516425,2147483658,2147516555,9223372036854775947,9223372036854808713,9223372036854808579,9223372036854808578,9223372036854775936,32778,9223372039002259466,9223372039002292353,9223372036854808704,2147483649,9223372039002292232],rfl⟩
def tab_1:Arr 24:=⟨#[10,7,11,17,18,3,5,16,8,21,24,4,15,23,19,13,12,2,20,14,22,9,6,1],rfl⟩
def tab_2:Arr 24:=⟨#[1,3,6,10,15,21,28,36,45,55,2,14,27,41,56,8,25,43,62,18,39,61,20,44],rfl⟩
def ref26_Set.f (K:Nat) (a0:Int):Option (Int × Int × Int × Int × Int × Bool):=
 if a0=512 then (some (2,3,2,10,4,true)) else (if a0=768 then (some (3,2,2,10,4,true)) else (if a0=1024 then (some (4,2,2,11,5,true)) else (some (0,0,0,0,0,false))))
def law27_kind.f (K:Nat) (a0:Int) (a1_0:Int) (a1_1:Int) (a1_2:Int) (a1_3:Int) (a1_4:Int):Option (Int × Int × Int × Int × Int):=
 (some (irem .u8 a0 4)).bind fun x4=>if 0≤x4 then (if x4<([512,768,1024,0]:List Int).length then ((ref26_Set.f K (rdL (CI .i64) ([512,768,1024,0]:List Int) x4)).bind fun (r5_0,r5_1,r5_2,r5_3,r5_4,r6)=>if r6=true then (some (r5_0,r5_1,r5_2,r5_3,r5_4)) else (some (a1_0,a1_1,a1_2,a1_3,a1_4))) else none) else none
def kpke_Set.f (K:Nat) (a0:Int):Option (Int × Int × Int × Int × Int × Bool):=
 if a0=512 then (some (2,3,2,10,4,true)) else (if a0=768 then (some (3,2,2,10,4,true)) else (if a0=1024 then (some (4,2,2,11,5,true)) else (some (0,0,0,0,0,false))))
def kpke_known.f (K:Nat) (a0_0:Int) (a0_1:Int) (a0_2:Int) (a0_3:Int) (a0_4:Int):Option (Bool):=
 (kpke_Set.f K (imul .i64 256 a0_0)).bind fun (r2_0,r2_1,r2_2,r2_3,r2_4,r3)=>if r3=true then (some ((r2_0 == a0_0) && ((r2_1 == a0_1) && ((r2_2 == a0_2) && ((r2_3 == a0_3) && ((r2_4 == a0_4) && true)))))) else (some false)
def kpke_Sizes.f (K:Nat) (a0_0:Int) (a0_1:Int) (a0_2:Int) (a0_3:Int) (a0_4:Int):Option (Int × Int × Int):=
 (kpke_known.f K a0_0 a0_1 a0_2 a0_3 a0_4).bind fun r2=>if r2=true then ((some (iadd .i64 (imul .i64 384 a0_0) 32)).bind fun x3=>(some (imul .i64 384 a0_0)).bind fun x4=>(some (imul .i64 32 (iadd .i64 (imul .i64 a0_3 a0_0) a0_4))).bind fun x5=>some (x3,x4,x5)) else (some (0,0,0))
def kem_Sizes.f (K:Nat) (a0_0:Int) (a0_1:Int) (a0_2:Int) (a0_3:Int) (a0_4:Int):Option (Int × Int × Int):=
 (kpke_Sizes.f K a0_0 a0_1 a0_2 a0_3 a0_4).bind fun (r2,r3,r4)=>if r2=0 then (some (0,0,0)) else ((some (iadd .i64 (iadd .i64 r3 r2) 64)).bind fun x5=>some (r2,x5,r4))
def keccak_rate.f (K:Nat) (a0:Int):Option (Int):=
 if a0=4 then (some 136) else (if a0=7 then (some 136) else (if a0=5 then (some 72) else (if a0=6 then (some 168) else (some 0))))
def keccak_New.f (K:Nat) (a0:Int):Option (Int × (Arr 25) × Int × Bool × Int):=
 (keccak_rate.f K a0).bind fun r2=>if r2=0 then (some (0,(zeroA 25),0,false,9)) else (some (a0,(zeroA 25),0,false,0))
def keccak_columns.l0 (K:Nat):Nat→(Arr 25)→Int→(Arr 5)→Option ((Arr 5))
 | 0,_,_,_=>none
 | k+1,a0,z2,z3=>if z2<5 then (if 0≤z2 then (if z2<25 then ((some (iadd .i64 z2 5)).bind fun x5=>if 0≤x5 then (if x5<25 then ((some (iadd .i64 z2 10)).bind fun x6=>if 0≤x6 then (if x6<25 then ((some (iadd .i64 z2 15)).bind fun x7=>if 0≤x7 then (if x7<25 then ((some (iadd .i64 z2 20)).bind fun x8=>if 0≤x8 then (if x8<25 then (if 0≤z2 then (if z2<5 then ((some (ixor .u64 (ixor .u64 (ixor .u64 (ixor .u64 (rd a0 z2) (rd a0 x5)) (rd a0 x6)) (rd a0 x7)) (rd a0 x8))).bind fun x9=>keccak_columns.l0 K k a0 (iadd .i64 z2 1) (wr z3 z2 x9)) else none) else none) else none) else none) else none) else none) else none) else none) else none) else none) else none) else none) else (some z3)
def keccak_columns.f (K:Nat) (a0:Arr 25):Option ((Arr 5)):=
 (keccak_columns.l0 K K a0 0 (zeroA 5)).bind fun y4=>some y4
def math_bits_RotateLeft64.f (K:Nat) (a0:Int) (a1:Int):Option (Int):=
 (some (iand .u64 (iconv .u64 a1) 63)).bind fun x1=>if 0≤x1 then (if 0≤(isub .u64 64 x1) then ((some (ior .u64 (ishl .u64 a0 x1) (ishr .u64 a0 (isub .u64 64 x1)))).bind fun x2=>some x2) else none) else none
def keccak_round.l1 (K:Nat):Nat→Int→Int→Int→(Arr 25)→Option ((Arr 25))
 | 0,_,_,_,_=>none
 | k+1,z3,x9,z10,z11=>if z10<25 then ((some (iadd .i64 z3 z10)).bind fun x13=>if 0≤x13 then (if x13<25 then ((some (iadd .i64 z3 z10)).bind fun x14=>if 0≤x14 then (if x14<25 then ((some (ixor .u64 (rd z11 x13) x9)).bind fun x15=>(some (iadd .i64 z10 5)).bind fun x16=>keccak_round.l1 K k z3 x9 x16 (wr z11 x14 x15)) else none) else none) else none) else none) else (some z11)
def keccak_round.l0 (K:Nat):Nat→(Arr 5)→Int→(Arr 25)→Option ((Arr 25))
 | 0,_,_,_=>none
 | k+1,r1,z3,z4=>if z3<5 then ((some (irem .i64 (iadd .i64 z3 4) 5)).bind fun x6=>if 0≤x6 then (if x6<5 then ((some (irem .i64 (iadd .i64 z3 1) 5)).bind fun x7=>if 0≤x7 then (if x7<5 then ((math_bits_RotateLeft64.f K (rd r1 x7) 1).bind fun r8=>(some (ixor .u64 (rd r1 x6) r8)).bind fun x9=>(keccak_round.l1 K K z3 x9 0 z4).bind fun y12=>keccak_round.l0 K k r1 (iadd .i64 z3 1) y12) else none) else none) else none) else none) else (some z4)
def keccak_round.l2 (K:Nat):Nat→Int→Int→(Arr 25)→Option ((Arr 25))
 | 0,_,_,_=>none
 | k+1,z18,z19,z20=>if z19<24 then (if 0≤z19 then (if z19<24 then ((some (rd tab_1 z19)).bind fun x22=>if 0≤z19 then (if z19<24 then (if 0≤x22 then (if x22<25 then ((math_bits_RotateLeft64.f K z18 (rd tab_2 z19)).bind fun r23=>if 0≤x22 then (if x22<25 then ((some (rd z20 x22)).bind fun x24=>keccak_round.l2 K k x24 (iadd .i64 z19 1) (wr z20 x22 r23)) else none) else none) else none) else none) else none) else none) else none) else none) else (some z20)
def keccak_round.l4 (K:Nat):Nat→Int→(Arr 25)→Int→(Arr 25)→Option ((Arr 25))
 | 0,_,_,_,_=>none
 | k+1,z25,z26,z29,z30=>if z29<5 then (if 0≤z29 then (if z29<5 then ((some (irem .i64 (iadd .i64 z29 2) 5)).bind fun x32=>if 0≤x32 then (if x32<5 then ((some (irem .i64 (iadd .i64 z29 1) 5)).bind fun x33=>if 0≤x33 then (if x33<5 then ((some (iadd .i64 z25 z29)).bind fun x34=>if 0≤x34 then (if x34<25 then ((some (ixor .u64 (rd (subA 5 z26 z25) z29) (iandn .u64 (rd (subA 5 z26 z25) x32) (rd (subA 5 z26 z25) x33)))).bind fun x35=>keccak_round.l4 K k z25 z26 (iadd .i64 z29 1) (wr z30 x34 x35)) else none) else none) else none) else none) else none) else none) else none) else none) else (some z30)
def keccak_round.l3 (K:Nat):Nat→Int→(Arr 25)→Option ((Arr 25))
 | 0,_,_=>none
 | k+1,z25,z26=>if z25<25 then (if 0≤z25 then (if z25≤(iadd .i64 z25 5) then (if (iadd .i64 z25 5)≤25 then (if z25<25 then (if 5≤((iadd .i64 z25 5):Int).toNat-(z25:Int).toNat then ((keccak_round.l4 K K z25 z26 0 z26).bind fun y31=>(some (iadd .i64 z25 5)).bind fun x36=>keccak_round.l3 K k x36 y31) else none) else none) else none) else none) else none) else (some z26)
def keccak_round.f (K:Nat) (a0:Arr 25) (a1:Int):Option ((Arr 25)):=
 (keccak_columns.f K a0).bind fun r1=>(keccak_round.l0 K K r1 0 a0).bind fun y5=>(some (rd y5 1)).bind fun x17=>(keccak_round.l2 K K x17 0 y5).bind fun y21=>(keccak_round.l3 K K 0 y21).bind fun y27=>(some (ixor .u64 (rd y27 0) a1)).bind fun x37=>some (wr y27 0 x37)
def keccak_Permute.l0 (K:Nat):Nat→Int→(Arr 25)→Option ((Arr 25))
 | 0,_,_=>none
 | k+1,z3,z4=>if z3<24 then (if 0≤z3 then (if z3<24 then ((some (rd tab_0 z3)).bind fun x6=>(keccak_round.f K z4 x6).bind fun r7=>keccak_Permute.l0 K k (iadd .i64 z3 1) r7) else none) else none) else (some z4)
def keccak_Permute.f (K:Nat) (a0:Arr 25):Option ((Arr 25)):=
 (keccak_Permute.l0 K K 0 a0).bind fun y5=>some y5
def keccak_xor.f (K:Nat) (a0_0:Int) (a0_1:Arr 25) (a0_2:Int) (a0_3:Bool) (a1:Int) (a2:Int):Option (Int × (Arr 25) × Int × Bool):=
 (some (iquo .i64 a1 8)).bind fun x1=>if 0≤x1 then (if x1<25 then (if 0≤(imul .i64 8 (irem .i64 a1 8)) then ((some (iquo .i64 a1 8)).bind fun x2=>if 0≤x2 then (if x2<25 then ((some (ixor .u64 (rd a0_1 x1) (ishl .u64 (iconv .u64 a2) (imul .i64 8 (irem .i64 a1 8))))).bind fun x3=>some (a0_0,(wr a0_1 x2 x3),a0_2,a0_3)) else none) else none) else none) else none) else none
def keccak_turned.f (K:Nat) (a0_0:Int) (a0_1:Arr 25) (a0_2:Int) (a0_3:Bool):Option (Int × (Arr 25) × Int × Bool):=
 ((if a0_0=4 then (some 6) else (if a0_0=5 then (some 6) else (some 31)):Option (Int))).bind fun y3=>(keccak_xor.f K a0_0 a0_1 a0_2 a0_3 a0_2 y3).bind fun (r4_0,r4_1,r4_2,r4_3)=>(keccak_rate.f K r4_0).bind fun r5=>(keccak_xor.f K r4_0 r4_1 r4_2 r4_3 (isub .i64 r5 1) 128).bind fun (r6_0,r6_1,r6_2,r6_3)=>(keccak_Permute.f K r6_1).bind fun r7=>some (r6_0,r7,0,true)
def keccak_Squeeze.l0 (K:Nat):Nat→Int→Int→(List Int)→Int→(Arr 25)→Int→Bool→Option ((List Int) × Int × (Arr 25) × Int × Bool)
 | 0,_,_,_,_,_,_,_=>none
 | k+1,a1,z6,z7,z8_0,z8_1,z8_2,z8_3=>if z6<((List.replicate (a1:Int).toNat (Cod.zero (CI .u8))).length:Int) then ((((keccak_rate.f K z8_0).bind fun r12=>if z8_2=r12 then ((keccak_Permute.f K z8_1).bind fun r13=>some (z8_0,r13,0,z8_3)) else (some (z8_0,z8_1,z8_2,z8_3)):Option (Int × (Arr 25) × Int × Bool))).bind fun (y11_0,y11_1,y11_2,y11_3)=>(some (iquo .i64 y11_2 8)).bind fun x14=>if 0≤x14 then (if x14<25 then (if 0≤(imul .i64 8 (irem .i64 y11_2 8)) then (if 0≤z6 then (if z6<z7.length then ((some (iconv .u8 (ishr .u64 (rd y11_1 x14) (imul .i64 8 (irem .i64 y11_2 8))))).bind fun x15=>(some (iadd .i64 y11_2 1)).bind fun x16=>keccak_Squeeze.l0 K k a1 (iadd .i64 z6 1) (wrL z7 z6 x15) y11_0 y11_1 x16 y11_3) else none) else none) else none) else none) else none) else (some (z7,z8_0,z8_1,z8_2,z8_3))
def keccak_Squeeze.f (K:Nat) (a0_0:Int) (a0_1:Arr 25) (a0_2:Int) (a0_3:Bool) (a1:Int):Option (Int × (Arr 25) × Int × Bool × (List Int)):=
 if a1<0 then (some (a0_0,a0_1,a0_2,a0_3,([]:List Int))) else (((if a0_3=true then (some (a0_0,a0_1,a0_2,true)) else ((keccak_turned.f K a0_0 a0_1 a0_2 false).bind fun (r4_0,r4_1,r4_2,r4_3)=>some (r4_0,r4_1,r4_2,r4_3)):Option (Int × (Arr 25) × Int × Bool))).bind fun (y3_0,y3_1,y3_2,y3_3)=>if 0≤a1 then (if a1≤140737488355328 then ((keccak_Squeeze.l0 K K a1 0 (List.replicate (a1:Int).toNat (Cod.zero (CI .u8))) y3_0 y3_1 y3_2 y3_3).bind fun (y9,y10_0,y10_1,y10_2,y10_3)=>some (y10_0,y10_1,y10_2,y10_3,y9)) else none) else none)
def keccak_Absorb.l0 (K:Nat):Nat→(List Int)→Int→Int→Int→(Arr 25)→Int→Bool→Option (Int × (Arr 25) × Int × Bool)
 | 0,_,_,_,_,_,_,_=>none
 | k+1,a1,r3,z4,z5_0,z5_1,z5_2,z5_3=>if z4<(a1.length:Int) then (((if 0≤z4 then (if z4<a1.length then ((keccak_xor.f K z5_0 z5_1 z5_2 z5_3 z5_2 (rdL (CI .u8) a1 z4)).bind fun (r8_0,r8_1,r8_2,r8_3)=>(some (iadd .i64 r8_2 1)).bind fun x9=>if x9=r3 then ((keccak_Permute.f K r8_1).bind fun r10=>some (r8_0,r10,0,r8_3)) else (some (r8_0,r8_1,x9,r8_3))) else none) else none:Option (Int × (Arr 25) × Int × Bool))).bind fun (y7_0,y7_1,y7_2,y7_3)=>keccak_Absorb.l0 K k a1 r3 (iadd .i64 z4 1) y7_0 y7_1 y7_2 y7_3) else (some (z5_0,z5_1,z5_2,z5_3))
def keccak_Absorb.f (K:Nat) (a0_0:Int) (a0_1:Arr 25) (a0_2:Int) (a0_3:Bool) (a1:List Int):Option (Int × (Arr 25) × Int × Bool):=
 if a0_3=true then (some (a0_0,a0_1,a0_2,true)) else ((keccak_rate.f K a0_0).bind fun r3=>(keccak_Absorb.l0 K K a1 r3 0 a0_0 a0_1 a0_2 false).bind fun (y6_0,y6_1,y6_2,y6_3)=>some (y6_0,y6_1,y6_2,y6_3))
def keccak_Sum.f (K:Nat) (a0:Int) (a1:List Int) (a2:Int):Option ((List Int) × Int):=
 (keccak_New.f K a0).bind fun (r1_0,r1_1,r1_2,r1_3,r2)=>if r2=0 then (if a2<0 then (some (([]:List Int),8)) else (if a2>16777216 then (some (([]:List Int),8)) else ((keccak_Absorb.f K r1_0 r1_1 r1_2 r1_3 a1).bind fun (r4_0,r4_1,r4_2,r4_3)=>(keccak_Squeeze.f K r4_0 r4_1 r4_2 r4_3 a2).bind fun (r5_0,r5_1,r5_2,r5_3,r6)=>some (r6,0)))) else (some (([]:List Int),r2))
def kem_digest.f (K:Nat) (a0:List Int):Option ((List Int)):=
 (keccak_Sum.f K 4 a0 32).bind fun (r1,r2)=>some r1
def slices_Concat_byte_byte.l0 (K:Nat):Nat→(List (List Int))→Int→Int→Option (Int)
 | 0,_,_,_=>none
 | k+1,a0,z1,z2=>if z2<(a0.length:Int) then (if 0≤z2 then (if z2<a0.length then ((some (iadd .i64 z1 ((rdLL a0 z2).length:Int))).bind fun x5=>if x5<0 then (none) else (slices_Concat_byte_byte.l0 K k a0 x5 (iadd .i64 z2 1))) else none) else none) else (some z1)
def slices_Concat_byte_byte.l1 (K:Nat):Nat→(List (List Int))→Int→(List Int)→Option ((List Int))
 | 0,_,_,_=>none
 | k+1,a0,z9,z10=>if z9<(a0.length:Int) then (if 0≤z9 then (if z9<a0.length then (if z10.length+(rdLL a0 z9).length≤140737488355328 then (slices_Concat_byte_byte.l1 K k a0 (iadd .i64 z9 1) (z10++(rdLL a0 z9))) else none) else none) else none) else (some z10)
def slices_Concat_byte_byte.f (K:Nat) (a0:List (List Int)):Option ((List Int)):=
 (slices_Concat_byte_byte.l0 K K a0 0 0).bind fun y3=>if y3<0 then (none) else ((((some (isub .i64 y3 0)).bind fun x7=>if x7>0 then (if 1≤x7 then (if x7≤140737488355328 then (if 0≤(0:Int) then (if (0:Int)≤(List.replicate (x7:Int).toNat (Cod.zero (CI .u8))).length then (some ((List.replicate (x7:Int).toNat (Cod.zero (CI .u8))).take (0:Int).toNat)) else none) else none) else none) else none) else (some ([]:List Int)):Option ((List Int)))).bind fun y6=>(slices_Concat_byte_byte.l1 K K a0 0 y6).bind fun y11=>some y11)
def bits_Join.f (K:Nat) (a0:List (List Int)):Option ((List Int)):=
 (slices_Concat_byte_byte.f K a0).bind fun r1=>some r1
def bits_NumLe.l0 (K:Nat):Nat→(List Int)→Int→Int→Option (Int)
 | 0,_,_,_=>none
 | k+1,a0,z1,z2=>if z2<(imin (a0.length:Int) 8) then (if 0≤z2 then (if z2<a0.length then (if 0≤(imul .i64 8 z2) then ((some (ior .u64 z1 (ishl .u64 (iconv .u64 (rdL (CI .u8) a0 z2)) (imul .i64 8 z2)))).bind fun x4=>bits_NumLe.l0 K k a0 x4 (iadd .i64 z2 1)) else none) else none) else none) else (some z1)
def bits_NumLe.f (K:Nat) (a0:List Int):Option (Int):=
 (bits_NumLe.l0 K K a0 0 0).bind fun y3=>some y3
def kpke_Parts.l0 (K:Nat):Nat→Int→Int→(Arr 25)→Int→Bool→Int→(Arr 256)→Int→(Arr 256)→Option ((Int × (Arr 25) × Int × Bool × Int × (Arr 256) × Int × (Arr 256)) ⊕ ((Arr 256) × Int))
 | 0,_,_,_,_,_,_,_,_,_=>none
 | k+1,z13,z14_0,z14_1,z14_2,z14_3,z15,z16,z17,z18=>if z13<4096 then ((keccak_Squeeze.f K z14_0 z14_1 z14_2 z14_3 3).bind fun (r24_0,r24_1,r24_2,r24_3,r25)=>(bits_NumLe.f K r25).bind fun r26=>(some (iconv .i32 r26)).bind fun x27=>(some (iand .i32 x27 4095)).bind fun x28=>if x28≥3329 then ((some (ishr .i32 x27 12)).bind fun x29=>if x29≥3329 then (kpke_Parts.l0 K k (iadd .i64 z13 1) r24_0 r24_1 r24_2 r24_3 z15 z16 z17 z18) else (if 0≤z15 then (if z15<256 then ((some (iadd .i64 z15 1)).bind fun x30=>if x30=256 then (some (.inr ((wr z16 z15 x29),0))) else (kpke_Parts.l0 K k (iadd .i64 z13 1) r24_0 r24_1 r24_2 r24_3 x30 (wr z16 z15 x29) z17 z18)) else none) else none)) else (if 0≤z15 then (if z15<256 then ((some (iadd .i64 z15 1)).bind fun x31=>if x31=256 then (some (.inr ((wr z16 z15 x28),0))) else ((some (ishr .i32 x27 12)).bind fun x32=>if x32≥3329 then (kpke_Parts.l0 K k (iadd .i64 z13 1) r24_0 r24_1 r24_2 r24_3 x31 (wr z16 z15 x28) z17 z18) else (if 0≤x31 then (if x31<256 then ((some (iadd .i64 x31 1)).bind fun x33=>if x33=256 then (some (.inr ((wr (wr z16 z15 x28) x31 x32),0))) else (kpke_Parts.l0 K k (iadd .i64 z13 1) r24_0 r24_1 r24_2 r24_3 x33 (wr (wr z16 z15 x28) x31 x32) z17 z18)) else none) else none))) else none) else none)) else (some (.inl (z14_0,z14_1,z14_2,z14_3,z15,z16,z17,z18)))
def kpke_Parts.f (K:Nat) (a0:List Int) (a1:Int) (a2:Int):Option ((Arr 256) × Int):=
 (bits_Join.f K ([a0,([a2,a1]:List Int)]:List (List Int))).bind fun r7=>(keccak_New.f K 6).bind fun (r9_0,r9_1,r9_2,r9_3,r10)=>(keccak_Absorb.f K r9_0 r9_1 r9_2 r9_3 r7).bind fun (r12_0,r12_1,r12_2,r12_3)=>(kpke_Parts.l0 K K 0 r12_0 r12_1 r12_2 r12_3 0 (zeroA 256) 0 (zeroA 256)).bind fun t0=>(match t0 with | .inl (y19_0,y19_1,y19_2,y19_3,y20,y21,y22,y23)=>some ((zeroA 256),12) | .inr r=>some r)
def bits_such.f (K:Nat) (a0:List Int) (a1:Int) (a2:Int):Option (Bool):=
 if a1≥1 then (if a1≤24 then (if a2≥0 then (if ¬ a1=0 then (some (decide (a2≤(iquo .i64 (imul .i64 (a0.length:Int) 8) a1)))) else none) else (some false)) else (some false)) else (some false)
def bits_Unpack.l1 (K:Nat):Nat→Int→Int→Int→(List Int)→Option (Int × Int × (List Int))
 | 0,_,_,_,_=>none
 | k+1,a1,z9,z10,z11=>if z10<a1 then (if 0≤(0:Int) then (if (0:Int)<z11.length then (if 0≤z10 then (if 0≤(1:Int) then (if (1:Int)≤(z11.length:Int) then (if (z11.length:Int)≤z11.length then ((some (ior .u64 z9 (ishl .u64 (iconv .u64 (rdL (CI .u8) z11 0)) z10))).bind fun x16=>(some (iadd .i64 z10 8)).bind fun x17=>bits_Unpack.l1 K k a1 x16 x17 (subL z11 1 (z11.length:Int))) else none) else none) else none) else none) else none) else none) else (some (z9,z10,z11))
def bits_Unpack.l0 (K:Nat):Nat→Int→Int→Int→Int→Int→(List Int)→(List Int)→Option ((List Int))
 | 0,_,_,_,_,_,_,_=>none
 | k+1,a1,a2,z3,z4,z5,z6,z7=>if z5<((List.replicate (a2:Int).toNat (Cod.zero (CI .u32))).length:Int) then ((bits_Unpack.l1 K K a1 z3 z4 z7).bind fun (y12,y13,y14)=>if 0≤a1 then (if 0≤z5 then (if z5<z6.length then ((some (iconv .u32 (iand .u64 y12 (isub .u64 (ishl .u64 1 a1) 1)))).bind fun x18=>if 0≤a1 then ((some (ishr .u64 y12 a1)).bind fun x19=>(some (isub .i64 y13 a1)).bind fun x20=>bits_Unpack.l0 K k a1 a2 x19 x20 (iadd .i64 z5 1) (wrL z6 z5 x18) y14) else none) else none) else none) else none) else (some z6)
def bits_Unpack.f (K:Nat) (a0:List Int) (a1:Int) (a2:Int):Option ((List Int)):=
 (bits_such.f K a0 a1 a2).bind fun r1=>if r1=true then (if 0≤a2 then (if a2≤35184372088832 then ((bits_Unpack.l0 K K a1 a2 0 0 0 (List.replicate (a2:Int).toNat (Cod.zero (CI .u32))) a0).bind fun y8=>some y8) else none) else none) else (some ([]:List Int))
def kpke_Noise.l1 (K:Nat):Nat→Int→(List Int)→Int→Int→Int→Option (Int)
 | 0,_,_,_,_,_=>none
 | k+1,a0,r9,z10,z13,z14=>if z14<a0 then ((some (iadd .i64 (imul .i64 (imul .i64 2 z10) a0) z14)).bind fun x16=>if 0≤x16 then (if x16<r9.length then ((some (iadd .i64 (imul .i64 (iadd .i64 (imul .i64 2 z10) 1) a0) z14)).bind fun x17=>if 0≤x17 then (if x17<r9.length then ((some (iadd .i32 z13 (isub .i32 (iconv .i32 (rdL (CI .u32) r9 x16)) (iconv .i32 (rdL (CI .u32) r9 x17))))).bind fun x18=>kpke_Noise.l1 K k a0 r9 z10 x18 (iadd .i64 z14 1)) else none) else none) else none) else none) else (some z13)
def kpke_Noise.l0 (K:Nat):Nat→Int→(List Int)→Int→(Arr 256)→Option ((Arr 256))
 | 0,_,_,_,_=>none
 | k+1,a0,r9,z10,z11=>if z10<256 then ((kpke_Noise.l1 K K a0 r9 z10 3329 0).bind fun y15=>if 0≤z10 then (if z10<256 then ((some (irem .i32 y15 3329)).bind fun x19=>kpke_Noise.l0 K k a0 r9 (iadd .i64 z10 1) (wr z11 z10 x19)) else none) else none) else (some z11)
def kpke_Noise.f (K:Nat) (a0:Int) (a1:List Int) (a2:Int):Option ((Arr 256)):=
 ((if a0=2 then (some (.inl (zeroA 256))) else (if a0=3 then (some (.inl (zeroA 256))) else (some (.inr (zeroA 256)))):Option (((Arr 256)) ⊕ ((Arr 256))))).bind fun tv6=>(match tv6 with | .inl y3=>(bits_Join.f K ([a1,([a2]:List Int)]:List (List Int))).bind fun r6=>(keccak_Sum.f K 7 r6 (imul .i64 64 a0)).bind fun (r7,r8)=>(bits_Unpack.f K r7 1 (imul .i64 512 a0)).bind fun r9=>(kpke_Noise.l0 K K a0 r9 0 (zeroA 256)).bind fun y12=>some y12 | .inr r=>some r)
def kpke_noises.l0 (K:Nat):Nat→Int→Int→(List Int)→Int→Int→(List (Arr 256))→Option ((List (Arr 256)))
 | 0,_,_,_,_,_,_=>none
 | k+1,a0,a1,a2,a3,z2,z3=>if z2<((List.replicate (a0:Int).toNat (Cod.zero (CA .i32 256 (by decide)))).length:Int) then ((kpke_Noise.f K a1 a2 (iconv .u8 (iadd .i64 a3 z2))).bind fun r5=>if 0≤z2 then (if z2<z3.length then (kpke_noises.l0 K k a0 a1 a2 a3 (iadd .i64 z2 1) (wrL z3 z2 r5)) else none) else none) else (some z3)
def kpke_noises.f (K:Nat) (a0:Int) (a1:Int) (a2:List Int) (a3:Int):Option ((List (Arr 256))):=
 if 0≤a0 then (if a0≤137438953472 then ((kpke_noises.l0 K K a0 a1 a2 a3 0 (List.replicate (a0:Int).toNat (Cod.zero (CA .i32 256 (by decide))))).bind fun y4=>some y4) else none) else none
def math_bits_Reverse8.f (K:Nat) (a0:Int):Option (Int):=
 if 0≤a0 then (if a0<256 then ((some (strAt [0,128,64,192,32,160,96,224,16,144,80,208,48,176,112,240,8,136,72,200,40,168,104,232,24,152,88,216,56,184,120,248,4,132,68,196,36,164,100,228,20,148,84,212,52,180,116,244,12,140,76,204,44,172,108,236,28,156,92,220,60,188,124,252,2,130,66,194,34,162,98,226,18,146,82,210,50,178,114,242,10,138,74,202,42,170,106,234,26,154,90,218,58,186,122,250,6,134,70,198,38,166,102,230,22,150,86,214,54,182,118,246,14,142,78,206,46,174,110,238,30,158,94,222,62,190,126,254,1,129,65,193,33,161,97,225,17,145,81,209,49,177,113,241,9,137,73,201,41,169,105,233,25,153,89,217,57,185,121,249,5,133,69,197,37,165,101,229,21,149,85,213,53,181,117,245,13,141,77,205,45,173,109,237,29,157,93,221,61,189,125,253,3,131,67,195,35,163,99,227,19,147,83,211,51,179,115,243,11,139,75,203,43,171,107,235,27,155,91,219,59,187,123,251,7,135,71,199,39,167,103,231,23,151,87,215,55,183,119,247,15,143,79,207,47,175,111,239,31,159,95,223,63,191,127,255] a0)).bind fun x1=>some x1) else none) else none
def kq_roots.l0 (K:Nat):Nat→Int→(Arr 128)→Option ((Arr 128))
 | 0,_,_=>none
 | k+1,z3,z4=>if z3<128 then ((some (isub .i64 z3 1)).bind fun x6=>if 0≤x6 then (if x6<128 then (if 0≤z3 then (if z3<128 then ((some (irem .i32 (imul .i32 (rd z4 x6) 17) 3329)).bind fun x7=>(some (iadd .i64 z3 1)).bind fun x8=>kq_roots.l0 K k x8 (wr z4 z3 x7)) else none) else none) else none) else none) else (some z4)
def kq_roots.l1 (K:Nat):Nat→(Arr 128)→Int→(Arr 128)→Option ((Arr 128))
 | 0,_,_,_=>none
 | k+1,y5,z9,z10=>if z9<128 then ((math_bits_Reverse8.f K (iconv .u8 z9)).bind fun r12=>(some (ishr .u8 r12 1)).bind fun x13=>if 0≤x13 then (if x13<128 then (if 0≤z9 then (if z9<128 then ((some (rd y5 x13)).bind fun x14=>kq_roots.l1 K k y5 (iadd .i64 z9 1) (wr z10 z9 x14)) else none) else none) else none) else none) else (some z10)
def kq_roots.f (K:Nat):Option ((Arr 128)):=
 (kq_roots.l0 K K 1 (wr (zeroA 128) 0 1)).bind fun y5=>(kq_roots.l1 K K y5 0 (zeroA 128)).bind fun y11=>some y11
def kq_Ntt.l2 (K:Nat):Nat→(Arr 128)→Int→Int→Int→Int→(Arr 256)→Option ((Arr 256))
 | 0,_,_,_,_,_,_=>none
 | k+1,r3,z6,z10,x14,z15,z16=>if z15<(iadd .i64 z10 z6) then (if 0≤x14 then (if x14<128 then ((some (iadd .i64 z15 z6)).bind fun x18=>if 0≤x18 then (if x18<256 then ((some (irem .i32 (imul .i32 (rd r3 x14) (rd z16 x18)) 3329)).bind fun x19=>if 0≤z15 then (if z15<256 then (if 0≤z15 then (if z15<256 then ((some (iadd .i64 z15 z6)).bind fun x20=>if 0≤x20 then (if x20<256 then ((some (irem .i32 (iadd .i32 (isub .i32 (rd z16 z15) x19) 3329) 3329)).bind fun x21=>if 0≤z15 then (if z15<256 then ((some (irem .i32 (iadd .i32 (rd z16 z15) x19) 3329)).bind fun x22=>(some (iadd .i64 z15 1)).bind fun x23=>kq_Ntt.l2 K k r3 z6 z10 x14 x23 (wr (wr z16 x20 x21) z15 x22)) else none) else none) else none) else none) else none) else none) else none) else none) else none) else none) else none) else none) else (some z16)
def kq_Ntt.l1 (K:Nat):Nat→(Arr 128)→Int→Int→Int→(Arr 256)→Option (Int × (Arr 256))
 | 0,_,_,_,_,_=>none
 | k+1,r3,z6,z9,z10,z11=>if z10<256 then ((some (iadd .i64 z9 1)).bind fun x14=>(kq_Ntt.l2 K K r3 z6 z10 x14 z10 z11).bind fun y17=>(some (iadd .i64 z10 (imul .i64 2 z6))).bind fun x24=>kq_Ntt.l1 K k r3 z6 x14 x24 y17) else (some (z9,z11))
def kq_Ntt.l0 (K:Nat):Nat→(Arr 128)→Int→Int→(Arr 256)→Option ((Arr 256))
 | 0,_,_,_,_=>none
 | k+1,r3,z5,z6,z7=>if z6≥2 then ((kq_Ntt.l1 K K r3 z6 z5 0 z7).bind fun (y12,y13)=>(some (iquo .i64 z6 2)).bind fun x25=>kq_Ntt.l0 K k r3 y12 x25 y13) else (some z7)
def kq_Ntt.f (K:Nat) (a0:Arr 256):Option ((Arr 256)):=
 (kq_roots.f K).bind fun r3=>(kq_Ntt.l0 K K r3 0 128 a0).bind fun y8=>some y8
def kpke_vector_parts.l0 (K:Nat):Nat→(List (Arr 256))→Int→(List (Arr 256))→Option ((List (Arr 256)))
 | 0,_,_,_=>none
 | k+1,a0,z2,z3=>if z2<(a0.length:Int) then (if 0≤z2 then (if z2<a0.length then ((kq_Ntt.f K (rdL (CA .i32 256 (by decide)) a0 z2)).bind fun r6=>if 0≤z2 then (if z2<z3.length then (kpke_vector_parts.l0 K k a0 (iadd .i64 z2 1) (wrL z3 z2 r6)) else none) else none) else none) else none) else (some z3)
def kpke_vector_parts.f (K:Nat) (a0:List (Arr 256)):Option ((List (Arr 256))):=
 if 0≤(a0.length:Int) then (if (a0.length:Int)≤137438953472 then ((kpke_vector_parts.l0 K K a0 0 (List.replicate ((a0.length:Int):Int).toNat (Cod.zero (CA .i32 256 (by decide))))).bind fun y4=>some y4) else none) else none
def kq_Add.l0 (K:Nat):Nat→(Arr 256)→Int→(Arr 256)→Option ((Arr 256))
 | 0,_,_,_=>none
 | k+1,a1,z4,z5=>if z4<256 then (((if 0≤z4 then (if z4<256 then (if 0≤z4 then (if z4<256 then (if 0≤z4 then (if z4<256 then ((some (iadd .i32 (rd z5 z4) (rd a1 z4))).bind fun x8=>if 0≤z4 then (if z4<256 then (if (rd (wr z5 z4 x8) z4)≥3329 then (if 0≤z4 then (if z4<256 then (if 0≤z4 then (if z4<256 then ((some (isub .i32 (rd (wr z5 z4 x8) z4) 3329)).bind fun x9=>some (wr (wr z5 z4 x8) z4 x9)) else none) else none) else none) else none) else (some (wr z5 z4 x8))) else none) else none) else none) else none) else none) else none) else none) else none:Option ((Arr 256)))).bind fun y7=>kq_Add.l0 K k a1 (iadd .i64 z4 1) y7) else (some z5)
def kq_Add.f (K:Nat) (a0:Arr 256) (a1:Arr 256):Option ((Arr 256)):=
 (kq_Add.l0 K K a1 0 a0).bind fun y6=>some y6
def kq_pair_times.f (K:Nat) (a0_0:Int) (a0_1:Int) (a1_0:Int) (a1_1:Int) (a2:Int):Option (Int × Int):=
 some ((irem .i32 (iadd .i32 (imul .i32 a0_0 a1_0) (imul .i32 (irem .i32 (imul .i32 a0_1 a1_1) 3329) a2)) 3329),(irem .i32 (iadd .i32 (imul .i32 a0_0 a1_1) (imul .i32 a0_1 a1_0)) 3329))
def kq_Mul.l0 (K:Nat):Nat→(Arr 256)→(Arr 256)→(Arr 128)→Int→(Arr 256)→Option ((Arr 256))
 | 0,_,_,_,_,_=>none
 | k+1,a0,a1,r4,z7,z8=>if z7<256 then ((some (iadd .i64 64 (iquo .i64 z7 4))).bind fun x10=>if 0≤x10 then (if x10<128 then ((some (rd r4 x10)).bind fun x11=>((if 0≤z7 then (if z7<256 then ((some (iadd .i64 z7 1)).bind fun x14=>if 0≤x14 then (if x14<256 then (if 0≤z7 then (if z7<256 then ((some (iadd .i64 z7 1)).bind fun x15=>if 0≤x15 then (if x15<256 then ((kq_pair_times.f K (rd a0 z7) (rd a0 x14) (rd a1 z7) (rd a1 x15) x11).bind fun (r16_0,r16_1)=>some (r16_0,r16_1)) else none) else none) else none) else none) else none) else none) else none) else none:Option (Int × Int))).bind fun (y13_0,y13_1)=>(((some (iadd .i64 z7 2)).bind fun x22=>if 0≤x22 then (if x22<256 then ((some (iadd .i64 z7 3)).bind fun x23=>if 0≤x23 then (if x23<256 then ((some (iadd .i64 z7 2)).bind fun x24=>if 0≤x24 then (if x24<256 then ((some (iadd .i64 z7 3)).bind fun x25=>if 0≤x25 then (if x25<256 then ((kq_pair_times.f K (rd a0 x22) (rd a0 x23) (rd a1 x24) (rd a1 x25) (isub .i32 3329 x11)).bind fun (r26_0,r26_1)=>some (r26_0,r26_1)) else none) else none) else none) else none) else none) else none) else none) else none:Option (Int × Int))).bind fun (y21_0,y21_1)=>if 0≤z7 then (if z7<256 then ((some (iadd .i64 z7 1)).bind fun x30=>if 0≤x30 then (if x30<256 then ((some (iadd .i64 z7 2)).bind fun x31=>if 0≤x31 then (if x31<256 then ((some (iadd .i64 z7 3)).bind fun x32=>if 0≤x32 then (if x32<256 then ((some (iadd .i64 z7 4)).bind fun x33=>kq_Mul.l0 K k a0 a1 r4 x33 (wr (wr (wr (wr z8 z7 y13_0) x30 y13_1) x31 y21_0) x32 y21_1)) else none) else none) else none) else none) else none) else none) else none) else none) else none) else none) else (some z8)
def kq_Mul.f (K:Nat) (a0:Arr 256) (a1:Arr 256):Option ((Arr 256)):=
 (kq_roots.f K).bind fun r4=>(kq_Mul.l0 K K a0 a1 r4 0 (zeroA 256)).bind fun y9=>some y9
def kpke_vector_dot.l0 (K:Nat):Nat→(List (Arr 256))→(List (Arr 256))→Int→(Arr 256)→Option ((Arr 256))
 | 0,_,_,_,_=>none
 | k+1,a0,a1,z3,z4=>if z3<(a0.length:Int) then (if 0≤z3 then (if z3<a0.length then (if 0≤z3 then (if z3<a1.length then ((kq_Mul.f K (rdL (CA .i32 256 (by decide)) a0 z3) (rdL (CA .i32 256 (by decide)) a1 z3)).bind fun r7=>(kq_Add.f K z4 r7).bind fun r8=>kpke_vector_dot.l0 K k a0 a1 (iadd .i64 z3 1) r8) else none) else none) else none) else none) else (some z4)
def kpke_vector_dot.f (K:Nat) (a0:List (Arr 256)) (a1:List (Arr 256)):Option ((Arr 256)):=
 (kpke_vector_dot.l0 K K a0 a1 0 (zeroA 256)).bind fun y5=>some y5
def kq_below.l0 (K:Nat):Nat→(Arr 256)→Int→Int→Option ((Unit) ⊕ (Bool))
 | 0,_,_,_=>none
 | k+1,a0,a1,z2=>if z2<256 then (if 0≤z2 then (if z2<256 then ((some (rd a0 z2)).bind fun x3=>if x3<0 then (some (.inr false)) else (if x3≥a1 then (some (.inr false)) else (kq_below.l0 K k a0 a1 (iadd .i64 z2 1)))) else none) else none) else (some (.inl ()))
def kq_below.f (K:Nat) (a0:Arr 256) (a1:Int):Option (Bool):=
 (kq_below.l0 K K a0 a1 0).bind fun t0=>(match t0 with | .inl _=>some true | .inr r=>some r)
def kq_bound.f (K:Nat) (a0:Int):Option (Int):=
 if a0=12 then (some 3329) else (if 0≤a0 then ((some (ishl .i32 1 a0)).bind fun x1=>some x1) else none)
def bits_Pack.l1 (K:Nat):Nat→Int→Int→(List Int)→Option (Int × Int × (List Int))
 | 0,_,_,_=>none
 | k+1,z12,z13,z14=>if z13≥8 then (if z14.length+([(iconv .u8 z12)]:List Int).length≤140737488355328 then ((some (ishr .u64 z12 8)).bind fun x20=>(some (isub .i64 z13 8)).bind fun x21=>bits_Pack.l1 K k x20 x21 (z14++([(iconv .u8 z12)]:List Int))) else none) else (some (z12,z13,z14))
def bits_Pack.l0 (K:Nat):Nat→(List Int)→Int→Int→Int→Int→(List Int)→Option (Int × Int × (List Int))
 | 0,_,_,_,_,_,_=>none
 | k+1,a0,a1,z2,z3,z4,z5=>if z4<(a0.length:Int) then (if 0≤z4 then (if z4<a0.length then ((some (rdL (CI .u32) a0 z4)).bind fun x9=>if 0≤a1 then (if 0≤z3 then ((some (ior .u64 z2 (ishl .u64 (iconv .u64 (iand .u32 x9 (isub .u32 (ishl .u32 1 a1) 1))) z3))).bind fun x10=>(some (iadd .i64 z3 a1)).bind fun x11=>(bits_Pack.l1 K K x10 x11 z5).bind fun (y15,y16,y17)=>bits_Pack.l0 K k a0 a1 y15 y16 (iadd .i64 z4 1) y17) else none) else none) else none) else none) else (some (z2,z3,z5))
def bits_Pack.f (K:Nat) (a0:List Int) (a1:Int):Option ((List Int)):=
 if a1<1 then (some ([]:List Int)) else (if a1>24 then (some ([]:List Int)) else (if 0≤(iquo .i64 (iadd .i64 (imul .i64 (a0.length:Int) a1) 7) 8) then (if (iquo .i64 (iadd .i64 (imul .i64 (a0.length:Int) a1) 7) 8)≤140737488355328 then ((bits_Pack.l0 K K a0 a1 0 0 0 ([]:List Int)).bind fun (y6,y7,y8)=>((if y7>0 then (if y8.length+([(iconv .u8 y6)]:List Int).length≤140737488355328 then (some (y8++([(iconv .u8 y6)]:List Int))) else none) else (some y8):Option ((List Int)))).bind fun y22=>some y22) else none) else none))
def kq_Pack.l0 (K:Nat):Nat→(Arr 256)→Int→(List Int)→Option ((List Int))
 | 0,_,_,_=>none
 | k+1,a0,z5,z6=>if z5<256 then (if 0≤z5 then (if z5<256 then ((some (rd a0 z5)).bind fun x8=>if 0≤z5 then (if z5<z6.length then ((some (iconv .u32 x8)).bind fun x9=>kq_Pack.l0 K k a0 (iadd .i64 z5 1) (wrL z6 z5 x9)) else none) else none) else none) else none) else (some z6)
def kq_Pack.f (K:Nat) (a0:Arr 256) (a1:Int):Option ((List Int)):=
 if a1<1 then (some ([]:List Int)) else (if a1>12 then (some ([]:List Int)) else ((kq_bound.f K a1).bind fun r2=>(kq_below.f K a0 r2).bind fun r3=>if r3=true then ((kq_Pack.l0 K K a0 0 (List.replicate (256:Int).toNat (Cod.zero (CI .u32)))).bind fun y7=>(bits_Pack.f K y7 a1).bind fun r10=>some r10) else (some ([]:List Int))))
def kpke_vector_packed.l0 (K:Nat):Nat→(List (Arr 256))→Int→Int→(List Int)→Option ((List Int))
 | 0,_,_,_,_=>none
 | k+1,a0,a1,z1,z2=>if z1<(a0.length:Int) then (if 0≤z1 then (if z1<a0.length then ((kq_Pack.f K (rdL (CA .i32 256 (by decide)) a0 z1) a1).bind fun r5=>if z2.length+r5.length≤140737488355328 then (kpke_vector_packed.l0 K k a0 a1 (iadd .i64 z1 1) (z2++r5)) else none) else none) else none) else (some z2)
def kpke_vector_packed.f (K:Nat) (a0:List (Arr 256)) (a1:Int):Option ((List Int)):=
 (kpke_vector_packed.l0 K K a0 a1 0 ([]:List Int)).bind fun y3=>some y3
def kq_Unpack.l0 (K:Nat):Nat→(List Int)→Int→(Arr 256)→Option ((Arr 256))
 | 0,_,_,_=>none
 | k+1,r3,z4,z5=>if z4<(r3.length:Int) then (if 0≤z4 then (if z4<r3.length then ((some (rdL (CI .u32) r3 z4)).bind fun x7=>if 0≤z4 then (if z4<256 then ((some (iconv .i32 x7)).bind fun x8=>kq_Unpack.l0 K k r3 (iadd .i64 z4 1) (wr z5 z4 x8)) else none) else none) else none) else none) else (some z5)
def kq_Unpack.f (K:Nat) (a0:List Int) (a1:Int):Option ((Arr 256) × Bool):=
 if a1<1 then (some ((zeroA 256),false)) else (if a1>12 then (some ((zeroA 256),false)) else (if (a0.length:Int)=(imul .i64 32 a1) then ((bits_Unpack.f K a0 a1 256).bind fun r3=>(kq_Unpack.l0 K K r3 0 (zeroA 256)).bind fun y6=>(kq_bound.f K a1).bind fun r9=>(kq_below.f K y6 r9).bind fun r10=>if r10=true then (some (y6,true)) else (some ((zeroA 256),false))) else (some ((zeroA 256),false))))
def kpke_read.l0 (K:Nat):Nat→(List Int)→Int→Int→Int→Int→(List (Arr 256))→Option (((List (Arr 256))) ⊕ ((List (Arr 256)) × Bool))
 | 0,_,_,_,_,_,_=>none
 | k+1,a0,a1,a2,x1,z3,z4=>if z3<((List.replicate (a1:Int).toNat (Cod.zero (CA .i32 256 (by decide)))).length:Int) then (if 0≤(imul .i64 z3 x1) then (if (imul .i64 z3 x1)≤(imul .i64 (iadd .i64 z3 1) x1) then (if (imul .i64 (iadd .i64 z3 1) x1)≤a0.length then ((kq_Unpack.f K (subL a0 (imul .i64 z3 x1) (imul .i64 (iadd .i64 z3 1) x1)) a2).bind fun (r7,r8)=>if r8=true then (if 0≤z3 then (if z3<z4.length then (kpke_read.l0 K k a0 a1 a2 x1 (iadd .i64 z3 1) (wrL z4 z3 r7)) else none) else none) else (some (.inr (([]:List (Arr 256)),false)))) else none) else none) else none) else (some (.inl z4))
def kpke_read.f (K:Nat) (a0:List Int) (a1:Int) (a2:Int):Option ((List (Arr 256)) × Bool):=
 (some (imul .i64 32 a2)).bind fun x1=>if 0≤a1 then (if a1≤137438953472 then ((kpke_read.l0 K K a0 a1 a2 x1 0 (List.replicate (a1:Int).toNat (Cod.zero (CA .i32 256 (by decide))))).bind fun t0=>(match t0 with | .inl y5=>some (y5,true) | .inr r=>some r)) else none) else none
def kq_Squeeze.l0 (K:Nat):Nat→(Arr 256)→Int→Int→(Arr 256)→Option ((Arr 256))
 | 0,_,_,_,_=>none
 | k+1,a0,a1,z3,z4=>if z3<256 then (if 0≤z3 then (if z3<256 then ((some (rd a0 z3)).bind fun x6=>if 0≤a1 then (if 0≤a1 then (if 0≤z3 then (if z3<256 then ((some (iand .i32 (iquo .i32 (iadd .i32 (ishl .i32 x6 a1) 1664) 3329) (isub .i32 (ishl .i32 1 a1) 1))).bind fun x7=>kq_Squeeze.l0 K k a0 a1 (iadd .i64 z3 1) (wr z4 z3 x7)) else none) else none) else none) else none) else none) else none) else (some z4)
def kq_Squeeze.f (K:Nat) (a0:Arr 256) (a1:Int):Option ((Arr 256)):=
 if a1<1 then (some (zeroA 256)) else (if a1≥12 then (some (zeroA 256)) else ((kq_Squeeze.l0 K K a0 a1 0 a0).bind fun y5=>some y5))
def kq_Back.l2 (K:Nat):Nat→(Arr 128)→Int→Int→Int→Int→(Arr 256)→Option ((Arr 256))
 | 0,_,_,_,_,_,_=>none
 | k+1,r3,z6,z10,x14,z15,z16=>if z15<(iadd .i64 z10 z6) then (if 0≤z15 then (if z15<256 then ((some (rd z16 z15)).bind fun x18=>(some (iadd .i64 z15 z6)).bind fun x19=>if 0≤x19 then (if x19<256 then (if 0≤z15 then (if z15<256 then ((some (irem .i32 (iadd .i32 x18 (rd z16 x19)) 3329)).bind fun x20=>if 0≤x14 then (if x14<128 then ((some (iadd .i64 z15 z6)).bind fun x21=>if 0≤x21 then (if x21<256 then ((some (iadd .i64 z15 z6)).bind fun x22=>if 0≤x22 then (if x22<256 then ((some (irem .i32 (imul .i32 (rd r3 x14) (iadd .i32 (isub .i32 (rd (wr z16 z15 x20) x21) x18) 3329)) 3329)).bind fun x23=>(some (iadd .i64 z15 1)).bind fun x24=>kq_Back.l2 K k r3 z6 z10 x14 x24 (wr (wr z16 z15 x20) x22 x23)) else none) else none) else none) else none) else none) else none) else none) else none) else none) else none) else none) else none) else (some z16)
def kq_Back.l1 (K:Nat):Nat→(Arr 128)→Int→Int→Int→(Arr 256)→Option (Int × (Arr 256))
 | 0,_,_,_,_,_=>none
 | k+1,r3,z6,z9,z10,z11=>if z10<256 then ((some (isub .i64 z9 1)).bind fun x14=>(kq_Back.l2 K K r3 z6 z10 x14 z10 z11).bind fun y17=>(some (iadd .i64 z10 (imul .i64 2 z6))).bind fun x25=>kq_Back.l1 K k r3 z6 x14 x25 y17) else (some (z9,z11))
def kq_Back.l0 (K:Nat):Nat→(Arr 128)→Int→Int→(Arr 256)→Option ((Arr 256))
 | 0,_,_,_,_=>none
 | k+1,r3,z5,z6,z7=>if z6≤128 then ((kq_Back.l1 K K r3 z6 z5 0 z7).bind fun (y12,y13)=>(some (imul .i64 z6 2)).bind fun x26=>kq_Back.l0 K k r3 y12 x26 y13) else (some z7)
def kq_Back.l3 (K:Nat):Nat→Int→(Arr 256)→Option ((Arr 256))
 | 0,_,_=>none
 | k+1,z27,z28=>if z27<256 then (if 0≤z27 then (if z27<256 then (if 0≤z27 then (if z27<256 then ((some (irem .i32 (imul .i32 (rd z28 z27) 3303) 3329)).bind fun x30=>kq_Back.l3 K k (iadd .i64 z27 1) (wr z28 z27 x30)) else none) else none) else none) else none) else (some z28)
def kq_Back.f (K:Nat) (a0:Arr 256):Option ((Arr 256)):=
 (kq_roots.f K).bind fun r3=>(kq_Back.l0 K K r3 128 2 a0).bind fun y8=>(kq_Back.l3 K K 0 y8).bind fun y29=>some y29
def kq_Widen.l0 (K:Nat):Nat→(Arr 256)→Int→Int→(Arr 256)→Option ((Arr 256))
 | 0,_,_,_,_=>none
 | k+1,a0,a1,z4,z5=>if z4<256 then (if 0≤z4 then (if z4<256 then ((some (rd a0 z4)).bind fun x7=>if 0≤(isub .i64 a1 1) then (if 0≤a1 then (if 0≤z4 then (if z4<256 then ((some (ishr .i32 (iadd .i32 (imul .i32 x7 3329) (ishl .i32 1 (isub .i64 a1 1))) a1)).bind fun x8=>kq_Widen.l0 K k a0 a1 (iadd .i64 z4 1) (wr z5 z4 x8)) else none) else none) else none) else none) else none) else none) else (some z5)
def kq_Widen.f (K:Nat) (a0:Arr 256) (a1:Int):Option ((Arr 256)):=
 if a1<1 then (some (zeroA 256)) else (if a1≥12 then (some (zeroA 256)) else (if 0≤a1 then ((kq_below.f K a0 (ishl .i32 1 a1)).bind fun r3=>if r3=true then ((kq_Widen.l0 K K a0 a1 0 a0).bind fun y6=>some y6) else (some (zeroA 256))) else none))
def kpke_spread.f (K:Nat) (a0:List Int):Option ((Arr 256)):=
 (kq_Unpack.f K a0 1).bind fun (r2,r3)=>(kq_Widen.f K r2 1).bind fun r5=>some r5
def kpke_expanded_s.l1 (K:Nat):Nat→Int→(List Int)→Int→Int→(List (List (Arr 256)))→Option (((List (List (Arr 256)))) ⊕ ((List (List (Arr 256))) × Int))
 | 0,_,_,_,_,_=>none
 | k+1,ca0,ca5,z5,z8,z9=>if z8<ca0 then ((some (iconv .u8 z5)).bind fun x11=>(some (iconv .u8 z8)).bind fun x12=>(kpke_Parts.f K ca5 x12 x11).bind fun (r13,r14)=>if r14=0 then (if 0≤z5 then (if z5<z9.length then (if (rdLL z9 z5).length+([r13]:List (Arr 256)).length≤137438953472 then (if 0≤z5 then (if z5<z9.length then (kpke_expanded_s.l1 K k ca0 ca5 z5 (iadd .i64 z8 1) (wrL z9 z5 ((rdLL z9 z5)++([r13]:List (Arr 256))))) else none) else none) else none) else none) else none) else (some (.inr (([]:List (List (Arr 256))),r14)))) else (some (.inl z9))
def kpke_expanded_s.l0 (K:Nat):Nat→Int→(List Int)→Int→(List (List (Arr 256)))→Option (((List (List (Arr 256)))) ⊕ ((List (List (Arr 256))) × Int))
 | 0,_,_,_,_=>none
 | k+1,ca0,ca5,z5,z6=>if z5<((List.replicate (ca0:Int).toNat ([]:List (Arr 256))).length:Int) then ((kpke_expanded_s.l1 K K ca0 ca5 z5 0 z6).bind fun t1=>(match t1 with | .inl y10=>kpke_expanded_s.l0 K k ca0 ca5 (iadd .i64 z5 1) y10 | .inr r=>some (.inr r))) else (some (.inl z6))
def kpke_expanded_s.f (K:Nat) (ca0:Int) (ca1:Int) (ca2:Int) (ca3:Int) (ca4:Int) (ca5:List Int):Option ((List (List (Arr 256))) × Int):=
 if 0≤ca0 then (if ca0≤5864062014805 then ((kpke_expanded_s.l0 K K ca0 ca5 0 (List.replicate (ca0:Int).toNat ([]:List (Arr 256)))).bind fun t0=>(match t0 with | .inl y7=>some (y7,0) | .inr r=>some r)) else none) else none
def kpke_Encrypt.l0 (K:Nat):Nat→Int→(List (List (Arr 256)))→(List (Arr 256))→Int→(List (Arr 256))→Option ((List (Arr 256)))
 | 0,_,_,_,_,_=>none
 | k+1,a0_3,r8,r15,z17,z18=>if z17<(r8.length:Int) then (if 0≤z17 then (if z17<r8.length then (if 0≤z17 then (if z17<z18.length then ((kpke_vector_dot.f K (rdLL r8 z17) r15).bind fun r21=>(kq_Back.f K r21).bind fun r22=>(kq_Add.f K (rdL (CA .i32 256 (by decide)) z18 z17) r22).bind fun r23=>(kq_Squeeze.f K r23 a0_3).bind fun r24=>if 0≤z17 then (if z17<z18.length then (kpke_Encrypt.l0 K k a0_3 r8 r15 (iadd .i64 z17 1) (wrL z18 z17 r24)) else none) else none) else none) else none) else none) else none) else (some z18)
def kpke_Encrypt.f (K:Nat) (a0_0:Int) (a0_1:Int) (a0_2:Int) (a0_3:Int) (a0_4:Int) (a1:List Int) (a2:List Int) (a3:List Int):Option ((List Int) × Int):=
 (kpke_Sizes.f K a0_0 a0_1 a0_2 a0_3 a0_4).bind fun (r2,r3,r4)=>if r2=0 then (some (([]:List Int),9)) else (if (a1.length:Int)=r2 then ((kpke_read.f K a1 a0_0 12).bind fun (r5,r6)=>if r6=true then (if (a2.length:Int)=32 then (if (a3.length:Int)=32 then (if 0≤(isub .i64 r2 32) then (if (isub .i64 r2 32)≤(a1.length:Int) then (if (a1.length:Int)≤a1.length then ((kpke_expanded_s.f K a0_0 a0_1 a0_2 a0_3 a0_4 (subL a1 (isub .i64 r2 32) (a1.length:Int))).bind fun (r8,r9)=>if r9=0 then ((kpke_noises.f K a0_0 a0_1 a3 0).bind fun r14=>(kpke_vector_parts.f K r14).bind fun r15=>(kpke_noises.f K a0_0 a0_2 a3 a0_0).bind fun r16=>(kpke_Encrypt.l0 K K a0_3 r8 r15 0 r16).bind fun y19=>(((kpke_vector_dot.f K r5 r15).bind fun r27=>(kq_Back.f K r27).bind fun r28=>(kpke_Noise.f K a0_2 a3 (iconv .u8 (imul .i64 2 a0_0))).bind fun r29=>(kq_Add.f K r28 r29).bind fun r30=>some r30:Option ((Arr 256)))).bind fun y26=>(kpke_spread.f K a2).bind fun r46=>(kq_Add.f K y26 r46).bind fun r47=>(kq_Squeeze.f K r47 a0_4).bind fun r48=>(kpke_vector_packed.f K y19 a0_3).bind fun r49=>(kq_Pack.f K r48 a0_4).bind fun r50=>(bits_Join.f K ([r49,r50]:List (List Int))).bind fun r52=>some (r52,0)) else (some (([]:List Int),r9))) else none) else none) else none) else (some (([]:List Int),14))) else (some (([]:List Int),14))) else (some (([]:List Int),10))) else (some (([]:List Int),10)))
def kem_good.f (K:Nat) (a0_0:Int) (a0_1:Int) (a0_2:Int) (a0_3:Int) (a0_4:Int) (a1:List Int):Option (Bool):=
 (kpke_Encrypt.f K a0_0 a0_1 a0_2 a0_3 a0_4 a1 ([]:List Int) ([]:List Int)).bind fun (r2,r3)=>some (r3 == 14)
def kq_Sub.l0 (K:Nat):Nat→(Arr 256)→Int→(Arr 256)→Option ((Arr 256))
 | 0,_,_,_=>none
 | k+1,a1,z4,z5=>if z4<256 then (((if 0≤z4 then (if z4<256 then (if 0≤z4 then (if z4<256 then (if 0≤z4 then (if z4<256 then ((some (isub .i32 (rd z5 z4) (rd a1 z4))).bind fun x8=>if 0≤z4 then (if z4<256 then (if (rd (wr z5 z4 x8) z4)<0 then (if 0≤z4 then (if z4<256 then (if 0≤z4 then (if z4<256 then ((some (iadd .i32 (rd (wr z5 z4 x8) z4) 3329)).bind fun x9=>some (wr (wr z5 z4 x8) z4 x9)) else none) else none) else none) else none) else (some (wr z5 z4 x8))) else none) else none) else none) else none) else none) else none) else none) else none:Option ((Arr 256)))).bind fun y7=>kq_Sub.l0 K k a1 (iadd .i64 z4 1) y7) else (some z5)
def kq_Sub.f (K:Nat) (a0:Arr 256) (a1:Arr 256):Option ((Arr 256)):=
 (kq_Sub.l0 K K a1 0 a0).bind fun y6=>some y6
def kpke_Decrypt.l0 (K:Nat):Nat→Int→(List (Arr 256))→Int→(List (Arr 256))→Option ((List (Arr 256)))
 | 0,_,_,_,_=>none
 | k+1,a0_3,r7,z9,z10=>if z9<(r7.length:Int) then (if 0≤z9 then (if z9<z10.length then ((kq_Widen.f K (rdL (CA .i32 256 (by decide)) z10 z9) a0_3).bind fun r13=>if 0≤z9 then (if z9<z10.length then (kpke_Decrypt.l0 K k a0_3 r7 (iadd .i64 z9 1) (wrL z10 z9 r13)) else none) else none) else none) else none) else (some z10)
def kpke_Decrypt.f (K:Nat) (a0_0:Int) (a0_1:Int) (a0_2:Int) (a0_3:Int) (a0_4:Int) (a1:List Int) (a2:List Int):Option ((List Int) × Int):=
 (kpke_Sizes.f K a0_0 a0_1 a0_2 a0_3 a0_4).bind fun (r2,r3,r4)=>if r3=0 then (some (([]:List Int),9)) else (if (a1.length:Int)=r3 then ((kpke_read.f K a1 a0_0 12).bind fun (r5,r6)=>if r6=true then (if (a2.length:Int)=r4 then ((kpke_read.f K a2 a0_0 a0_3).bind fun (r7,r8)=>(kpke_Decrypt.l0 K K a0_3 r7 0 r7).bind fun y11=>((if 0≤(isub .i64 r4 (imul .i64 32 a0_4)) then (if (isub .i64 r4 (imul .i64 32 a0_4))≤(a2.length:Int) then (if (a2.length:Int)≤a2.length then ((kq_Unpack.f K (subL a2 (isub .i64 r4 (imul .i64 32 a0_4)) (a2.length:Int)) a0_4).bind fun (r17,r18)=>some r17) else none) else none) else none:Option ((Arr 256)))).bind fun y15=>(kq_Widen.f K y15 a0_4).bind fun r23=>(kpke_vector_parts.f K y11).bind fun r24=>(kpke_vector_dot.f K r5 r24).bind fun r25=>(kq_Back.f K r25).bind fun r26=>(kq_Sub.f K r23 r26).bind fun r27=>(kq_Squeeze.f K r27 1).bind fun r29=>(kq_Pack.f K r29 1).bind fun r30=>some (r30,0)) else (some (([]:List Int),14))) else (some (([]:List Int),10))) else (some (([]:List Int),10)))
def bits_Same.l0 (K:Nat):Nat→(List Int)→(List Int)→Int→Int→Option (Int)
 | 0,_,_,_,_=>none
 | k+1,a0,a1,z1,z2=>if z2<(a0.length:Int) then (if 0≤z2 then (if z2<a0.length then (if 0≤z2 then (if z2<a1.length then ((some (ior .u8 z1 (ixor .u8 (rdL (CI .u8) a0 z2) (rdL (CI .u8) a1 z2)))).bind fun x4=>bits_Same.l0 K k a0 a1 x4 (iadd .i64 z2 1)) else none) else none) else none) else none) else (some z1)
def bits_Same.f (K:Nat) (a0:List Int) (a1:List Int):Option (Bool):=
 if (a0.length:Int)=(a1.length:Int) then ((bits_Same.l0 K K a0 a1 0 0).bind fun y3=>some (y3 == 0)) else (some false)
def kem_Open.f (K:Nat) (a0_0:Int) (a0_1:Int) (a0_2:Int) (a0_3:Int) (a0_4:Int) (a1:List Int) (a2:List Int):Option ((List Int) × Int):=
 (kem_Sizes.f K a0_0 a0_1 a0_2 a0_3 a0_4).bind fun (r2,r3,r4)=>if r2=0 then (some (([]:List Int),9)) else ((kem_Sizes.f K a0_0 a0_1 a0_2 a0_3 a0_4).bind fun (r7,r8,r9)=>if (a1.length:Int)=r8 then ((some (isub .i64 r8 64)).bind fun x10=>if 0≤(0:Int) then (if (0:Int)≤(isub .i64 x10 r7) then (if (isub .i64 x10 r7)≤a1.length then (if 0≤(isub .i64 x10 r7) then (if (isub .i64 x10 r7)≤x10 then (if x10≤a1.length then (if 0≤x10 then (if x10≤(iadd .i64 x10 32) then (if (iadd .i64 x10 32)≤a1.length then (if 0≤(iadd .i64 x10 32) then (if (iadd .i64 x10 32)≤(a1.length:Int) then (if (a1.length:Int)≤a1.length then ((kpke_Decrypt.f K a0_0 a0_1 a0_2 a0_3 a0_4 (subL a1 0 (isub .i64 x10 r7)) ([]:List Int)).bind fun (r16,r17)=>if r17=10 then (some (([]:List Int),10)) else ((kem_good.f K a0_0 a0_1 a0_2 a0_3 a0_4 (subL a1 (isub .i64 x10 r7) x10)).bind fun r19=>if r19=true then ((kem_digest.f K (subL a1 (isub .i64 x10 r7) x10)).bind fun r20=>(bits_Same.f K r20 (subL a1 x10 (iadd .i64 x10 32))).bind fun r21=>if r21=true then (if (a2.length:Int)=r4 then ((kpke_Decrypt.f K a0_0 a0_1 a0_2 a0_3 a0_4 (subL a1 0 (isub .i64 x10 r7)) a2).bind fun (r24,r25)=>(bits_Join.f K ([r24,(subL a1 x10 (iadd .i64 x10 32))]:List (List Int))).bind fun r27=>(keccak_Sum.f K 5 r27 64).bind fun (r28,r29)=>if 0≤(0:Int) then (if (0:Int)≤(32:Int) then (if (32:Int)≤(32:Int) then (if (32:Int)≤r28.length then (if 0≤(32:Int) then (if (32:Int)≤(r28.length:Int) then (if (r28.length:Int)≤r28.length then ((kpke_Encrypt.f K a0_0 a0_1 a0_2 a0_3 a0_4 (subL a1 (isub .i64 x10 r7) x10) r24 (subL r28 32 (r28.length:Int))).bind fun (r32,r33)=>if r33=0 then ((bits_Same.f K r32 a2).bind fun r34=>if r34=true then (some ((subL r28 0 32),0)) else ((bits_Join.f K ([(subL a1 (iadd .i64 x10 32) (a1.length:Int)),a2]:List (List Int))).bind fun r36=>(keccak_Sum.f K 7 r36 32).bind fun (r37,r38)=>some (r37,0))) else (some (([]:List Int),r33))) else none) else none) else none) else none) else none) else none) else none) else (some (([]:List Int),14))) else (some (([]:List Int),10))) else (some (([]:List Int),10)))) else none) else none) else none) else none) else none) else none) else none) else none) else none) else none) else none) else none) else (some (([]:List Int),10)))
def law27_awake.f (K:Nat):Option (Bool):=
 (ref26_Set.f K 512).bind fun (r1_0,r1_1,r1_2,r1_3,r1_4,r2)=>(kem_Sizes.f K r1_0 r1_1 r1_2 r1_3 r1_4).bind fun (r4,r5,r6)=>(kem_Open.f K r1_0 r1_1 r1_2 r1_3 r1_4 ([]:List Int) ([]:List Int)).bind fun (r7,r8)=>if r4=800 then (if r5=1632 then (if r6=768 then (some (r8 == 10)) else (some false)) else (some false)) else (some false)
def ref01_Same.l0 (K:Nat):Nat→(List Int)→(List Int)→Int→Option ((Unit) ⊕ (Bool))
 | 0,_,_,_=>none
 | k+1,a0,a1,z1=>if z1<(a0.length:Int) then (if 0≤z1 then (if z1<a0.length then (if 0≤z1 then (if z1<a1.length then (if (rdL (CI .u8) a0 z1)=(rdL (CI .u8) a1 z1) then ((some (iadd .i64 z1 1)).bind fun x2=>ref01_Same.l0 K k a0 a1 x2) else (some (.inr false))) else none) else none) else none) else none) else (some (.inl ()))
def ref01_Same.f (K:Nat) (a0:List Int) (a1:List Int):Option (Bool):=
 if (a0.length:Int)=(a1.length:Int) then ((ref01_Same.l0 K K a0 a1 0).bind fun t0=>(match t0 with | .inl _=>some true | .inr r=>some r)) else (some false)
def ref26_Known.f (K:Nat) (a0_0:Int) (a0_1:Int) (a0_2:Int) (a0_3:Int) (a0_4:Int):Option (Bool):=
 (ref26_Set.f K 512).bind fun (r2_0,r2_1,r2_2,r2_3,r2_4,r3)=>(ref26_Set.f K 768).bind fun (r5_0,r5_1,r5_2,r5_3,r5_4,r6)=>(ref26_Set.f K 1024).bind fun (r8_0,r8_1,r8_2,r8_3,r8_4,r9)=>if ((a0_0 == r2_0) && ((a0_1 == r2_1) && ((a0_2 == r2_2) && ((a0_3 == r2_3) && ((a0_4 == r2_4) && true)))))=true then (some true) else (if ((a0_0 == r5_0) && ((a0_1 == r5_1) && ((a0_2 == r5_2) && ((a0_3 == r5_3) && ((a0_4 == r5_4) && true)))))=true then (some true) else (some ((a0_0 == r8_0) && ((a0_1 == r8_1) && ((a0_2 == r8_2) && ((a0_3 == r8_3) && ((a0_4 == r8_4) && true)))))))
def ref26_Sizes.f (K:Nat) (a0_0:Int) (a0_1:Int) (a0_2:Int) (a0_3:Int) (a0_4:Int):Option (Int × Int × Int):=
 (ref26_Known.f K a0_0 a0_1 a0_2 a0_3 a0_4).bind fun r2=>if r2=true then ((some (iadd .i64 (imul .i64 384 a0_0) 32)).bind fun x3=>(some (imul .i64 384 a0_0)).bind fun x4=>(some (imul .i64 32 (iadd .i64 (imul .i64 a0_3 a0_0) a0_4))).bind fun x5=>some (x3,x4,x5)) else (some (0,0,0))
def ref08_Rate.f (K:Nat) (a0:Int):Option (Int):=
 if a0=4 then (some 136) else (if a0=7 then (some 136) else (if a0=5 then (some 72) else (if a0=6 then (some 168) else (some 0))))
def ref08_New.f (K:Nat) (a0:Int):Option (Int × (Arr 25) × Int × Bool × Int):=
 (ref08_Rate.f K a0).bind fun r2=>if r2=0 then (some (0,(zeroA 25),0,false,9)) else (some (a0,(zeroA 25),0,false,0))
def ref08_constants.l0 (K:Nat):Nat→Int→Int→(Arr 24)→Option ((Arr 24))
 | 0,_,_,_=>none
 | k+1,z3,z4,z5=>if z4<168 then (((((if (iand .u64 z3 1)=1 then ((some (iquo .i64 z4 7)).bind fun x10=>if 0≤x10 then (if x10<24 then (if 0≤(irem .i64 z4 7) then (if 0≤(isub .u64 (ishl .u64 1 (irem .i64 z4 7)) 1) then ((some (iquo .i64 z4 7)).bind fun x11=>if 0≤x11 then (if x11<24 then ((some (ior .u64 (rd z5 x10) (ishl .u64 1 (isub .u64 (ishl .u64 1 (irem .i64 z4 7)) 1)))).bind fun x12=>some (wr z5 x11 x12)) else none) else none) else none) else none) else none) else none) else (some z5):Option ((Arr 24)))).bind fun y9=>(some (imul .u64 z3 2)).bind fun x13=>if x13≥256 then ((some (ixor .u64 (iand .u64 x13 255) 113)).bind fun x14=>some (x14,y9)) else (some (x13,y9)):Option (Int × (Arr 24)))).bind fun (y7,y8)=>(some (iadd .i64 z4 1)).bind fun x15=>ref08_constants.l0 K k y7 x15 y8) else (some z5)
def ref08_constants.f (K:Nat):Option ((Arr 24)):=
 (ref08_constants.l0 K K 1 0 (zeroA 24)).bind fun y6=>some y6
def ref08_left.f (K:Nat) (a0:Int) (a1:Int):Option (Int):=
 (some (irem .i64 a1 64)).bind fun x1=>if 0≤x1 then (if 0≤(isub .i64 64 x1) then ((some (ior .u64 (ishl .u64 a0 x1) (ishr .u64 a0 (isub .i64 64 x1)))).bind fun x2=>some x2) else none) else none
def ref08_move.l0 (K:Nat):Nat→(Arr 25)→Int→Int→Int→(Arr 25)→Option ((Arr 25))
 | 0,_,_,_,_,_=>none
 | k+1,a0,z5,z6,z7,z8=>if z7<24 then ((some (irem .i64 (iadd .i64 (imul .i64 2 z5) (imul .i64 3 z6)) 5)).bind fun x10=>(some (iadd .i64 z5 (imul .i64 5 z6))).bind fun x11=>if 0≤x11 then (if x11<25 then ((ref08_left.f K (rd a0 x11) (iquo .i64 (imul .i64 (iadd .i64 z7 1) (iadd .i64 z7 2)) 2)).bind fun r12=>(some (iadd .i64 z6 (imul .i64 5 x10))).bind fun x13=>if 0≤x13 then (if x13<25 then ((some (iadd .i64 z7 1)).bind fun x14=>ref08_move.l0 K k a0 z6 x10 x14 (wr z8 x13 r12)) else none) else none) else none) else none) else (some z8)
def ref08_move.f (K:Nat) (a0:Arr 25):Option ((Arr 25)):=
 (some (rd a0 0)).bind fun x4=>(ref08_move.l0 K K a0 1 0 0 (wr (zeroA 25) 0 x4)).bind fun y9=>some y9
def ref08_spread.l0 (K:Nat):Nat→(Arr 25)→Int→(Arr 5)→Option ((Arr 5))
 | 0,_,_,_=>none
 | k+1,a0,z4,z5=>if z4<25 then ((some (irem .i64 z4 5)).bind fun x7=>if 0≤x7 then (if x7<5 then (if 0≤z4 then (if z4<25 then ((some (irem .i64 z4 5)).bind fun x8=>if 0≤x8 then (if x8<5 then ((some (ixor .u64 (rd z5 x7) (rd a0 z4))).bind fun x9=>(some (iadd .i64 z4 1)).bind fun x10=>ref08_spread.l0 K k a0 x10 (wr z5 x8 x9)) else none) else none) else none) else none) else none) else none) else (some z5)
def ref08_spread.l1 (K:Nat):Nat→(Arr 5)→Int→(Arr 25)→Option ((Arr 25))
 | 0,_,_,_=>none
 | k+1,y6,z11,z12=>if z11<25 then (if 0≤z11 then (if z11<25 then ((some (irem .i64 (iadd .i64 z11 4) 5)).bind fun x14=>if 0≤x14 then (if x14<5 then ((some (irem .i64 (iadd .i64 z11 1) 5)).bind fun x15=>if 0≤x15 then (if x15<5 then ((ref08_left.f K (rd y6 x15) 1).bind fun r16=>if 0≤z11 then (if z11<25 then ((some (ixor .u64 (ixor .u64 (rd z12 z11) (rd y6 x14)) r16)).bind fun x17=>(some (iadd .i64 z11 1)).bind fun x18=>ref08_spread.l1 K k y6 x18 (wr z12 z11 x17)) else none) else none) else none) else none) else none) else none) else none) else none) else (some z12)
def ref08_spread.f (K:Nat) (a0:Arr 25):Option ((Arr 25)):=
 (ref08_spread.l0 K K a0 0 (zeroA 5)).bind fun y6=>(ref08_spread.l1 K K y6 0 a0).bind fun y13=>some y13
def ref08_Permute.l1 (K:Nat):Nat→(Arr 25)→Int→(Arr 25)→Option ((Arr 25))
 | 0,_,_,_=>none
 | k+1,r9,z11,z12=>if z11<25 then ((some (imul .i64 (iquo .i64 z11 5) 5)).bind fun x14=>if 0≤z11 then (if z11<25 then ((some (iadd .i64 x14 (irem .i64 (iadd .i64 z11 1) 5))).bind fun x15=>if 0≤x15 then (if x15<25 then ((some (iadd .i64 x14 (irem .i64 (iadd .i64 z11 2) 5))).bind fun x16=>if 0≤x16 then (if x16<25 then (if 0≤z11 then (if z11<25 then ((some (ixor .u64 (rd r9 z11) (iand .u64 (ixor .u64 (rd r9 x15) 18446744073709551615) (rd r9 x16)))).bind fun x17=>(some (iadd .i64 z11 1)).bind fun x18=>ref08_Permute.l1 K k r9 x18 (wr z12 z11 x17)) else none) else none) else none) else none) else none) else none) else none) else none) else (some z12)
def ref08_Permute.l0 (K:Nat):Nat→(Arr 24)→Int→(Arr 25)→Option ((Arr 25))
 | 0,_,_,_=>none
 | k+1,r3,z5,z6=>if z5<24 then ((ref08_spread.f K z6).bind fun r8=>(ref08_move.f K r8).bind fun r9=>(ref08_Permute.l1 K K r9 0 z6).bind fun y13=>if 0≤z5 then (if z5<24 then ((some (ixor .u64 (rd y13 0) (rd r3 z5))).bind fun x19=>(some (iadd .i64 z5 1)).bind fun x20=>ref08_Permute.l0 K k r3 x20 (wr y13 0 x19)) else none) else none) else (some z6)
def ref08_Permute.f (K:Nat) (a0:Arr 25):Option ((Arr 25)):=
 (ref08_constants.f K).bind fun r3=>(ref08_Permute.l0 K K r3 0 a0).bind fun y7=>some y7
def ref08_put.f (K:Nat) (a0:Arr 25) (a1:Int) (a2:Int):Option ((Arr 25)):=
 (some (iquo .i64 a1 8)).bind fun x3=>if 0≤x3 then (if x3<25 then (if 0≤(imul .i64 8 (irem .i64 a1 8)) then ((some (iquo .i64 a1 8)).bind fun x4=>if 0≤x4 then (if x4<25 then ((some (ixor .u64 (rd a0 x3) (ishl .u64 (iconv .u64 a2) (imul .i64 8 (irem .i64 a1 8))))).bind fun x5=>some (wr a0 x4 x5)) else none) else none) else none) else none) else none
def ref08_Squeeze.l0 (K:Nat):Nat→Int→Int→(List Int)→Int→(Arr 25)→Int→Bool→Option ((List Int) × Int × (Arr 25) × Int × Bool)
 | 0,_,_,_,_,_,_,_=>none
 | k+1,a1,r3,z9,z10_0,z10_1,z10_2,z10_3=>if (z9.length:Int)<a1 then (((if z10_2=r3 then ((ref08_Permute.f K z10_1).bind fun r14=>some (z10_0,r14,0,z10_3)) else (some (z10_0,z10_1,z10_2,z10_3)):Option (Int × (Arr 25) × Int × Bool))).bind fun (y13_0,y13_1,y13_2,y13_3)=>(some (iquo .i64 y13_2 8)).bind fun x15=>if 0≤x15 then (if x15<25 then (if 0≤(imul .i64 8 (irem .i64 y13_2 8)) then (if z9.length+([(iconv .u8 (ishr .u64 (rd y13_1 x15) (imul .i64 8 (irem .i64 y13_2 8))))]:List Int).length≤140737488355328 then ((some (iadd .i64 y13_2 1)).bind fun x18=>ref08_Squeeze.l0 K k a1 r3 (z9++([(iconv .u8 (ishr .u64 (rd y13_1 x15) (imul .i64 8 (irem .i64 y13_2 8))))]:List Int)) y13_0 y13_1 x18 y13_3) else none) else none) else none) else none) else (some (z9,z10_0,z10_1,z10_2,z10_3))
def ref08_Squeeze.f (K:Nat) (a0_0:Int) (a0_1:Arr 25) (a0_2:Int) (a0_3:Bool) (a1:Int):Option (Int × (Arr 25) × Int × Bool × (List Int)):=
 if a1<0 then (some (a0_0,a0_1,a0_2,a0_3,([]:List Int))) else ((ref08_Rate.f K a0_0).bind fun r3=>((if a0_3=true then (some (a0_0,a0_1,a0_2,true)) else (((if a0_0=4 then (some 6) else (if a0_0=5 then (some 6) else (some 31)):Option (Int))).bind fun y5=>(ref08_put.f K a0_1 a0_2 y5).bind fun r6=>(ref08_put.f K r6 (isub .i64 r3 1) 128).bind fun r7=>(ref08_Permute.f K r7).bind fun r8=>some (a0_0,r8,0,true)):Option (Int × (Arr 25) × Int × Bool))).bind fun (y4_0,y4_1,y4_2,y4_3)=>(ref08_Squeeze.l0 K K a1 r3 ([]:List Int) y4_0 y4_1 y4_2 y4_3).bind fun (y11,y12_0,y12_1,y12_2,y12_3)=>some (y12_0,y12_1,y12_2,y12_3,y11))
def ref08_Absorb.l0 (K:Nat):Nat→(List Int)→Int→Int→(Arr 25)→Int→Bool→Option (Int × (Arr 25) × Int × Bool)
 | 0,_,_,_,_,_,_=>none
 | k+1,a1,z3,z4_0,z4_1,z4_2,z4_3=>if z3<(a1.length:Int) then (((if 0≤z3 then (if z3<a1.length then ((ref08_put.f K z4_1 z4_2 (rdL (CI .u8) a1 z3)).bind fun r7=>(some (iadd .i64 z4_2 1)).bind fun x8=>(ref08_Rate.f K z4_0).bind fun r9=>if x8=r9 then ((ref08_Permute.f K r7).bind fun r10=>some (z4_0,r10,0,z4_3)) else (some (z4_0,r7,x8,z4_3))) else none) else none:Option (Int × (Arr 25) × Int × Bool))).bind fun (y6_0,y6_1,y6_2,y6_3)=>(some (iadd .i64 z3 1)).bind fun x11=>ref08_Absorb.l0 K k a1 x11 y6_0 y6_1 y6_2 y6_3) else (some (z4_0,z4_1,z4_2,z4_3))
def ref08_Absorb.f (K:Nat) (a0_0:Int) (a0_1:Arr 25) (a0_2:Int) (a0_3:Bool) (a1:List Int):Option (Int × (Arr 25) × Int × Bool):=
 if a0_3=true then (some (a0_0,a0_1,a0_2,true)) else ((ref08_Absorb.l0 K K a1 0 a0_0 a0_1 a0_2 false).bind fun (y5_0,y5_1,y5_2,y5_3)=>some (y5_0,y5_1,y5_2,y5_3))
def ref08_Sum.f (K:Nat) (a0:Int) (a1:List Int) (a2:Int):Option ((List Int) × Int):=
 (ref08_New.f K a0).bind fun (r1_0,r1_1,r1_2,r1_3,r2)=>if r2=0 then (if a2<0 then (some (([]:List Int),8)) else (if a2>16777216 then (some (([]:List Int),8)) else ((ref08_Absorb.f K r1_0 r1_1 r1_2 r1_3 a1).bind fun (r4_0,r4_1,r4_2,r4_3)=>(ref08_Squeeze.f K r4_0 r4_1 r4_2 r4_3 a2).bind fun (r5_0,r5_1,r5_2,r5_3,r6)=>some (r6,0)))) else (some (([]:List Int),r2))
def ref27_h.f (K:Nat) (a0:List Int):Option ((List Int)):=
 (ref08_Sum.f K 4 a0 32).bind fun (r1,r2)=>some r1
def ref01_Join.l0 (K:Nat):Nat→(List (List Int))→Int→(List Int)→Option ((List Int))
 | 0,_,_,_=>none
 | k+1,a0,z1,z2=>if z1<(a0.length:Int) then (if 0≤z1 then (if z1<a0.length then (if z2.length+(rdLL a0 z1).length≤140737488355328 then ((some (iadd .i64 z1 1)).bind fun x6=>ref01_Join.l0 K k a0 x6 (z2++(rdLL a0 z1))) else none) else none) else none) else (some z2)
def ref01_Join.f (K:Nat) (a0:List (List Int)):Option ((List Int)):=
 (ref01_Join.l0 K K a0 0 ([]:List Int)).bind fun y3=>some y3
def ref25_Add.l0 (K:Nat):Nat→(Arr 256)→Int→(Arr 256)→Option ((Arr 256))
 | 0,_,_,_=>none
 | k+1,a1,z4,z5=>if z4<256 then (if 0≤z4 then (if z4<256 then (if 0≤z4 then (if z4<256 then (if 0≤z4 then (if z4<256 then ((some (irem .i32 (iadd .i32 (rd z5 z4) (rd a1 z4)) 3329)).bind fun x7=>(some (iadd .i64 z4 1)).bind fun x8=>ref25_Add.l0 K k a1 x8 (wr z5 z4 x7)) else none) else none) else none) else none) else none) else none) else (some z5)
def ref25_Add.f (K:Nat) (a0:Arr 256) (a1:Arr 256):Option ((Arr 256)):=
 (ref25_Add.l0 K K a1 0 a0).bind fun y6=>some y6
def ref25_powers.l0 (K:Nat):Nat→Int→(Arr 256)→Option ((Arr 256))
 | 0,_,_=>none
 | k+1,z3,z4=>if z3<256 then ((some (isub .i64 z3 1)).bind fun x6=>if 0≤x6 then (if x6<256 then (if 0≤z3 then (if z3<256 then ((some (irem .i32 (imul .i32 (rd z4 x6) 17) 3329)).bind fun x7=>(some (iadd .i64 z3 1)).bind fun x8=>ref25_powers.l0 K k x8 (wr z4 z3 x7)) else none) else none) else none) else none) else (some z4)
def ref25_powers.f (K:Nat):Option ((Arr 256)):=
 (ref25_powers.l0 K K 1 (wr (zeroA 256) 0 1)).bind fun y5=>some y5
def ref25_turned.l0 (K:Nat):Nat→Int→Int→Int→Option (Int)
 | 0,_,_,_=>none
 | k+1,a0,z1,z2=>if z2<7 then (if 0≤z2 then ((some (iadd .i64 (imul .i64 z1 2) (iand .i64 (ishr .i64 a0 z2) 1))).bind fun x4=>(some (iadd .i64 z2 1)).bind fun x5=>ref25_turned.l0 K k a0 x4 x5) else none) else (some z1)
def ref25_turned.f (K:Nat) (a0:Int):Option (Int):=
 (ref25_turned.l0 K K a0 0 0).bind fun y3=>some y3
def ref25_Mul.l0 (K:Nat):Nat→(Arr 256)→(Arr 256)→(Arr 256)→Int→(Arr 256)→Option ((Arr 256))
 | 0,_,_,_,_,_=>none
 | k+1,a0,a1,r4,z7,z8=>if z7<128 then ((ref25_turned.f K z7).bind fun r10=>(some (iadd .i64 (imul .i64 2 r10) 1)).bind fun x11=>if 0≤x11 then (if x11<256 then ((some (rd r4 x11)).bind fun x12=>(some (imul .i64 2 z7)).bind fun x13=>if 0≤x13 then (if x13<256 then ((some (imul .i64 2 z7)).bind fun x14=>if 0≤x14 then (if x14<256 then ((some (iadd .i64 (imul .i64 2 z7) 1)).bind fun x15=>if 0≤x15 then (if x15<256 then ((some (iadd .i64 (imul .i64 2 z7) 1)).bind fun x16=>if 0≤x16 then (if x16<256 then ((some (imul .i64 2 z7)).bind fun x17=>if 0≤x17 then (if x17<256 then ((some (irem .i32 (iadd .i32 (imul .i32 (rd a0 x13) (rd a1 x14)) (imul .i32 (irem .i32 (imul .i32 (rd a0 x15) (rd a1 x16)) 3329) x12)) 3329)).bind fun x18=>(some (imul .i64 2 z7)).bind fun x19=>if 0≤x19 then (if x19<256 then ((some (iadd .i64 (imul .i64 2 z7) 1)).bind fun x20=>if 0≤x20 then (if x20<256 then ((some (iadd .i64 (imul .i64 2 z7) 1)).bind fun x21=>if 0≤x21 then (if x21<256 then ((some (imul .i64 2 z7)).bind fun x22=>if 0≤x22 then (if x22<256 then ((some (iadd .i64 (imul .i64 2 z7) 1)).bind fun x23=>if 0≤x23 then (if x23<256 then ((some (irem .i32 (iadd .i32 (imul .i32 (rd a0 x19) (rd a1 x20)) (imul .i32 (rd a0 x21) (rd a1 x22))) 3329)).bind fun x24=>(some (iadd .i64 z7 1)).bind fun x25=>ref25_Mul.l0 K k a0 a1 r4 x25 (wr (wr z8 x17 x18) x23 x24)) else none) else none) else none) else none) else none) else none) else none) else none) else none) else none) else none) else none) else none) else none) else none) else none) else none) else none) else none) else none) else none) else none) else (some z8)
def ref25_Mul.f (K:Nat) (a0:Arr 256) (a1:Arr 256):Option ((Arr 256)):=
 (ref25_powers.f K).bind fun r4=>(ref25_Mul.l0 K K a0 a1 r4 0 (zeroA 256)).bind fun y9=>some y9
def ref26_dot.l0 (K:Nat):Nat→(List (Arr 256))→(List (Arr 256))→Int→(Arr 256)→Option ((Arr 256))
 | 0,_,_,_,_=>none
 | k+1,a0,a1,z3,z4=>if z3<(a0.length:Int) then (if 0≤z3 then (if z3<a0.length then (if 0≤z3 then (if z3<a1.length then ((ref25_Mul.f K (rdL (CA .i32 256 (by decide)) a0 z3) (rdL (CA .i32 256 (by decide)) a1 z3)).bind fun r6=>(ref25_Add.f K z4 r6).bind fun r7=>(some (iadd .i64 z3 1)).bind fun x8=>ref26_dot.l0 K k a0 a1 x8 r7) else none) else none) else none) else none) else (some z4)
def ref26_dot.f (K:Nat) (a0:List (Arr 256)) (a1:List (Arr 256)):Option ((Arr 256)):=
 (ref26_dot.l0 K K a0 a1 0 (zeroA 256)).bind fun y5=>some y5
def ref25_Below.l0 (K:Nat):Nat→(Arr 256)→Int→Int→Option ((Unit) ⊕ (Bool))
 | 0,_,_,_=>none
 | k+1,a0,a1,z2=>if z2<256 then (if 0≤z2 then (if z2<256 then (if (rd a0 z2)<0 then (some (.inr false)) else (if 0≤z2 then (if z2<256 then (if (rd a0 z2)≥a1 then (some (.inr false)) else ((some (iadd .i64 z2 1)).bind fun x3=>ref25_Below.l0 K k a0 a1 x3)) else none) else none)) else none) else none) else (some (.inl ()))
def ref25_Below.f (K:Nat) (a0:Arr 256) (a1:Int):Option (Bool):=
 (ref25_Below.l0 K K a0 a1 0).bind fun t0=>(match t0 with | .inl _=>some true | .inr r=>some r)
def ref25_bound.f (K:Nat) (a0:Int):Option (Int):=
 if a0=12 then (some 3329) else (if 0≤a0 then ((some (ishl .i32 1 a0)).bind fun x1=>some x1) else none)
def ref01_Pack.l1 (K:Nat):Nat→(List Int)→Int→Int→Int→(List Int)→Option ((List Int))
 | 0,_,_,_,_,_=>none
 | k+1,a0,a1,z2,z5,z6=>if z5<a1 then ((some (iadd .i64 (imul .i64 z2 a1) z5)).bind fun x8=>(some (iquo .i64 x8 8)).bind fun x9=>if 0≤x9 then (if x9<z6.length then (if 0≤z2 then (if z2<a0.length then (if 0≤z5 then (if 0≤(irem .i64 x8 8) then ((some (iquo .i64 x8 8)).bind fun x10=>if 0≤x10 then (if x10<z6.length then ((some (ior .u8 (rdL (CI .u8) z6 x9) (ishl .u8 (iconv .u8 (iand .u32 (ishr .u32 (rdL (CI .u32) a0 z2) z5) 1)) (irem .i64 x8 8)))).bind fun x11=>(some (iadd .i64 z5 1)).bind fun x12=>ref01_Pack.l1 K k a0 a1 z2 x12 (wrL z6 x10 x11)) else none) else none) else none) else none) else none) else none) else none) else none) else (some z6)
def ref01_Pack.l0 (K:Nat):Nat→(List Int)→Int→Int→(List Int)→Option ((List Int))
 | 0,_,_,_,_=>none
 | k+1,a0,a1,z2,z3=>if z2<(a0.length:Int) then ((ref01_Pack.l1 K K a0 a1 z2 0 z3).bind fun y7=>(some (iadd .i64 z2 1)).bind fun x13=>ref01_Pack.l0 K k a0 a1 x13 y7) else (some z3)
def ref01_Pack.f (K:Nat) (a0:List Int) (a1:Int):Option ((List Int)):=
 if a1<1 then (some ([]:List Int)) else (if a1>24 then (some ([]:List Int)) else (if 0≤(iquo .i64 (iadd .i64 (imul .i64 (a0.length:Int) a1) 7) 8) then (if (iquo .i64 (iadd .i64 (imul .i64 (a0.length:Int) a1) 7) 8)≤140737488355328 then ((ref01_Pack.l0 K K a0 a1 0 (List.replicate ((iquo .i64 (iadd .i64 (imul .i64 (a0.length:Int) a1) 7) 8):Int).toNat (Cod.zero (CI .u8)))).bind fun y4=>some y4) else none) else none))
def ref25_Pack.l0 (K:Nat):Nat→(Arr 256)→Int→(List Int)→Option ((List Int))
 | 0,_,_,_=>none
 | k+1,a0,z4,z5=>if z4<256 then (if 0≤z4 then (if z4<256 then (if z5.length+([(iconv .u32 (rd a0 z4))]:List Int).length≤35184372088832 then ((some (iadd .i64 z4 1)).bind fun x9=>ref25_Pack.l0 K k a0 x9 (z5++([(iconv .u32 (rd a0 z4))]:List Int))) else none) else none) else none) else (some z5)
def ref25_Pack.f (K:Nat) (a0:Arr 256) (a1:Int):Option ((List Int)):=
 if a1<1 then (some ([]:List Int)) else (if a1>12 then (some ([]:List Int)) else ((ref25_bound.f K a1).bind fun r2=>(ref25_Below.f K a0 r2).bind fun r3=>if r3=true then ((ref25_Pack.l0 K K a0 0 ([]:List Int)).bind fun y6=>(ref01_Pack.f K y6 a1).bind fun r10=>some r10) else (some ([]:List Int))))
def ref01_such.f (K:Nat) (a0:List Int) (a1:Int) (a2:Int):Option (Bool):=
 if a1≥1 then (if a1≤24 then (if a2≥0 then (if ¬ a1=0 then (some (decide (a2≤(iquo .i64 (imul .i64 (a0.length:Int) 8) a1)))) else none) else (some false)) else (some false)) else (some false)
def ref01_Unpack.l1 (K:Nat):Nat→(List Int)→Int→Int→Int→Int→Option (Int)
 | 0,_,_,_,_,_=>none
 | k+1,a0,a1,z2,z6,z7=>if z7≥0 then ((some (iadd .i64 (imul .i64 z2 a1) z7)).bind fun x9=>(some (iquo .i64 x9 8)).bind fun x10=>if 0≤x10 then (if x10<a0.length then (if 0≤(irem .i64 x9 8) then ((some (iadd .u32 (imul .u32 z6 2) (iconv .u32 (iand .u8 (ishr .u8 (rdL (CI .u8) a0 x10) (irem .i64 x9 8)) 1)))).bind fun x11=>(some (isub .i64 z7 1)).bind fun x12=>ref01_Unpack.l1 K k a0 a1 z2 x11 x12) else none) else none) else none) else (some z6)
def ref01_Unpack.l0 (K:Nat):Nat→(List Int)→Int→Int→Int→(List Int)→Option ((List Int))
 | 0,_,_,_,_,_=>none
 | k+1,a0,a1,a2,z2,z3=>if z2<a2 then ((some (isub .i64 a1 1)).bind fun x5=>(ref01_Unpack.l1 K K a0 a1 z2 0 x5).bind fun y8=>if z3.length+([y8]:List Int).length≤35184372088832 then ((some (iadd .i64 z2 1)).bind fun x15=>ref01_Unpack.l0 K k a0 a1 a2 x15 (z3++([y8]:List Int))) else none) else (some z3)
def ref01_Unpack.f (K:Nat) (a0:List Int) (a1:Int) (a2:Int):Option ((List Int)):=
 (ref01_such.f K a0 a1 a2).bind fun r1=>if r1=true then ((ref01_Unpack.l0 K K a0 a1 a2 0 ([]:List Int)).bind fun y4=>some y4) else (some ([]:List Int))
def ref26_drawn.l0 (K:Nat):Nat→(List Int)→Int→Int→(Arr 256)→Option (Int × (Arr 256))
 | 0,_,_,_,_=>none
 | k+1,r4,z6,z7,z8=>if z7<(r4.length:Int) then (if z6<256 then (((if 0≤z7 then (if z7<r4.length then (if (rdL (CI .u32) r4 z7)<3329 then (if 0≤z7 then (if z7<r4.length then (if 0≤z6 then (if z6<256 then ((some (iconv .i32 (rdL (CI .u32) r4 z7))).bind fun x13=>(some (iadd .i64 z6 1)).bind fun x14=>some (x14,(wr z8 z6 x13))) else none) else none) else none) else none) else (some (z6,z8))) else none) else none:Option (Int × (Arr 256)))).bind fun (y11,y12)=>(some (iadd .i64 z7 1)).bind fun x15=>ref26_drawn.l0 K k r4 y11 x15 y12) else (some (z6,z8))) else (some (z6,z8))
def ref26_drawn.f (K:Nat) (a0:List Int) (a1:Int):Option ((Arr 256) × Int):=
 (ref08_Sum.f K 6 a0 a1).bind fun (r2,r3)=>(ref01_Unpack.f K r2 12 (iquo .i64 (imul .i64 a1 2) 3)).bind fun r4=>(ref26_drawn.l0 K K r4 0 0 (zeroA 256)).bind fun (y9,y10)=>some (y10,y9)
def ref26_Parts.f (K:Nat) (a0:List Int) (a1:Int) (a2:Int):Option ((Arr 256) × Int):=
 (ref01_Join.f K ([a0,([a2,a1]:List Int)]:List (List Int))).bind fun r4=>(ref26_drawn.f K r4 672).bind fun (r5,r6)=>((if r6<256 then ((ref26_drawn.f K r4 12288).bind fun (r10,r11)=>some (r11,r10)) else (some (r6,r5)):Option (Int × (Arr 256)))).bind fun (y8,y9)=>if y8<256 then (some ((zeroA 256),12)) else (some (y9,0))
def ref25_Ntt.l1 (K:Nat):Nat→(Arr 256)→(Arr 256)→Int→Int→Int→Int→Option (Int × Int)
 | 0,_,_,_,_,_,_=>none
 | k+1,a0,r3,x10,z11,z12,z13=>if z13<128 then ((some (irem .i64 (imul .i64 x10 z13) 256)).bind fun x16=>if 0≤x16 then (if x16<256 then ((some (rd r3 x16)).bind fun x17=>(some (imul .i64 2 z13)).bind fun x18=>if 0≤x18 then (if x18<256 then ((some (irem .i32 (iadd .i32 z11 (imul .i32 (rd a0 x18) x17)) 3329)).bind fun x19=>(some (iadd .i64 (imul .i64 2 z13) 1)).bind fun x20=>if 0≤x20 then (if x20<256 then ((some (irem .i32 (iadd .i32 z12 (imul .i32 (rd a0 x20) x17)) 3329)).bind fun x21=>(some (iadd .i64 z13 1)).bind fun x22=>ref25_Ntt.l1 K k a0 r3 x10 x19 x21 x22) else none) else none) else none) else none) else none) else none) else (some (z11,z12))
def ref25_Ntt.l0 (K:Nat):Nat→(Arr 256)→(Arr 256)→Int→(Arr 256)→Option ((Arr 256))
 | 0,_,_,_,_=>none
 | k+1,a0,r3,z6,z7=>if z6<128 then ((ref25_turned.f K z6).bind fun r9=>(some (iadd .i64 (imul .i64 2 r9) 1)).bind fun x10=>(ref25_Ntt.l1 K K a0 r3 x10 0 0 0).bind fun (y14,y15)=>(some (imul .i64 2 z6)).bind fun x23=>if 0≤x23 then (if x23<256 then ((some (iadd .i64 (imul .i64 2 z6) 1)).bind fun x24=>if 0≤x24 then (if x24<256 then ((some (iadd .i64 z6 1)).bind fun x25=>ref25_Ntt.l0 K k a0 r3 x25 (wr (wr z7 x23 y14) x24 y15)) else none) else none) else none) else none) else (some z7)
def ref25_Ntt.f (K:Nat) (a0:Arr 256):Option ((Arr 256)):=
 (ref25_powers.f K).bind fun r3=>(ref25_Ntt.l0 K K a0 r3 0 (zeroA 256)).bind fun y8=>some y8
def ref26_ntt.l0 (K:Nat):Nat→(List (Arr 256))→Int→(List (Arr 256))→Option ((List (Arr 256)))
 | 0,_,_,_=>none
 | k+1,a0,z1,z2=>if z1<(a0.length:Int) then (if 0≤z1 then (if z1<a0.length then ((ref25_Ntt.f K (rdL (CA .i32 256 (by decide)) a0 z1)).bind fun r4=>if z2.length+([r4]:List (Arr 256)).length≤137438953472 then ((some (iadd .i64 z1 1)).bind fun x7=>ref26_ntt.l0 K k a0 x7 (z2++([r4]:List (Arr 256)))) else none) else none) else none) else (some z2)
def ref26_ntt.f (K:Nat) (a0:List (Arr 256)):Option ((List (Arr 256))):=
 (ref26_ntt.l0 K K a0 0 ([]:List (Arr 256))).bind fun y3=>some y3
def ref26_bit.f (K:Nat) (a0:List Int) (a1:Int):Option (Int):=
 (some (iquo .i64 a1 8)).bind fun x1=>if 0≤x1 then (if x1<a0.length then (if 0≤(irem .i64 a1 8) then ((some (iconv .i32 (iand .u8 (ishr .u8 (rdL (CI .u8) a0 x1) (irem .i64 a1 8)) 1))).bind fun x2=>some x2) else none) else none) else none
def ref26_Noise.l1 (K:Nat):Nat→Int→(List Int)→Int→Int→Int→Option (Int)
 | 0,_,_,_,_,_=>none
 | k+1,a0,r7,z9,z12,z13=>if z13<a0 then ((ref26_bit.f K r7 (iadd .i64 (imul .i64 (imul .i64 2 z9) a0) z13)).bind fun r15=>(ref26_bit.f K r7 (iadd .i64 (iadd .i64 (imul .i64 (imul .i64 2 z9) a0) a0) z13)).bind fun r16=>(some (isub .i32 (iadd .i32 z12 r15) r16)).bind fun x17=>(some (iadd .i64 z13 1)).bind fun x18=>ref26_Noise.l1 K k a0 r7 z9 x17 x18) else (some z12)
def ref26_Noise.l0 (K:Nat):Nat→Int→(List Int)→Int→(Arr 256)→Option ((Arr 256))
 | 0,_,_,_,_=>none
 | k+1,a0,r7,z9,z10=>if z9<256 then ((ref26_Noise.l1 K K a0 r7 z9 0 0).bind fun y14=>if 0≤z9 then (if z9<256 then ((some (irem .i32 (iadd .i32 y14 3329) 3329)).bind fun x19=>(some (iadd .i64 z9 1)).bind fun x20=>ref26_Noise.l0 K k a0 r7 x20 (wr z10 z9 x19)) else none) else none) else (some z10)
def ref26_Noise.f (K:Nat) (a0:Int) (a1:List Int) (a2:Int):Option ((Arr 256)):=
 ((if a0=2 then (some (.inl (zeroA 256))) else (if a0=3 then (some (.inl (zeroA 256))) else (some (.inr (zeroA 256)))):Option (((Arr 256)) ⊕ ((Arr 256))))).bind fun tv6=>(match tv6 with | .inl y3=>(ref01_Join.f K ([a1,([a2]:List Int)]:List (List Int))).bind fun r6=>(ref08_Sum.f K 7 r6 (imul .i64 64 a0)).bind fun (r7,r8)=>(ref26_Noise.l0 K K a0 r7 0 (zeroA 256)).bind fun y11=>some y11 | .inr r=>some r)
def ref26_row.l0 (K:Nat):Nat→Int→Int→(List Int)→Int→Int→(List (Arr 256))→Option ((List (Arr 256)))
 | 0,_,_,_,_,_,_=>none
 | k+1,a0,a1,a2,a3,z1,z2=>if z1<a0 then ((ref26_Noise.f K a1 a2 (iconv .u8 (iadd .i64 a3 z1))).bind fun r4=>if z2.length+([r4]:List (Arr 256)).length≤137438953472 then ((some (iadd .i64 z1 1)).bind fun x7=>ref26_row.l0 K k a0 a1 a2 a3 x7 (z2++([r4]:List (Arr 256)))) else none) else (some z2)
def ref26_row.f (K:Nat) (a0:Int) (a1:Int) (a2:List Int) (a3:Int):Option ((List (Arr 256))):=
 (ref26_row.l0 K K a0 a1 a2 a3 0 ([]:List (Arr 256))).bind fun y3=>some y3
def ref26_matrix_s.l1 (K:Nat):Nat→Int→(List Int)→Int→Int→(List (Arr 256))→Option (((List (Arr 256))) ⊕ ((List (List (Arr 256))) × Int))
 | 0,_,_,_,_,_=>none
 | k+1,ca0,ca5,z4,z7,z8=>if z7<ca0 then ((ref26_Parts.f K ca5 (iconv .u8 z4) (iconv .u8 z7)).bind fun (r10,r11)=>if r11=0 then (if z8.length+([r10]:List (Arr 256)).length≤137438953472 then ((some (iadd .i64 z7 1)).bind fun x15=>ref26_matrix_s.l1 K k ca0 ca5 z4 x15 (z8++([r10]:List (Arr 256)))) else none) else (some (.inr (([]:List (List (Arr 256))),r11)))) else (some (.inl z8))
def ref26_matrix_s.l0 (K:Nat):Nat→Int→(List Int)→Int→(List (List (Arr 256)))→Option (((List (List (Arr 256)))) ⊕ ((List (List (Arr 256))) × Int))
 | 0,_,_,_,_=>none
 | k+1,ca0,ca5,z4,z5=>if z4<ca0 then ((ref26_matrix_s.l1 K K ca0 ca5 z4 0 ([]:List (Arr 256))).bind fun t1=>(match t1 with | .inl y9=>if z5.length+1≤5864062014805 then ((some (iadd .i64 z4 1)).bind fun x18=>ref26_matrix_s.l0 K k ca0 ca5 x18 (z5++[y9])) else none | .inr r=>some (.inr r))) else (some (.inl z5))
def ref26_matrix_s.f (K:Nat) (ca0:Int) (ca1:Int) (ca2:Int) (ca3:Int) (ca4:Int) (ca5:List Int):Option ((List (List (Arr 256))) × Int):=
 (ref26_matrix_s.l0 K K ca0 ca5 0 ([]:List (List (Arr 256)))).bind fun t0=>(match t0 with | .inl y6=>some (y6,0) | .inr r=>some r)
def ref25_Unpack.l0 (K:Nat):Nat→(List Int)→Int→(Arr 256)→Option ((Arr 256))
 | 0,_,_,_=>none
 | k+1,r2,z4,z5=>if z4<256 then (if 0≤z4 then (if z4<r2.length then (if 0≤z4 then (if z4<256 then ((some (iconv .i32 (rdL (CI .u32) r2 z4))).bind fun x7=>(some (iadd .i64 z4 1)).bind fun x8=>ref25_Unpack.l0 K k r2 x8 (wr z5 z4 x7)) else none) else none) else none) else none) else (some z5)
def ref25_Unpack.f (K:Nat) (a0:List Int) (a1:Int):Option ((Arr 256) × Bool):=
 if a1<1 then (some ((zeroA 256),false)) else (if a1>12 then (some ((zeroA 256),false)) else (if (a0.length:Int)=(imul .i64 32 a1) then ((ref01_Unpack.f K a0 a1 256).bind fun r2=>(ref25_Unpack.l0 K K r2 0 (zeroA 256)).bind fun y6=>(ref25_bound.f K a1).bind fun r9=>(ref25_Below.f K y6 r9).bind fun r10=>if r10=true then (some (y6,true)) else (some ((zeroA 256),false))) else (some ((zeroA 256),false))))
def ref26_read.l0 (K:Nat):Nat→(List Int)→Int→Int→Int→(List (Arr 256))→Option (((List (Arr 256))) ⊕ ((List (Arr 256)) × Bool))
 | 0,_,_,_,_,_=>none
 | k+1,a0,a1,a2,z1,z2=>if z1<a1 then (if 0≤(imul .i64 (imul .i64 32 a2) z1) then (if (imul .i64 (imul .i64 32 a2) z1)≤(imul .i64 (imul .i64 32 a2) (iadd .i64 z1 1)) then (if (imul .i64 (imul .i64 32 a2) (iadd .i64 z1 1))≤a0.length then ((ref25_Unpack.f K (subL a0 (imul .i64 (imul .i64 32 a2) z1) (imul .i64 (imul .i64 32 a2) (iadd .i64 z1 1))) a2).bind fun (r5,r6)=>if r6=true then (if z2.length+([r5]:List (Arr 256)).length≤137438953472 then ((some (iadd .i64 z1 1)).bind fun x10=>ref26_read.l0 K k a0 a1 a2 x10 (z2++([r5]:List (Arr 256)))) else none) else (some (.inr (([]:List (Arr 256)),false)))) else none) else none) else none) else (some (.inl z2))
def ref26_read.f (K:Nat) (a0:List Int) (a1:Int) (a2:Int):Option ((List (Arr 256)) × Bool):=
 (ref26_read.l0 K K a0 a1 a2 0 ([]:List (Arr 256))).bind fun t0=>(match t0 with | .inl y3=>some (y3,true) | .inr r=>some r)
def ref25_Widen.l0 (K:Nat):Nat→Int→Int→(Arr 256)→Option ((Arr 256))
 | 0,_,_,_=>none
 | k+1,a1,z4,z5=>if z4<256 then (if 0≤z4 then (if z4<256 then (if 0≤a1 then (if 0≤a1 then (if ¬ (ishl .i32 2 a1)=0 then (if 0≤z4 then (if z4<256 then ((some (iquo .i32 (iadd .i32 (imul .i32 (imul .i32 2 (rd z5 z4)) 3329) (ishl .i32 1 a1)) (ishl .i32 2 a1))).bind fun x7=>(some (iadd .i64 z4 1)).bind fun x8=>ref25_Widen.l0 K k a1 x8 (wr z5 z4 x7)) else none) else none) else none) else none) else none) else none) else none) else (some z5)
def ref25_Widen.f (K:Nat) (a0:Arr 256) (a1:Int):Option ((Arr 256)):=
 if a1<1 then (some (zeroA 256)) else (if a1>11 then (some (zeroA 256)) else (if 0≤a1 then ((ref25_Below.f K a0 (ishl .i32 1 a1)).bind fun r3=>if r3=true then ((ref25_Widen.l0 K K a1 0 a0).bind fun y6=>some y6) else (some (zeroA 256))) else none))
def ref25_Back.l1 (K:Nat):Nat→(Arr 256)→(Arr 256)→Int→Int→Int→Int→Option (Int × Int)
 | 0,_,_,_,_,_,_=>none
 | k+1,a0,r3,z6,z9,z10,z11=>if z11<128 then ((ref25_turned.f K z11).bind fun r14=>(some (irem .i64 (isub .i64 256 (irem .i64 (imul .i64 (iadd .i64 (imul .i64 2 r14) 1) z6) 256)) 256)).bind fun x15=>if 0≤x15 then (if x15<256 then ((some (rd r3 x15)).bind fun x16=>(some (imul .i64 2 z11)).bind fun x17=>if 0≤x17 then (if x17<256 then ((some (irem .i32 (iadd .i32 z9 (imul .i32 (rd a0 x17) x16)) 3329)).bind fun x18=>(some (iadd .i64 (imul .i64 2 z11) 1)).bind fun x19=>if 0≤x19 then (if x19<256 then ((some (irem .i32 (iadd .i32 z10 (imul .i32 (rd a0 x19) x16)) 3329)).bind fun x20=>(some (iadd .i64 z11 1)).bind fun x21=>ref25_Back.l1 K k a0 r3 z6 x18 x20 x21) else none) else none) else none) else none) else none) else none) else (some (z9,z10))
def ref25_Back.l0 (K:Nat):Nat→(Arr 256)→(Arr 256)→Int→(Arr 256)→Option ((Arr 256))
 | 0,_,_,_,_=>none
 | k+1,a0,r3,z6,z7=>if z6<128 then ((ref25_Back.l1 K K a0 r3 z6 0 0 0).bind fun (y12,y13)=>(some (imul .i64 2 z6)).bind fun x22=>if 0≤x22 then (if x22<256 then ((some (irem .i32 (imul .i32 y12 3303) 3329)).bind fun x23=>(some (iadd .i64 (imul .i64 2 z6) 1)).bind fun x24=>if 0≤x24 then (if x24<256 then ((some (irem .i32 (imul .i32 y13 3303) 3329)).bind fun x25=>(some (iadd .i64 z6 1)).bind fun x26=>ref25_Back.l0 K k a0 r3 x26 (wr (wr z7 x22 x23) x24 x25)) else none) else none) else none) else none) else (some z7)
def ref25_Back.f (K:Nat) (a0:Arr 256):Option ((Arr 256)):=
 (ref25_powers.f K).bind fun r3=>(ref25_Back.l0 K K a0 r3 0 (zeroA 256)).bind fun y8=>some y8
def ref25_Squeeze.l0 (K:Nat):Nat→Int→Int→(Arr 256)→Option ((Arr 256))
 | 0,_,_,_=>none
 | k+1,a1,z3,z4=>if z3<256 then (if 0≤z3 then (if z3<256 then (if 0≤a1 then (if 0≤a1 then (if ¬ (ishl .i32 1 a1)=0 then (if 0≤z3 then (if z3<256 then ((some (irem .i32 (iquo .i32 (iadd .i32 (ishl .i32 (imul .i32 2 (rd z4 z3)) a1) 3329) 6658) (ishl .i32 1 a1))).bind fun x6=>(some (iadd .i64 z3 1)).bind fun x7=>ref25_Squeeze.l0 K k a1 x7 (wr z4 z3 x6)) else none) else none) else none) else none) else none) else none) else none) else (some z4)
def ref25_Squeeze.f (K:Nat) (a0:Arr 256) (a1:Int):Option ((Arr 256)):=
 if a1<1 then (some (zeroA 256)) else (if a1>11 then (some (zeroA 256)) else ((ref25_Squeeze.l0 K K a1 0 a0).bind fun y5=>some y5))
def ref26_Encrypt.l1 (K:Nat):Nat→Int→(List (List (Arr 256)))→Int→Int→(List (Arr 256))→Option ((List (Arr 256)))
 | 0,_,_,_,_,_=>none
 | k+1,a0_0,r8,z17,z20,z21=>if z20<a0_0 then (if 0≤z20 then (if z20<r8.length then (if 0≤z17 then (if z17<(rdLL r8 z20).length then (if z21.length+([(rdL (CA .i32 256 (by decide)) (rdLL r8 z20) z17)]:List (Arr 256)).length≤137438953472 then ((some (iadd .i64 z20 1)).bind fun x26=>ref26_Encrypt.l1 K k a0_0 r8 z17 x26 (z21++([(rdL (CA .i32 256 (by decide)) (rdLL r8 z20) z17)]:List (Arr 256)))) else none) else none) else none) else none) else none) else (some z21)
def ref26_Encrypt.l0 (K:Nat):Nat→Int→Int→(List (List (Arr 256)))→(List (Arr 256))→(List (Arr 256))→Int→(List Int)→Option ((List Int))
 | 0,_,_,_,_,_,_,_=>none
 | k+1,a0_0,a0_3,r8,r15,r16,z17,z18=>if z17<a0_0 then ((ref26_Encrypt.l1 K K a0_0 r8 z17 0 ([]:List (Arr 256))).bind fun y22=>((if 0≤z17 then (if z17<r16.length then ((ref26_dot.f K y22 r15).bind fun r29=>(ref25_Back.f K r29).bind fun r30=>(ref25_Add.f K r30 (rdL (CA .i32 256 (by decide)) r16 z17)).bind fun r31=>some r31) else none) else none:Option ((Arr 256)))).bind fun y28=>(ref25_Squeeze.f K y28 a0_3).bind fun r42=>(ref25_Pack.f K r42 a0_3).bind fun r43=>if z18.length+r43.length≤140737488355328 then ((some (iadd .i64 z17 1)).bind fun x45=>ref26_Encrypt.l0 K k a0_0 a0_3 r8 r15 r16 x45 (z18++r43)) else none) else (some z18)
def ref26_Encrypt.l2 (K:Nat):Nat→(List Int)→Int→(Arr 256)→Option ((Arr 256))
 | 0,_,_,_=>none
 | k+1,a2,z47,z48=>if z47<256 then ((ref26_bit.f K a2 z47).bind fun r50=>if 0≤z47 then (if z47<256 then ((some (iadd .i64 z47 1)).bind fun x51=>ref26_Encrypt.l2 K k a2 x51 (wr z48 z47 r50)) else none) else none) else (some z48)
def ref26_Encrypt.f (K:Nat) (a0_0:Int) (a0_1:Int) (a0_2:Int) (a0_3:Int) (a0_4:Int) (a1:List Int) (a2:List Int) (a3:List Int):Option ((List Int) × Int):=
 (ref26_Sizes.f K a0_0 a0_1 a0_2 a0_3 a0_4).bind fun (r2,r3,r4)=>if r2=0 then (some (([]:List Int),9)) else (if (a1.length:Int)=r2 then ((ref26_read.f K a1 a0_0 12).bind fun (r5,r6)=>if r6=true then (if (a2.length:Int)=32 then (if (a3.length:Int)=32 then (if 0≤(isub .i64 r2 32) then (if (isub .i64 r2 32)≤(a1.length:Int) then (if (a1.length:Int)≤a1.length then ((ref26_matrix_s.f K a0_0 a0_1 a0_2 a0_3 a0_4 (subL a1 (isub .i64 r2 32) (a1.length:Int))).bind fun (r8,r9)=>if r9=0 then ((ref26_row.f K a0_0 a0_1 a3 0).bind fun r14=>(ref26_ntt.f K r14).bind fun r15=>(ref26_row.f K a0_0 a0_2 a3 a0_0).bind fun r16=>(ref26_Encrypt.l0 K K a0_0 a0_3 r8 r15 r16 0 ([]:List Int)).bind fun y19=>(ref26_Encrypt.l2 K K a2 0 (zeroA 256)).bind fun y49=>(((ref26_dot.f K r5 r15).bind fun r54=>(ref25_Back.f K r54).bind fun r55=>(ref26_Noise.f K a0_2 a3 (iconv .u8 (imul .i64 2 a0_0))).bind fun r56=>(ref25_Add.f K r55 r56).bind fun r57=>some r57:Option ((Arr 256)))).bind fun y53=>(ref25_Widen.f K y49 1).bind fun r73=>(ref25_Add.f K y53 r73).bind fun r74=>(ref25_Squeeze.f K r74 a0_4).bind fun r75=>(ref25_Pack.f K r75 a0_4).bind fun r76=>if y19.length+r76.length≤140737488355328 then (some ((y19++r76),0)) else none) else (some (([]:List Int),r9))) else none) else none) else none) else (some (([]:List Int),14))) else (some (([]:List Int),14))) else (some (([]:List Int),10))) else (some (([]:List Int),10)))
def ref27_such.f (K:Nat) (a0_0:Int) (a0_1:Int) (a0_2:Int) (a0_3:Int) (a0_4:Int) (a1:List Int):Option (Bool):=
 (ref26_Encrypt.f K a0_0 a0_1 a0_2 a0_3 a0_4 a1 ([]:List Int) ([]:List Int)).bind fun (r2,r3)=>some (r3 == 14)
def ref27_g.f (K:Nat) (a0:List Int) (a1:List Int):Option ((List Int)):=
 (ref01_Join.f K ([a0,a1]:List (List Int))).bind fun r2=>(ref08_Sum.f K 5 r2 64).bind fun (r3,r4)=>some r3
end Go.Proofs.YtemdbgmldljbpaaGreatDoor
