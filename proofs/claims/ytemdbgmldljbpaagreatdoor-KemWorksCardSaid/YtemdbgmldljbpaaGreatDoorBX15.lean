/- own -/
import Derived.Test.YtemdbgmldljbpaaGreatDoorMh
import Derived.Test.YtemdbgmldljbpaaGreatDoorProg
import Derived.Test.YtemdbgmldljbpaaGreatDoorBF0
import Derived.Test.YtemdbgmldljbpaaGreatDoorBX1
import Derived.Test.YtemdbgmldljbpaaGreatDoorBX10
import Derived.Test.YtemdbgmldljbpaaGreatDoorBX13
import Derived.Test.YtemdbgmldljbpaaGreatDoorBX16
import Derived.Test.YtemdbgmldljbpaaGreatDoorBFKemWorks
import Derived.Test.YtemdbgmldljbpaaGreatDoorBX3
import Derived.Test.YtemdbgmldljbpaaGreatDoorBX5
import Derived.Test.YtemdbgmldljbpaaGreatDoorBX7
set_option linter.unusedVariables false
set_option linter.unusedSimpArgs false
set_option maxRecDepth 100000
set_option maxHeartbeats 4000000
namespace Go.Proofs.YtemdbgmldljbpaaGreatDoor
open Go.Mx
attribute [local irreducible] wpOp
theorem ref26_Encrypt.ok {K:Nat}{a0_0 a0_1 a0_2 a0_3 a0_4:Int}{a1 a2 a3 r0:List Int}{r1:Int}{a1_A:Option Addr}{a1_n a1_c:Nat}{a2_A:Option Addr}{a2_n a2_c:Nat}{a3_A:Option Addr}{a3_n a3_c:Nat}(h:ref26_Encrypt.f K a0_0 a0_1 a0_2 a0_3 a0_4 a1 a2 a3=some (r0,r1)) (w0:World) (hp1:RowL CB w0 a1_A a1_n a1_c a1) (hp2:RowL CB w0 a2_A a2_n a2_c a2) (hp3:RowL CB w0 a3_A a3_n a3_c a3):Calls Tryz.prog 25 #[.agg #[I8 a0_0,I8 a0_1,I8 a0_2,I8 a0_3,I8 a0_4],.slice a1_A a1_n a1_c,.slice a2_A a2_n a2_c,.slice a3_A a3_n a3_c] w0 fun e w'=>∃ h:(Option Addr × Nat × Nat),e = .returned (.tuple #[.slice h.1 h.2.1 h.2.2,I8 r1])∧St w0 [] [.ownL CB h.1 h.2.1 h.2.2 r0 5] [] w':=by
 refine calls_k Tryz.func25 rfl fun Q qq=>?_
 have hs:=St.startR (all_cons (RowP.ent hp1) (all_cons (RowP.ent hp2) (all_cons (RowP.ent hp3) all_nil)))
 refine wc (a':=(fu 154 [.agg #[I8 a0_0,I8 a0_1,I8 a0_2,I8 a0_3,I8 a0_4],.slice a1_A a1_n a1_c,.slice a2_A a2_n a2_c,.slice a3_A a3_n a3_c])) (xs fun _ s1=>(xn 3 fun _ j2=>(so 0 (oBa 4 23 hs [I8 a0_0,I8 a0_1,I8 a0_2,I8 a0_3,I8 a0_4] fun b1 w gw hs=>(nq 1 [(8,.slice none 0 0),(9,I8 0)] ?_)))))
 refine fj j2 s1 (xs fun _ s3=>(xn 9 fun _ j4=>(tkt 0 28 _ (yWs 5 23 hs 0 .grow) ?_)))
 obtain ⟨⟨r2,r3,r4⟩,hg,h⟩:=ob h
 refine so 1 (oC 29 hs (ref26_Sizes.ok hg _) fun w gw hs=>?_)
 refine nq 2 [(27,.tuple #[I8 r2,I8 r3,I8 r4]),(30,I8 r2),(31,I8 r3),(32,I8 r4),(10,I8 r2),(11,I8 r3),(12,I8 r4)] (fj j4 s3 (xs fun _ s5=>(xs fun _ s6=>(xn 2 fun _ j7=>(qo 0 33 (I8 r2) ?_)))))
 obtain ⟨hc,h⟩|⟨hc,h⟩:=of_if h
 refine tb 1 34 (et hc) ?_
 refine fj j7 s6 (ct (xs fun _ s8=>(xn 2 fun _ j9=>(nq 0 [(8,.slice none 0 0),(9,I8 9)] (fj j9 s8 (xret (tr ?_)))))))
 obtain ⟨rfl,rfl⟩:=os2 h
 have hs:=hs.addNilL CB 5
 exact qq _ _ (pt [8,9] [.slice none 0 0,I8 9] ⟨⟨none,0,0⟩,cr,(pz (dr [1,0] hs))⟩)
 refine tb 1 34 (ef hc) (fj j7 s6 (cf (xk (T s5 (xs fun _ s10=>(xs fun _ s11=>(xn 4 fun _ j12=>(qo 0 35 (.slice a1_A a1_n a1_c) (tkf 1 36 (I8 (a1.length:Int)) (yl (rR 0 hs)) (qo 2 37 (I8 r2) ?_))))))))))
 obtain ⟨hc,h⟩|⟨hc,h⟩:=of_if h
 refine tb 3 38 (nf hc) ?_
 refine fj j12 s11 (cf (xk (T s10 (xs fun _ s13=>(xn 9 fun _ j14=>(nq 0 [(40,.slice a1_A a1_n a1_c),(41,P0 b1)] (tkt 2 42 _ (yv hs 0 0 3 rfl (by rfl) .grow) ?_)))))))
 obtain ⟨⟨r5,r6⟩,hg,h⟩:=ob h
 refine wpS.only 3 (oH 43 hs (ref26_read.ok hg _ (rR 0 hs)) ?_)
 rintro ⟨r5_A,r5_n,r5_c⟩ w gw hs
 have hs:=hs.conv (L':=[.ownL CZ r5_A r5_n r5_c r5 70,.blk b1 ([I8 a0_0,I8 a0_1,I8 a0_2,I8 a0_3,I8 a0_4]) 23]) rfl
 refine ⟨fun _=>trivial,?_⟩
 refine nq 4 [(39,.tuple #[.slice r5_A r5_n r5_c,.bool r6]),(44,.slice r5_A r5_n r5_c)] ?_
 cases r6 with
 | true=>
  have h:=of_if_t h
  refine nq 6 [(45,.bool true),(13,.slice r5_A r5_n r5_c),(14,.bool true)] (fj j14 s13 (xs fun _ s15=>(xs fun _ s16=>(xn 2 fun _ j17=>(nq 0 [(46,.bool true),(47,.bool false)] (fj j17 s16 (cf (xk (T s15 (xs fun _ s18=>(xs fun _ s19=>(xn 8 fun _ j20=>(qo 0 48 (.slice a2_A a2_n a2_c) ?_)))))))))))))
  refine tkf 1 49 (I8 (a2.length:Int)) (yl (rR 1 hs)) ?_
  obtain ⟨hc,h⟩|⟨hc,h⟩:=of_if h
  refine tb 2 50 (nf hc) ?_
  refine nq 3 [(51,.bool false),(52,.slice a3_A a3_n a3_c)] (tkf 5 53 (I8 (a3.length:Int)) (yl (rR 2 hs)) ?_)
  obtain ⟨hc,h⟩|⟨hc,h⟩:=of_if h
  refine tb 6 54 (nf hc) ?_
  refine qo 7 55 (.bool false) (fj j20 s19 (cf (xk (T s18 (xs fun _ s21=>?_)))))
  refine rg [5] (fun k=>True) 11 fun _ j22=>?_
  have hs:=hs.drawn1
  refine tgt 0 57 _ (yWs 5 23 hs 1 .grow) (gq 1 58 (.slice a1_A a1_n a1_c) (gq 2 59 (I8 r2) (gq 3 60 (I8 (isub .i64 r2 32)) ?_)))
  obtain ⟨h0,h1,h⟩:=oc2 h
  obtain ⟨h2,h⟩:=oc h
  obtain ⟨s7_A,hA⟩ : ∃ A,A=if a1_c=((isub .i64 r2 32):Int).toNat then a1_A else adr a1_A (((isub .i64 r2 32):Int).toNat*Cod.size CB):=⟨_,rfl⟩
  obtain ⟨s7_n,hn⟩ : ∃ n,n=((a1.length:Int):Int).toNat-((isub .i64 r2 32):Int).toNat:=⟨_,rfl⟩
  obtain ⟨s7_c,hc⟩ : ∃ c,c=a1_c-((isub .i64 r2 32):Int).toNat:=⟨_,rfl⟩
  refine tgf 4 61 (.slice s7_A s7_n s7_c) (ysb (C:=CB) 24 5 (some (I8 (isub .i64 r2 32))) none (isub .i64 r2 32) (a1.length:Int) (rR 0 hs) (.inr ⟨_,rfl⟩) (.inl ⟨rfl,rfl⟩) h0 h1 h2 hA hn hc) ?_
  have hs:=hs.addSub (C:=CB) 0 rfl h0 h1 h2 hA hn hc
  obtain ⟨⟨r8,r9⟩,hg,h⟩:=ob h
  refine wpG.only 5 (by kernel_rfl) (wpOp_call (d:=(some 62)) (by kernel_rfl) (fun _=>by kernel_rfl) (ref26_matrix_s.ok hg hs) ?_)
  rintro e w ⟨y10_A,y10_n,y10_c,y10_H,rfl,hs⟩
  refine ⟨_,rfl,?_⟩
  refine ⟨⟨fun hf=>absurd hf (by decide),.all _ _⟩,?_⟩
  refine gq 6 56 (.tuple #[.slice y10_A y10_n y10_c,I8 r9]) (gq 7 63 (.slice y10_A y10_n y10_c) (gq 8 64 (I8 r9) (gq 9 15 (.slice y10_A y10_n y10_c) (gq 10 16 (I8 r9) ?_))))
  refine gf (j22 _ _ (T s21 (xs fun _ s23=>(xs fun _ s24=>(xn 2 fun _ j25=>(qo 0 65 (I8 r9) ?_))))))
  obtain ⟨hc,h⟩|⟨hc,h⟩:=of_if h
  refine tb 1 66 (nf hc) ?_
  refine fj j25 s24 (cf (xk (T s23 (xs fun _ s26=>(xn 8 fun _ j27=>(qo 0 68 (P0 b1) (tkt 1 69 _ (yv hs 2 0 3 rfl (by rfl) .grow) (qo 2 70 (.pointer (some ⟨b1,1,none⟩)) (tkt 3 71 _ (yv hs 2 1 3 rfl (by rfl) .grow) ?_)))))))))
  refine qo 4 72 (.slice a3_A a3_n a3_c) ?_
  obtain ⟨r14,hg,h⟩:=ob h
  refine wpS.only 5 (oH 73 hs (ref26_row.ok hg _ (rR 4 hs)) ?_)
  rintro ⟨r14_A,r14_n,r14_c⟩ w gw hs
  have hs:=hs.conv (L':=[.ownL CZ r14_A r14_n r14_c r14 70,.ownL CS y10_A y10_n y10_c y10_H 66,.ownL CZ r5_A r5_n r5_c r5 70,.blk b1 ([I8 a0_0,I8 a0_1,I8 a0_2,I8 a0_3,I8 a0_4]) 23]) rfl
  refine ⟨fun _=>trivial,?_⟩
  obtain ⟨r15,hg,h⟩:=ob h
  refine wpS.only 6 (oH 74 hs (ref26_ntt.ok hg _ (rL 0 hs)) ?_)
  rintro ⟨r15_A,r15_n,r15_c⟩ w gw hs
  have hs:=hs.conv (L':=[.ownL CZ r15_A r15_n r15_c r15 70,.ownL CZ r14_A r14_n r14_c r14 70,.ownL CS y10_A y10_n y10_c y10_H 66,.ownL CZ r5_A r5_n r5_c r5 70,.blk b1 ([I8 a0_0,I8 a0_1,I8 a0_2,I8 a0_3,I8 a0_4]) 23]) rfl
  refine ⟨fun _=>trivial,?_⟩
  refine qo 7 17 (.slice r15_A r15_n r15_c) (fj j27 s26 (xs fun _ s28=>(xn 9 fun _ j29=>(qo 0 75 (P0 b1) (tkt 1 76 _ (yv hs 4 0 3 rfl (by rfl) .grow) (qo 2 77 (.pointer (some ⟨b1,2,none⟩)) ?_))))))
  refine tkt 3 78 _ (yv hs 4 2 3 rfl (by rfl) .grow) (nq 4 [(79,.slice a3_A a3_n a3_c),(80,P0 b1)] (tkt 6 81 _ (yv hs 4 0 3 rfl (by rfl) .grow) ?_))
  obtain ⟨r16,hg,h⟩:=ob h
  refine wpS.only 7 (oH 82 hs (ref26_row.ok hg _ (rR 4 hs)) ?_)
  rintro ⟨r16_A,r16_n,r16_c⟩ w gw hs
  have hs:=hs.conv (L':=[.ownL CZ r16_A r16_n r16_c r16 70,.ownL CZ r15_A r15_n r15_c r15 70,.ownL CZ r14_A r14_n r14_c r14 70,.ownL CS y10_A y10_n y10_c y10_H 66,.ownL CZ r5_A r5_n r5_c r5 70,.blk b1 ([I8 a0_0,I8 a0_1,I8 a0_2,I8 a0_3,I8 a0_4]) 23]) rfl
  refine ⟨fun _=>trivial,?_⟩
  refine qo 8 18 (.slice r16_A r16_n r16_c) (fj j29 s28 (xs fun _ s30=>(xn 1 fun _ j31=>(qo 0 19 (.slice none 0 0) (fj j31 s30 (xs fun _ s32=>(xs fun _ s33=>(xn 1 fun _ j34=>(qo 0 20 (I8 0) ?_)))))))))
  refine fj j34 s33 (?_)
  have hs:=hs.addNilL CB 5
  obtain ⟨y19,hy,hk0⟩:=ob h
  refine wp_exq (N:=fun a w=>∃ y19_A y19_n y19_c,St w0 [] [.ownL CB y19_A y19_n y19_c y19 5,.ownL CZ r16_A r16_n r16_c r16 70,.ownL CZ r15_A r15_n r15_c r15 70,.ownL CZ r14_A r14_n r14_c r14 70,.ownL CS y10_A y10_n y10_c y10_H 66,.ownL CZ r5_A r5_n r5_c r5 70,.blk b1 ([I8 a0_0,I8 a0_1,I8 a0_2,I8 a0_3,I8 a0_4]) 23] [.inn CZ y10_H r8,.rowL CB s7_A s7_n s7_c (subL a1 (isub .i64 r2 32) (a1.length:Int)),.rowL CB a1_A a1_n a1_c a1,.rowL CB a2_A a2_n a2_c a2,.rowL CB a3_A a3_n a3_c a3] w∧∃ g36,a=fr g36 158 [(2,[.slice a2_A a2_n a2_c,.slice a3_A a3_n a3_c,P0 b1]),(8,[.slice none 0 0,I8 0]),(13,[.slice r5_A r5_n r5_c]),(17,[.slice r15_A r15_n r15_c]),(19,[.slice y19_A y19_n y19_c])]) (fun N0 nn0=>?_) ?_
  clear hk0
  refine xb ?_
  refine wp_loop_k (fun n a w=>∃ z17 z18,∃ z18_A z18_n z18_c,ref26_Encrypt.l0 K n a0_0 a0_3 r8 r15 r16 z17 z18=some y19∧St w0 [] [.ownL CB z18_A z18_n z18_c z18 5,.ownL CZ r16_A r16_n r16_c r16 70,.ownL CZ r15_A r15_n r15_c r15 70,.ownL CZ r14_A r14_n r14_c r14 70,.ownL CS y10_A y10_n y10_c y10_H 66,.ownL CZ r5_A r5_n r5_c r5 70,.blk b1 ([I8 a0_0,I8 a0_1,I8 a0_2,I8 a0_3,I8 a0_4]) 23] [.inn CZ y10_H r8,.rowL CB s7_A s7_n s7_c (subL a1 (isub .i64 r2 32) (a1.length:Int)),.rowL CB a1_A a1_n a1_c a1,.rowL CB a2_A a2_n a2_c a2,.rowL CB a3_A a3_n a3_c a3] w∧∃ g35,a=fr g35 158 [(2,[.slice a2_A a2_n a2_c,.slice a3_A a3_n a3_c,P0 b1]),(8,[.slice none 0 0,I8 0]),(13,[.slice r5_A r5_n r5_c]),(15,[.slice y10_A y10_n y10_c]),(17,[.slice r15_A r15_n r15_c,.slice r16_A r16_n r16_c,.slice z18_A z18_n z18_c,I8 z17])]) K ⟨0,([]:List Int),none,0,0,hy,hs.conv rfl,eg⟩ ?_
  clear hs h hy
  rintro n a w ⟨z17,z18,z18_A,z18_n,z18_c,h,hs,g35,rfl⟩ KL0 kl0
  cases n with
  | zero=>exact nomatch (show none=some _ from h)
  | succ n=>
   refine xs fun _ s37=>(xs fun _ s38=>(xn 4 fun _ j39=>(nq 0 [(83,I8 z17),(84,P0 b1)] (tkt 2 85 _ (yv hs 6 0 3 rfl (by rfl) .grow) ?_))))
   obtain ⟨hc,h⟩|⟨hc,h⟩:=of_if h
   refine tb 3 86 (dt hc) ?_
   refine fj j39 s38 (ct (xk (T s37 (xs fun _ s40=>(xb (xs fun _ s41=>(xn 1 fun _ j42=>(qo 0 21 (.slice none 0 0) (fj j42 s41 (xs fun _ s43=>(xs fun _ s44=>(xn 1 fun _ j45=>(qo 0 22 (I8 0) (fj j45 s44 (?_)))))))))))))))
   have hs:=hs.addNilL CZ 70
   obtain ⟨y22,hy,hk1⟩:=ob h
   refine wp_exq (N:=fun a w=>∃ y22_A y22_n y22_c,St w0 [] [.ownL CZ y22_A y22_n y22_c y22 70,.ownL CB z18_A z18_n z18_c z18 5,.ownL CZ r16_A r16_n r16_c r16 70,.ownL CZ r15_A r15_n r15_c r15 70,.ownL CZ r14_A r14_n r14_c r14 70,.ownL CS y10_A y10_n y10_c y10_H 66,.ownL CZ r5_A r5_n r5_c r5 70,.blk b1 ([I8 a0_0,I8 a0_1,I8 a0_2,I8 a0_3,I8 a0_4]) 23] [.inn CZ y10_H r8,.rowL CB s7_A s7_n s7_c (subL a1 (isub .i64 r2 32) (a1.length:Int)),.rowL CB a1_A a1_n a1_c a1,.rowL CB a2_A a2_n a2_c a2,.rowL CB a3_A a3_n a3_c a3] w∧∃ g47,a=fr g47 158 [(2,[.slice a2_A a2_n a2_c,.slice a3_A a3_n a3_c,P0 b1]),(8,[.slice none 0 0,I8 0]),(13,[.slice r5_A r5_n r5_c]),(15,[.slice y10_A y10_n y10_c]),(17,[.slice r15_A r15_n r15_c,.slice r16_A r16_n r16_c,.slice z18_A z18_n z18_c,I8 z17,.slice y22_A y22_n y22_c])]) (fun N1 nn1=>?_) ?_
   clear hk1
   refine xb ?_
   refine wp_loop_k (fun n a w=>∃ z20 z21,∃ z21_A z21_n z21_c,ref26_Encrypt.l1 K n a0_0 r8 z17 z20 z21=some y22∧St w0 [] [.ownL CZ z21_A z21_n z21_c z21 70,.ownL CB z18_A z18_n z18_c z18 5,.ownL CZ r16_A r16_n r16_c r16 70,.ownL CZ r15_A r15_n r15_c r15 70,.ownL CZ r14_A r14_n r14_c r14 70,.ownL CS y10_A y10_n y10_c y10_H 66,.ownL CZ r5_A r5_n r5_c r5 70,.blk b1 ([I8 a0_0,I8 a0_1,I8 a0_2,I8 a0_3,I8 a0_4]) 23] [.inn CZ y10_H r8,.rowL CB s7_A s7_n s7_c (subL a1 (isub .i64 r2 32) (a1.length:Int)),.rowL CB a1_A a1_n a1_c a1,.rowL CB a2_A a2_n a2_c a2,.rowL CB a3_A a3_n a3_c a3] w∧∃ g46,a=fr g46 158 [(2,[.slice a2_A a2_n a2_c,.slice a3_A a3_n a3_c,P0 b1]),(8,[.slice none 0 0,I8 0]),(13,[.slice r5_A r5_n r5_c]),(15,[.slice y10_A y10_n y10_c]),(17,[.slice r15_A r15_n r15_c,.slice r16_A r16_n r16_c,.slice z18_A z18_n z18_c,I8 z17,.slice z21_A z21_n z21_c,I8 z20])]) K ⟨0,([]:List (Arr 256)),none,0,0,hy,hs.conv rfl,eg⟩ ?_
   clear hs h hy
   rintro n a w ⟨z20,z21,z21_A,z21_n,z21_c,h,hs,g46,rfl⟩ KL1 kl1
   cases n with
   | zero=>exact nomatch (show none=some _ from h)
   | succ n=>
    refine xs fun _ s48=>(xs fun _ s49=>(xn 4 fun _ j50=>(nq 0 [(89,I8 z20),(90,P0 b1)] (tkt 2 91 _ (yv hs 7 0 3 rfl (by rfl) .grow) ?_))))
    obtain ⟨hc,h⟩|⟨hc,h⟩:=of_if h
    refine tb 3 92 (dt hc) ?_
    refine fj j50 s49 (ct (xk (T s48 (xs fun _ s51=>(xb (xn 11 fun _ j52=>(nq 0 [(95,.slice z21_A z21_n z21_c),(96,.slice y10_A y10_n y10_c),(97,I8 z20)] ?_)))))))
    obtain ⟨h0,h1,h⟩:=oc2 h
    have i0_53:=h0
    have i1_53:=h1
    refine tkf 3 98 (PA CS y10_A z20) (yiLL (C:=CZ) 78 66 .i64 z20 (LLP.mk (rL 5 hs) (hs.innR 0 rfl)) h0 h1) ?_
    obtain ⟨s23_A,hA⟩ : ∃ A,A=(rdL CS y10_H z20).1:=⟨_,rfl⟩
    obtain ⟨s23_n,hn⟩ : ∃ n,n=(rdL CS y10_H z20).2.1:=⟨_,rfl⟩
    obtain ⟨s23_c,hc⟩ : ∃ c,c=(rdL CS y10_H z20).2.2:=⟨_,rfl⟩
    refine tkt 4 99 (.slice s23_A s23_n s23_c) (by subst hA hn hc; exact yLL (C:=CZ) 66 z20 (LLP.mk (rL 5 hs) (hs.innR 0 rfl)) i0_53 i1_53) ?_
    have hs:=hs.addInnI (C:=CZ) 0 rfl i0_53 i1_53 hA hn hc
    refine qo 5 100 (I8 z17) ?_
    obtain ⟨h0,h1,h⟩:=oc2 h
    have i0_54:=h0
    have i1_54:=h1
    refine tkf 6 101 (PA CZ s23_A z17) (yiL (C:=CZ) 66 70 .i64 z17 (rR 0 hs) h0 h1) (tkt 7 102 _ (yLA (C:=CZ) 70 z17 (rR 0 hs) rfl i0_54 i1_54) (so 8 (oLL (C:=CZ) 103 66 70 1 (ag .i32 (zeroA 256)) #[(0,ag .i32 (rdL CZ (rdLL r8 z20) z17))] [(rdL CZ (rdLL r8 z20) z17)] hs rfl rfl (by decide) (by decide) fun s24_A s24_n s24_c w gw hs=>?_)))
    obtain ⟨h0,h⟩:=oc h
    refine so 9 (oAp (C:=CZ) 104 66 66 70 1024 137438953472 hs 1 rfl (rL 0 hs) h0 (by decide) (by decide) fun s25_A s25_n s25_c w hs=>?_)
    refine qo 10 21 (.slice s25_A s25_n s25_c) (fin (j52 _ _ (iN (T s51 (xn 3 fun _ j55=>(nq 0 [(93,I8 z20),(94,I8 (iadd .i64 z20 1))] ?_))))))
    obtain ⟨x26,hx,h⟩:=ob h
    refine tkf 2 22 (I8 x26) (yn hx) (fin (j55 _ _ ?_))
    exact tn (kl1 _ _ ⟨n,ls n,x26,(z21++([(rdL CZ (rdLL r8 z20) z17)]:List (Arr 256))),s25_A,s25_n,s25_c,h,(pk [1,2,3,4,5] (dr [0,1,1,1,1,1,1,1,1] hs)),eg⟩)
    refine tb 3 92 (df hc) (fj j50 s49 (cf (xexit (tx (tx (iH ?_))))))
    obtain rfl:=of_some h
    exact exq_n (nn1 _ _ ⟨z21_A,z21_n,z21_c,(hs.conv rfl),eg⟩)
   clear hs h hy
   rintro a w ⟨y22_A,y22_n,y22_c,hs,g47,rfl⟩
   have h:=hk1
   refine T s43 (xs fun _ s56=>?_)
   obtain ⟨y28,hj,h⟩:=ob h
   refine wp_join (N:=fun a w=>∃ b27,St w0 [] [.blk b27 (enc .i32 y28) 70,.ownL CZ y22_A y22_n y22_c y22 70,.ownL CB z18_A z18_n z18_c z18 5,.ownL CZ r16_A r16_n r16_c r16 70,.ownL CZ r15_A r15_n r15_c r15 70,.ownL CZ r14_A r14_n r14_c r14 70,.ownL CS y10_A y10_n y10_c y10_H 66,.ownL CZ r5_A r5_n r5_c r5 70,.blk b1 ([I8 a0_0,I8 a0_1,I8 a0_2,I8 a0_3,I8 a0_4]) 23] [.inn CZ y10_H r8,.rowL CB s7_A s7_n s7_c (subL a1 (isub .i64 r2 32) (a1.length:Int)),.rowL CB a1_A a1_n a1_c a1,.rowL CB a2_A a2_n a2_c a2,.rowL CB a3_A a3_n a3_c a3] w∧∃ g57,a=fr g57 158 [(2,[.slice a2_A a2_n a2_c,.slice a3_A a3_n a3_c,P0 b1]),(8,[.slice none 0 0,I8 0]),(13,[.slice r5_A r5_n r5_c]),(15,[.slice y10_A y10_n y10_c]),(17,[.slice r15_A r15_n r15_c,.slice r16_A r16_n r16_c,.slice z18_A z18_n z18_c,I8 z17]),(23,[P0 b27])]) (fun N nj=>?_) ?_
   clear h
   have h:=hj
   refine rg [10] (fun k=>True) 11 fun _ j58=>?_
   have hs:=hs.drawn1
   refine gq 0 105 (.slice y22_A y22_n y22_c) (gq 1 106 (.slice r15_A r15_n r15_c) (gq 4 109 (.slice r16_A r16_n r16_c) (gq 5 110 (I8 z17) ?_)))
   obtain ⟨h0,h1,h⟩:=oc2 h
   have i0_59:=h0
   have i1_59:=h1
   refine tgf 6 111 (PA CZ r16_A z17) (yiL (C:=CZ) 66 70 .i64 z17 (rL 2 hs) h0 h1) (tgt 7 112 _ (yLA (C:=CZ) 70 z17 (rL 2 hs) rfl i0_59 i1_59) ?_)
   refine wpG.many [2,9] (by kernel_rfl) (by decide) (forall_cons ?_ (forall_cons ?_ forall_nil))
   obtain ⟨r29,hg,h⟩:=ob h
   refine (oC 107 hs (ref26_dot.ok hg _ (rL 0 hs) (rL 3 hs)) ?_)
   intro w gw hs
   refine ⟨.of gw,?_⟩
   refine wpG.many [3,9] (by kernel_rfl) (by decide) (forall_cons ?_ (forall_cons ?_ forall_nil))
   obtain ⟨r30,hg,h⟩:=ob h
   refine (oC 108 hs (ref25_Back.ok hg _) ?_)
   intro w gw hs
   refine ⟨.of gw,?_⟩
   refine wpG.many [8,9] (by kernel_rfl) (by decide) (forall_cons ?_ (forall_cons ?_ forall_nil))
   obtain ⟨r31,hg,h⟩:=ob h
   refine (oC 113 hs (ref25_Add.ok hg _) ?_)
   intro w gw hs
   refine ⟨.of gw,?_⟩
   refine go 9 (oNe 23 70 .i32 (zeroA 256) hs fun b32 w gw hs=>⟨.of gw,?_⟩)
   refine go 10 (oWe 70 .i32 r31 hs 0 fun w kp hs=>⟨⟨fun hf=>absurd hf (by decide),.all _ _⟩,?_⟩)
   refine gf (j58 _ _ ?_)
   obtain rfl:=of_some h
   exact nj _ _ ⟨b32,(hs.conv rfl),eg⟩
   refine (oN 23 70 hs (enc .i32 (zeroA 256)) (ag .i32 (zeroA 256)) ?_)
   intro b33 w gw hs
   refine ⟨.of gw,?_⟩
   obtain ⟨r34,hg,h⟩:=ob h
   refine go 8 (oC 113 hs (ref25_Add.ok hg _) fun w gw hs=>⟨.of gw,?_⟩)
   refine go 10 (oWe 70 .i32 r34 hs 0 fun w kp hs=>⟨⟨fun hf=>absurd hf (by decide),.all _ _⟩,?_⟩)
   refine gf (j58 _ _ ?_)
   obtain rfl:=of_some h
   exact nj _ _ ⟨b33,(hs.conv rfl),eg⟩
   refine (oN 23 70 hs (enc .i32 (zeroA 256)) (ag .i32 (zeroA 256)) ?_)
   intro b35 w gw hs
   refine ⟨.of gw,?_⟩
   obtain ⟨r36,hg,h⟩:=ob h
   refine go 3 (oC 108 hs (ref25_Back.ok hg _) fun w gw hs=>⟨.of gw,?_⟩)
   obtain ⟨r37,hg,h⟩:=ob h
   refine go 8 (oC 113 hs (ref25_Add.ok hg _) fun w gw hs=>⟨.of gw,?_⟩)
   refine go 10 (oWe 70 .i32 r37 hs 0 fun w kp hs=>⟨⟨fun hf=>absurd hf (by decide),.all _ _⟩,?_⟩)
   refine gf (j58 _ _ ?_)
   obtain rfl:=of_some h
   exact nj _ _ ⟨b35,(hs.conv rfl),eg⟩
   refine (oN 23 70 hs (enc .i32 (zeroA 256)) (ag .i32 (zeroA 256)) ?_)
   intro b38 w gw hs
   refine ⟨.of gw,?_⟩
   obtain ⟨r39,hg,h⟩:=ob h
   refine go 2 (oC 107 hs (ref26_dot.ok hg _ (rL 1 hs) (rL 4 hs)) fun w gw hs=>⟨.of gw,?_⟩)
   obtain ⟨r40,hg,h⟩:=ob h
   refine go 3 (oC 108 hs (ref25_Back.ok hg _) fun w gw hs=>⟨.of gw,?_⟩)
   obtain ⟨r41,hg,h⟩:=ob h
   refine go 8 (oC 113 hs (ref25_Add.ok hg _) fun w gw hs=>⟨.of gw,?_⟩)
   refine go 10 (oWe 70 .i32 r41 hs 0 fun w kp hs=>⟨⟨fun hf=>absurd hf (by decide),.all _ _⟩,?_⟩)
   refine gf (j58 _ _ ?_)
   obtain rfl:=of_some h
   exact nj _ _ ⟨b38,(hs.conv rfl),eg⟩
   clear hj hs
   rintro a w ⟨b27,hs,g57,rfl⟩
   refine T s56 (?_)
   refine rg [8] (fun k=>True) 10 fun _ j60=>?_
   have hs:=hs.drawn1
   refine gq 0 114 (.slice z18_A z18_n z18_c) ?_
   refine wpG.take [1,4,7,8,9] 1 true (some 115) (ag .i32 y28) (by kernel_rfl) (by kernel_rfl) (yWe 70 hs 0 .grow) ?_
   refine gq 2 116 (.pointer (some ⟨b1,3,none⟩)) ?_
   refine wpG.take [3,4,7,8,9] 3 true (some 117) (I8 a0_3) (by kernel_rfl) (by kernel_rfl) (yv hs 8 3 3 rfl (by rfl) .grow) ?_
   refine gq 5 119 (.pointer (some ⟨b1,3,none⟩)) ?_
   refine wpG.take [6,7,8,9] 6 true (some 120) (I8 a0_3) (by kernel_rfl) (by kernel_rfl) (yv hs 8 3 3 rfl (by rfl) .grow) ?_
   obtain ⟨r42,hg,h⟩:=ob h
   refine go 4 (oC 118 hs (ref25_Squeeze.ok hg _) fun w gw hs=>⟨.of gw,?_⟩)
   obtain ⟨r43,hg,h⟩:=ob h
   refine wpG.only 7 (by kernel_rfl) (oH 121 hs (ref25_Pack.ok hg _) ?_)
   rintro ⟨r43_A,r43_n,r43_c⟩ w gw hs
   have hs:=hs.conv (L':=[.ownL CB r43_A r43_n r43_c r43 5,.blk b27 (enc .i32 y28) 70,.ownL CZ y22_A y22_n y22_c y22 70,.ownL CB z18_A z18_n z18_c z18 5,.ownL CZ r16_A r16_n r16_c r16 70,.ownL CZ r15_A r15_n r15_c r15 70,.ownL CZ r14_A r14_n r14_c r14 70,.ownL CS y10_A y10_n y10_c y10_H 66,.ownL CZ r5_A r5_n r5_c r5 70,.blk b1 ([I8 a0_0,I8 a0_1,I8 a0_2,I8 a0_3,I8 a0_4]) 23]) rfl
   refine ⟨.of gw,?_⟩
   obtain ⟨h0,h⟩:=oc h
   refine go 8 (oAp (C:=CB) 122 24 24 5 1 140737488355328 hs 3 rfl (rL 0 hs) h0 (by decide) (by decide) fun s44_A s44_n s44_c w hs=>⟨⟨fun hf=>absurd hf (by decide),.all _ _⟩,?_⟩)
   refine gq 9 19 (.slice s44_A s44_n s44_c) (gf (j60 _ _ ?_))
   refine iN (T s40 (xn 3 fun _ j61=>?_))
   refine nq 0 [(87,I8 z17),(88,I8 (iadd .i64 z17 1))] ?_
   obtain ⟨x45,hx,h⟩:=ob h
   refine tkf 2 20 (I8 x45) (yn hx) (fin (j61 _ _ ?_))
   exact tn (kl0 _ _ ⟨n,ls n,x45,(z18++r43),s44_A,s44_n,s44_c,h,(dr [0,0,0,1,1,1,1,1,1,1] hs),eg⟩)
   refine tb 3 86 (df hc) (fj j39 s38 (cf (xexit (tx (tx (iH ?_))))))
   obtain rfl:=of_some h
   exact exq_n (nn0 _ _ ⟨z18_A,z18_n,z18_c,(hs.conv rfl),eg⟩)
  clear hs h hy
  rintro a w ⟨y19_A,y19_n,y19_c,hs,g36,rfl⟩
  have h:=hk0
  refine T s32 (xs fun _ s62=>(xn 1 fun _ j63=>(so 0 (oNe 24 70 .i32 (zeroA 256) hs fun b46 w gw hs=>(fj j63 s62 (xs fun _ s64=>(xs fun _ s65=>(xn 1 fun _ j66=>(qo 0 25 (I8 0) (fj j66 s65 (?_)))))))))))
  obtain ⟨y49,hy,hk2⟩:=ob h
  refine wp_exq (N:=fun a w=>St w0 [] [.blk b46 (enc .i32 y49) 70,.ownL CB y19_A y19_n y19_c y19 5,.ownL CZ r16_A r16_n r16_c r16 70,.ownL CZ r15_A r15_n r15_c r15 70,.ownL CZ r14_A r14_n r14_c r14 70,.ownL CS y10_A y10_n y10_c y10_H 66,.ownL CZ r5_A r5_n r5_c r5 70,.blk b1 ([I8 a0_0,I8 a0_1,I8 a0_2,I8 a0_3,I8 a0_4]) 23] [.inn CZ y10_H r8,.rowL CB s7_A s7_n s7_c (subL a1 (isub .i64 r2 32) (a1.length:Int)),.rowL CB a1_A a1_n a1_c a1,.rowL CB a2_A a2_n a2_c a2,.rowL CB a3_A a3_n a3_c a3] w∧∃ g68,a=fr g68 158 [(3,[.slice a3_A a3_n a3_c,P0 b1]),(8,[.slice none 0 0,I8 0]),(13,[.slice r5_A r5_n r5_c]),(17,[.slice r15_A r15_n r15_c]),(19,[.slice y19_A y19_n y19_c]),(24,[P0 b46])]) (fun N2 nn2=>?_) ?_
  clear hk2
  refine xb ?_
  refine wp_loop_k (fun n a w=>∃ z47 z48,ref26_Encrypt.l2 K n a2 z47 z48=some y49∧St w0 [] [.blk b46 (enc .i32 z48) 70,.ownL CB y19_A y19_n y19_c y19 5,.ownL CZ r16_A r16_n r16_c r16 70,.ownL CZ r15_A r15_n r15_c r15 70,.ownL CZ r14_A r14_n r14_c r14 70,.ownL CS y10_A y10_n y10_c y10_H 66,.ownL CZ r5_A r5_n r5_c r5 70,.blk b1 ([I8 a0_0,I8 a0_1,I8 a0_2,I8 a0_3,I8 a0_4]) 23] [.inn CZ y10_H r8,.rowL CB s7_A s7_n s7_c (subL a1 (isub .i64 r2 32) (a1.length:Int)),.rowL CB a1_A a1_n a1_c a1,.rowL CB a2_A a2_n a2_c a2,.rowL CB a3_A a3_n a3_c a3] w∧∃ g67,a=fr g67 158 [(2,[.slice a2_A a2_n a2_c,.slice a3_A a3_n a3_c,P0 b1]),(8,[.slice none 0 0,I8 0]),(13,[.slice r5_A r5_n r5_c]),(17,[.slice r15_A r15_n r15_c]),(19,[.slice y19_A y19_n y19_c]),(24,[P0 b46,I8 z47])]) K ⟨0,(zeroA 256),hy,hs.conv rfl,eg⟩ ?_
  clear hs h hy
  rintro n a w ⟨z47,z48,h,hs,g67,rfl⟩ KL2 kl2
  cases n with
  | zero=>exact nomatch (show none=some _ from h)
  | succ n=>
   refine xs fun _ s69=>(xs fun _ s70=>(xn 2 fun _ j71=>(qo 0 123 (I8 z47) ?_)))
   obtain ⟨hc,h⟩|⟨hc,h⟩:=of_if h
   refine tb 1 124 (dt hc) ?_
   refine fj j71 s70 (ct (xk (T s69 (xs fun _ s72=>(xb (xn 6 fun _ j73=>(nq 0 [(127,I8 z47),(128,.slice a2_A a2_n a2_c),(129,I8 z47)] ?_)))))))
   obtain ⟨r50,hg,h⟩:=ob h
   refine so 3 (oC 130 hs (ref26_bit.ok hg _ (rR 3 hs)) fun w gw hs=>?_)
   obtain ⟨i0_74,i1_74,h⟩:=oc2 h
   refine tkf 4 131 (P1 b46 z47) (yi 70 21 256 1 .i64 z47 i0_74 i1_74) (so 5 (oA 21 r50 z47 hs 0 rfl (by kernel_rfl) i0_74 i1_74 fun w kp hs=>(fin (j73 _ _ (iN (T s72 (xn 3 fun _ j75=>(nq 0 [(125,I8 z47),(126,I8 (iadd .i64 z47 1))] ?_))))))))
   obtain ⟨x51,hx,h⟩:=ob h
   refine tkf 2 25 (I8 x51) (yn hx) (fin (j75 _ _ ?_))
   exact tn (kl2 _ _ ⟨n,ls n,x51,(wr z48 z47 r50),h,(hs.conv rfl),eg⟩)
   refine tb 1 124 (df hc) (fj j71 s70 (cf (xexit (tx (tx (iH ?_))))))
   obtain rfl:=of_some h
   exact exq_n (nn2 _ _ ⟨(hs.conv rfl),eg⟩)
  clear hs h hy
  rintro a w ⟨hs,g68,rfl⟩
  have h:=hk2
  refine T s64 (xs fun _ s76=>?_)
  obtain ⟨y53,hj,h⟩:=ob h
  refine wp_join (N:=fun a w=>∃ b52,St w0 [] [.blk b52 (enc .i32 y53) 70,.blk b46 (enc .i32 y49) 70,.ownL CB y19_A y19_n y19_c y19 5,.ownL CZ r16_A r16_n r16_c r16 70,.ownL CZ r15_A r15_n r15_c r15 70,.ownL CZ r14_A r14_n r14_c r14 70,.ownL CS y10_A y10_n y10_c y10_H 66,.ownL CZ r5_A r5_n r5_c r5 70,.blk b1 ([I8 a0_0,I8 a0_1,I8 a0_2,I8 a0_3,I8 a0_4]) 23] [.inn CZ y10_H r8,.rowL CB s7_A s7_n s7_c (subL a1 (isub .i64 r2 32) (a1.length:Int)),.rowL CB a1_A a1_n a1_c a1,.rowL CB a2_A a2_n a2_c a2,.rowL CB a3_A a3_n a3_c a3] w∧∃ g77,a=fr g77 158 [(4,[P0 b1]),(8,[.slice none 0 0,I8 0]),(19,[.slice y19_A y19_n y19_c]),(24,[P0 b46]),(26,[P0 b52])]) (fun N nj=>?_) ?_
  clear h
  have h:=hj
  refine rg [14] (fun k=>True) 15 fun _ j78=>?_
  have hs:=hs.drawn1
  refine gq 0 132 (.slice r5_A r5_n r5_c) (gq 1 133 (.slice r15_A r15_n r15_c) (gq 4 136 (.pointer (some ⟨b1,2,none⟩)) (tgt 5 137 _ (yv hs 7 2 3 rfl (by rfl) .grow) (gq 6 138 (.slice a3_A a3_n a3_c) ?_))))
  refine gq 7 139 (P0 b1) (tgt 8 140 _ (yv hs 7 0 3 rfl (by rfl) .grow) (gq 9 141 (I8 (imul .i64 2 a0_0)) (gq 10 142 (U1 (iconv .u8 (imul .i64 2 a0_0))) ?_)))
  refine wpG.many [2,13] (by kernel_rfl) (by decide) (forall_cons ?_ (forall_cons ?_ forall_nil))
  obtain ⟨r54,hg,h⟩:=ob h
  refine (oC 134 hs (ref26_dot.ok hg _ (rL 6 hs) (rL 3 hs)) ?_)
  intro w gw hs
  refine ⟨.of gw,?_⟩
  refine wpG.many [3,13] (by kernel_rfl) (by decide) (forall_cons ?_ (forall_cons ?_ forall_nil))
  obtain ⟨r55,hg,h⟩:=ob h
  refine (oC 135 hs (ref25_Back.ok hg _) ?_)
  intro w gw hs
  refine ⟨.of gw,?_⟩
  refine wpG.many [11,13] (by kernel_rfl) (by decide) (forall_cons ?_ (forall_cons ?_ forall_nil))
  obtain ⟨r56,hg,h⟩:=ob h
  refine (oC 143 hs (ref26_Noise.ok hg _ (rR 4 hs)) ?_)
  intro w gw hs
  refine ⟨.of gw,?_⟩
  refine wpG.many [12,13] (by kernel_rfl) (by decide) (forall_cons ?_ (forall_cons ?_ forall_nil))
  obtain ⟨r57,hg,h⟩:=ob h
  refine (oC 144 hs (ref25_Add.ok hg _) ?_)
  intro w gw hs
  refine ⟨.of gw,?_⟩
  refine go 13 (oNe 26 70 .i32 (zeroA 256) hs fun b58 w gw hs=>⟨.of gw,?_⟩)
  refine go 14 (oWe 70 .i32 r57 hs 0 fun w kp hs=>⟨⟨fun hf=>absurd hf (by decide),.all _ _⟩,?_⟩)
  refine gf (j78 _ _ ?_)
  obtain rfl:=of_some h
  exact nj _ _ ⟨b58,(hs.conv rfl),eg⟩
  refine (oN 26 70 hs (enc .i32 (zeroA 256)) (ag .i32 (zeroA 256)) ?_)
  intro b59 w gw hs
  refine ⟨.of gw,?_⟩
  obtain ⟨r60,hg,h⟩:=ob h
  refine go 12 (oC 144 hs (ref25_Add.ok hg _) fun w gw hs=>⟨.of gw,?_⟩)
  refine go 14 (oWe 70 .i32 r60 hs 0 fun w kp hs=>⟨⟨fun hf=>absurd hf (by decide),.all _ _⟩,?_⟩)
  refine gf (j78 _ _ ?_)
  obtain rfl:=of_some h
  exact nj _ _ ⟨b59,(hs.conv rfl),eg⟩
  refine (oN 26 70 hs (enc .i32 (zeroA 256)) (ag .i32 (zeroA 256)) ?_)
  intro b61 w gw hs
  refine ⟨.of gw,?_⟩
  obtain ⟨r62,hg,h⟩:=ob h
  refine go 11 (oC 143 hs (ref26_Noise.ok hg _ (rR 4 hs)) fun w gw hs=>⟨.of gw,?_⟩)
  obtain ⟨r63,hg,h⟩:=ob h
  refine go 12 (oC 144 hs (ref25_Add.ok hg _) fun w gw hs=>⟨.of gw,?_⟩)
  refine go 14 (oWe 70 .i32 r63 hs 0 fun w kp hs=>⟨⟨fun hf=>absurd hf (by decide),.all _ _⟩,?_⟩)
  refine gf (j78 _ _ ?_)
  obtain rfl:=of_some h
  exact nj _ _ ⟨b61,(hs.conv rfl),eg⟩
  refine (oN 26 70 hs (enc .i32 (zeroA 256)) (ag .i32 (zeroA 256)) ?_)
  intro b64 w gw hs
  refine ⟨.of gw,?_⟩
  obtain ⟨r65,hg,h⟩:=ob h
  refine go 3 (oC 135 hs (ref25_Back.ok hg _) fun w gw hs=>⟨.of gw,?_⟩)
  obtain ⟨r66,hg,h⟩:=ob h
  refine go 11 (oC 143 hs (ref26_Noise.ok hg _ (rR 4 hs)) fun w gw hs=>⟨.of gw,?_⟩)
  obtain ⟨r67,hg,h⟩:=ob h
  refine go 12 (oC 144 hs (ref25_Add.ok hg _) fun w gw hs=>⟨.of gw,?_⟩)
  refine go 14 (oWe 70 .i32 r67 hs 0 fun w kp hs=>⟨⟨fun hf=>absurd hf (by decide),.all _ _⟩,?_⟩)
  refine gf (j78 _ _ ?_)
  obtain rfl:=of_some h
  exact nj _ _ ⟨b64,(hs.conv rfl),eg⟩
  refine (oN 26 70 hs (enc .i32 (zeroA 256)) (ag .i32 (zeroA 256)) ?_)
  intro b68 w gw hs
  refine ⟨.of gw,?_⟩
  obtain ⟨r69,hg,h⟩:=ob h
  refine go 2 (oC 134 hs (ref26_dot.ok hg _ (rL 7 hs) (rL 4 hs)) fun w gw hs=>⟨.of gw,?_⟩)
  obtain ⟨r70,hg,h⟩:=ob h
  refine go 3 (oC 135 hs (ref25_Back.ok hg _) fun w gw hs=>⟨.of gw,?_⟩)
  obtain ⟨r71,hg,h⟩:=ob h
  refine go 11 (oC 143 hs (ref26_Noise.ok hg _ (rR 4 hs)) fun w gw hs=>⟨.of gw,?_⟩)
  obtain ⟨r72,hg,h⟩:=ob h
  refine go 12 (oC 144 hs (ref25_Add.ok hg _) fun w gw hs=>⟨.of gw,?_⟩)
  refine go 14 (oWe 70 .i32 r72 hs 0 fun w kp hs=>⟨⟨fun hf=>absurd hf (by decide),.all _ _⟩,?_⟩)
  refine gf (j78 _ _ ?_)
  obtain rfl:=of_some h
  exact nj _ _ ⟨b68,(hs.conv rfl),eg⟩
  clear hj hs
  rintro a w ⟨b52,hs,g77,rfl⟩
  refine T s76 (xs fun _ s79=>?_)
  refine rg [4] (fun k=>True) 5 fun _ j80=>?_
  have hs:=hs.drawn1
  refine tgt 0 145 _ (yWe 70 hs 0 .grow) (tgt 1 146 _ (yWe 70 hs 1 .grow) ?_)
  obtain ⟨r73,hg,h⟩:=ob h
  refine go 2 (oC 147 hs (ref25_Widen.ok hg _) fun w gw hs=>⟨.of gw,?_⟩)
  obtain ⟨r74,hg,h⟩:=ob h
  refine go 3 (oC 148 hs (ref25_Add.ok hg _) fun w gw hs=>⟨.of gw,?_⟩)
  refine go 4 (oWe 70 .i32 r74 hs 0 fun w kp hs=>⟨⟨fun hf=>absurd hf (by decide),.all _ _⟩,?_⟩)
  refine gf (j80 _ _ (T s79 (xs fun _ s81=>?_)))
  refine rg [8] (fun k=>True) 11 fun _ j82=>?_
  have hs:=hs.drawn1
  refine gq 0 149 (.slice y19_A y19_n y19_c) ?_
  refine wpG.take [1,4,7,8,9,10] 1 true (some 150) (ag .i32 r74) (by kernel_rfl) (by kernel_rfl) (yWe 70 hs 0 .grow) ?_
  refine gq 2 151 (.pointer (some ⟨b1,4,none⟩)) ?_
  refine wpG.take [3,4,7,8,9,10] 3 true (some 152) (I8 a0_4) (by kernel_rfl) (by kernel_rfl) (yv hs 8 4 3 rfl (by rfl) .grow) ?_
  refine gq 5 154 (.pointer (some ⟨b1,4,none⟩)) ?_
  refine wpG.take [6,7,8,9,10] 6 true (some 155) (I8 a0_4) (by kernel_rfl) (by kernel_rfl) (yv hs 8 4 3 rfl (by rfl) .grow) ?_
  obtain ⟨r75,hg,h⟩:=ob h
  refine go 4 (oC 153 hs (ref25_Squeeze.ok hg _) fun w gw hs=>⟨.of gw,?_⟩)
  obtain ⟨r76,hg,h⟩:=ob h
  refine wpG.only 7 (by kernel_rfl) (oH 156 hs (ref25_Pack.ok hg _) ?_)
  rintro ⟨r76_A,r76_n,r76_c⟩ w gw hs
  have hs:=hs.conv (L':=[.ownL CB r76_A r76_n r76_c r76 5,.blk b52 (enc .i32 r74) 70,.blk b46 (enc .i32 y49) 70,.ownL CB y19_A y19_n y19_c y19 5,.ownL CZ r16_A r16_n r16_c r16 70,.ownL CZ r15_A r15_n r15_c r15 70,.ownL CZ r14_A r14_n r14_c r14 70,.ownL CS y10_A y10_n y10_c y10_H 66,.ownL CZ r5_A r5_n r5_c r5 70,.blk b1 ([I8 a0_0,I8 a0_1,I8 a0_2,I8 a0_3,I8 a0_4]) 23]) rfl
  refine ⟨.of gw,?_⟩
  obtain ⟨h0,h⟩:=oc h
  refine go 8 (oAp (C:=CB) 157 24 24 5 1 140737488355328 hs 3 rfl (rL 0 hs) h0 (by decide) (by decide) fun s77_A s77_n s77_c w hs=>⟨⟨fun hf=>absurd hf (by decide),.all _ _⟩,?_⟩)
  refine gq 9 8 (.slice s77_A s77_n s77_c) (gq 10 9 (I8 0) (gf (j82 _ _ (T s81 (xret ?_)))))
  obtain ⟨rfl,rfl⟩:=os2 h
  exact qq _ _ (pt [8,9] [.slice s77_A s77_n s77_c,I8 0] ⟨⟨s77_A,s77_n,s77_c⟩,cr,(pz (dr [0,0,0,1,0,0,0,0,0,0] hs))⟩)
  refine tb 1 66 (nt hc) (fj j25 s24 (ct (xs fun _ s83=>(xn 3 fun _ j84=>(nq 0 [(67,I8 r9),(8,.slice none 0 0),(9,I8 r9)] (fj j84 s83 (xret (tr ?_))))))))
  obtain ⟨rfl,rfl⟩:=os2 h
  have hs:=hs.addNilL CB 5
  exact qq _ _ (pt [8,9] [.slice none 0 0,I8 r9] ⟨⟨none,0,0⟩,cr,(pz (dr [1,0,0,0] hs))⟩)
  refine tb 6 54 (nt hc) (qo 7 55 (.bool true) (fj j20 s19 (ct (xs fun _ s85=>(xn 2 fun _ j86=>(nq 0 [(8,.slice none 0 0),(9,I8 14)] (fj j86 s85 (xret (tr ?_)))))))))
  obtain ⟨rfl,rfl⟩:=os2 h
  have hs:=hs.addNilL CB 5
  exact qq _ _ (pt [8,9] [.slice none 0 0,I8 14] ⟨⟨none,0,0⟩,cr,(pz (dr [1,0,0] hs))⟩)
  refine tb 2 50 (nt hc) (nq 3 [(51,.bool true),(52,undef),(53,undef),(54,undef),(55,.bool true)] (fj j20 s19 (ct (xs fun _ s87=>(xn 2 fun _ j88=>(nq 0 [(8,.slice none 0 0),(9,I8 14)] (fj j88 s87 (xret (tr ?_)))))))))
  obtain ⟨rfl,rfl⟩:=os2 h
  have hs:=hs.addNilL CB 5
  exact qq _ _ (pt [8,9] [.slice none 0 0,I8 14] ⟨⟨none,0,0⟩,cr,(pz (dr [1,0,0] hs))⟩)
 | false=>
  have h:=of_if_f h
  refine nq 6 [(45,.bool false),(13,.slice r5_A r5_n r5_c),(14,.bool false)] (fj j14 s13 (xs fun _ s89=>(xs fun _ s90=>(xn 2 fun _ j91=>(nq 0 [(46,.bool false),(47,.bool true)] (fj j91 s90 (ct (xs fun _ s92=>(xn 2 fun _ j93=>(nq 0 [(8,.slice none 0 0),(9,I8 10)] ?_))))))))))
  refine fj j93 s92 (xret (tr ?_))
  obtain ⟨rfl,rfl⟩:=os2 h
  have hs:=hs.addNilL CB 5
  exact qq _ _ (pt [8,9] [.slice none 0 0,I8 10] ⟨⟨none,0,0⟩,cr,(pz (dr [1,0,0] hs))⟩)
 refine tb 3 38 (nt hc) (fj j12 s11 (ct (xs fun _ s94=>(xn 2 fun _ j95=>(nq 0 [(8,.slice none 0 0),(9,I8 10)] (fj j95 s94 (xret (tr ?_))))))))
 obtain ⟨rfl,rfl⟩:=os2 h
 have hs:=hs.addNilL CB 5
 exact qq _ _ (pt [8,9] [.slice none 0 0,I8 10] ⟨⟨none,0,0⟩,cr,(pz (dr [1,0] hs))⟩)
theorem ref27_such.ok {K:Nat}{a0_0 a0_1 a0_2 a0_3 a0_4:Int}{a1:List Int}{r0:Bool}{a1_A:Option Addr}{a1_n a1_c:Nat}(h:ref27_such.f K a0_0 a0_1 a0_2 a0_3 a0_4 a1=some r0) (w0:World) (hp1:RowL CB w0 a1_A a1_n a1_c a1):Ret Tryz.prog 22 #[.agg #[I8 a0_0,I8 a0_1,I8 a0_2,I8 a0_3,I8 a0_4],.slice a1_A a1_n a1_c] w0 (.bool r0):=by
 refine calls_k Tryz.func22 rfl fun Q qq=>?_
 have hs:=St.startR (all_cons (RowP.ent hp1) all_nil)
 refine wc (a':=(fu 13 [.agg #[I8 a0_0,I8 a0_1,I8 a0_2,I8 a0_3,I8 a0_4],.slice a1_A a1_n a1_c])) (xs fun _ s1=>(xn 2 fun _ j2=>(so 0 (oBa 2 23 hs [I8 a0_0,I8 a0_1,I8 a0_2,I8 a0_3,I8 a0_4] fun b1 w gw hs=>(qo 1 4 (.bool false) ?_)))))
 refine fj j2 s1 (xs fun _ s3=>(xn 8 fun _ j4=>(tkt 0 8 _ (yWs 5 23 hs 0 .grow) (qo 1 9 (.slice a1_A a1_n a1_c) ?_))))
 obtain ⟨⟨r2,r3⟩,hg,h⟩:=ob h
 refine wpS.only 2 (oH 10 hs (ref26_Encrypt.ok hg _ (rR 0 hs) (RowL.nil _) (RowL.nil _)) ?_)
 rintro ⟨r2_A,r2_n,r2_c⟩ w gw hs
 have hs:=hs.conv (L':=[.ownL CB r2_A r2_n r2_c r2 5,.blk b1 ([I8 a0_0,I8 a0_1,I8 a0_2,I8 a0_3,I8 a0_4]) 23]) rfl
 refine ⟨fun _=>trivial,?_⟩
 refine nq 3 [(7,.tuple #[.slice r2_A r2_n r2_c,I8 r3]),(11,.slice r2_A r2_n r2_c),(12,I8 r3),(5,.slice r2_A r2_n r2_c),(6,I8 r3)] (fj j4 s3 (xs fun _ s5=>(xn 3 fun _ j6=>(nq 0 [(13,I8 r3),(14,.bool (r3 == 14)),(4,.bool (r3 == 14))] (fj j6 s5 (xret ?_))))))
 obtain rfl:=of_some h
 exact qq _ _ (pt [4] [.bool (r3 == 14)] ⟨cr,hs.none⟩)
theorem ref27_g.ok {K:Nat}{a0 a1 r0:List Int}{a0_A:Option Addr}{a0_n a0_c:Nat}{a1_A:Option Addr}{a1_n a1_c:Nat}(h:ref27_g.f K a0 a1=some r0) (w0:World) (hp0:RowL CB w0 a0_A a0_n a0_c a0) (hp1:RowL CB w0 a1_A a1_n a1_c a1):Calls Tryz.prog 24 #[.slice a0_A a0_n a0_c,.slice a1_A a1_n a1_c] w0 fun e w'=>∃ h:(Option Addr × Nat × Nat),e = .returned (.slice h.1 h.2.1 h.2.2)∧St w0 [] [.ownL CB h.1 h.2.1 h.2.2 r0 5] [] w':=by
 refine calls_k Tryz.func24 rfl fun Q qq=>?_
 have hs:=St.startR (all_cons (RowP.ent hp0) (all_cons (RowP.ent hp1) all_nil))
 refine wc (a':=(fu 14 [.slice a0_A a0_n a0_c,.slice a1_A a1_n a1_c])) (xs fun _ s1=>(xn 1 fun _ j2=>(qo 0 4 (.slice none 0 0) (fj j2 s1 (xs fun _ s3=>(xn 10 fun _ j4=>?_))))))
 refine nq 0 [(8,.slice a0_A a0_n a0_c),(9,.slice a1_A a1_n a1_c)] (so 2 (oLt (C:=CS) 10 57 24 2 (.slice none 0 0) #[(0,.slice a0_A a0_n a0_c),(1,.slice a1_A a1_n a1_c)] ([(a0_A,a0_n,a0_c),(a1_A,a1_n,a1_c)]:List HS) hs rfl (by decide) (by decide) fun s1_A s1_n s1_c w gw hs=>?_))
 obtain ⟨r2,hg,h⟩:=ob h
 refine wpS.only 3 (oH 11 hs (ref01_Join.ok hg _ (LLP.mk (rL 0 hs) (inn_cons (rR 0 hs) (inn_cons (rR 1 hs) inn_nil)))) ?_)
 rintro ⟨r2_A,r2_n,r2_c⟩ w gw hs
 have hs:=hs.conv (L':=[.ownL CB r2_A r2_n r2_c r2 5,.ownL CS s1_A s1_n s1_c ([(a0_A,a0_n,a0_c),(a1_A,a1_n,a1_c)]:List HS) 24]) rfl
 refine ⟨fun _=>trivial,?_⟩
 obtain ⟨⟨r3,r4⟩,hg,h⟩:=ob h
 refine wpS.only 4 (oH 12 hs (ref08_Sum.ok hg _ (rL 0 hs)) ?_)
 rintro ⟨r3_A,r3_n,r3_c⟩ w gw hs
 have hs:=hs.conv (L':=[.ownL CB r3_A r3_n r3_c r3 5,.ownL CB r2_A r2_n r2_c r2 5,.ownL CS s1_A s1_n s1_c ([(a0_A,a0_n,a0_c),(a1_A,a1_n,a1_c)]:List HS) 24]) rfl
 refine ⟨fun _=>trivial,?_⟩
 refine nq 5 [(7,.tuple #[.slice r3_A r3_n r3_c,I8 r4]),(13,.slice r3_A r3_n r3_c),(14,I8 r4),(5,.slice r3_A r3_n r3_c),(6,I8 r4)] (fj j4 s3 (xs fun _ s5=>(xn 2 fun _ j6=>(nq 0 [(15,.slice r3_A r3_n r3_c),(4,.slice r3_A r3_n r3_c)] (fj j6 s5 (xret ?_))))))
 obtain rfl:=of_some h
 exact qq _ _ (pt [4] [.slice r3_A r3_n r3_c] ⟨⟨r3_A,r3_n,r3_c⟩,cr,(pz (dr [1,0,0] hs))⟩)
end Go.Proofs.YtemdbgmldljbpaaGreatDoor

/- own -/
set_option linter.unusedVariables false
set_option linter.unusedSimpArgs false
set_option maxRecDepth 100000
set_option maxHeartbeats 4000000
namespace Go.Proofs.YtemdbgmldljbpaaGreatDoor
open Go.Mx
attribute [local irreducible] wpOp
theorem ref26_Keys.ok {K:Nat}{a0_0 a0_1 a0_2 a0_3 a0_4:Int}{a1 r0 r1:List Int}{r2:Int}{a1_A:Option Addr}{a1_n a1_c:Nat}(h:ref26_Keys.f K a0_0 a0_1 a0_2 a0_3 a0_4 a1=some (r0,r1,r2)) (w0:World) (hp1:RowL CB w0 a1_A a1_n a1_c a1):Calls Tryz.prog 33 #[.agg #[I8 a0_0,I8 a0_1,I8 a0_2,I8 a0_3,I8 a0_4],.slice a1_A a1_n a1_c] w0 fun e w'=>∃ h:(Option Addr × Nat × Nat) × (Option Addr × Nat × Nat),e = .returned (.tuple #[.slice h.1.1 h.1.2.1 h.1.2.2,.slice h.2.1 h.2.2.1 h.2.2.2,I8 r2])∧St w0 [] [.ownL CB h.1.1 h.1.2.1 h.1.2.2 r0 5,.ownL CB h.2.1 h.2.2.1 h.2.2.2 r1 5] [] w':=by
 refine calls_k Tryz.func33 rfl fun Q qq=>?_
 have hs:=St.startR (all_cons (RowP.ent hp1) all_nil)
 refine wc (a':=(fu 91 [.agg #[I8 a0_0,I8 a0_1,I8 a0_2,I8 a0_3,I8 a0_4],.slice a1_A a1_n a1_c])) (xs fun _ s1=>(xn 4 fun _ j2=>(so 0 (oBa 2 23 hs [I8 a0_0,I8 a0_1,I8 a0_2,I8 a0_3,I8 a0_4] fun b1 w gw hs=>(nq 1 [(4,.slice none 0 0),(5,.slice none 0 0),(6,I8 0)] ?_)))))
 refine fj j2 s1 (xs fun _ s3=>(xs fun _ s4=>(xn 3 fun _ j5=>(tkt 0 16 _ (yWs 5 23 hs 0 .grow) ?_))))
 obtain ⟨r2,hg,h⟩:=ob h
 cases r2 with
 | true=>
  have h:=of_if_t h
  refine so 1 (oC 17 hs (ref26_Known.ok hg _) fun w gw hs=>?_)
  refine qo 2 18 (.bool false) (fj j5 s4 (cf (xk (T s3 (xs fun _ s6=>(xs fun _ s7=>(xn 3 fun _ j8=>(qo 0 19 (.slice a1_A a1_n a1_c) (tkf 1 20 (I8 (a1.length:Int)) (yl (rR 0 hs)) ?_)))))))))
  obtain ⟨hc,h⟩|⟨hc,h⟩:=of_if h
  refine tb 2 21 (nf hc) ?_
  refine fj j8 s7 (cf (xk (T s6 (xs fun _ s9=>(xn 13 fun _ j10=>(nq 0 [(23,.slice a1_A a1_n a1_c),(24,P0 b1)] (tkt 2 25 _ (yv hs 0 0 3 rfl (by rfl) .grow) (qo 3 26 (U1 (iconv .u8 a0_0)) (so 4 (oLt (C:=CB) 27 24 5 1 (U1 0) #[(0,U1 (iconv .u8 a0_0))] [(iconv .u8 a0_0)] hs rfl (by decide) (by decide) fun s3_A s3_n s3_c w gw hs=>?_))))))))))
  refine so 5 (oLt (C:=CS) 28 57 24 2 (.slice none 0 0) #[(0,.slice a1_A a1_n a1_c),(1,.slice s3_A s3_n s3_c)] ([(a1_A,a1_n,a1_c),(s3_A,s3_n,s3_c)]:List HS) hs rfl (by decide) (by decide) fun s4_A s4_n s4_c w gw hs=>?_)
  obtain ⟨r5,hg,h⟩:=ob h
  refine wpS.only 6 (oH 29 hs (ref01_Join.ok hg _ (LLP.mk (rL 0 hs) (inn_cons (rR 0 hs) (inn_cons (rL 1 hs) inn_nil)))) ?_)
  rintro ⟨r5_A,r5_n,r5_c⟩ w gw hs
  have hs:=hs.conv (L':=[.ownL CB r5_A r5_n r5_c r5 5,.ownL CS s4_A s4_n s4_c ([(a1_A,a1_n,a1_c),(s3_A,s3_n,s3_c)]:List HS) 24,.ownL CB s3_A s3_n s3_c ([(iconv .u8 a0_0)]:List Int) 5,.blk b1 ([I8 a0_0,I8 a0_1,I8 a0_2,I8 a0_3,I8 a0_4]) 23]) rfl
  refine ⟨fun _=>trivial,?_⟩
  obtain ⟨⟨r6,r7⟩,hg,h⟩:=ob h
  refine wpS.only 7 (oH 30 hs (ref08_Sum.ok hg _ (rL 0 hs)) ?_)
  rintro ⟨r6_A,r6_n,r6_c⟩ w gw hs
  have hs:=hs.conv (L':=[.ownL CB r6_A r6_n r6_c r6 5,.ownL CB r5_A r5_n r5_c r5 5,.ownL CS s4_A s4_n s4_c ([(a1_A,a1_n,a1_c),(s3_A,s3_n,s3_c)]:List HS) 24,.ownL CB s3_A s3_n s3_c ([(iconv .u8 a0_0)]:List Int) 5,.blk b1 ([I8 a0_0,I8 a0_1,I8 a0_2,I8 a0_3,I8 a0_4]) 23]) rfl
  refine ⟨fun _=>trivial,?_⟩
  refine nq 8 [(22,.tuple #[.slice r6_A r6_n r6_c,I8 r7]),(31,.slice r6_A r6_n r6_c),(32,I8 r7),(7,.slice r6_A r6_n r6_c),(8,I8 r7)] (fj j10 s9 (xs fun _ s11=>?_))
  refine rg [3] (fun k=>True) 9 fun _ j12=>?_
  have hs:=hs.drawn1
  refine tgt 0 34 _ (yWs 5 23 hs 4 .grow) (gq 1 35 (.slice r6_A r6_n r6_c) ?_)
  have hs:=hs.freeze 0 rfl
  obtain ⟨h0,h1,h⟩:=oc2 h
  obtain ⟨h2,h⟩:=oc h
  obtain ⟨s8_A,hA⟩ : ∃ A,A=if r6_c=(0:Int).toNat then r6_A else adr r6_A ((0:Int).toNat*Cod.size CB):=⟨_,rfl⟩
  obtain ⟨s8_n,hn⟩ : ∃ n,n=(32:Int).toNat-(0:Int).toNat:=⟨_,rfl⟩
  obtain ⟨s8_c,hc⟩ : ∃ c,c=r6_c-(0:Int).toNat:=⟨_,rfl⟩
  refine tgf 2 36 (.slice s8_A s8_n s8_c) (ysb (C:=CB) 24 5 none (some (I8 32)) 0 32 (rR 0 hs) (.inl ⟨rfl,rfl⟩) (.inr ⟨_,rfl⟩) h0 h1 h2 hA hn hc) ?_
  have hs:=hs.addSub (C:=CB) 0 rfl h0 h1 h2 hA hn hc
  obtain ⟨⟨r9,r10⟩,hg,h⟩:=ob h
  refine wpG.only 3 (by kernel_rfl) (wpOp_call (d:=(some 37)) (by kernel_rfl) (fun _=>by kernel_rfl) (ref26_matrix_s.ok hg hs) ?_)
  rintro e w ⟨y11_A,y11_n,y11_c,y11_H,rfl,hs⟩
  refine ⟨_,rfl,?_⟩
  refine ⟨⟨fun hf=>absurd hf (by decide),.all _ _⟩,?_⟩
  refine gq 4 33 (.tuple #[.slice y11_A y11_n y11_c,I8 r10]) (gq 5 38 (.slice y11_A y11_n y11_c) (gq 6 39 (I8 r10) (gq 7 9 (.slice y11_A y11_n y11_c) (gq 8 10 (I8 r10) ?_))))
  refine gf (j12 _ _ (T s11 (xs fun _ s13=>(xs fun _ s14=>(xn 2 fun _ j15=>(qo 0 40 (I8 r10) ?_))))))
  obtain ⟨hc,h⟩|⟨hc,h⟩:=of_if h
  refine tb 1 41 (nf hc) ?_
  refine fj j15 s14 (cf (xk (T s13 (xs fun _ s16=>?_))))
  refine rg [] (fun k=>True) 9 fun _ j17=>?_
  have hs:=hs.drawn1
  refine gq 0 43 (P0 b1) (tgt 1 44 _ (yv hs 4 0 3 rfl (by rfl) .grow) (gq 2 45 (.pointer (some ⟨b1,1,none⟩)) (tgt 3 46 _ (yv hs 4 1 3 rfl (by rfl) .grow) (gq 4 47 (.slice r6_A r6_n r6_c) ?_))))
  obtain ⟨h0,h1,h⟩:=oc2 h
  obtain ⟨h2,h⟩:=oc h
  obtain ⟨s15_A,hA⟩ : ∃ A,A=if r6_c=(32:Int).toNat then r6_A else adr r6_A ((32:Int).toNat*Cod.size CB):=⟨_,rfl⟩
  obtain ⟨s15_n,hn⟩ : ∃ n,n=((r6.length:Int):Int).toNat-(32:Int).toNat:=⟨_,rfl⟩
  obtain ⟨s15_c,hc⟩ : ∃ c,c=r6_c-(32:Int).toNat:=⟨_,rfl⟩
  refine tgf 5 48 (.slice s15_A s15_n s15_c) (ysb (C:=CB) 24 5 (some (I8 32)) none 32 (r6.length:Int) (rR 2 hs) (.inr ⟨_,rfl⟩) (.inl ⟨rfl,rfl⟩) h0 h1 h2 hA hn hc) ?_
  have hs:=hs.addSub (C:=CB) 2 rfl h0 h1 h2 hA hn hc
  obtain ⟨r16,hg,h⟩:=ob h
  refine wpG.only 6 (by kernel_rfl) (oH 49 hs (ref26_row.ok hg _ (rR 0 hs)) ?_)
  rintro ⟨r16_A,r16_n,r16_c⟩ w gw hs
  have hs:=hs.conv (L':=[.ownL CZ r16_A r16_n r16_c r16 70,.ownL CS y11_A y11_n y11_c y11_H 66,.ownL CB r5_A r5_n r5_c r5 5,.ownL CS s4_A s4_n s4_c ([(a1_A,a1_n,a1_c),(s3_A,s3_n,s3_c)]:List HS) 24,.ownL CB s3_A s3_n s3_c ([(iconv .u8 a0_0)]:List Int) 5,.blk b1 ([I8 a0_0,I8 a0_1,I8 a0_2,I8 a0_3,I8 a0_4]) 23]) rfl
  refine ⟨.of gw,?_⟩
  obtain ⟨r17,hg,h⟩:=ob h
  refine wpG.only 7 (by kernel_rfl) (oH 50 hs (ref26_ntt.ok hg _ (rL 0 hs)) ?_)
  rintro ⟨r17_A,r17_n,r17_c⟩ w gw hs
  have hs:=hs.conv (L':=[.ownL CZ r17_A r17_n r17_c r17 70,.ownL CZ r16_A r16_n r16_c r16 70,.ownL CS y11_A y11_n y11_c y11_H 66,.ownL CB r5_A r5_n r5_c r5 5,.ownL CS s4_A s4_n s4_c ([(a1_A,a1_n,a1_c),(s3_A,s3_n,s3_c)]:List HS) 24,.ownL CB s3_A s3_n s3_c ([(iconv .u8 a0_0)]:List Int) 5,.blk b1 ([I8 a0_0,I8 a0_1,I8 a0_2,I8 a0_3,I8 a0_4]) 23]) rfl
  refine ⟨.of gw,?_⟩
  refine gq 8 11 (.slice r17_A r17_n r17_c) (gf (j17 _ _ (T s16 (xs fun _ s18=>?_))))
  refine rg [] (fun k=>True) 11 fun _ j19=>?_
  have hs:=hs.drawn1
  refine gq 0 51 (P0 b1) (tgt 1 52 _ (yv hs 6 0 3 rfl (by rfl) .grow) (gq 2 53 (.pointer (some ⟨b1,1,none⟩)) (tgt 3 54 _ (yv hs 6 1 3 rfl (by rfl) .grow) (gq 4 55 (.slice r6_A r6_n r6_c) ?_))))
  obtain ⟨h0,h1,h⟩:=oc2 h
  obtain ⟨h2,h⟩:=oc h
  obtain ⟨s18_A,hA⟩ : ∃ A,A=if r6_c=(32:Int).toNat then r6_A else adr r6_A ((32:Int).toNat*Cod.size CB):=⟨_,rfl⟩
  obtain ⟨s18_n,hn⟩ : ∃ n,n=((r6.length:Int):Int).toNat-(32:Int).toNat:=⟨_,rfl⟩
  obtain ⟨s18_c,hc⟩ : ∃ c,c=r6_c-(32:Int).toNat:=⟨_,rfl⟩
  refine tgf 5 56 (.slice s18_A s18_n s18_c) (ysb (C:=CB) 24 5 (some (I8 32)) none 32 (r6.length:Int) (rR 3 hs) (.inr ⟨_,rfl⟩) (.inl ⟨rfl,rfl⟩) h0 h1 h2 hA hn hc) ?_
  have hs:=hs.addSub (C:=CB) 3 rfl h0 h1 h2 hA hn hc
  refine gq 6 57 (P0 b1) (tgt 7 58 _ (yv hs 6 0 3 rfl (by rfl) .grow) ?_)
  obtain ⟨r19,hg,h⟩:=ob h
  refine wpG.only 8 (by kernel_rfl) (oH 59 hs (ref26_row.ok hg _ (rR 0 hs)) ?_)
  rintro ⟨r19_A,r19_n,r19_c⟩ w gw hs
  have hs:=hs.conv (L':=[.ownL CZ r19_A r19_n r19_c r19 70,.ownL CZ r17_A r17_n r17_c r17 70,.ownL CZ r16_A r16_n r16_c r16 70,.ownL CS y11_A y11_n y11_c y11_H 66,.ownL CB r5_A r5_n r5_c r5 5,.ownL CS s4_A s4_n s4_c ([(a1_A,a1_n,a1_c),(s3_A,s3_n,s3_c)]:List HS) 24,.ownL CB s3_A s3_n s3_c ([(iconv .u8 a0_0)]:List Int) 5,.blk b1 ([I8 a0_0,I8 a0_1,I8 a0_2,I8 a0_3,I8 a0_4]) 23]) rfl
  refine ⟨.of gw,?_⟩
  obtain ⟨r20,hg,h⟩:=ob h
  refine wpG.only 9 (by kernel_rfl) (oH 60 hs (ref26_ntt.ok hg _ (rL 0 hs)) ?_)
  rintro ⟨r20_A,r20_n,r20_c⟩ w gw hs
  have hs:=hs.conv (L':=[.ownL CZ r20_A r20_n r20_c r20 70,.ownL CZ r19_A r19_n r19_c r19 70,.ownL CZ r17_A r17_n r17_c r17 70,.ownL CZ r16_A r16_n r16_c r16 70,.ownL CS y11_A y11_n y11_c y11_H 66,.ownL CB r5_A r5_n r5_c r5 5,.ownL CS s4_A s4_n s4_c ([(a1_A,a1_n,a1_c),(s3_A,s3_n,s3_c)]:List HS) 24,.ownL CB s3_A s3_n s3_c ([(iconv .u8 a0_0)]:List Int) 5,.blk b1 ([I8 a0_0,I8 a0_1,I8 a0_2,I8 a0_3,I8 a0_4]) 23]) rfl
  refine ⟨.of gw,?_⟩
  refine gq 10 12 (.slice r20_A r20_n r20_c) (gf (j19 _ _ (T s18 (xs fun _ s20=>(xn 1 fun _ j21=>(qo 0 13 (.slice none 0 0) (fj j21 s20 (xs fun _ s22=>(xn 1 fun _ j23=>?_)))))))))
  refine qo 0 14 (.slice none 0 0) (fj j23 s22 (xs fun _ s24=>(xs fun _ s25=>(xn 1 fun _ j26=>(qo 0 15 (I8 0) (fj j26 s25 (?_)))))))
  have hs:=hs.addNilL CB 5
  have hs:=hs.addNilL CB 5
  obtain ⟨⟨y24,y25⟩,hy,hk0⟩:=ob h
  refine wp_exq (N:=fun a w=>∃ y24_A y24_n y24_c y25_A y25_n y25_c,St w0 [] [.ownL CB y24_A y24_n y24_c y24 5,.ownL CB y25_A y25_n y25_c y25 5,.ownL CZ r20_A r20_n r20_c r20 70,.ownL CZ r19_A r19_n r19_c r19 70,.ownL CZ r17_A r17_n r17_c r17 70,.ownL CZ r16_A r16_n r16_c r16 70,.ownL CS y11_A y11_n y11_c y11_H 66,.ownL CB r5_A r5_n r5_c r5 5,.ownL CS s4_A s4_n s4_c ([(a1_A,a1_n,a1_c),(s3_A,s3_n,s3_c)]:List HS) 24,.ownL CB s3_A s3_n s3_c ([(iconv .u8 a0_0)]:List Int) 5,.blk b1 ([I8 a0_0,I8 a0_1,I8 a0_2,I8 a0_3,I8 a0_4]) 23] [.rowL CB s18_A s18_n s18_c (subL r6 32 (r6.length:Int)),.rowL CB s15_A s15_n s15_c (subL r6 32 (r6.length:Int)),.inn CZ y11_H r9,.rowL CB s8_A s8_n s8_c (subL r6 0 32),.rowL CB r6_A r6_n r6_c r6,.rowL CB a1_A a1_n a1_c a1] w∧∃ g28,a=fr g28 93 [(4,[.slice none 0 0,.slice none 0 0,I8 0,.slice r6_A r6_n r6_c]),(13,[.slice y25_A y25_n y25_c,.slice y24_A y24_n y24_c])]) (fun N0 nn0=>?_) ?_
  clear hk0
  refine xb ?_
  refine wp_loop_k (fun n a w=>∃ z21 z22 z23,∃ z22_A z22_n z22_c z23_A z23_n z23_c,ref26_Keys.l0 K n a0_0 r9 r17 r20 z21 z22 z23=some (y24,y25)∧St w0 [] [.ownL CB z22_A z22_n z22_c z22 5,.ownL CB z23_A z23_n z23_c z23 5,.ownL CZ r20_A r20_n r20_c r20 70,.ownL CZ r19_A r19_n r19_c r19 70,.ownL CZ r17_A r17_n r17_c r17 70,.ownL CZ r16_A r16_n r16_c r16 70,.ownL CS y11_A y11_n y11_c y11_H 66,.ownL CB r5_A r5_n r5_c r5 5,.ownL CS s4_A s4_n s4_c ([(a1_A,a1_n,a1_c),(s3_A,s3_n,s3_c)]:List HS) 24,.ownL CB s3_A s3_n s3_c ([(iconv .u8 a0_0)]:List Int) 5,.blk b1 ([I8 a0_0,I8 a0_1,I8 a0_2,I8 a0_3,I8 a0_4]) 23] [.rowL CB s18_A s18_n s18_c (subL r6 32 (r6.length:Int)),.rowL CB s15_A s15_n s15_c (subL r6 32 (r6.length:Int)),.inn CZ y11_H r9,.rowL CB s8_A s8_n s8_c (subL r6 0 32),.rowL CB r6_A r6_n r6_c r6,.rowL CB a1_A a1_n a1_c a1] w∧∃ g27,a=fr g27 93 [(2,[P0 b1]),(4,[.slice none 0 0,.slice none 0 0,I8 0,.slice r6_A r6_n r6_c]),(9,[.slice y11_A y11_n y11_c]),(11,[.slice r17_A r17_n r17_c,.slice r20_A r20_n r20_c,.slice z23_A z23_n z23_c,.slice z22_A z22_n z22_c,I8 z21])]) K ⟨0,([]:List Int),([]:List Int),none,0,0,none,0,0,hy,hs.conv rfl,eg⟩ ?_
  clear hs h hy
  rintro n a w ⟨z21,z22,z23,z22_A,z22_n,z22_c,z23_A,z23_n,z23_c,h,hs,g27,rfl⟩ KL0 kl0
  cases n with
  | zero=>exact nomatch (show none=some _ from h)
  | succ n=>
   refine xs fun _ s29=>(xs fun _ s30=>(xn 4 fun _ j31=>(nq 0 [(61,I8 z21),(62,P0 b1)] (tkt 2 63 _ (yv hs 10 0 3 rfl (by rfl) .grow) ?_))))
   obtain ⟨hc,h⟩|⟨hc,h⟩:=of_if h
   refine tb 3 64 (dt hc) ?_
   refine fj j31 s30 (ct (xk (T s29 (xs fun _ s32=>(xb (xs fun _ s33=>?_))))))
   refine rg [13] (fun k=>True) 15 fun _ j34=>?_
   have hs:=hs.drawn1
   refine gq 0 67 (.slice z23_A z23_n z23_c) (gq 1 68 (.slice y11_A y11_n y11_c) (gq 2 69 (I8 z21) ?_))
   obtain ⟨h0,h1,h⟩:=oc2 h
   have i0_35:=h0
   have i1_35:=h1
   refine tgf 3 70 (PA CS y11_A z21) (yiLL (C:=CZ) 78 66 .i64 z21 (LLP.mk (rL 6 hs) (hs.innR 2 rfl)) h0 h1) ?_
   obtain ⟨s26_A,hA⟩ : ∃ A,A=(rdL CS y11_H z21).1:=⟨_,rfl⟩
   obtain ⟨s26_n,hn⟩ : ∃ n,n=(rdL CS y11_H z21).2.1:=⟨_,rfl⟩
   obtain ⟨s26_c,hc⟩ : ∃ c,c=(rdL CS y11_H z21).2.2:=⟨_,rfl⟩
   refine wpG.take [4,6,11,12,13,14] 4 true (some 71) (.slice s26_A s26_n s26_c) (by kernel_rfl) (by kernel_rfl) (by subst hA hn hc; exact yLL (C:=CZ) 66 z21 (LLP.mk (rL 6 hs) (hs.innR 2 rfl)) i0_35 i1_35) ?_
   have hs:=hs.addInnI (C:=CZ) 2 rfl i0_35 i1_35 hA hn hc
   refine gq 5 72 (.slice r17_A r17_n r17_c) (gq 7 74 (.slice r20_A r20_n r20_c) (gq 8 75 (I8 z21) ?_))
   obtain ⟨h0,h1,h⟩:=oc2 h
   have i0_36:=h0
   have i1_36:=h1
   refine tgf 9 76 (PA CZ r20_A z21) (yiL (C:=CZ) 66 70 .i64 z21 (rL 2 hs) h0 h1) ?_
   refine wpG.take [10,11,12,13,14] 10 true (some 77) (ag .i32 (rdL CZ r20 z21)) (by kernel_rfl) (by kernel_rfl) (yLA (C:=CZ) 70 z21 (rL 2 hs) rfl i0_36 i1_36) ?_
   obtain ⟨r27,hg,h⟩:=ob h
   refine go 6 (oC 73 hs (ref26_dot.ok hg _ (rR 0 hs) (rL 4 hs)) fun w gw hs=>⟨.of gw,?_⟩)
   obtain ⟨r28,hg,h⟩:=ob h
   refine go 11 (oC 78 hs (ref25_Add.ok hg _) fun w gw hs=>⟨.of gw,?_⟩)
   obtain ⟨r29,hg,h⟩:=ob h
   refine wpG.only 12 (by kernel_rfl) (oH 79 hs (ref25_Pack.ok hg _) ?_)
   rintro ⟨r29_A,r29_n,r29_c⟩ w gw hs
   have hs:=hs.conv (L':=[.ownL CB r29_A r29_n r29_c r29 5,.ownL CB z22_A z22_n z22_c z22 5,.ownL CB z23_A z23_n z23_c z23 5,.ownL CZ r20_A r20_n r20_c r20 70,.ownL CZ r19_A r19_n r19_c r19 70,.ownL CZ r17_A r17_n r17_c r17 70,.ownL CZ r16_A r16_n r16_c r16 70,.ownL CS y11_A y11_n y11_c y11_H 66,.ownL CB r5_A r5_n r5_c r5 5,.ownL CS s4_A s4_n s4_c ([(a1_A,a1_n,a1_c),(s3_A,s3_n,s3_c)]:List HS) 24,.ownL CB s3_A s3_n s3_c ([(iconv .u8 a0_0)]:List Int) 5,.blk b1 ([I8 a0_0,I8 a0_1,I8 a0_2,I8 a0_3,I8 a0_4]) 23]) rfl
   refine ⟨.of gw,?_⟩
   obtain ⟨h0,h⟩:=oc h
   refine go 13 (oAp (C:=CB) 80 24 24 5 1 140737488355328 hs 2 rfl (rL 0 hs) h0 (by decide) (by decide) fun s30_A s30_n s30_c w hs=>⟨⟨fun hf=>absurd hf (by decide),.all _ _⟩,?_⟩)
   refine gq 14 13 (.slice s30_A s30_n s30_c) (gf (j34 _ _ (T s33 (xn 8 fun _ j37=>(nq 0 [(81,.slice z22_A z22_n z22_c),(82,.slice r17_A r17_n r17_c),(83,I8 z21)] ?_)))))
   obtain ⟨h0,h1,h⟩:=oc2 h
   have i0_38:=h0
   have i1_38:=h1
   refine tkf 3 84 (PA CZ r17_A z21) (yiL (C:=CZ) 66 70 .i64 z21 (rL 5 hs) h0 h1) (tkt 4 85 _ (yLA (C:=CZ) 70 z21 (rL 5 hs) rfl i0_38 i1_38) ?_)
   obtain ⟨r31,hg,h⟩:=ob h
   refine wpS.only 5 (oH 86 hs (ref25_Pack.ok hg _) ?_)
   rintro ⟨r31_A,r31_n,r31_c⟩ w gw hs
   have hs:=hs.conv (L':=[.ownL CB r31_A r31_n r31_c r31 5,.ownL CB r29_A r29_n r29_c r29 5,.ownL CB z22_A z22_n z22_c z22 5,.ownL CB s30_A s30_n s30_c (z23++r29) 5,.ownL CZ r20_A r20_n r20_c r20 70,.ownL CZ r19_A r19_n r19_c r19 70,.ownL CZ r17_A r17_n r17_c r17 70,.ownL CZ r16_A r16_n r16_c r16 70,.ownL CS y11_A y11_n y11_c y11_H 66,.ownL CB r5_A r5_n r5_c r5 5,.ownL CS s4_A s4_n s4_c ([(a1_A,a1_n,a1_c),(s3_A,s3_n,s3_c)]:List HS) 24,.ownL CB s3_A s3_n s3_c ([(iconv .u8 a0_0)]:List Int) 5,.blk b1 ([I8 a0_0,I8 a0_1,I8 a0_2,I8 a0_3,I8 a0_4]) 23]) rfl
   refine ⟨fun _=>trivial,?_⟩
   obtain ⟨h0,h⟩:=oc h
   refine so 6 (oAp (C:=CB) 87 24 24 5 1 140737488355328 hs 2 rfl (rL 0 hs) h0 (by decide) (by decide) fun s32_A s32_n s32_c w hs=>?_)
   refine qo 7 14 (.slice s32_A s32_n s32_c) (fin (j37 _ _ (iN (T s32 (xn 3 fun _ j39=>(nq 0 [(65,I8 z21),(66,I8 (iadd .i64 z21 1))] ?_))))))
   obtain ⟨x33,hx,h⟩:=ob h
   refine tkf 2 15 (I8 x33) (yn hx) (fin (j39 _ _ ?_))
   exact tn (kl0 _ _ ⟨n,ls n,x33,(z22++r31),(z23++r29),s32_A,s32_n,s32_c,s30_A,s30_n,s30_c,h,(pk [1,2,3,4,5,6] (dr [0,0,1,1,1,1,1,1,1,1,1,1,1] hs)),eg⟩)
   refine tb 3 64 (df hc) (fj j31 s30 (cf (xexit (tx (tx (iH ?_))))))
   obtain ⟨rfl,rfl⟩:=os2 h
   exact exq_n (nn0 _ _ ⟨z22_A,z22_n,z22_c,z23_A,z23_n,z23_c,(hs.conv rfl),eg⟩)
  clear hs h hy
  rintro a w ⟨y24_A,y24_n,y24_c,y25_A,y25_n,y25_c,hs,g28,rfl⟩
  have h:=hk0
  refine T s24 (xs fun _ s40=>(xn 8 fun _ j41=>(nq 0 [(88,.slice y25_A y25_n y25_c),(89,.slice r6_A r6_n r6_c)] ?_)))
  obtain ⟨h0,h1,h⟩:=oc2 h
  obtain ⟨h2,h⟩:=oc h
  obtain ⟨s34_A,hA⟩ : ∃ A,A=if r6_c=(0:Int).toNat then r6_A else adr r6_A ((0:Int).toNat*Cod.size CB):=⟨_,rfl⟩
  obtain ⟨s34_n,hn⟩ : ∃ n,n=(32:Int).toNat-(0:Int).toNat:=⟨_,rfl⟩
  obtain ⟨s34_c,hc⟩ : ∃ c,c=r6_c-(0:Int).toNat:=⟨_,rfl⟩
  refine tkf 2 90 (.slice s34_A s34_n s34_c) (ysb (C:=CB) 24 5 none (some (I8 32)) 0 32 (rR 4 hs) (.inl ⟨rfl,rfl⟩) (.inr ⟨_,rfl⟩) h0 h1 h2 hA hn hc) ?_
  have hs:=hs.addSub (C:=CB) 4 rfl h0 h1 h2 hA hn hc
  obtain ⟨h0,h⟩:=oc h
  refine so 3 (oAp (C:=CB) 91 24 24 5 1 140737488355328 hs 1 rfl (rR 0 hs) h0 (by decide) (by decide) fun s35_A s35_n s35_c w hs=>?_)
  refine nq 4 [(92,.slice y24_A y24_n y24_c),(4,.slice s35_A s35_n s35_c),(5,.slice y24_A y24_n y24_c),(6,I8 0)] (fj j41 s40 (xret ?_))
  obtain ⟨rfl,rfl,rfl⟩:=os3 h
  have hs:=hs.front 1 rfl
  try dsimp only [List.eraseIdx] at hs
  exact qq _ _ (pt [4,5,6] [.slice s35_A s35_n s35_c,.slice y24_A y24_n y24_c,I8 0] ⟨⟨⟨s35_A,s35_n,s35_c⟩,⟨y24_A,y24_n,y24_c⟩⟩,cr,(pz (dr [1,1,0,0,0,0,0,0,0,0,0] hs))⟩)
  refine tb 1 41 (nt hc) (fj j15 s14 (ct (xs fun _ s42=>(xn 4 fun _ j43=>(nq 0 [(42,I8 r10),(4,.slice none 0 0),(5,.slice none 0 0),(6,I8 r10)] (fj j43 s42 (xret (tr ?_))))))))
  obtain ⟨rfl,rfl,rfl⟩:=os3 h
  have hs:=hs.addNilL CB 5
  have hs:=hs.addNilL CB 5
  exact qq _ _ (pt [4,5,6] [.slice none 0 0,.slice none 0 0,I8 r10] ⟨⟨⟨none,0,0⟩,⟨none,0,0⟩⟩,cr,(pz (dr [1,1,0,0,0,0,0] hs))⟩)
  refine tb 2 21 (nt hc) (fj j8 s7 (ct (xs fun _ s44=>(xn 3 fun _ j45=>(nq 0 [(4,.slice none 0 0),(5,.slice none 0 0),(6,I8 14)] (fj j45 s44 (xret (tr ?_))))))))
  obtain ⟨rfl,rfl,rfl⟩:=os3 h
  have hs:=hs.addNilL CB 5
  have hs:=hs.addNilL CB 5
  exact qq _ _ (pt [4,5,6] [.slice none 0 0,.slice none 0 0,I8 14] ⟨⟨⟨none,0,0⟩,⟨none,0,0⟩⟩,cr,(pz (dr [1,1,0] hs))⟩)
 | false=>
  have h:=of_if_f h
  refine so 1 (oC 17 hs (ref26_Known.ok hg _) fun w gw hs=>?_)
  refine qo 2 18 (.bool true) (fj j5 s4 (ct (xs fun _ s46=>(xn 3 fun _ j47=>(nq 0 [(4,.slice none 0 0),(5,.slice none 0 0),(6,I8 9)] (fj j47 s46 (xret (tr ?_))))))))
  obtain ⟨rfl,rfl,rfl⟩:=os3 h
  have hs:=hs.addNilL CB 5
  have hs:=hs.addNilL CB 5
  exact qq _ _ (pt [4,5,6] [.slice none 0 0,.slice none 0 0,I8 9] ⟨⟨⟨none,0,0⟩,⟨none,0,0⟩⟩,cr,(pz (dr [1,1,0] hs))⟩)
theorem ref27_Keys.ok {K:Nat}{a0_0 a0_1 a0_2 a0_3 a0_4:Int}{a1 a2 r0 r1:List Int}{r2:Int}{a1_A:Option Addr}{a1_n a1_c:Nat}{a2_A:Option Addr}{a2_n a2_c:Nat}(h:ref27_Keys.f K a0_0 a0_1 a0_2 a0_3 a0_4 a1 a2=some (r0,r1,r2)) (w0:World) (hp1:RowL CB w0 a1_A a1_n a1_c a1) (hp2:RowL CB w0 a2_A a2_n a2_c a2):Calls Tryz.prog 14 #[.agg #[I8 a0_0,I8 a0_1,I8 a0_2,I8 a0_3,I8 a0_4],.slice a1_A a1_n a1_c,.slice a2_A a2_n a2_c] w0 fun e w'=>∃ h:(Option Addr × Nat × Nat) × (Option Addr × Nat × Nat),e = .returned (.tuple #[.slice h.1.1 h.1.2.1 h.1.2.2,.slice h.2.1 h.2.2.1 h.2.2.2,I8 r2])∧St w0 [] [.ownL CB h.1.1 h.1.2.1 h.1.2.2 r0 5,.ownL CB h.2.1 h.2.2.1 h.2.2.2 r1 5] [] w':=by
 refine calls_k Tryz.func14 rfl fun Q qq=>?_
 have hs:=St.startR (all_cons (RowP.ent hp1) (all_cons (RowP.ent hp2) all_nil))
 refine wc (a':=(fu 38 [.agg #[I8 a0_0,I8 a0_1,I8 a0_2,I8 a0_3,I8 a0_4],.slice a1_A a1_n a1_c,.slice a2_A a2_n a2_c])) (xs fun _ s1=>(xn 4 fun _ j2=>(so 0 (oBa 3 23 hs [I8 a0_0,I8 a0_1,I8 a0_2,I8 a0_3,I8 a0_4] fun b1 w gw hs=>(nq 1 [(6,.slice none 0 0),(7,.slice none 0 0),(8,I8 0)] ?_)))))
 refine fj j2 s1 (xs fun _ s3=>(xs fun _ s4=>(xn 3 fun _ j5=>(tkt 0 12 _ (yWs 5 23 hs 0 .grow) ?_))))
 obtain ⟨r2,hg,h⟩:=ob h
 cases r2 with
 | true=>
  have h:=of_if_t h
  refine so 1 (oC 13 hs (ref26_Known.ok hg _) fun w gw hs=>?_)
  refine qo 2 14 (.bool false) (fj j5 s4 (cf (xk (T s3 (xs fun _ s6=>(xs fun _ s7=>(xn 8 fun _ j8=>(qo 0 15 (.slice a1_A a1_n a1_c) (tkf 1 16 (I8 (a1.length:Int)) (yl (rR 0 hs)) ?_)))))))))
  obtain ⟨hc,h⟩|⟨hc,h⟩:=of_if h
  refine tb 2 17 (nf hc) ?_
  refine nq 3 [(18,.bool false),(19,.slice a2_A a2_n a2_c)] (tkf 5 20 (I8 (a2.length:Int)) (yl (rR 1 hs)) ?_)
  obtain ⟨hc,h⟩|⟨hc,h⟩:=of_if h
  refine tb 6 21 (nf hc) ?_
  refine qo 7 22 (.bool false) (fj j8 s7 (cf (xk (T s6 (xs fun _ s9=>(xn 10 fun _ j10=>(tkt 0 24 _ (yWs 5 23 hs 0 .grow) (qo 1 25 (.slice a1_A a1_n a1_c) ?_))))))))
  obtain ⟨⟨r3,r4,r5⟩,hg,h⟩:=ob h
  refine wpS.only 2 (oH 26 hs (ref26_Keys.ok hg _ (rR 0 hs)) ?_)
  rintro ⟨⟨r3_A,r3_n,r3_c⟩,⟨r4_A,r4_n,r4_c⟩⟩ w gw hs
  have hs:=hs.conv (L':=[.ownL CB r3_A r3_n r3_c r3 5,.ownL CB r4_A r4_n r4_c r4 5,.blk b1 ([I8 a0_0,I8 a0_1,I8 a0_2,I8 a0_3,I8 a0_4]) 23]) rfl
  refine ⟨fun _=>trivial,?_⟩
  refine nq 3 [(23,.tuple #[.slice r3_A r3_n r3_c,.slice r4_A r4_n r4_c,I8 r5]),(27,.slice r3_A r3_n r3_c),(28,.slice r4_A r4_n r4_c),(29,I8 r5),(9,.slice r3_A r3_n r3_c),(10,.slice r4_A r4_n r4_c),(11,I8 r5)] (fj j10 s9 (xs fun _ s11=>(xs fun _ s12=>(xn 2 fun _ j13=>(qo 0 30 (I8 r5) ?_)))))
  obtain ⟨hc,h⟩|⟨hc,h⟩:=of_if h
  refine tb 1 31 (nf hc) ?_
  refine fj j13 s12 (cf (xk (T s11 (xs fun _ s14=>(xn 11 fun _ j15=>(nq 0 [(33,.slice r3_A r3_n r3_c),(34,.slice r4_A r4_n r4_c),(35,.slice r3_A r3_n r3_c),(36,.slice r3_A r3_n r3_c)] ?_))))))
  obtain ⟨r6,hg,h⟩:=ob h
  refine wpS.only 4 (oH 37 hs (ref27_h.ok hg _ (rL 0 hs)) ?_)
  rintro ⟨r6_A,r6_n,r6_c⟩ w gw hs
  have hs:=hs.conv (L':=[.ownL CB r6_A r6_n r6_c r6 5,.ownL CB r3_A r3_n r3_c r3 5,.ownL CB r4_A r4_n r4_c r4 5,.blk b1 ([I8 a0_0,I8 a0_1,I8 a0_2,I8 a0_3,I8 a0_4]) 23]) rfl
  refine ⟨fun _=>trivial,?_⟩
  refine qo 5 38 (.slice a2_A a2_n a2_c) (so 6 (oLt (C:=CS) 39 57 24 4 (.slice none 0 0) #[(0,.slice r4_A r4_n r4_c),(1,.slice r3_A r3_n r3_c),(2,.slice r6_A r6_n r6_c),(3,.slice a2_A a2_n a2_c)] ([(r4_A,r4_n,r4_c),(r3_A,r3_n,r3_c),(r6_A,r6_n,r6_c),(a2_A,a2_n,a2_c)]:List HS) hs rfl (by decide) (by decide) fun s7_A s7_n s7_c w gw hs=>?_))
  obtain ⟨r8,hg,h⟩:=ob h
  refine wpS.only 7 (oH 40 hs (ref01_Join.ok hg _ (LLP.mk (rL 0 hs) (inn_cons (rL 3 hs) (inn_cons (rL 2 hs) (inn_cons (rL 1 hs) (inn_cons (rR 1 hs) inn_nil)))))) ?_)
  rintro ⟨r8_A,r8_n,r8_c⟩ w gw hs
  have hs:=hs.conv (L':=[.ownL CB r8_A r8_n r8_c r8 5,.ownL CS s7_A s7_n s7_c ([(r4_A,r4_n,r4_c),(r3_A,r3_n,r3_c),(r6_A,r6_n,r6_c),(a2_A,a2_n,a2_c)]:List HS) 24,.ownL CB r6_A r6_n r6_c r6 5,.ownL CB r3_A r3_n r3_c r3 5,.ownL CB r4_A r4_n r4_c r4 5,.blk b1 ([I8 a0_0,I8 a0_1,I8 a0_2,I8 a0_3,I8 a0_4]) 23]) rfl
  refine ⟨fun _=>trivial,?_⟩
  refine nq 8 [(6,.slice r3_A r3_n r3_c),(7,.slice r8_A r8_n r8_c),(8,I8 0)] (fj j15 s14 (xret ?_))
  obtain ⟨rfl,rfl,rfl⟩:=os3 h
  have hs:=hs.front 3 rfl
  try dsimp only [List.eraseIdx] at hs
  exact qq _ _ (pt [6,7,8] [.slice r3_A r3_n r3_c,.slice r8_A r8_n r8_c,I8 0] ⟨⟨⟨r3_A,r3_n,r3_c⟩,⟨r8_A,r8_n,r8_c⟩⟩,cr,(pz (dr [1,1,0,0,0,0] hs))⟩)
  refine tb 1 31 (nt hc) (fj j13 s12 (ct (xs fun _ s16=>(xn 4 fun _ j17=>(nq 0 [(32,I8 r5),(6,.slice none 0 0),(7,.slice none 0 0),(8,I8 r5)] (fj j17 s16 (xret (tr ?_))))))))
  obtain ⟨rfl,rfl,rfl⟩:=os3 h
  have hs:=hs.addNilL CB 5
  have hs:=hs.addNilL CB 5
  exact qq _ _ (pt [6,7,8] [.slice none 0 0,.slice none 0 0,I8 r5] ⟨⟨⟨none,0,0⟩,⟨none,0,0⟩⟩,cr,(pz (dr [1,1,0,0,0] hs))⟩)
  refine tb 6 21 (nt hc) (qo 7 22 (.bool true) (fj j8 s7 (ct (xs fun _ s18=>(xn 3 fun _ j19=>(nq 0 [(6,.slice none 0 0),(7,.slice none 0 0),(8,I8 14)] (fj j19 s18 (xret (tr ?_)))))))))
  obtain ⟨rfl,rfl,rfl⟩:=os3 h
  have hs:=hs.addNilL CB 5
  have hs:=hs.addNilL CB 5
  exact qq _ _ (pt [6,7,8] [.slice none 0 0,.slice none 0 0,I8 14] ⟨⟨⟨none,0,0⟩,⟨none,0,0⟩⟩,cr,(pz (dr [1,1,0] hs))⟩)
  refine tb 2 17 (nt hc) (nq 3 [(18,.bool true),(19,undef),(20,undef),(21,undef),(22,.bool true)] (fj j8 s7 (ct (xs fun _ s20=>(xn 3 fun _ j21=>(nq 0 [(6,.slice none 0 0),(7,.slice none 0 0),(8,I8 14)] (fj j21 s20 (xret (tr ?_)))))))))
  obtain ⟨rfl,rfl,rfl⟩:=os3 h
  have hs:=hs.addNilL CB 5
  have hs:=hs.addNilL CB 5
  exact qq _ _ (pt [6,7,8] [.slice none 0 0,.slice none 0 0,I8 14] ⟨⟨⟨none,0,0⟩,⟨none,0,0⟩⟩,cr,(pz (dr [1,1,0] hs))⟩)
 | false=>
  have h:=of_if_f h
  refine so 1 (oC 13 hs (ref26_Known.ok hg _) fun w gw hs=>?_)
  refine qo 2 14 (.bool true) (fj j5 s4 (ct (xs fun _ s22=>(xn 3 fun _ j23=>(nq 0 [(6,.slice none 0 0),(7,.slice none 0 0),(8,I8 9)] (fj j23 s22 (xret (tr ?_))))))))
  obtain ⟨rfl,rfl,rfl⟩:=os3 h
  have hs:=hs.addNilL CB 5
  have hs:=hs.addNilL CB 5
  exact qq _ _ (pt [6,7,8] [.slice none 0 0,.slice none 0 0,I8 9] ⟨⟨⟨none,0,0⟩,⟨none,0,0⟩⟩,cr,(pz (dr [1,1,0] hs))⟩)
theorem kem_Seal.ok {K:Nat}{a0_0 a0_1 a0_2 a0_3 a0_4:Int}{a1 a2 r0 r1:List Int}{r2:Int}{a1_A:Option Addr}{a1_n a1_c:Nat}{a2_A:Option Addr}{a2_n a2_c:Nat}(h:kem_Seal.f K a0_0 a0_1 a0_2 a0_3 a0_4 a1 a2=some (r0,r1,r2)) (w0:World) (hp1:RowL CB w0 a1_A a1_n a1_c a1) (hp2:RowL CB w0 a2_A a2_n a2_c a2) (hg0:RowL CW w0 (some ⟨0,0,none⟩) 1 1 [tab_0]) (hg1:RowL CV w0 (some ⟨1,0,none⟩) 1 1 [tab_1]) (hg2:RowL CV w0 (some ⟨2,0,none⟩) 1 1 [tab_2]):Calls Tryz.prog 15 #[.agg #[I8 a0_0,I8 a0_1,I8 a0_2,I8 a0_3,I8 a0_4],.slice a1_A a1_n a1_c,.slice a2_A a2_n a2_c] w0 fun e w'=>∃ h:(Option Addr × Nat × Nat) × (Option Addr × Nat × Nat),e = .returned (.tuple #[.slice h.1.1 h.1.2.1 h.1.2.2,.slice h.2.1 h.2.2.1 h.2.2.2,I8 r2])∧St w0 [] [.rowL CB h.1.1 h.1.2.1 h.1.2.2 r0,.ownL CB h.2.1 h.2.2.1 h.2.2.2 r1 5] [] w':=by
 refine calls_k Tryz.func15 rfl fun Q qq=>?_
 have hs:=St.startR (all_cons (RowP.ent hp1) (all_cons (RowP.ent hp2) (all_cons (RowP.ent hg0) (all_cons (RowP.ent hg1) (all_cons (RowP.ent hg2) all_nil)))))
 refine wc (a':=(fu 48 [.agg #[I8 a0_0,I8 a0_1,I8 a0_2,I8 a0_3,I8 a0_4],.slice a1_A a1_n a1_c,.slice a2_A a2_n a2_c])) (xs fun _ s1=>(xn 4 fun _ j2=>(so 0 (oBa 3 23 hs [I8 a0_0,I8 a0_1,I8 a0_2,I8 a0_3,I8 a0_4] fun b1 w gw hs=>(nq 1 [(6,.slice none 0 0),(7,.slice none 0 0),(8,I8 0)] ?_)))))
 refine fj j2 s1 (xs fun _ s3=>(xs fun _ s4=>(xn 9 fun _ j5=>(tkt 0 14 _ (yWs 5 23 hs 0 .grow) ?_))))
 obtain ⟨⟨r2,r3,r4⟩,hg,h⟩:=ob h
 refine so 1 (oC 15 hs (kem_Sizes.ok hg _) fun w gw hs=>?_)
 refine nq 2 [(13,.tuple #[I8 r2,I8 r3,I8 r4]),(16,I8 r2),(17,I8 r3),(18,I8 r4),(9,I8 r2),(10,I8 r3),(11,I8 r4)] (fj j5 s4 (xb (xs fun _ s6=>(xn 3 fun _ j7=>(qo 0 20 (I8 r2) ?_)))))
 obtain ⟨hc,h⟩|⟨hc,h⟩:=of_if h
 refine tb 1 21 (et hc) ?_
 refine qo 2 19 (.bool true) (fj j7 s6 (ct (xs fun _ s8=>(xn 3 fun _ j9=>(nq 0 [(6,.slice none 0 0),(7,.slice none 0 0),(8,I8 9)] (fj j9 s8 (xret (iR (tr ?_)))))))))
 obtain ⟨rfl,rfl,rfl⟩:=os3 h
 have hs:=hs.addNilL CB 5
 have hs:=hs.addNilR CB
 exact qq _ _ (pt [6,7,8] [.slice none 0 0,.slice none 0 0,I8 9] ⟨⟨⟨none,0,0⟩,⟨none,0,0⟩⟩,cr,(pz (dr [1,1,0] hs))⟩)
 refine tb 1 21 (ef hc) (qo 2 19 (.bool false) (fj j7 s6 (cf (xs fun _ s10=>(xn 5 fun _ j11=>(tkt 0 23 _ (yWs 5 23 hs 0 .grow) (qo 1 24 (.slice a1_A a1_n a1_c) ?_)))))))
 obtain ⟨r5,hg,h⟩:=ob h
 cases r5 with
 | true=>
  have h:=of_if_t h
  refine so 2 (oC 25 hs (kem_good.ok hg _ (rR 0 hs) (rR 2 hs) (rR 3 hs) (rR 4 hs)) fun w gw hs=>?_)
  refine nq 3 [(26,.bool false),(22,.bool false)] (fj j11 s10 (cf (xs fun _ s12=>(xn 4 fun _ j13=>(qo 0 28 (.slice a2_A a2_n a2_c) (tkf 1 29 (I8 (a2.length:Int)) (yl (rR 1 hs)) ?_))))))
  obtain ⟨hc,h⟩|⟨hc,h⟩:=of_if h
  refine tb 2 30 (nf hc) ?_
  refine qo 3 27 (.bool false) (fj j13 s12 (cf (xk (iN (T s3 (xs fun _ s14=>(xn 9 fun _ j15=>(nq 0 [(32,.slice a2_A a2_n a2_c),(33,.slice a1_A a1_n a1_c)] ?_))))))))
  obtain ⟨r6,hg,h⟩:=ob h
  refine wpS.only 2 (oH 34 hs (kem_digest.ok hg _ (rR 0 hs) (rR 2 hs) (rR 3 hs) (rR 4 hs)) ?_)
  rintro ⟨r6_A,r6_n,r6_c⟩ w gw hs
  have hs:=hs.conv (L':=[.ownL CB r6_A r6_n r6_c r6 5,.blk b1 ([I8 a0_0,I8 a0_1,I8 a0_2,I8 a0_3,I8 a0_4]) 23]) rfl
  refine ⟨fun _=>trivial,?_⟩
  refine wpS.only 3 (op_inline (d:=(some 35)) (f:=35) (args:=#[.slice a2_A a2_n a2_c,.slice r6_A r6_n r6_c]) (by kernel_rfl) (fun _=>by kernel_rfl) fun R16 kI16=>?_)
  refine calls_k Tryz.func35 rfl fun Q16 qq16=>?_
  refine wc (a':=(fu 18 [.slice a2_A a2_n a2_c,.slice r6_A r6_n r6_c])) (xs fun _ s17=>(xn 2 fun _ j18=>(nq 0 [(4,.slice none 0 0),(5,.slice none 0 0)] (fj j18 s17 (xs fun _ s19=>(xn 10 fun _ j20=>?_))))))
  refine nq 0 [(9,.slice a2_A a2_n a2_c),(10,.slice r6_A r6_n r6_c)] (so 2 (oLt (C:=CS) 11 57 24 2 (.slice none 0 0) #[(0,.slice a2_A a2_n a2_c),(1,.slice r6_A r6_n r6_c)] ([(a2_A,a2_n,a2_c),(r6_A,r6_n,r6_c)]:List HS) hs rfl (by decide) (by decide) fun s7_A s7_n s7_c w gw hs=>?_))
  obtain ⟨r8,hg,h⟩:=ob h
  refine wpS.only 3 (oH 12 hs (bits_Join.ok hg _ (LLP.mk (rL 0 hs) (inn_cons (rR 1 hs) (inn_cons (rL 1 hs) inn_nil)))) ?_)
  rintro ⟨r8_A,r8_n,r8_c⟩ w gw hs
  have hs:=hs.conv (L':=[.ownL CB r8_A r8_n r8_c r8 5,.ownL CS s7_A s7_n s7_c ([(a2_A,a2_n,a2_c),(r6_A,r6_n,r6_c)]:List HS) 24,.ownL CB r6_A r6_n r6_c r6 5,.blk b1 ([I8 a0_0,I8 a0_1,I8 a0_2,I8 a0_3,I8 a0_4]) 23]) rfl
  refine ⟨fun _=>trivial,?_⟩
  obtain ⟨⟨r9,r10⟩,hg,h⟩:=ob h
  refine wpS.only 4 (oH 13 hs (keccak_Sum.ok hg _ (rL 0 hs) (rR 2 hs) (rR 3 hs) (rR 4 hs)) ?_)
  rintro ⟨r9_A,r9_n,r9_c⟩ w gw hs
  have hs:=hs.conv (L':=[.ownL CB r9_A r9_n r9_c r9 5,.ownL CB r8_A r8_n r8_c r8 5,.ownL CS s7_A s7_n s7_c ([(a2_A,a2_n,a2_c),(r6_A,r6_n,r6_c)]:List HS) 24,.ownL CB r6_A r6_n r6_c r6 5,.blk b1 ([I8 a0_0,I8 a0_1,I8 a0_2,I8 a0_3,I8 a0_4]) 23]) rfl
  refine ⟨fun _=>trivial,?_⟩
  refine nq 5 [(8,.tuple #[.slice r9_A r9_n r9_c,I8 r10]),(14,.slice r9_A r9_n r9_c),(15,I8 r10),(6,.slice r9_A r9_n r9_c),(7,I8 r10)] (fj j20 s19 (xs fun _ s21=>?_))
  refine rg [] (fun k=>True) 6 fun _ j22=>?_
  have hs:=hs.drawn1
  refine gq 0 16 (.slice r9_A r9_n r9_c) ?_
  obtain ⟨hs,hfr23⟩:=hs.freezeF 0 rfl
  obtain ⟨h0,h1,h⟩:=oc2 h
  obtain ⟨h2,h3,h⟩:=oc2 h
  obtain ⟨s11_A,hA⟩ : ∃ A,A=if (32:Int).toNat=(0:Int).toNat then r9_A else adr r9_A ((0:Int).toNat*Cod.size CB):=⟨_,rfl⟩
  obtain ⟨s11_n,hn⟩ : ∃ n,n=(32:Int).toNat-(0:Int).toNat:=⟨_,rfl⟩
  obtain ⟨s11_c,hc⟩ : ∃ c,c=(32:Int).toNat-(0:Int).toNat:=⟨_,rfl⟩
  refine tgf 1 17 (.slice s11_A s11_n s11_c) (yld_sub3 (mx:=32) (k:=.i64) (C:=CB) (t:=24) (e:=5) (low:=none) (high:=some (I8 32)) (lo:=0) (hi:=32) (hs.rowF 0 rfl) (by kernel_rfl) (by kernel_rfl) (by kernel_rfl) (.inl ⟨rfl,rfl⟩) ⟨_,rfl⟩ h0 h1 h2 h3 hA hn hc) ?_
  have hs:=hs.addSub3F (C:=CB) 0 rfl h0 h1 h2 h3 hA hn hc
  refine gq 2 18 (.slice r9_A r9_n r9_c) ?_
  obtain ⟨h0,h1,h⟩:=oc2 h
  obtain ⟨h2,h⟩:=oc h
  obtain ⟨s12_A,hA⟩ : ∃ A,A=if r9_c=(32:Int).toNat then r9_A else adr r9_A ((32:Int).toNat*Cod.size CB):=⟨_,rfl⟩
  obtain ⟨s12_n,hn⟩ : ∃ n,n=((r9.length:Int):Int).toNat-(32:Int).toNat:=⟨_,rfl⟩
  obtain ⟨s12_c,hc⟩ : ∃ c,c=r9_c-(32:Int).toNat:=⟨_,rfl⟩
  refine tgf 3 19 (.slice s12_A s12_n s12_c) (ysb (C:=CB) 24 5 (some (I8 32)) none 32 (r9.length:Int) (hs.rowF 1 rfl) (.inr ⟨_,rfl⟩) (.inl ⟨rfl,rfl⟩) h0 h1 h2 hA hn hc) ?_
  have hs:=hs.addSubF (C:=CB) 1 rfl h0 h1 h2 hA hn hc
  refine gq 4 4 (.slice s11_A s11_n s11_c) (gq 5 5 (.slice s12_A s12_n s12_c) (gf (j22 _ _ (T s21 (xret ?_)))))
  refine qq16 _ _ (pt [4,5] [.slice s11_A s11_n s11_c,.slice s12_A s12_n s12_c] ?_)
  refine kI16 _ _ ?_
  refine ⟨fun _=>trivial,?_⟩
  refine nq 4 [(31,.tuple #[.slice s11_A s11_n s11_c,.slice s12_A s12_n s12_c]),(36,.slice s11_A s11_n s11_c),(37,.slice s12_A s12_n s12_c),(6,.slice s11_A s11_n s11_c),(12,.slice s12_A s12_n s12_c)] (fj j15 s14 (xs fun _ s24=>(xn 10 fun _ j25=>(tkt 0 39 _ (yWs 5 23 hs 3 .grow) (nq 1 [(40,.slice a1_A a1_n a1_c),(41,.slice a2_A a2_n a2_c),(42,.slice s12_A s12_n s12_c)] ?_)))))
  obtain ⟨⟨r13,r14⟩,hg,h⟩:=ob h
  refine wpS.only 4 (oH 43 hs (kpke_Encrypt.ok hg _ (rR 3 hs) (rR 4 hs) (hs.rowF 0 rfl) (rR 5 hs) (rR 6 hs) (rR 7 hs)) ?_)
  rintro ⟨r13_A,r13_n,r13_c⟩ w gw hs
  have hs:=hs.conv (L':=[.ownL CB r13_A r13_n r13_c r13 5,.ownL CB r8_A r8_n r8_c r8 5,.ownL CS s7_A s7_n s7_c ([(a2_A,a2_n,a2_c),(r6_A,r6_n,r6_c)]:List HS) 24,.ownL CB r6_A r6_n r6_c r6 5,.blk b1 ([I8 a0_0,I8 a0_1,I8 a0_2,I8 a0_3,I8 a0_4]) 23]) rfl
  refine ⟨fun _=>trivial,?_⟩
  refine nq 5 [(38,.tuple #[.slice r13_A r13_n r13_c,I8 r14]),(44,.slice r13_A r13_n r13_c),(45,I8 r14),(7,.slice r13_A r13_n r13_c),(8,I8 r14)] (fj j25 s24 (xs fun _ s26=>(xs fun _ s27=>(xn 2 fun _ j28=>(qo 0 46 (I8 r14) ?_)))))
  obtain ⟨hc,h⟩|⟨hc,h⟩:=of_if h
  refine tb 1 47 (nf hc) ?_
  refine fj j28 s27 (cf (xk (T s26 (xs fun _ s29=>(xn 5 fun _ j30=>(nq 0 [(49,.slice s11_A s11_n s11_c),(50,.slice r13_A r13_n r13_c),(6,.slice s11_A s11_n s11_c),(7,.slice r13_A r13_n r13_c),(8,I8 0)] (fj j30 s29 (xret ?_))))))))
  obtain ⟨rfl,rfl,rfl⟩:=os3 h
  have hs:=hs.promote 1 rfl hfr23
  exact qq _ _ (pt [6,7,8] [.slice s11_A s11_n s11_c,.slice r13_A r13_n r13_c,I8 0] ⟨⟨⟨s11_A,s11_n,s11_c⟩,⟨r13_A,r13_n,r13_c⟩⟩,cr,(dr [1,1,0,0,0,0] hs)⟩)
  refine tb 1 47 (nt hc) (fj j28 s27 (ct (xs fun _ s31=>(xn 4 fun _ j32=>(nq 0 [(48,I8 r14),(6,.slice none 0 0),(7,.slice none 0 0),(8,I8 r14)] (fj j32 s31 (xret (tr ?_))))))))
  obtain ⟨rfl,rfl,rfl⟩:=os3 h
  have hs:=hs.addNilL CB 5
  have hs:=hs.addNilR CB
  exact qq _ _ (pt [6,7,8] [.slice none 0 0,.slice none 0 0,I8 r14] ⟨⟨⟨none,0,0⟩,⟨none,0,0⟩⟩,cr,(pz (dr [1,1,0,0,0,0,0] hs))⟩)
  refine tb 2 30 (nt hc) (qo 3 27 (.bool true) (fj j13 s12 (ct (xs fun _ s33=>(xn 3 fun _ j34=>(nq 0 [(6,.slice none 0 0),(7,.slice none 0 0),(8,I8 14)] (fj j34 s33 (xret (iR (tr ?_))))))))))
  obtain ⟨rfl,rfl,rfl⟩:=os3 h
  have hs:=hs.addNilL CB 5
  have hs:=hs.addNilR CB
  exact qq _ _ (pt [6,7,8] [.slice none 0 0,.slice none 0 0,I8 14] ⟨⟨⟨none,0,0⟩,⟨none,0,0⟩⟩,cr,(pz (dr [1,1,0] hs))⟩)
 | false=>
  have h:=of_if_f h
  refine so 2 (oC 25 hs (kem_good.ok hg _ (rR 0 hs) (rR 2 hs) (rR 3 hs) (rR 4 hs)) fun w gw hs=>?_)
  refine nq 3 [(26,.bool true),(22,.bool true)] (fj j11 s10 (ct (xs fun _ s35=>(xn 3 fun _ j36=>(nq 0 [(6,.slice none 0 0),(7,.slice none 0 0),(8,I8 10)] (fj j36 s35 (xret (iR (tr ?_)))))))))
  obtain ⟨rfl,rfl,rfl⟩:=os3 h
  have hs:=hs.addNilL CB 5
  have hs:=hs.addNilR CB
  exact qq _ _ (pt [6,7,8] [.slice none 0 0,.slice none 0 0,I8 10] ⟨⟨⟨none,0,0⟩,⟨none,0,0⟩⟩,cr,(pz (dr [1,1,0] hs))⟩)
theorem ref27_Seal.ok {K:Nat}{a0_0 a0_1 a0_2 a0_3 a0_4:Int}{a1 a2 r0 r1:List Int}{r2:Int}{a1_A:Option Addr}{a1_n a1_c:Nat}{a2_A:Option Addr}{a2_n a2_c:Nat}(h:ref27_Seal.f K a0_0 a0_1 a0_2 a0_3 a0_4 a1 a2=some (r0,r1,r2)) (w0:World) (hp1:RowL CB w0 a1_A a1_n a1_c a1) (hp2:RowL CB w0 a2_A a2_n a2_c a2):Calls Tryz.prog 16 #[.agg #[I8 a0_0,I8 a0_1,I8 a0_2,I8 a0_3,I8 a0_4],.slice a1_A a1_n a1_c,.slice a2_A a2_n a2_c] w0 fun e w'=>∃ h:(Option Addr × Nat × Nat) × (Option Addr × Nat × Nat),e = .returned (.tuple #[.slice h.1.1 h.1.2.1 h.1.2.2,.slice h.2.1 h.2.2.1 h.2.2.2,I8 r2])∧St w0 [] [.rowL CB h.1.1 h.1.2.1 h.1.2.2 r0,.ownL CB h.2.1 h.2.2.1 h.2.2.2 r1 5] [] w':=by
 refine calls_k Tryz.func16 rfl fun Q qq=>?_
 have hs:=St.startR (all_cons (RowP.ent hp1) (all_cons (RowP.ent hp2) all_nil))
 refine wc (a':=(fu 38 [.agg #[I8 a0_0,I8 a0_1,I8 a0_2,I8 a0_3,I8 a0_4],.slice a1_A a1_n a1_c,.slice a2_A a2_n a2_c])) (xs fun _ s1=>(xn 4 fun _ j2=>(so 0 (oBa 3 23 hs [I8 a0_0,I8 a0_1,I8 a0_2,I8 a0_3,I8 a0_4] fun b1 w gw hs=>(nq 1 [(6,.slice none 0 0),(7,.slice none 0 0),(8,I8 0)] ?_)))))
 refine fj j2 s1 (xs fun _ s3=>(xs fun _ s4=>(xn 3 fun _ j5=>(tkt 0 12 _ (yWs 5 23 hs 0 .grow) ?_))))
 obtain ⟨r2,hg,h⟩:=ob h
 cases r2 with
 | true=>
  have h:=of_if_t h
  refine so 1 (oC 13 hs (ref26_Known.ok hg _) fun w gw hs=>?_)
  refine qo 2 14 (.bool false) (fj j5 s4 (cf (xk (T s3 (xs fun _ s6=>(xs fun _ s7=>(xn 4 fun _ j8=>(tkt 0 15 _ (yWs 5 23 hs 0 .grow) (qo 1 16 (.slice a1_A a1_n a1_c) ?_)))))))))
  obtain ⟨r3,hg,h⟩:=ob h
  cases r3 with
  | true=>
   have h:=of_if_t h
   refine so 2 (oC 17 hs (ref27_such.ok hg _ (rR 0 hs)) fun w gw hs=>?_)
   refine qo 3 18 (.bool false) (fj j8 s7 (cf (xk (T s6 (xs fun _ s9=>(xs fun _ s10=>(xn 3 fun _ j11=>(qo 0 19 (.slice a2_A a2_n a2_c) (tkf 1 20 (I8 (a2.length:Int)) (yl (rR 1 hs)) ?_)))))))))
   obtain ⟨hc,h⟩|⟨hc,h⟩:=of_if h
   refine tb 2 21 (nf hc) ?_
   refine fj j11 s10 (cf (xk (T s9 (xs fun _ s12=>(xn 5 fun _ j13=>(nq 0 [(22,.slice a2_A a2_n a2_c),(23,.slice a1_A a1_n a1_c)] ?_))))))
   obtain ⟨r4,hg,h⟩:=ob h
   refine wpS.only 2 (oH 24 hs (ref27_h.ok hg _ (rR 0 hs)) ?_)
   rintro ⟨r4_A,r4_n,r4_c⟩ w gw hs
   have hs:=hs.conv (L':=[.ownL CB r4_A r4_n r4_c r4 5,.blk b1 ([I8 a0_0,I8 a0_1,I8 a0_2,I8 a0_3,I8 a0_4]) 23]) rfl
   refine ⟨fun _=>trivial,?_⟩
   obtain ⟨r5,hg,h⟩:=ob h
   refine wpS.only 3 (oH 25 hs (ref27_g.ok hg _ (rR 1 hs) (rL 0 hs)) ?_)
   rintro ⟨r5_A,r5_n,r5_c⟩ w gw hs
   have hs:=hs.conv (L':=[.ownL CB r5_A r5_n r5_c r5 5,.ownL CB r4_A r4_n r4_c r4 5,.blk b1 ([I8 a0_0,I8 a0_1,I8 a0_2,I8 a0_3,I8 a0_4]) 23]) rfl
   refine ⟨fun _=>trivial,?_⟩
   refine qo 4 9 (.slice r5_A r5_n r5_c) (fj j13 s12 (xs fun _ s14=>?_))
   refine rg [] (fun k=>True) 11 fun _ j15=>?_
   have hs:=hs.drawn1
   refine tgt 0 27 _ (yWs 5 23 hs 2 .grow) (gq 1 28 (.slice a1_A a1_n a1_c) (gq 2 29 (.slice a2_A a2_n a2_c) (gq 3 30 (.slice r5_A r5_n r5_c) ?_)))
   obtain ⟨hs,hfr16⟩:=hs.freezeF 0 rfl
   obtain ⟨h0,h1,h⟩:=oc2 h
   obtain ⟨h2,h⟩:=oc h
   obtain ⟨s6_A,hA⟩ : ∃ A,A=if r5_c=(32:Int).toNat then r5_A else adr r5_A ((32:Int).toNat*Cod.size CB):=⟨_,rfl⟩
   obtain ⟨s6_n,hn⟩ : ∃ n,n=((r5.length:Int):Int).toNat-(32:Int).toNat:=⟨_,rfl⟩
   obtain ⟨s6_c,hc⟩ : ∃ c,c=r5_c-(32:Int).toNat:=⟨_,rfl⟩
   refine tgf 4 31 (.slice s6_A s6_n s6_c) (ysb (C:=CB) 24 5 (some (I8 32)) none 32 (r5.length:Int) (hs.rowF 0 rfl) (.inr ⟨_,rfl⟩) (.inl ⟨rfl,rfl⟩) h0 h1 h2 hA hn hc) ?_
   have hs:=hs.addSubF (C:=CB) 0 rfl h0 h1 h2 hA hn hc
   obtain ⟨⟨r7,r8⟩,hg,h⟩:=ob h
   refine wpG.only 5 (by kernel_rfl) (oH 32 hs (ref26_Encrypt.ok hg _ (rR 2 hs) (rR 3 hs) (hs.rowF 0 rfl)) ?_)
   rintro ⟨r7_A,r7_n,r7_c⟩ w gw hs
   have hs:=hs.conv (L':=[.ownL CB r7_A r7_n r7_c r7 5,.ownL CB r4_A r4_n r4_c r4 5,.blk b1 ([I8 a0_0,I8 a0_1,I8 a0_2,I8 a0_3,I8 a0_4]) 23]) rfl
   refine ⟨.of gw,?_⟩
   refine gq 6 26 (.tuple #[.slice r7_A r7_n r7_c,I8 r8]) (gq 7 33 (.slice r7_A r7_n r7_c) (gq 8 34 (I8 r8) (gq 9 10 (.slice r7_A r7_n r7_c) (gq 10 11 (I8 r8) ?_))))
   refine gf (j15 _ _ (T s14 (xs fun _ s17=>(xs fun _ s18=>(xn 2 fun _ j19=>(qo 0 35 (I8 r8) ?_))))))
   obtain ⟨hc,h⟩|⟨hc,h⟩:=of_if h
   refine tb 1 36 (nf hc) ?_
   refine fj j19 s18 (cf (xk (T s17 (xs fun _ s20=>(xn 6 fun _ j21=>(qo 0 38 (.slice r5_A r5_n r5_c) ?_))))))
   obtain ⟨h0,h1,h⟩:=oc2 h
   obtain ⟨h2,h⟩:=oc h
   obtain ⟨s9_A,hA⟩ : ∃ A,A=if r5_c=(0:Int).toNat then r5_A else adr r5_A ((0:Int).toNat*Cod.size CB):=⟨_,rfl⟩
   obtain ⟨s9_n,hn⟩ : ∃ n,n=(32:Int).toNat-(0:Int).toNat:=⟨_,rfl⟩
   obtain ⟨s9_c,hc⟩ : ∃ c,c=r5_c-(0:Int).toNat:=⟨_,rfl⟩
   refine tkf 1 39 (.slice s9_A s9_n s9_c) (ysb (C:=CB) 24 5 none (some (I8 32)) 0 32 (hs.rowF 1 rfl) (.inl ⟨rfl,rfl⟩) (.inr ⟨_,rfl⟩) h0 h1 h2 hA hn hc) ?_
   have hs:=hs.addSubF (C:=CB) 1 rfl h0 h1 h2 hA hn hc
   refine nq 2 [(40,.slice r7_A r7_n r7_c),(6,.slice s9_A s9_n s9_c),(7,.slice r7_A r7_n r7_c),(8,I8 0)] (fj j21 s20 (xret ?_))
   obtain ⟨rfl,rfl,rfl⟩:=os3 h
   have hs:=hs.promote 0 rfl hfr16
   exact qq _ _ (pt [6,7,8] [.slice s9_A s9_n s9_c,.slice r7_A r7_n r7_c,I8 0] ⟨⟨⟨s9_A,s9_n,s9_c⟩,⟨r7_A,r7_n,r7_c⟩⟩,cr,(dr [1,1,0,0] hs)⟩)
   refine tb 1 36 (nt hc) (fj j19 s18 (ct (xs fun _ s22=>(xn 4 fun _ j23=>(nq 0 [(37,I8 r8),(6,.slice none 0 0),(7,.slice none 0 0),(8,I8 r8)] (fj j23 s22 (xret (tr ?_))))))))
   obtain ⟨rfl,rfl,rfl⟩:=os3 h
   have hs:=hs.addNilL CB 5
   have hs:=hs.addNilR CB
   exact qq _ _ (pt [6,7,8] [.slice none 0 0,.slice none 0 0,I8 r8] ⟨⟨⟨none,0,0⟩,⟨none,0,0⟩⟩,cr,(pz (dr [1,1,0,0,0] hs))⟩)
   refine tb 2 21 (nt hc) (fj j11 s10 (ct (xs fun _ s24=>(xn 3 fun _ j25=>(nq 0 [(6,.slice none 0 0),(7,.slice none 0 0),(8,I8 14)] (fj j25 s24 (xret (tr ?_))))))))
   obtain ⟨rfl,rfl,rfl⟩:=os3 h
   have hs:=hs.addNilL CB 5
   have hs:=hs.addNilR CB
   exact qq _ _ (pt [6,7,8] [.slice none 0 0,.slice none 0 0,I8 14] ⟨⟨⟨none,0,0⟩,⟨none,0,0⟩⟩,cr,(pz (dr [1,1,0] hs))⟩)
  | false=>
   have h:=of_if_f h
   refine so 2 (oC 17 hs (ref27_such.ok hg _ (rR 0 hs)) fun w gw hs=>?_)
   refine qo 3 18 (.bool true) (fj j8 s7 (ct (xs fun _ s26=>(xn 3 fun _ j27=>(nq 0 [(6,.slice none 0 0),(7,.slice none 0 0),(8,I8 10)] (fj j27 s26 (xret (tr ?_))))))))
   obtain ⟨rfl,rfl,rfl⟩:=os3 h
   have hs:=hs.addNilL CB 5
   have hs:=hs.addNilR CB
   exact qq _ _ (pt [6,7,8] [.slice none 0 0,.slice none 0 0,I8 10] ⟨⟨⟨none,0,0⟩,⟨none,0,0⟩⟩,cr,(pz (dr [1,1,0] hs))⟩)
 | false=>
  have h:=of_if_f h
  refine so 1 (oC 13 hs (ref26_Known.ok hg _) fun w gw hs=>?_)
  refine qo 2 14 (.bool true) (fj j5 s4 (ct (xs fun _ s28=>(xn 3 fun _ j29=>(nq 0 [(6,.slice none 0 0),(7,.slice none 0 0),(8,I8 9)] (fj j29 s28 (xret (tr ?_))))))))
  obtain ⟨rfl,rfl,rfl⟩:=os3 h
  have hs:=hs.addNilL CB 5
  have hs:=hs.addNilR CB
  exact qq _ _ (pt [6,7,8] [.slice none 0 0,.slice none 0 0,I8 9] ⟨⟨⟨none,0,0⟩,⟨none,0,0⟩⟩,cr,(pz (dr [1,1,0] hs))⟩)
end Go.Proofs.YtemdbgmldljbpaaGreatDoor
