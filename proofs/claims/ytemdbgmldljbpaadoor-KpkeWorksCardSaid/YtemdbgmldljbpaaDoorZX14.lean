/- own -/
import Derived.Test.YtemdbgmldljbpaaDoorMh
import Derived.Test.YtemdbgmldljbpaaDoorProg
import Derived.Test.YtemdbgmldljbpaaDoorZFKpkeWorks
import Derived.Test.YtemdbgmldljbpaaDoorZX0
import Derived.Test.YtemdbgmldljbpaaDoorZX12
import Derived.Test.YtemdbgmldljbpaaDoorZX13
import Derived.Test.YtemdbgmldljbpaaDoorZX7
import Derived.Test.YtemdbgmldljbpaaDoorZX8
import Derived.Test.YtemdbgmldljbpaaDoorZX9
set_option linter.unusedVariables false
set_option linter.unusedSimpArgs false
set_option maxRecDepth 100000
set_option maxHeartbeats 4000000
namespace Go.Proofs.YtemdbgmldljbpaaDoor
open Go.Mx
attribute [local irreducible] wpOp
theorem ref26_Encrypt.ok {K:Nat}{a0_0 a0_1 a0_2 a0_3 a0_4:Int}{a1 a2 a3 r0:List Int}{r1:Int}{a1_A:Option Addr}{a1_n a1_c:Nat}{a2_A:Option Addr}{a2_n a2_c:Nat}{a3_A:Option Addr}{a3_n a3_c:Nat}(h:ref26_Encrypt.f K a0_0 a0_1 a0_2 a0_3 a0_4 a1 a2 a3=some (r0,r1)) (w0:World) (hp1:RowL CB w0 a1_A a1_n a1_c a1) (hp2:RowL CB w0 a2_A a2_n a2_c a2) (hp3:RowL CB w0 a3_A a3_n a3_c a3):Calls Tryd.prog 22 #[.agg #[I8 a0_0,I8 a0_1,I8 a0_2,I8 a0_3,I8 a0_4],.slice a1_A a1_n a1_c,.slice a2_A a2_n a2_c,.slice a3_A a3_n a3_c] w0 fun e w'=>∃ h:(Option Addr × Nat × Nat),e = .returned (.tuple #[.slice h.1 h.2.1 h.2.2,I8 r1])∧St w0 [] [.ownL CB h.1 h.2.1 h.2.2 r0 5] [] w':=by
 refine calls_k Tryd.func22 rfl fun Q qq=>?_
 have hs:=St.startR (all_cons (RowP.ent hp1) (all_cons (RowP.ent hp2) (all_cons (RowP.ent hp3) all_nil)))
 refine wc (a':=(fu 154 [.agg #[I8 a0_0,I8 a0_1,I8 a0_2,I8 a0_3,I8 a0_4],.slice a1_A a1_n a1_c,.slice a2_A a2_n a2_c,.slice a3_A a3_n a3_c])) ?_
 refine xs fun _ s1=>?_
 refine xn 3 fun _ j2=>?_
 refine so 0 (oB 4 23 (.agg #[I8 a0_0,I8 a0_1,I8 a0_2,I8 a0_3,I8 a0_4]) hs ([I8 a0_0,I8 a0_1,I8 a0_2,I8 a0_3,I8 a0_4]) fun b1 w gw hs=>?_)
 refine nq 1 [(8,.slice none 0 0),(9,I8 0)] ?_
 refine fj j2 s1 (xs fun _ s3=>(xn 9 fun _ j4=>?_))
 refine tkt 0 28 (.agg #[I8 a0_0,I8 a0_1,I8 a0_2,I8 a0_3,I8 a0_4]) (yW hs 0 5 23 rfl (by simp [enc_len]) .grow) ?_
 obtain ⟨⟨r2,r3,r4⟩,hg,h⟩:=ob h
 refine so 1 (oC 29 hs (ref26_Sizes.ok hg _) fun w gw hs=>?_)
 refine nq 2 [(27,.tuple #[I8 r2,I8 r3,I8 r4]),(30,I8 r2),(31,I8 r3),(32,I8 r4),(10,I8 r2),(11,I8 r3),(12,I8 r4)] ?_
 refine fj j4 s3 (xs fun _ s5=>(xs fun _ s6=>(xn 2 fun _ j7=>?_)))
 refine qo 0 33 (I8 r2) ?_
 obtain ⟨hc,h⟩|⟨hc,h⟩:=of_if h
 refine tb 1 34 (et hc) ?_
 refine fj j7 s6 (ct (xs fun _ s8=>(xn 2 fun _ j9=>?_)))
 refine nq 0 [(8,.slice none 0 0),(9,I8 9)] ?_
 refine fj j9 s8 (xret (tr ?_))
 obtain ⟨rfl,rfl⟩:=os2 h
 have hs:=hs.addNilL CB 5
 exact qq _ _ (pt [8,9] [.slice none 0 0,I8 9] ⟨⟨none,0,0⟩,cr,(pz (dr [1,0] hs))⟩)
 refine tb 1 34 (ef hc) ?_
 refine fj j7 s6 (cf (xk (T s5 (xs fun _ s10=>(xs fun _ s11=>(xn 4 fun _ j12=>?_))))))
 refine qo 0 35 (.slice a1_A a1_n a1_c) ?_
 refine tkf 1 36 (I8 (a1.length:Int)) (yl (hs.rowR 0 rfl)) ?_
 refine qo 2 37 (I8 r2) ?_
 obtain ⟨hc,h⟩|⟨hc,h⟩:=of_if h
 refine tb 3 38 (nf hc) ?_
 refine fj j12 s11 (cf (xk (T s10 (xs fun _ s13=>(xn 9 fun _ j14=>?_)))))
 refine nq 0 [(40,.slice a1_A a1_n a1_c),(41,P0 b1)] ?_
 refine tkt 2 42 (I8 a0_0) (yv hs 0 0 3 rfl (by rfl) .grow) ?_
 obtain ⟨⟨r5,r6⟩,hg,h⟩:=ob h
 refine wpS.only 3 (oH 43 hs (ref26_read.ok hg _ (hs.rowR 0 rfl)) ?_)
 rintro ⟨r5_A,r5_n,r5_c⟩ w gw hs
 have hs:=hs.conv (L':=[.ownL CZ r5_A r5_n r5_c r5 32,.blk b1 ([I8 a0_0,I8 a0_1,I8 a0_2,I8 a0_3,I8 a0_4]) 23]) rfl
 refine ⟨fun _=>trivial,?_⟩
 refine nq 4 [(39,.tuple #[.slice r5_A r5_n r5_c,.bool r6]),(44,.slice r5_A r5_n r5_c)] ?_
 cases r6 with
 | true=>
  have h:=of_if_t h
  refine nq 6 [(45,.bool true),(13,.slice r5_A r5_n r5_c),(14,.bool true)] ?_
  refine fj j14 s13 (xs fun _ s15=>(xs fun _ s16=>(xn 2 fun _ j17=>?_)))
  refine nq 0 [(46,.bool true),(47,.bool false)] ?_
  refine fj j17 s16 (cf (xk (T s15 (xs fun _ s18=>(xs fun _ s19=>(xn 8 fun _ j20=>?_))))))
  refine qo 0 48 (.slice a2_A a2_n a2_c) ?_
  refine tkf 1 49 (I8 (a2.length:Int)) (yl (hs.rowR 1 rfl)) ?_
  obtain ⟨hc,h⟩|⟨hc,h⟩:=of_if h
  refine tb 2 50 (nf hc) ?_
  refine nq 3 [(51,.bool false),(52,.slice a3_A a3_n a3_c)] ?_
  refine tkf 5 53 (I8 (a3.length:Int)) (yl (hs.rowR 2 rfl)) ?_
  obtain ⟨hc,h⟩|⟨hc,h⟩:=of_if h
  refine tb 6 54 (nf hc) ?_
  refine qo 7 55 (.bool false) ?_
  refine fj j20 s19 (cf (xk (T s18 (xs fun _ s21=>?_))))
  refine rg [5] (fun k=>True) 11 fun _ j22=>?_
  have hs:=hs.drawn1
  refine tgt 0 57 (.agg #[I8 a0_0,I8 a0_1,I8 a0_2,I8 a0_3,I8 a0_4]) (yW hs 1 5 23 rfl (by simp [enc_len]) .grow) ?_
  refine gq 1 58 (.slice a1_A a1_n a1_c) ?_
  refine gq 2 59 (I8 r2) ?_
  refine gq 3 60 (I8 (isub .i64 r2 32)) ?_
  obtain ⟨h0,h1,h⟩:=oc2 h
  obtain ⟨h2,h⟩:=oc h
  obtain ⟨s7_A,hA⟩ : ∃ A,A=if a1_c=((isub .i64 r2 32):Int).toNat then a1_A else adr a1_A (((isub .i64 r2 32):Int).toNat*Cod.size CB):=⟨_,rfl⟩
  obtain ⟨s7_n,hn⟩ : ∃ n,n=((a1.length:Int):Int).toNat-((isub .i64 r2 32):Int).toNat:=⟨_,rfl⟩
  obtain ⟨s7_c,hc⟩ : ∃ c,c=a1_c-((isub .i64 r2 32):Int).toNat:=⟨_,rfl⟩
  refine tgf 4 61 (.slice s7_A s7_n s7_c) (ysb (C:=CB) 24 5 (some (I8 (isub .i64 r2 32))) none (isub .i64 r2 32) (a1.length:Int) (hs.rowR 0 rfl) (.inr ⟨_,rfl⟩) (.inl ⟨rfl,rfl⟩) h0 h1 h2 hA hn hc) ?_
  have hs:=hs.addSub (C:=CB) 0 rfl h0 h1 h2 hA hn hc
  obtain ⟨⟨r8,r9⟩,hg,h⟩:=ob h
  refine wpG.only 5 (by kernel_rfl) (wpOp_call (d:=(some 62)) (by kernel_rfl) (fun _=>by kernel_rfl) (ref26_matrix_s.ok hg hs) ?_)
  rintro e w ⟨y10_A,y10_n,y10_c,y10_H,rfl,hs⟩
  refine ⟨_,rfl,?_⟩
  refine ⟨⟨fun hf=>absurd hf (by decide),.all _ _⟩,?_⟩
  refine gq 6 56 (.tuple #[.slice y10_A y10_n y10_c,I8 r9]) ?_
  refine gq 7 63 (.slice y10_A y10_n y10_c) ?_
  refine gq 8 64 (I8 r9) ?_
  refine gq 9 15 (.slice y10_A y10_n y10_c) ?_
  refine gq 10 16 (I8 r9) ?_
  refine gf (j22 _ _ ?_)
  refine T s21 (xs fun _ s23=>(xs fun _ s24=>(xn 2 fun _ j25=>?_)))
  refine qo 0 65 (I8 r9) ?_
  obtain ⟨hc,h⟩|⟨hc,h⟩:=of_if h
  refine tb 1 66 (nf hc) ?_
  refine fj j25 s24 (cf (xk (T s23 (xs fun _ s26=>(xn 8 fun _ j27=>?_)))))
  refine qo 0 68 (P0 b1) ?_
  refine tkt 1 69 (I8 a0_0) (yv hs 2 0 3 rfl (by rfl) .grow) ?_
  refine qo 2 70 (.pointer (some ⟨b1,1,none⟩)) ?_
  refine tkt 3 71 (I8 a0_1) (yv hs 2 1 3 rfl (by rfl) .grow) ?_
  refine qo 4 72 (.slice a3_A a3_n a3_c) ?_
  obtain ⟨r14,hg,h⟩:=ob h
  refine wpS.only 5 (oH 73 hs (ref26_row.ok hg _ (hs.rowR 4 rfl)) ?_)
  rintro ⟨r14_A,r14_n,r14_c⟩ w gw hs
  have hs:=hs.conv (L':=[.ownL CZ r14_A r14_n r14_c r14 32,.ownL CS y10_A y10_n y10_c y10_H 77,.ownL CZ r5_A r5_n r5_c r5 32,.blk b1 ([I8 a0_0,I8 a0_1,I8 a0_2,I8 a0_3,I8 a0_4]) 23]) rfl
  refine ⟨fun _=>trivial,?_⟩
  obtain ⟨r15,hg,h⟩:=ob h
  refine wpS.only 6 (oH 74 hs (ref26_ntt.ok hg _ (hs.rowL 0 rfl)) ?_)
  rintro ⟨r15_A,r15_n,r15_c⟩ w gw hs
  have hs:=hs.conv (L':=[.ownL CZ r15_A r15_n r15_c r15 32,.ownL CZ r14_A r14_n r14_c r14 32,.ownL CS y10_A y10_n y10_c y10_H 77,.ownL CZ r5_A r5_n r5_c r5 32,.blk b1 ([I8 a0_0,I8 a0_1,I8 a0_2,I8 a0_3,I8 a0_4]) 23]) rfl
  refine ⟨fun _=>trivial,?_⟩
  refine qo 7 17 (.slice r15_A r15_n r15_c) ?_
  refine fj j27 s26 (xs fun _ s28=>(xn 9 fun _ j29=>?_))
  refine qo 0 75 (P0 b1) ?_
  refine tkt 1 76 (I8 a0_0) (yv hs 4 0 3 rfl (by rfl) .grow) ?_
  refine qo 2 77 (.pointer (some ⟨b1,2,none⟩)) ?_
  refine tkt 3 78 (I8 a0_2) (yv hs 4 2 3 rfl (by rfl) .grow) ?_
  refine nq 4 [(79,.slice a3_A a3_n a3_c),(80,P0 b1)] ?_
  refine tkt 6 81 (I8 a0_0) (yv hs 4 0 3 rfl (by rfl) .grow) ?_
  obtain ⟨r16,hg,h⟩:=ob h
  refine wpS.only 7 (oH 82 hs (ref26_row.ok hg _ (hs.rowR 4 rfl)) ?_)
  rintro ⟨r16_A,r16_n,r16_c⟩ w gw hs
  have hs:=hs.conv (L':=[.ownL CZ r16_A r16_n r16_c r16 32,.ownL CZ r15_A r15_n r15_c r15 32,.ownL CZ r14_A r14_n r14_c r14 32,.ownL CS y10_A y10_n y10_c y10_H 77,.ownL CZ r5_A r5_n r5_c r5 32,.blk b1 ([I8 a0_0,I8 a0_1,I8 a0_2,I8 a0_3,I8 a0_4]) 23]) rfl
  refine ⟨fun _=>trivial,?_⟩
  refine qo 8 18 (.slice r16_A r16_n r16_c) ?_
  refine fj j29 s28 (xs fun _ s30=>(xn 1 fun _ j31=>?_))
  refine qo 0 19 (.slice none 0 0) ?_
  refine fj j31 s30 (xs fun _ s32=>(xs fun _ s33=>(xn 1 fun _ j34=>?_)))
  refine qo 0 20 (I8 0) ?_
  refine fj j34 s33 (?_)
  have hs:=hs.addNilL CB 5
  obtain ⟨y19,hy,hk0⟩:=ob h
  refine wp_exq (N:=fun a w=>∃ y19_A y19_n y19_c,St w0 [] [.ownL CB y19_A y19_n y19_c y19 5,.ownL CZ r16_A r16_n r16_c r16 32,.ownL CZ r15_A r15_n r15_c r15 32,.ownL CZ r14_A r14_n r14_c r14 32,.ownL CS y10_A y10_n y10_c y10_H 77,.ownL CZ r5_A r5_n r5_c r5 32,.blk b1 ([I8 a0_0,I8 a0_1,I8 a0_2,I8 a0_3,I8 a0_4]) 23] [.inn CZ y10_H r8,.rowL CB s7_A s7_n s7_c (subL a1 (isub .i64 r2 32) (a1.length:Int)),.rowL CB a1_A a1_n a1_c a1,.rowL CB a2_A a2_n a2_c a2,.rowL CB a3_A a3_n a3_c a3] w∧∃ g36,a=fr g36 158 [(2,[.slice a2_A a2_n a2_c,.slice a3_A a3_n a3_c,P0 b1]),(8,[.slice none 0 0,I8 0]),(13,[.slice r5_A r5_n r5_c]),(17,[.slice r15_A r15_n r15_c]),(19,[.slice y19_A y19_n y19_c])]) (fun N0 nn0=>?_) ?_
  clear hk0
  refine xb ?_
  refine wp_loop_k (fun n a w=>∃ z17 z18,∃ z18_A z18_n z18_c,ref26_Encrypt.l0 K n a0_0 a0_3 r8 r15 r16 z17 z18=some y19∧St w0 [] [.ownL CB z18_A z18_n z18_c z18 5,.ownL CZ r16_A r16_n r16_c r16 32,.ownL CZ r15_A r15_n r15_c r15 32,.ownL CZ r14_A r14_n r14_c r14 32,.ownL CS y10_A y10_n y10_c y10_H 77,.ownL CZ r5_A r5_n r5_c r5 32,.blk b1 ([I8 a0_0,I8 a0_1,I8 a0_2,I8 a0_3,I8 a0_4]) 23] [.inn CZ y10_H r8,.rowL CB s7_A s7_n s7_c (subL a1 (isub .i64 r2 32) (a1.length:Int)),.rowL CB a1_A a1_n a1_c a1,.rowL CB a2_A a2_n a2_c a2,.rowL CB a3_A a3_n a3_c a3] w∧∃ g35,a=fr g35 158 [(2,[.slice a2_A a2_n a2_c,.slice a3_A a3_n a3_c,P0 b1]),(8,[.slice none 0 0,I8 0]),(13,[.slice r5_A r5_n r5_c]),(15,[.slice y10_A y10_n y10_c]),(17,[.slice r15_A r15_n r15_c,.slice r16_A r16_n r16_c,.slice z18_A z18_n z18_c,I8 z17])]) K ⟨0,([]:List Int),none,0,0,hy,hs.conv rfl,eg⟩ ?_
  clear hs h hy
  rintro n a w ⟨z17,z18,z18_A,z18_n,z18_c,h,hs,g35,rfl⟩ KL0 kl0
  cases n with
  | zero=>exact nomatch (show none=some _ from h)
  | succ n=>
   refine xs fun _ s37=>?_
   refine xs fun _ s38=>?_
   refine xn 4 fun _ j39=>?_
   refine nq 0 [(83,I8 z17),(84,P0 b1)] ?_
   refine tkt 2 85 (I8 a0_0) (yv hs 6 0 3 rfl (by rfl) .grow) ?_
   obtain ⟨hc,h⟩|⟨hc,h⟩:=of_if h
   refine tb 3 86 (dt hc) ?_
   refine fj j39 s38 (ct (xk (T s37 (xs fun _ s40=>(xb (xs fun _ s41=>(xn 1 fun _ j42=>?_)))))))
   refine qo 0 21 (.slice none 0 0) ?_
   refine fj j42 s41 (xs fun _ s43=>(xs fun _ s44=>(xn 1 fun _ j45=>?_)))
   refine qo 0 22 (I8 0) ?_
   refine fj j45 s44 (?_)
   have hs:=hs.addNilL CZ 32
   obtain ⟨y22,hy,hk1⟩:=ob h
   refine wp_exq (N:=fun a w=>∃ y22_A y22_n y22_c,St w0 [] [.ownL CZ y22_A y22_n y22_c y22 32,.ownL CB z18_A z18_n z18_c z18 5,.ownL CZ r16_A r16_n r16_c r16 32,.ownL CZ r15_A r15_n r15_c r15 32,.ownL CZ r14_A r14_n r14_c r14 32,.ownL CS y10_A y10_n y10_c y10_H 77,.ownL CZ r5_A r5_n r5_c r5 32,.blk b1 ([I8 a0_0,I8 a0_1,I8 a0_2,I8 a0_3,I8 a0_4]) 23] [.inn CZ y10_H r8,.rowL CB s7_A s7_n s7_c (subL a1 (isub .i64 r2 32) (a1.length:Int)),.rowL CB a1_A a1_n a1_c a1,.rowL CB a2_A a2_n a2_c a2,.rowL CB a3_A a3_n a3_c a3] w∧∃ g47,a=fr g47 158 [(2,[.slice a2_A a2_n a2_c,.slice a3_A a3_n a3_c,P0 b1]),(8,[.slice none 0 0,I8 0]),(13,[.slice r5_A r5_n r5_c]),(15,[.slice y10_A y10_n y10_c]),(17,[.slice r15_A r15_n r15_c,.slice r16_A r16_n r16_c,.slice z18_A z18_n z18_c,I8 z17,.slice y22_A y22_n y22_c])]) (fun N1 nn1=>?_) ?_
   clear hk1
   refine xb ?_
   refine wp_loop_k (fun n a w=>∃ z20 z21,∃ z21_A z21_n z21_c,ref26_Encrypt.l1 K n a0_0 r8 z17 z20 z21=some y22∧St w0 [] [.ownL CZ z21_A z21_n z21_c z21 32,.ownL CB z18_A z18_n z18_c z18 5,.ownL CZ r16_A r16_n r16_c r16 32,.ownL CZ r15_A r15_n r15_c r15 32,.ownL CZ r14_A r14_n r14_c r14 32,.ownL CS y10_A y10_n y10_c y10_H 77,.ownL CZ r5_A r5_n r5_c r5 32,.blk b1 ([I8 a0_0,I8 a0_1,I8 a0_2,I8 a0_3,I8 a0_4]) 23] [.inn CZ y10_H r8,.rowL CB s7_A s7_n s7_c (subL a1 (isub .i64 r2 32) (a1.length:Int)),.rowL CB a1_A a1_n a1_c a1,.rowL CB a2_A a2_n a2_c a2,.rowL CB a3_A a3_n a3_c a3] w∧∃ g46,a=fr g46 158 [(2,[.slice a2_A a2_n a2_c,.slice a3_A a3_n a3_c,P0 b1]),(8,[.slice none 0 0,I8 0]),(13,[.slice r5_A r5_n r5_c]),(15,[.slice y10_A y10_n y10_c]),(17,[.slice r15_A r15_n r15_c,.slice r16_A r16_n r16_c,.slice z18_A z18_n z18_c,I8 z17,.slice z21_A z21_n z21_c,I8 z20])]) K ⟨0,([]:List (Arr 256)),none,0,0,hy,hs.conv rfl,eg⟩ ?_
   clear hs h hy
   rintro n a w ⟨z20,z21,z21_A,z21_n,z21_c,h,hs,g46,rfl⟩ KL1 kl1
   cases n with
   | zero=>exact nomatch (show none=some _ from h)
   | succ n=>
    refine xs fun _ s48=>?_
    refine xs fun _ s49=>?_
    refine xn 4 fun _ j50=>?_
    refine nq 0 [(89,I8 z20),(90,P0 b1)] ?_
    refine tkt 2 91 (I8 a0_0) (yv hs 7 0 3 rfl (by rfl) .grow) ?_
    obtain ⟨hc,h⟩|⟨hc,h⟩:=of_if h
    refine tb 3 92 (dt hc) ?_
    refine fj j50 s49 (ct (xk (T s48 (xs fun _ s51=>(xb (xn 11 fun _ j52=>?_))))))
    refine nq 0 [(95,.slice z21_A z21_n z21_c),(96,.slice y10_A y10_n y10_c),(97,I8 z20)] ?_
    obtain ⟨h0,h1,h⟩:=oc2 h
    have i0_53:=h0
    have i1_53:=h1
    refine tkf 3 98 (PA CS y10_A z20) (yiLL (C:=CZ) 84 77 .i64 z20 (LLP.mk (hs.rowL 5 rfl) (hs.innR 0 rfl)) h0 h1) ?_
    obtain ⟨s23_A,hA⟩ : ∃ A,A=(rdL CS y10_H z20).1:=⟨_,rfl⟩
    obtain ⟨s23_n,hn⟩ : ∃ n,n=(rdL CS y10_H z20).2.1:=⟨_,rfl⟩
    obtain ⟨s23_c,hc⟩ : ∃ c,c=(rdL CS y10_H z20).2.2:=⟨_,rfl⟩
    refine tkt 4 99 (.slice s23_A s23_n s23_c) (by subst hA hn hc; exact yLL (C:=CZ) 77 z20 (LLP.mk (hs.rowL 5 rfl) (hs.innR 0 rfl)) i0_53 i1_53) ?_
    have hs:=hs.addInnI (C:=CZ) 0 rfl i0_53 i1_53 hA hn hc
    refine qo 5 100 (I8 z17) ?_
    obtain ⟨h0,h1,h⟩:=oc2 h
    have i0_54:=h0
    have i1_54:=h1
    refine tkf 6 101 (PA CZ s23_A z17) (yiL (C:=CZ) 77 32 .i64 z17 (hs.rowR 0 rfl) h0 h1) ?_
    refine tkt 7 102 (ag .i32 (rdL CZ (rdLL r8 z20) z17)) (yLA (C:=CZ) 32 z17 (hs.rowR 0 rfl) rfl i0_54 i1_54) ?_
    refine so 8 (oLL (C:=CZ) 103 77 32 1 (ag .i32 (zeroA 256)) #[(0,ag .i32 (rdL CZ (rdLL r8 z20) z17))] [(rdL CZ (rdLL r8 z20) z17)] hs rfl rfl (by decide) (by decide) fun s24_A s24_n s24_c w gw hs=>?_)
    obtain ⟨h0,h⟩:=oc h
    refine so 9 (oAp (C:=CZ) 104 77 77 32 1024 137438953472 hs 1 rfl (hs.rowL 0 rfl) h0 (by decide) (by decide) fun s25_A s25_n s25_c w hs=>?_)
    refine qo 10 21 (.slice s25_A s25_n s25_c) ?_
    refine fin (j52 _ _ (iN (T s51 (xn 3 fun _ j55=>?_))))
    refine nq 0 [(93,I8 z20),(94,I8 (iadd .i64 z20 1))] ?_
    obtain ⟨x26,hx,h⟩:=ob h
    refine tkf 2 22 (I8 x26) (yn hx) ?_
    refine fin (j55 _ _ ?_)
    exact tn (kl1 _ _ ⟨n,ls n,x26,(z21++([(rdL CZ (rdLL r8 z20) z17)]:List (Arr 256))),s25_A,s25_n,s25_c,h,(pk [1,2,3,4,5] (dr [0,1,1,1,1,1,1,1,1] hs)),eg⟩)
    refine tb 3 92 (df hc) ?_
    refine fj j50 s49 (cf (xexit (tx (tx (iH ?_)))))
    obtain rfl:=of_some h
    exact exq_n (nn1 _ _ ⟨z21_A,z21_n,z21_c,(hs.conv rfl),eg⟩)
   clear hs h hy
   rintro a w ⟨y22_A,y22_n,y22_c,hs,g47,rfl⟩
   have h:=hk1
   refine T s43 (xs fun _ s56=>?_)
   obtain ⟨y28,hj,h⟩:=ob h
   refine wp_join (N:=fun a w=>∃ b27,St w0 [] [.blk b27 (enc .i32 y28) 32,.ownL CZ y22_A y22_n y22_c y22 32,.ownL CB z18_A z18_n z18_c z18 5,.ownL CZ r16_A r16_n r16_c r16 32,.ownL CZ r15_A r15_n r15_c r15 32,.ownL CZ r14_A r14_n r14_c r14 32,.ownL CS y10_A y10_n y10_c y10_H 77,.ownL CZ r5_A r5_n r5_c r5 32,.blk b1 ([I8 a0_0,I8 a0_1,I8 a0_2,I8 a0_3,I8 a0_4]) 23] [.inn CZ y10_H r8,.rowL CB s7_A s7_n s7_c (subL a1 (isub .i64 r2 32) (a1.length:Int)),.rowL CB a1_A a1_n a1_c a1,.rowL CB a2_A a2_n a2_c a2,.rowL CB a3_A a3_n a3_c a3] w∧∃ g57,a=fr g57 158 [(2,[.slice a2_A a2_n a2_c,.slice a3_A a3_n a3_c,P0 b1]),(8,[.slice none 0 0,I8 0]),(13,[.slice r5_A r5_n r5_c]),(15,[.slice y10_A y10_n y10_c]),(17,[.slice r15_A r15_n r15_c,.slice r16_A r16_n r16_c,.slice z18_A z18_n z18_c,I8 z17]),(23,[P0 b27])]) (fun N nj=>?_) ?_
   clear h
   have h:=hj
   refine rg [10] (fun k=>True) 11 fun _ j58=>?_
   have hs:=hs.drawn1
   refine gq 0 105 (.slice y22_A y22_n y22_c) ?_
   refine gq 1 106 (.slice r15_A r15_n r15_c) ?_
   refine gq 4 109 (.slice r16_A r16_n r16_c) ?_
   refine gq 5 110 (I8 z17) ?_
   obtain ⟨h0,h1,h⟩:=oc2 h
   have i0_59:=h0
   have i1_59:=h1
   refine tgf 6 111 (PA CZ r16_A z17) (yiL (C:=CZ) 77 32 .i64 z17 (hs.rowL 2 rfl) h0 h1) ?_
   refine tgt 7 112 (ag .i32 (rdL CZ r16 z17)) (yLA (C:=CZ) 32 z17 (hs.rowL 2 rfl) rfl i0_59 i1_59) ?_
   refine wpG.many [2,9] (by kernel_rfl) (by decide) (forall_cons ?_ (forall_cons ?_ forall_nil))
   obtain ⟨r29,hg,h⟩:=ob h
   refine (oC 107 hs (ref26_dot.ok hg _ (hs.rowL 0 rfl) (hs.rowL 3 rfl)) ?_)
   intro w gw hs
   refine ⟨.of gw,?_⟩
   refine wpG.many [3,9] (by kernel_rfl) (by decide) (forall_cons ?_ (forall_cons ?_ forall_nil))
   obtain ⟨r30,hg,h⟩:=ob h
   refine (oC 108 hs (ref25_Back.ok hg _) ?_)
   intro w gw hs
   refine ⟨.of gw,?_⟩
   refine wpG.many [8,9] (by kernel_rfl) (by decide) (forall_cons ?_ (forall_cons ?_ forall_nil))
   obtain ⟨r31,hg,h⟩:=ob h
   refine (oC 113 hs (ref25_Add.ok hg _) ?_)
   intro w gw hs
   refine ⟨.of gw,?_⟩
   refine go 9 (oN 23 32 hs (enc .i32 (zeroA 256)) (ag .i32 (zeroA 256)) fun b32 w gw hs=>⟨.of gw,?_⟩)
   refine go 10 (oWe 32 .i32 r31 hs 0 fun w kp hs=>⟨⟨fun hf=>absurd hf (by decide),.all _ _⟩,?_⟩)
   refine gf (j58 _ _ ?_)
   obtain rfl:=of_some h
   exact nj _ _ ⟨b32,(hs.conv rfl),eg⟩
   refine (oN 23 32 hs (enc .i32 (zeroA 256)) (ag .i32 (zeroA 256)) ?_)
   intro b33 w gw hs
   refine ⟨.of gw,?_⟩
   obtain ⟨r34,hg,h⟩:=ob h
   refine go 8 (oC 113 hs (ref25_Add.ok hg _) fun w gw hs=>⟨.of gw,?_⟩)
   refine go 10 (oWe 32 .i32 r34 hs 0 fun w kp hs=>⟨⟨fun hf=>absurd hf (by decide),.all _ _⟩,?_⟩)
   refine gf (j58 _ _ ?_)
   obtain rfl:=of_some h
   exact nj _ _ ⟨b33,(hs.conv rfl),eg⟩
   refine (oN 23 32 hs (enc .i32 (zeroA 256)) (ag .i32 (zeroA 256)) ?_)
   intro b35 w gw hs
   refine ⟨.of gw,?_⟩
   obtain ⟨r36,hg,h⟩:=ob h
   refine go 3 (oC 108 hs (ref25_Back.ok hg _) fun w gw hs=>⟨.of gw,?_⟩)
   obtain ⟨r37,hg,h⟩:=ob h
   refine go 8 (oC 113 hs (ref25_Add.ok hg _) fun w gw hs=>⟨.of gw,?_⟩)
   refine go 10 (oWe 32 .i32 r37 hs 0 fun w kp hs=>⟨⟨fun hf=>absurd hf (by decide),.all _ _⟩,?_⟩)
   refine gf (j58 _ _ ?_)
   obtain rfl:=of_some h
   exact nj _ _ ⟨b35,(hs.conv rfl),eg⟩
   refine (oN 23 32 hs (enc .i32 (zeroA 256)) (ag .i32 (zeroA 256)) ?_)
   intro b38 w gw hs
   refine ⟨.of gw,?_⟩
   obtain ⟨r39,hg,h⟩:=ob h
   refine go 2 (oC 107 hs (ref26_dot.ok hg _ (hs.rowL 1 rfl) (hs.rowL 4 rfl)) fun w gw hs=>⟨.of gw,?_⟩)
   obtain ⟨r40,hg,h⟩:=ob h
   refine go 3 (oC 108 hs (ref25_Back.ok hg _) fun w gw hs=>⟨.of gw,?_⟩)
   obtain ⟨r41,hg,h⟩:=ob h
   refine go 8 (oC 113 hs (ref25_Add.ok hg _) fun w gw hs=>⟨.of gw,?_⟩)
   refine go 10 (oWe 32 .i32 r41 hs 0 fun w kp hs=>⟨⟨fun hf=>absurd hf (by decide),.all _ _⟩,?_⟩)
   refine gf (j58 _ _ ?_)
   obtain rfl:=of_some h
   exact nj _ _ ⟨b38,(hs.conv rfl),eg⟩
   clear hj hs
   rintro a w ⟨b27,hs,g57,rfl⟩
   refine T s56 (?_)
   refine rg [8] (fun k=>True) 10 fun _ j60=>?_
   have hs:=hs.drawn1
   refine gq 0 114 (.slice z18_A z18_n z18_c) ?_
   refine wpG.take [1,4,7,8,9] 1 true (some 115) (ag .i32 y28) (by kernel_rfl) (by kernel_rfl) (yWe 32 hs 0 .grow) ?_
   refine gq 2 116 (.pointer (some ⟨b1,3,none⟩)) ?_
   refine wpG.take [3,4,7,8,9] 3 true (some 117) (I8 a0_3) (by kernel_rfl) (by kernel_rfl) (yv hs 8 3 3 rfl (by rfl) .grow) ?_
   refine gq 5 119 (.pointer (some ⟨b1,3,none⟩)) ?_
   refine wpG.take [6,7,8,9] 6 true (some 120) (I8 a0_3) (by kernel_rfl) (by kernel_rfl) (yv hs 8 3 3 rfl (by rfl) .grow) ?_
   obtain ⟨r42,hg,h⟩:=ob h
   refine go 4 (oC 118 hs (ref25_Squeeze.ok hg _) fun w gw hs=>⟨.of gw,?_⟩)
   obtain ⟨r43,hg,h⟩:=ob h
   refine wpG.only 7 (by kernel_rfl) (oH 121 hs (ref25_Pack.ok hg _) ?_)
   rintro ⟨r43_A,r43_n,r43_c⟩ w gw hs
   have hs:=hs.conv (L':=[.ownL CB r43_A r43_n r43_c r43 5,.blk b27 (enc .i32 y28) 32,.ownL CZ y22_A y22_n y22_c y22 32,.ownL CB z18_A z18_n z18_c z18 5,.ownL CZ r16_A r16_n r16_c r16 32,.ownL CZ r15_A r15_n r15_c r15 32,.ownL CZ r14_A r14_n r14_c r14 32,.ownL CS y10_A y10_n y10_c y10_H 77,.ownL CZ r5_A r5_n r5_c r5 32,.blk b1 ([I8 a0_0,I8 a0_1,I8 a0_2,I8 a0_3,I8 a0_4]) 23]) rfl
   refine ⟨.of gw,?_⟩
   obtain ⟨h0,h⟩:=oc h
   refine go 8 (oAp (C:=CB) 122 24 24 5 1 140737488355328 hs 3 rfl (hs.rowL 0 rfl) h0 (by decide) (by decide) fun s44_A s44_n s44_c w hs=>⟨⟨fun hf=>absurd hf (by decide),.all _ _⟩,?_⟩)
   refine gq 9 19 (.slice s44_A s44_n s44_c) ?_
   refine gf (j60 _ _ ?_)
   refine iN (T s40 (xn 3 fun _ j61=>?_))
   refine nq 0 [(87,I8 z17),(88,I8 (iadd .i64 z17 1))] ?_
   obtain ⟨x45,hx,h⟩:=ob h
   refine tkf 2 20 (I8 x45) (yn hx) ?_
   refine fin (j61 _ _ ?_)
   exact tn (kl0 _ _ ⟨n,ls n,x45,(z18++r43),s44_A,s44_n,s44_c,h,(dr [0,0,0,1,1,1,1,1,1,1] hs),eg⟩)
   refine tb 3 86 (df hc) ?_
   refine fj j39 s38 (cf (xexit (tx (tx (iH ?_)))))
   obtain rfl:=of_some h
   exact exq_n (nn0 _ _ ⟨z18_A,z18_n,z18_c,(hs.conv rfl),eg⟩)
  clear hs h hy
  rintro a w ⟨y19_A,y19_n,y19_c,hs,g36,rfl⟩
  have h:=hk0
  refine T s32 (xs fun _ s62=>(xn 1 fun _ j63=>?_))
  refine so 0 (oN 24 32 hs (enc .i32 (zeroA 256)) (ag .i32 (zeroA 256)) fun b46 w gw hs=>?_)
  refine fj j63 s62 (xs fun _ s64=>(xs fun _ s65=>(xn 1 fun _ j66=>?_)))
  refine qo 0 25 (I8 0) ?_
  refine fj j66 s65 (?_)
  obtain ⟨y49,hy,hk2⟩:=ob h
  refine wp_exq (N:=fun a w=>St w0 [] [.blk b46 (enc .i32 y49) 32,.ownL CB y19_A y19_n y19_c y19 5,.ownL CZ r16_A r16_n r16_c r16 32,.ownL CZ r15_A r15_n r15_c r15 32,.ownL CZ r14_A r14_n r14_c r14 32,.ownL CS y10_A y10_n y10_c y10_H 77,.ownL CZ r5_A r5_n r5_c r5 32,.blk b1 ([I8 a0_0,I8 a0_1,I8 a0_2,I8 a0_3,I8 a0_4]) 23] [.inn CZ y10_H r8,.rowL CB s7_A s7_n s7_c (subL a1 (isub .i64 r2 32) (a1.length:Int)),.rowL CB a1_A a1_n a1_c a1,.rowL CB a2_A a2_n a2_c a2,.rowL CB a3_A a3_n a3_c a3] w∧∃ g68,a=fr g68 158 [(3,[.slice a3_A a3_n a3_c,P0 b1]),(8,[.slice none 0 0,I8 0]),(13,[.slice r5_A r5_n r5_c]),(17,[.slice r15_A r15_n r15_c]),(19,[.slice y19_A y19_n y19_c]),(24,[P0 b46])]) (fun N2 nn2=>?_) ?_
  clear hk2
  refine xb ?_
  refine wp_loop_k (fun n a w=>∃ z47 z48,ref26_Encrypt.l2 K n a2 z47 z48=some y49∧St w0 [] [.blk b46 (enc .i32 z48) 32,.ownL CB y19_A y19_n y19_c y19 5,.ownL CZ r16_A r16_n r16_c r16 32,.ownL CZ r15_A r15_n r15_c r15 32,.ownL CZ r14_A r14_n r14_c r14 32,.ownL CS y10_A y10_n y10_c y10_H 77,.ownL CZ r5_A r5_n r5_c r5 32,.blk b1 ([I8 a0_0,I8 a0_1,I8 a0_2,I8 a0_3,I8 a0_4]) 23] [.inn CZ y10_H r8,.rowL CB s7_A s7_n s7_c (subL a1 (isub .i64 r2 32) (a1.length:Int)),.rowL CB a1_A a1_n a1_c a1,.rowL CB a2_A a2_n a2_c a2,.rowL CB a3_A a3_n a3_c a3] w∧∃ g67,a=fr g67 158 [(2,[.slice a2_A a2_n a2_c,.slice a3_A a3_n a3_c,P0 b1]),(8,[.slice none 0 0,I8 0]),(13,[.slice r5_A r5_n r5_c]),(17,[.slice r15_A r15_n r15_c]),(19,[.slice y19_A y19_n y19_c]),(24,[P0 b46,I8 z47])]) K ⟨0,(zeroA 256),hy,hs.conv rfl,eg⟩ ?_
  clear hs h hy
  rintro n a w ⟨z47,z48,h,hs,g67,rfl⟩ KL2 kl2
  cases n with
  | zero=>exact nomatch (show none=some _ from h)
  | succ n=>
   refine xs fun _ s69=>?_
   refine xs fun _ s70=>?_
   refine xn 2 fun _ j71=>?_
   refine qo 0 123 (I8 z47) ?_
   obtain ⟨hc,h⟩|⟨hc,h⟩:=of_if h
   refine tb 1 124 (dt hc) ?_
   refine fj j71 s70 (ct (xk (T s69 (xs fun _ s72=>(xb (xn 6 fun _ j73=>?_))))))
   refine nq 0 [(127,I8 z47),(128,.slice a2_A a2_n a2_c),(129,I8 z47)] ?_
   obtain ⟨r50,hg,h⟩:=ob h
   refine so 3 (oC 130 hs (ref26_bit.ok hg _ (hs.rowR 3 rfl)) fun w gw hs=>?_)
   obtain ⟨i0_74,i1_74,h⟩:=oc2 h
   refine tkf 4 131 (P1 b46 z47) (yi 32 21 256 1 .i64 z47 i0_74 i1_74) ?_
   refine so 5 (oA 21 r50 z47 hs 0 rfl (by kernel_rfl) i0_74 i1_74 fun w kp hs=>?_)
   refine fin (j73 _ _ (iN (T s72 (xn 3 fun _ j75=>?_))))
   refine nq 0 [(125,I8 z47),(126,I8 (iadd .i64 z47 1))] ?_
   obtain ⟨x51,hx,h⟩:=ob h
   refine tkf 2 25 (I8 x51) (yn hx) ?_
   refine fin (j75 _ _ ?_)
   exact tn (kl2 _ _ ⟨n,ls n,x51,(wr z48 z47 r50),h,(hs.conv rfl),eg⟩)
   refine tb 1 124 (df hc) ?_
   refine fj j71 s70 (cf (xexit (tx (tx (iH ?_)))))
   obtain rfl:=of_some h
   exact exq_n (nn2 _ _ ⟨(hs.conv rfl),eg⟩)
  clear hs h hy
  rintro a w ⟨hs,g68,rfl⟩
  have h:=hk2
  refine T s64 (xs fun _ s76=>?_)
  obtain ⟨y53,hj,h⟩:=ob h
  refine wp_join (N:=fun a w=>∃ b52,St w0 [] [.blk b52 (enc .i32 y53) 32,.blk b46 (enc .i32 y49) 32,.ownL CB y19_A y19_n y19_c y19 5,.ownL CZ r16_A r16_n r16_c r16 32,.ownL CZ r15_A r15_n r15_c r15 32,.ownL CZ r14_A r14_n r14_c r14 32,.ownL CS y10_A y10_n y10_c y10_H 77,.ownL CZ r5_A r5_n r5_c r5 32,.blk b1 ([I8 a0_0,I8 a0_1,I8 a0_2,I8 a0_3,I8 a0_4]) 23] [.inn CZ y10_H r8,.rowL CB s7_A s7_n s7_c (subL a1 (isub .i64 r2 32) (a1.length:Int)),.rowL CB a1_A a1_n a1_c a1,.rowL CB a2_A a2_n a2_c a2,.rowL CB a3_A a3_n a3_c a3] w∧∃ g77,a=fr g77 158 [(4,[P0 b1]),(8,[.slice none 0 0,I8 0]),(19,[.slice y19_A y19_n y19_c]),(24,[P0 b46]),(26,[P0 b52])]) (fun N nj=>?_) ?_
  clear h
  have h:=hj
  refine rg [14] (fun k=>True) 15 fun _ j78=>?_
  have hs:=hs.drawn1
  refine gq 0 132 (.slice r5_A r5_n r5_c) ?_
  refine gq 1 133 (.slice r15_A r15_n r15_c) ?_
  refine gq 4 136 (.pointer (some ⟨b1,2,none⟩)) ?_
  refine tgt 5 137 (I8 a0_2) (yv hs 7 2 3 rfl (by rfl) .grow) ?_
  refine gq 6 138 (.slice a3_A a3_n a3_c) ?_
  refine gq 7 139 (P0 b1) ?_
  refine tgt 8 140 (I8 a0_0) (yv hs 7 0 3 rfl (by rfl) .grow) ?_
  refine gq 9 141 (I8 (imul .i64 2 a0_0)) ?_
  refine gq 10 142 (U1 (iconv .u8 (imul .i64 2 a0_0))) ?_
  refine wpG.many [2,13] (by kernel_rfl) (by decide) (forall_cons ?_ (forall_cons ?_ forall_nil))
  obtain ⟨r54,hg,h⟩:=ob h
  refine (oC 134 hs (ref26_dot.ok hg _ (hs.rowL 6 rfl) (hs.rowL 3 rfl)) ?_)
  intro w gw hs
  refine ⟨.of gw,?_⟩
  refine wpG.many [3,13] (by kernel_rfl) (by decide) (forall_cons ?_ (forall_cons ?_ forall_nil))
  obtain ⟨r55,hg,h⟩:=ob h
  refine (oC 135 hs (ref25_Back.ok hg _) ?_)
  intro w gw hs
  refine ⟨.of gw,?_⟩
  refine wpG.many [11,13] (by kernel_rfl) (by decide) (forall_cons ?_ (forall_cons ?_ forall_nil))
  obtain ⟨r56,hg,h⟩:=ob h
  refine (oC 143 hs (ref26_Noise.ok hg _ (hs.rowR 4 rfl)) ?_)
  intro w gw hs
  refine ⟨.of gw,?_⟩
  refine wpG.many [12,13] (by kernel_rfl) (by decide) (forall_cons ?_ (forall_cons ?_ forall_nil))
  obtain ⟨r57,hg,h⟩:=ob h
  refine (oC 144 hs (ref25_Add.ok hg _) ?_)
  intro w gw hs
  refine ⟨.of gw,?_⟩
  refine go 13 (oN 26 32 hs (enc .i32 (zeroA 256)) (ag .i32 (zeroA 256)) fun b58 w gw hs=>⟨.of gw,?_⟩)
  refine go 14 (oWe 32 .i32 r57 hs 0 fun w kp hs=>⟨⟨fun hf=>absurd hf (by decide),.all _ _⟩,?_⟩)
  refine gf (j78 _ _ ?_)
  obtain rfl:=of_some h
  exact nj _ _ ⟨b58,(hs.conv rfl),eg⟩
  refine (oN 26 32 hs (enc .i32 (zeroA 256)) (ag .i32 (zeroA 256)) ?_)
  intro b59 w gw hs
  refine ⟨.of gw,?_⟩
  obtain ⟨r60,hg,h⟩:=ob h
  refine go 12 (oC 144 hs (ref25_Add.ok hg _) fun w gw hs=>⟨.of gw,?_⟩)
  refine go 14 (oWe 32 .i32 r60 hs 0 fun w kp hs=>⟨⟨fun hf=>absurd hf (by decide),.all _ _⟩,?_⟩)
  refine gf (j78 _ _ ?_)
  obtain rfl:=of_some h
  exact nj _ _ ⟨b59,(hs.conv rfl),eg⟩
  refine (oN 26 32 hs (enc .i32 (zeroA 256)) (ag .i32 (zeroA 256)) ?_)
  intro b61 w gw hs
  refine ⟨.of gw,?_⟩
  obtain ⟨r62,hg,h⟩:=ob h
  refine go 11 (oC 143 hs (ref26_Noise.ok hg _ (hs.rowR 4 rfl)) fun w gw hs=>⟨.of gw,?_⟩)
  obtain ⟨r63,hg,h⟩:=ob h
  refine go 12 (oC 144 hs (ref25_Add.ok hg _) fun w gw hs=>⟨.of gw,?_⟩)
  refine go 14 (oWe 32 .i32 r63 hs 0 fun w kp hs=>⟨⟨fun hf=>absurd hf (by decide),.all _ _⟩,?_⟩)
  refine gf (j78 _ _ ?_)
  obtain rfl:=of_some h
  exact nj _ _ ⟨b61,(hs.conv rfl),eg⟩
  refine (oN 26 32 hs (enc .i32 (zeroA 256)) (ag .i32 (zeroA 256)) ?_)
  intro b64 w gw hs
  refine ⟨.of gw,?_⟩
  obtain ⟨r65,hg,h⟩:=ob h
  refine go 3 (oC 135 hs (ref25_Back.ok hg _) fun w gw hs=>⟨.of gw,?_⟩)
  obtain ⟨r66,hg,h⟩:=ob h
  refine go 11 (oC 143 hs (ref26_Noise.ok hg _ (hs.rowR 4 rfl)) fun w gw hs=>⟨.of gw,?_⟩)
  obtain ⟨r67,hg,h⟩:=ob h
  refine go 12 (oC 144 hs (ref25_Add.ok hg _) fun w gw hs=>⟨.of gw,?_⟩)
  refine go 14 (oWe 32 .i32 r67 hs 0 fun w kp hs=>⟨⟨fun hf=>absurd hf (by decide),.all _ _⟩,?_⟩)
  refine gf (j78 _ _ ?_)
  obtain rfl:=of_some h
  exact nj _ _ ⟨b64,(hs.conv rfl),eg⟩
  refine (oN 26 32 hs (enc .i32 (zeroA 256)) (ag .i32 (zeroA 256)) ?_)
  intro b68 w gw hs
  refine ⟨.of gw,?_⟩
  obtain ⟨r69,hg,h⟩:=ob h
  refine go 2 (oC 134 hs (ref26_dot.ok hg _ (hs.rowL 7 rfl) (hs.rowL 4 rfl)) fun w gw hs=>⟨.of gw,?_⟩)
  obtain ⟨r70,hg,h⟩:=ob h
  refine go 3 (oC 135 hs (ref25_Back.ok hg _) fun w gw hs=>⟨.of gw,?_⟩)
  obtain ⟨r71,hg,h⟩:=ob h
  refine go 11 (oC 143 hs (ref26_Noise.ok hg _ (hs.rowR 4 rfl)) fun w gw hs=>⟨.of gw,?_⟩)
  obtain ⟨r72,hg,h⟩:=ob h
  refine go 12 (oC 144 hs (ref25_Add.ok hg _) fun w gw hs=>⟨.of gw,?_⟩)
  refine go 14 (oWe 32 .i32 r72 hs 0 fun w kp hs=>⟨⟨fun hf=>absurd hf (by decide),.all _ _⟩,?_⟩)
  refine gf (j78 _ _ ?_)
  obtain rfl:=of_some h
  exact nj _ _ ⟨b68,(hs.conv rfl),eg⟩
  clear hj hs
  rintro a w ⟨b52,hs,g77,rfl⟩
  refine T s76 (xs fun _ s79=>?_)
  refine rg [4] (fun k=>True) 5 fun _ j80=>?_
  have hs:=hs.drawn1
  refine tgt 0 145 (ag .i32 y53) (yWe 32 hs 0 .grow) ?_
  refine tgt 1 146 (ag .i32 y49) (yWe 32 hs 1 .grow) ?_
  obtain ⟨r73,hg,h⟩:=ob h
  refine go 2 (oC 147 hs (ref25_Widen.ok hg _) fun w gw hs=>⟨.of gw,?_⟩)
  obtain ⟨r74,hg,h⟩:=ob h
  refine go 3 (oC 148 hs (ref25_Add.ok hg _) fun w gw hs=>⟨.of gw,?_⟩)
  refine go 4 (oWe 32 .i32 r74 hs 0 fun w kp hs=>⟨⟨fun hf=>absurd hf (by decide),.all _ _⟩,?_⟩)
  refine gf (j80 _ _ ?_)
  refine T s79 (xs fun _ s81=>?_)
  refine rg [8] (fun k=>True) 11 fun _ j82=>?_
  have hs:=hs.drawn1
  refine gq 0 149 (.slice y19_A y19_n y19_c) ?_
  refine wpG.take [1,4,7,8,9,10] 1 true (some 150) (ag .i32 r74) (by kernel_rfl) (by kernel_rfl) (yWe 32 hs 0 .grow) ?_
  refine gq 2 151 (.pointer (some ⟨b1,4,none⟩)) ?_
  refine wpG.take [3,4,7,8,9,10] 3 true (some 152) (I8 a0_4) (by kernel_rfl) (by kernel_rfl) (yv hs 8 4 3 rfl (by rfl) .grow) ?_
  refine gq 5 154 (.pointer (some ⟨b1,4,none⟩)) ?_
  refine wpG.take [6,7,8,9,10] 6 true (some 155) (I8 a0_4) (by kernel_rfl) (by kernel_rfl) (yv hs 8 4 3 rfl (by rfl) .grow) ?_
  obtain ⟨r75,hg,h⟩:=ob h
  refine go 4 (oC 153 hs (ref25_Squeeze.ok hg _) fun w gw hs=>⟨.of gw,?_⟩)
  obtain ⟨r76,hg,h⟩:=ob h
  refine wpG.only 7 (by kernel_rfl) (oH 156 hs (ref25_Pack.ok hg _) ?_)
  rintro ⟨r76_A,r76_n,r76_c⟩ w gw hs
  have hs:=hs.conv (L':=[.ownL CB r76_A r76_n r76_c r76 5,.blk b52 (enc .i32 r74) 32,.blk b46 (enc .i32 y49) 32,.ownL CB y19_A y19_n y19_c y19 5,.ownL CZ r16_A r16_n r16_c r16 32,.ownL CZ r15_A r15_n r15_c r15 32,.ownL CZ r14_A r14_n r14_c r14 32,.ownL CS y10_A y10_n y10_c y10_H 77,.ownL CZ r5_A r5_n r5_c r5 32,.blk b1 ([I8 a0_0,I8 a0_1,I8 a0_2,I8 a0_3,I8 a0_4]) 23]) rfl
  refine ⟨.of gw,?_⟩
  obtain ⟨h0,h⟩:=oc h
  refine go 8 (oAp (C:=CB) 157 24 24 5 1 140737488355328 hs 3 rfl (hs.rowL 0 rfl) h0 (by decide) (by decide) fun s77_A s77_n s77_c w hs=>⟨⟨fun hf=>absurd hf (by decide),.all _ _⟩,?_⟩)
  refine gq 9 8 (.slice s77_A s77_n s77_c) ?_
  refine gq 10 9 (I8 0) ?_
  refine gf (j82 _ _ ?_)
  refine T s81 (xret ?_)
  obtain ⟨rfl,rfl⟩:=os2 h
  exact qq _ _ (pt [8,9] [.slice s77_A s77_n s77_c,I8 0] ⟨⟨s77_A,s77_n,s77_c⟩,cr,(pz (dr [0,0,0,1,0,0,0,0,0,0] hs))⟩)
  refine tb 1 66 (nt hc) ?_
  refine fj j25 s24 (ct (xs fun _ s83=>(xn 3 fun _ j84=>?_)))
  refine nq 0 [(67,I8 r9),(8,.slice none 0 0),(9,I8 r9)] ?_
  refine fj j84 s83 (xret (tr ?_))
  obtain ⟨rfl,rfl⟩:=os2 h
  have hs:=hs.addNilL CB 5
  exact qq _ _ (pt [8,9] [.slice none 0 0,I8 r9] ⟨⟨none,0,0⟩,cr,(pz (dr [1,0,0,0] hs))⟩)
  refine tb 6 54 (nt hc) ?_
  refine qo 7 55 (.bool true) ?_
  refine fj j20 s19 (ct (xs fun _ s85=>(xn 2 fun _ j86=>?_)))
  refine nq 0 [(8,.slice none 0 0),(9,I8 14)] ?_
  refine fj j86 s85 (xret (tr ?_))
  obtain ⟨rfl,rfl⟩:=os2 h
  have hs:=hs.addNilL CB 5
  exact qq _ _ (pt [8,9] [.slice none 0 0,I8 14] ⟨⟨none,0,0⟩,cr,(pz (dr [1,0,0] hs))⟩)
  refine tb 2 50 (nt hc) ?_
  refine nq 3 [(51,.bool true),(52,undef),(53,undef),(54,undef),(55,.bool true)] ?_
  refine fj j20 s19 (ct (xs fun _ s87=>(xn 2 fun _ j88=>?_)))
  refine nq 0 [(8,.slice none 0 0),(9,I8 14)] ?_
  refine fj j88 s87 (xret (tr ?_))
  obtain ⟨rfl,rfl⟩:=os2 h
  have hs:=hs.addNilL CB 5
  exact qq _ _ (pt [8,9] [.slice none 0 0,I8 14] ⟨⟨none,0,0⟩,cr,(pz (dr [1,0,0] hs))⟩)
 | false=>
  have h:=of_if_f h
  refine nq 6 [(45,.bool false),(13,.slice r5_A r5_n r5_c),(14,.bool false)] ?_
  refine fj j14 s13 (xs fun _ s89=>(xs fun _ s90=>(xn 2 fun _ j91=>?_)))
  refine nq 0 [(46,.bool false),(47,.bool true)] ?_
  refine fj j91 s90 (ct (xs fun _ s92=>(xn 2 fun _ j93=>?_)))
  refine nq 0 [(8,.slice none 0 0),(9,I8 10)] ?_
  refine fj j93 s92 (xret (tr ?_))
  obtain ⟨rfl,rfl⟩:=os2 h
  have hs:=hs.addNilL CB 5
  exact qq _ _ (pt [8,9] [.slice none 0 0,I8 10] ⟨⟨none,0,0⟩,cr,(pz (dr [1,0,0] hs))⟩)
 refine tb 3 38 (nt hc) ?_
 refine fj j12 s11 (ct (xs fun _ s94=>(xn 2 fun _ j95=>?_)))
 refine nq 0 [(8,.slice none 0 0),(9,I8 10)] ?_
 refine fj j95 s94 (xret (tr ?_))
 obtain ⟨rfl,rfl⟩:=os2 h
 have hs:=hs.addNilL CB 5
 exact qq _ _ (pt [8,9] [.slice none 0 0,I8 10] ⟨⟨none,0,0⟩,cr,(pz (dr [1,0] hs))⟩)
theorem ref25_Sub.ok {K:Nat}{a0 a1 r0:Arr 256}(h:ref25_Sub.f K a0 a1=some r0) (w0:World):Ret Tryd.prog 69 #[ag .i32 a0,ag .i32 a1] w0 (ag .i32 r0):=by
 refine calls_k Tryd.func69 rfl fun Q qq=>?_
 have hs:=St.start w0
 refine wc (a':=(fu 20 [ag .i32 a0,ag .i32 a1])) ?_
 refine xs fun _ s1=>?_
 refine xn 3 fun _ j2=>?_
 refine so 0 (oB 2 32 (ag .i32 a0) hs (enc .i32 a0) fun b1 w gw hs=>?_)
 refine so 1 (oB 3 32 (ag .i32 a1) hs (enc .i32 a1) fun b2 w gw hs=>?_)
 refine so 2 (oN 4 32 hs (enc .i32 (zeroA 256)) (ag .i32 (zeroA 256)) fun b3 w gw hs=>?_)
 refine fj j2 s1 (xs fun _ s3=>(xs fun _ s4=>(xn 1 fun _ j5=>?_)))
 refine qo 0 5 (I8 0) ?_
 refine fj j5 s4 (?_)
 obtain ⟨y6,hy,hk0⟩:=ob h
 refine wp_exq (N:=fun a w=>St w0 [] [.blk b3 (enc .i32 (zeroA 256)) 32,.blk b2 (enc .i32 a1) 32,.blk b1 (enc .i32 y6) 32] [] w∧∃ g7,a=fr g7 22 [(2,[P0 b1]),(4,[P0 b3])]) (fun N0 nn0=>?_) ?_
 clear hk0
 refine xb ?_
 refine wp_loop_k (fun n a w=>∃ z4 z5,ref25_Sub.l0 K n a1 z4 z5=some y6∧St w0 [] [.blk b3 (enc .i32 (zeroA 256)) 32,.blk b2 (enc .i32 a1) 32,.blk b1 (enc .i32 z5) 32] [] w∧∃ g6,a=fr g6 22 [(2,[P0 b1,P0 b2,P0 b3,I8 z4])]) K ⟨0,a0,hy,hs.conv rfl,eg⟩ ?_
 clear hs h hy
 rintro n a w ⟨z4,z5,h,hs,g6,rfl⟩ KL0 kl0
 cases n with
 | zero=>exact nomatch (show none=some _ from h)
 | succ n=>
  refine xs fun _ s8=>?_
  refine xs fun _ s9=>?_
  refine xn 2 fun _ j10=>?_
  refine qo 0 6 (I8 z4) ?_
  obtain ⟨hc,h⟩|⟨hc,h⟩:=of_if h
  refine tb 1 7 (dt hc) ?_
  refine fj j10 s9 (ct (xk (T s8 (xs fun _ s11=>(xb ?_)))))
  refine rg [11] (fun k=>True) 12 fun _ j12=>?_
  have hs:=hs.drawn1
  refine gq 0 10 (I8 z4) ?_
  refine gq 1 11 (I8 z4) ?_
  obtain ⟨i0_13,i1_13,h⟩:=oc2 h
  refine tgf 2 12 (P1 b1 z4) (yi 32 21 256 1 .i64 z4 i0_13 i1_13) ?_
  refine tgt 3 13 (I4 (rd z5 z4)) (yA hs 2 21 z4 rfl i0_13 i1_13 .grow) ?_
  refine gq 4 14 (I8 z4) ?_
  obtain ⟨i0_14,i1_14,h⟩:=oc2 h
  refine tgf 5 15 (P1 b2 z4) (yi 32 21 256 1 .i64 z4 i0_14 i1_14) ?_
  refine tgt 6 16 (I4 (rd a1 z4)) (yA hs 1 21 z4 rfl i0_14 i1_14 .grow) ?_
  refine gq 7 17 (I4 (isub .i32 (rd z5 z4) (rd a1 z4))) ?_
  refine gq 8 18 (I4 (iadd .i32 (isub .i32 (rd z5 z4) (rd a1 z4)) 3329)) ?_
  refine gq 9 19 (I4 (irem .i32 (iadd .i32 (isub .i32 (rd z5 z4) (rd a1 z4)) 3329) 3329)) ?_
  obtain ⟨i0_15,i1_15,h⟩:=oc2 h
  refine tgf 10 20 (P1 b1 z4) (yi 32 21 256 1 .i64 z4 i0_15 i1_15) ?_
  obtain ⟨x7,hx,h⟩:=ob h
  refine go 11 (oA 21 x7 z4 hs 2 rfl (by cases hx; kernel_rfl) i0_15 i1_15 fun w kp hs=>⟨⟨fun hf=>absurd hf (by decide),.all _ _⟩,?_⟩)
  refine gf (j12 _ _ ?_)
  refine iN (T s11 (xn 3 fun _ j16=>?_))
  refine nq 0 [(8,I8 z4),(9,I8 (iadd .i64 z4 1))] ?_
  obtain ⟨x8,hx,h⟩:=ob h
  refine tkf 2 5 (I8 x8) (yn hx) ?_
  refine fin (j16 _ _ ?_)
  exact tn (kl0 _ _ ⟨n,ls n,x8,(wr z5 z4 x7),h,(hs.conv rfl),eg⟩)
  refine tb 1 7 (df hc) ?_
  refine fj j10 s9 (cf (xexit (tx (tx (iH ?_)))))
  obtain rfl:=of_some h
  exact exq_n (nn0 _ _ ⟨(hs.conv rfl),eg⟩)
 clear hs h hy
 rintro a w ⟨hs,g7,rfl⟩
 have h:=hk0
 refine T s3 (xs fun _ s17=>(xn 2 fun _ j18=>?_))
 refine tkt 0 21 (ag .i32 y6) (yWe 32 hs 2 .grow) ?_
 refine so 1 (oWe 32 .i32 y6 hs 0 fun w kp hs=>?_)
 refine fj j18 s17 (xret ?_)
 obtain rfl:=of_some h
 exact qq _ _ (pr (rr [.cell 4 32] [ag .i32 y6] (.cons (rcN 256 hs 0 rfl (enc_len _ _)) .nil)) ⟨cr,hs.none⟩)
end Go.Proofs.YtemdbgmldljbpaaDoor
