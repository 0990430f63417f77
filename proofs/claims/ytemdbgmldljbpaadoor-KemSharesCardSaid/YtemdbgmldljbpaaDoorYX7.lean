/- own -/
import Derived.Test.YtemdbgmldljbpaaDoorMh
import Derived.Test.YtemdbgmldljbpaaDoorProg
import Derived.Test.YtemdbgmldljbpaaDoorYF0
import Derived.Test.YtemdbgmldljbpaaDoorYX0
import Derived.Test.YtemdbgmldljbpaaDoorYX1
import Derived.Test.YtemdbgmldljbpaaDoorYX2
import Derived.Test.YtemdbgmldljbpaaDoorYX3
import Derived.Test.YtemdbgmldljbpaaDoorYX4
import Derived.Test.YtemdbgmldljbpaaDoorYX5
import Derived.Test.YtemdbgmldljbpaaDoorYX6
set_option linter.unusedVariables false
set_option linter.unusedSimpArgs false
set_option maxRecDepth 100000
set_option maxHeartbeats 4000000
namespace Go.Proofs.YtemdbgmldljbpaaDoor
open Go.Mx
attribute [local irreducible] wpOp
theorem kpke_Encrypt.ok {K:Nat}{a0_0 a0_1 a0_2 a0_3 a0_4:Int}{a1 a2 a3 r0:List Int}{r1:Int}{a1_A:Option Addr}{a1_n a1_c:Nat}{a2_A:Option Addr}{a2_n a2_c:Nat}{a3_A:Option Addr}{a3_n a3_c:Nat}(h:kpke_Encrypt.f K a0_0 a0_1 a0_2 a0_3 a0_4 a1 a2 a3=some (r0,r1)) (w0:World) (hp1:RowL CB w0 a1_A a1_n a1_c a1) (hp2:RowL CB w0 a2_A a2_n a2_c a2) (hp3:RowL CB w0 a3_A a3_n a3_c a3) (hg0:RowL CW w0 (some ⟨0,0,none⟩) 1 1 [tab_0]) (hg1:RowL CV w0 (some ⟨1,0,none⟩) 1 1 [tab_1]) (hg2:RowL CV w0 (some ⟨2,0,none⟩) 1 1 [tab_2]):Calls Tryd.prog 21 #[.agg #[I8 a0_0,I8 a0_1,I8 a0_2,I8 a0_3,I8 a0_4],.slice a1_A a1_n a1_c,.slice a2_A a2_n a2_c,.slice a3_A a3_n a3_c] w0 fun e w'=>∃ h:(Option Addr × Nat × Nat),e = .returned (.tuple #[.slice h.1 h.2.1 h.2.2,I8 r1])∧St w0 [] [.ownL CB h.1 h.2.1 h.2.2 r0 5] [] w':=by
 refine calls_k Tryd.func21 rfl fun Q qq=>?_
 have hs:=St.startR (all_cons (RowP.ent hp1) (all_cons (RowP.ent hp2) (all_cons (RowP.ent hp3) (all_cons (RowP.ent hg0) (all_cons (RowP.ent hg1) (all_cons (RowP.ent hg2) all_nil))))))
 refine wc (a':=(fu 131 [.agg #[I8 a0_0,I8 a0_1,I8 a0_2,I8 a0_3,I8 a0_4],.slice a1_A a1_n a1_c,.slice a2_A a2_n a2_c,.slice a3_A a3_n a3_c])) ?_
 refine xs fun _ s1=>?_
 refine xn 3 fun _ j2=>?_
 refine so 0 (oBa 4 23 hs [I8 a0_0,I8 a0_1,I8 a0_2,I8 a0_3,I8 a0_4] fun b1 w gw hs=>?_)
 refine nq 1 [(8,.slice none 0 0),(9,I8 0)] ?_
 refine fj j2 s1 (xs fun _ s3=>(xn 9 fun _ j4=>?_))
 refine tkt 0 23 _ (yWs 5 23 hs 0 .grow) ?_
 obtain ⟨⟨r2,r3,r4⟩,hg,h⟩:=ob h
 refine so 1 (oC 24 hs (kpke_Sizes.ok hg _) fun w gw hs=>?_)
 refine nq 2 [(22,.tuple #[I8 r2,I8 r3,I8 r4]),(25,I8 r2),(26,I8 r3),(27,I8 r4),(10,I8 r2),(11,I8 r3),(12,I8 r4)] ?_
 refine fj j4 s3 (xs fun _ s5=>(xb (xs fun _ s6=>(xn 3 fun _ j7=>?_))))
 refine qo 0 29 (I8 r2) ?_
 obtain ⟨hc,h⟩|⟨hc,h⟩:=of_if h
 refine tb 1 30 (et hc) ?_
 refine qo 2 28 (.bool true) ?_
 refine fj j7 s6 (ct (xs fun _ s8=>(xn 2 fun _ j9=>?_)))
 refine nq 0 [(8,.slice none 0 0),(9,I8 9)] ?_
 refine fj j9 s8 (xret (iR (tr ?_)))
 obtain ⟨rfl,rfl⟩:=os2 h
 have hs:=hs.addNilL CB 5
 exact qq _ _ (pt [8,9] [.slice none 0 0,I8 9] ⟨⟨none,0,0⟩,cr,(pz (dr [1,0] hs))⟩)
 refine tb 1 30 (ef hc) ?_
 refine qo 2 28 (.bool false) ?_
 refine fj j7 s6 (cf (xs fun _ s10=>(xn 5 fun _ j11=>?_)))
 refine qo 0 32 (.slice a1_A a1_n a1_c) ?_
 refine tkf 1 33 (I8 (a1.length:Int)) (yl (rR 0 hs)) ?_
 refine qo 2 34 (I8 r2) ?_
 obtain ⟨hc,h⟩|⟨hc,h⟩:=of_if h
 refine tb 3 35 (nf hc) ?_
 refine qo 4 31 (.bool false) ?_
 refine fj j11 s10 (cf (xk (iN (T s5 (xs fun _ s12=>(xn 9 fun _ j13=>?_))))))
 refine nq 0 [(37,.slice a1_A a1_n a1_c),(38,P0 b1)] ?_
 refine tkt 2 39 _ (yv hs 0 0 3 rfl (by rfl) .grow) ?_
 obtain ⟨⟨r5,r6⟩,hg,h⟩:=ob h
 refine wpS.only 3 (oH 40 hs (kpke_read.ok hg _ (rR 0 hs)) ?_)
 rintro ⟨r5_A,r5_n,r5_c⟩ w gw hs
 have hs:=hs.conv (L':=[.ownL CZ r5_A r5_n r5_c r5 32,.blk b1 ([I8 a0_0,I8 a0_1,I8 a0_2,I8 a0_3,I8 a0_4]) 23]) rfl
 refine ⟨fun _=>trivial,?_⟩
 refine nq 4 [(36,.tuple #[.slice r5_A r5_n r5_c,.bool r6]),(41,.slice r5_A r5_n r5_c)] ?_
 cases r6 with
 | true=>
  have h:=of_if_t h
  refine nq 6 [(42,.bool true),(13,.slice r5_A r5_n r5_c),(14,.bool true)] ?_
  refine fj j13 s12 (xs fun _ s14=>(xb (xs fun _ s15=>(xn 3 fun _ j16=>?_))))
  refine nq 0 [(44,.bool true),(45,.bool false),(43,.bool false)] ?_
  refine fj j16 s15 (cf (xs fun _ s17=>(xn 9 fun _ j18=>?_)))
  refine qo 0 47 (.slice a2_A a2_n a2_c) ?_
  refine tkf 1 48 (I8 (a2.length:Int)) (yl (rR 1 hs)) ?_
  obtain ⟨hc,h⟩|⟨hc,h⟩:=of_if h
  refine tb 2 49 (nf hc) ?_
  refine nq 3 [(50,.bool false),(51,.slice a3_A a3_n a3_c)] ?_
  refine tkf 5 52 (I8 (a3.length:Int)) (yl (rR 2 hs)) ?_
  obtain ⟨hc,h⟩|⟨hc,h⟩:=of_if h
  refine tb 6 53 (nf hc) ?_
  refine nq 7 [(54,.bool false),(46,.bool false)] ?_
  refine fj j18 s17 (cf (xk (iN (T s14 (xs fun _ s19=>?_)))))
  refine rg [5] (fun k=>True) 11 fun _ j20=>?_
  have hs:=hs.drawn1
  refine tgt 0 56 _ (yWs 5 23 hs 1 .grow) ?_
  refine gq 1 57 (.slice a1_A a1_n a1_c) ?_
  refine gq 2 58 (I8 r2) ?_
  refine gq 3 59 (I8 (isub .i64 r2 32)) ?_
  obtain ⟨h0,h1,h⟩:=oc2 h
  obtain ⟨h2,h⟩:=oc h
  obtain ⟨s7_A,hA⟩ : ∃ A,A=if a1_c=((isub .i64 r2 32):Int).toNat then a1_A else adr a1_A (((isub .i64 r2 32):Int).toNat*Cod.size CB):=⟨_,rfl⟩
  obtain ⟨s7_n,hn⟩ : ∃ n,n=((a1.length:Int):Int).toNat-((isub .i64 r2 32):Int).toNat:=⟨_,rfl⟩
  obtain ⟨s7_c,hc⟩ : ∃ c,c=a1_c-((isub .i64 r2 32):Int).toNat:=⟨_,rfl⟩
  refine tgf 4 60 (.slice s7_A s7_n s7_c) (ysb (C:=CB) 24 5 (some (I8 (isub .i64 r2 32))) none (isub .i64 r2 32) (a1.length:Int) (rR 0 hs) (.inr ⟨_,rfl⟩) (.inl ⟨rfl,rfl⟩) h0 h1 h2 hA hn hc) ?_
  have hs:=hs.addSub (C:=CB) 0 rfl h0 h1 h2 hA hn hc
  have hs:=hs.pickR (pick_cons 0 rfl (pick_cons 4 rfl (pick_cons 5 rfl (pick_cons 6 rfl (pick_cons 1 rfl (pick_cons 2 rfl (pick_cons 3 rfl pick_nil)))))))
  obtain ⟨⟨r8,r9⟩,hg,h⟩:=ob h
  refine wpG.only 5 (by kernel_rfl) (wpOp_call (d:=(some 61)) (by kernel_rfl) (fun _=>by kernel_rfl) (kpke_expanded_s.ok hg hs) ?_)
  rintro e w ⟨y10_A,y10_n,y10_c,y10_H,rfl,hs⟩
  refine ⟨_,rfl,?_⟩
  refine ⟨⟨fun hf=>absurd hf (by decide),.all _ _⟩,?_⟩
  refine gq 6 55 (.tuple #[.slice y10_A y10_n y10_c,I8 r9]) ?_
  refine gq 7 62 (.slice y10_A y10_n y10_c) ?_
  refine gq 8 63 (I8 r9) ?_
  refine gq 9 15 (.slice y10_A y10_n y10_c) ?_
  refine gq 10 16 (I8 r9) ?_
  refine gf (j20 _ _ ?_)
  refine T s19 (xs fun _ s21=>(xs fun _ s22=>(xn 2 fun _ j23=>?_)))
  refine qo 0 64 (I8 r9) ?_
  obtain ⟨hc,h⟩|⟨hc,h⟩:=of_if h
  refine tb 1 65 (nf hc) ?_
  refine fj j23 s22 (cf (xk (T s21 (xs fun _ s24=>(xn 8 fun _ j25=>?_)))))
  refine qo 0 67 (P0 b1) ?_
  refine tkt 1 68 _ (yv hs 2 0 3 rfl (by rfl) .grow) ?_
  refine qo 2 69 (.pointer (some ⟨b1,1,none⟩)) ?_
  refine tkt 3 70 _ (yv hs 2 1 3 rfl (by rfl) .grow) ?_
  refine qo 4 71 (.slice a3_A a3_n a3_c) ?_
  obtain ⟨r14,hg,h⟩:=ob h
  refine wpS.only 5 (oH 72 hs (kpke_noises.ok hg _ (rR 7 hs) (rR 2 hs) (rR 3 hs) (rR 4 hs)) ?_)
  rintro ⟨r14_A,r14_n,r14_c⟩ w gw hs
  have hs:=hs.conv (L':=[.ownL CZ r14_A r14_n r14_c r14 32,.ownL CS y10_A y10_n y10_c y10_H 78,.ownL CZ r5_A r5_n r5_c r5 32,.blk b1 ([I8 a0_0,I8 a0_1,I8 a0_2,I8 a0_3,I8 a0_4]) 23]) rfl
  refine ⟨fun _=>trivial,?_⟩
  obtain ⟨r15,hg,h⟩:=ob h
  refine wpS.only 6 (oH 73 hs (kpke_vector_parts.ok hg _ (rL 0 hs)) ?_)
  rintro ⟨r15_A,r15_n,r15_c⟩ w gw hs
  have hs:=hs.conv (L':=[.ownL CZ r15_A r15_n r15_c r15 32,.ownL CZ r14_A r14_n r14_c r14 32,.ownL CS y10_A y10_n y10_c y10_H 78,.ownL CZ r5_A r5_n r5_c r5 32,.blk b1 ([I8 a0_0,I8 a0_1,I8 a0_2,I8 a0_3,I8 a0_4]) 23]) rfl
  refine ⟨fun _=>trivial,?_⟩
  refine qo 7 17 (.slice r15_A r15_n r15_c) ?_
  refine fj j25 s24 (xs fun _ s26=>(xn 9 fun _ j27=>?_))
  refine qo 0 74 (P0 b1) ?_
  refine tkt 1 75 _ (yv hs 4 0 3 rfl (by rfl) .grow) ?_
  refine qo 2 76 (.pointer (some ⟨b1,2,none⟩)) ?_
  refine tkt 3 77 _ (yv hs 4 2 3 rfl (by rfl) .grow) ?_
  refine nq 4 [(78,.slice a3_A a3_n a3_c),(79,P0 b1)] ?_
  refine tkt 6 80 _ (yv hs 4 0 3 rfl (by rfl) .grow) ?_
  obtain ⟨r16,hg,h⟩:=ob h
  refine wpS.only 7 (oH 81 hs (kpke_noises.ok hg _ (rR 7 hs) (rR 2 hs) (rR 3 hs) (rR 4 hs)) ?_)
  rintro ⟨r16_A,r16_n,r16_c⟩ w gw hs
  have hs:=hs.conv (L':=[.ownL CZ r16_A r16_n r16_c r16 32,.ownL CZ r15_A r15_n r15_c r15 32,.ownL CZ r14_A r14_n r14_c r14 32,.ownL CS y10_A y10_n y10_c y10_H 78,.ownL CZ r5_A r5_n r5_c r5 32,.blk b1 ([I8 a0_0,I8 a0_1,I8 a0_2,I8 a0_3,I8 a0_4]) 23]) rfl
  refine ⟨fun _=>trivial,?_⟩
  refine qo 8 18 (.slice r16_A r16_n r16_c) ?_
  refine fj j27 s26 (xs fun _ s28=>(xs fun _ s29=>(xn 3 fun _ j30=>?_)))
  refine qo 0 82 (.slice y10_A y10_n y10_c) ?_
  refine tkf 1 83 (I8 (r8.length:Int)) (ylLL (LLP.mk (rL 3 hs) (hs.innR 0 rfl))) ?_
  refine qo 2 84 (I8 0) ?_
  refine fj j30 s29 (?_)
  obtain ⟨y19,hy,hk0⟩:=ob h
  refine wp_exq (N:=fun a w=>St w0 [] [.ownL CZ r16_A r16_n r16_c y19 32,.ownL CZ r15_A r15_n r15_c r15 32,.ownL CZ r14_A r14_n r14_c r14 32,.ownL CS y10_A y10_n y10_c y10_H 78,.ownL CZ r5_A r5_n r5_c r5 32,.blk b1 ([I8 a0_0,I8 a0_1,I8 a0_2,I8 a0_3,I8 a0_4]) 23] [.inn CZ y10_H r8,.rowL CB s7_A s7_n s7_c (subL a1 (isub .i64 r2 32) (a1.length:Int)),.rowL CW (some ⟨0,0,none⟩) 1 1 ([tab_0]),.rowL CV (some ⟨1,0,none⟩) 1 1 ([tab_1]),.rowL CV (some ⟨2,0,none⟩) 1 1 ([tab_2]),.rowL CB a1_A a1_n a1_c a1,.rowL CB a2_A a2_n a2_c a2,.rowL CB a3_A a3_n a3_c a3] w∧∃ g32,a=fr g32 135 [(2,[.slice a2_A a2_n a2_c,.slice a3_A a3_n a3_c,P0 b1]),(8,[.slice none 0 0,I8 0]),(13,[.slice r5_A r5_n r5_c]),(17,[.slice r15_A r15_n r15_c,.slice r16_A r16_n r16_c])]) (fun N0 nn0=>?_) ?_
  clear hk0
  refine xb ?_
  refine wp_loop_k (fun n a w=>∃ z17 z18,kpke_Encrypt.l0 K n a0_3 r8 r15 z17 z18=some y19∧St w0 [] [.ownL CZ r16_A r16_n r16_c z18 32,.ownL CZ r15_A r15_n r15_c r15 32,.ownL CZ r14_A r14_n r14_c r14 32,.ownL CS y10_A y10_n y10_c y10_H 78,.ownL CZ r5_A r5_n r5_c r5 32,.blk b1 ([I8 a0_0,I8 a0_1,I8 a0_2,I8 a0_3,I8 a0_4]) 23] [.inn CZ y10_H r8,.rowL CB s7_A s7_n s7_c (subL a1 (isub .i64 r2 32) (a1.length:Int)),.rowL CW (some ⟨0,0,none⟩) 1 1 ([tab_0]),.rowL CV (some ⟨1,0,none⟩) 1 1 ([tab_1]),.rowL CV (some ⟨2,0,none⟩) 1 1 ([tab_2]),.rowL CB a1_A a1_n a1_c a1,.rowL CB a2_A a2_n a2_c a2,.rowL CB a3_A a3_n a3_c a3] w∧∃ g31,a=fr g31 135 [(2,[.slice a2_A a2_n a2_c,.slice a3_A a3_n a3_c,P0 b1]),(8,[.slice none 0 0,I8 0]),(13,[.slice r5_A r5_n r5_c]),(17,[.slice r15_A r15_n r15_c,.slice r16_A r16_n r16_c]),(82,[.slice y10_A y10_n y10_c,I8 (r8.length:Int),I8 z17])]) K ⟨0,r16,hy,hs.conv rfl,eg⟩ ?_
  clear hs h hy
  rintro n a w ⟨z17,z18,h,hs,g31,rfl⟩ KL0 kl0
  cases n with
  | zero=>exact nomatch (show none=some _ from h)
  | succ n=>
   refine xs fun _ s33=>?_
   refine xn 1 fun _ j34=>?_
   obtain ⟨hc,h⟩|⟨hc,h⟩:=of_if h
   refine tb 0 85 (dt hc) ?_
   refine fj j34 s33 (xs fun _ s35=>(ct (xk (T s35 (xs fun _ s36=>(xb (xs fun _ s37=>(xn 5 fun _ j38=>?_))))))))
   refine qo 0 86 (I8 z17) ?_
   obtain ⟨h0,h1,h⟩:=oc2 h
   have i0_39:=h0
   have i1_39:=h1
   refine tkf 1 87 (PA CS y10_A z17) (yiLL (C:=CZ) 74 78 .i64 z17 (LLP.mk (rL 3 hs) (hs.innR 0 rfl)) h0 h1) ?_
   obtain ⟨s20_A,hA⟩ : ∃ A,A=(rdL CS y10_H z17).1:=⟨_,rfl⟩
   obtain ⟨s20_n,hn⟩ : ∃ n,n=(rdL CS y10_H z17).2.1:=⟨_,rfl⟩
   obtain ⟨s20_c,hc⟩ : ∃ c,c=(rdL CS y10_H z17).2.2:=⟨_,rfl⟩
   refine tkt 2 88 (.slice s20_A s20_n s20_c) (by subst hA hn hc; exact yLL (C:=CZ) 78 z17 (LLP.mk (rL 3 hs) (hs.innR 0 rfl)) i0_39 i1_39) ?_
   have hs:=hs.addInnI (C:=CZ) 0 rfl i0_39 i1_39 hA hn hc
   refine nq 3 [(19,I8 z17),(20,.slice s20_A s20_n s20_c)] ?_
   refine fj j38 s37 (?_)
   refine rg [15] (fun k=>True) 16 fun _ j40=>?_
   have hs:=hs.drawn1
   refine gq 0 89 (.slice r16_A r16_n r16_c) ?_
   refine gq 1 90 (I8 z17) ?_
   refine gq 2 91 (.slice r16_A r16_n r16_c) ?_
   refine gq 3 92 (I8 z17) ?_
   obtain ⟨h0,h1,h⟩:=oc2 h
   have i0_41:=h0
   have i1_41:=h1
   refine tgf 4 93 (PA CZ r16_A z17) (yiL (C:=CZ) 78 32 .i64 z17 (rL 0 hs) h0 h1) ?_
   refine tgt 5 94 _ (yLA (C:=CZ) 32 z17 (rL 0 hs) rfl i0_41 i1_41) ?_
   refine gq 6 95 (.slice s20_A s20_n s20_c) ?_
   refine gq 7 96 (.slice r15_A r15_n r15_c) ?_
   refine gq 11 100 (.pointer (some ⟨b1,3,none⟩)) ?_
   refine tgt 12 101 _ (yv hs 5 3 3 rfl (by rfl) .grow) ?_
   obtain ⟨r21,hg,h⟩:=ob h
   refine go 8 (oC 97 hs (kpke_vector_dot.ok hg _ (rR 0 hs) (rL 1 hs)) fun w gw hs=>⟨.of gw,?_⟩)
   obtain ⟨r22,hg,h⟩:=ob h
   refine go 9 (oC 98 hs (kq_Back.ok hg _) fun w gw hs=>⟨.of gw,?_⟩)
   obtain ⟨r23,hg,h⟩:=ob h
   refine go 10 (oC 99 hs (kq_Add.ok hg _) fun w gw hs=>⟨.of gw,?_⟩)
   obtain ⟨r24,hg,h⟩:=ob h
   refine go 13 (oC 102 hs (kq_Squeeze.ok hg _) fun w gw hs=>⟨.of gw,?_⟩)
   obtain ⟨h0,h1,h⟩:=oc2 h
   have i0_42:=h0
   have i1_42:=h1
   refine tgf 14 103 (PA CZ r16_A z17) (yiL (C:=CZ) 78 32 .i64 z17 (rL 0 hs) h0 h1) ?_
   refine go 15 (oL (C:=CZ) 32 z17 r24 hs 0 rfl i0_42 i1_42 fun w hs=>⟨⟨fun hf=>absurd hf (by decide),.all _ _⟩,?_⟩)
   refine gf (j40 _ _ ?_)
   refine iN (T s36 (xn 2 fun _ j43=>?_))
   refine nq 0 [(104,I8 (iadd .i64 z17 1)),(84,I8 (iadd .i64 z17 1))] ?_
   refine fin (j43 _ _ ?_)
   exact tn (kl0 _ _ ⟨n,ls n,(iadd .i64 z17 1),(wrL z18 z17 r24),h,(pk [1,2,3,4,5,6,7,8] hs),eg⟩)
   refine tb 0 85 (df hc) ?_
   refine fj j34 s33 (xs fun _ s44=>(cf (xexit (tx (tx (iH ?_))))))
   obtain rfl:=of_some h
   exact exq_n (nn0 _ _ ⟨(hs.conv rfl),eg⟩)
  clear hs h hy
  rintro a w ⟨hs,g32,rfl⟩
  have h:=hk0
  refine T s28 (xs fun _ s45=>?_)
  obtain ⟨y26,hj,h⟩:=ob h
  refine wp_join (N:=fun a w=>∃ b25,St w0 [] [.blk b25 (enc .i32 y26) 32,.ownL CZ r16_A r16_n r16_c y19 32,.ownL CZ r15_A r15_n r15_c r15 32,.ownL CZ r14_A r14_n r14_c r14 32,.ownL CS y10_A y10_n y10_c y10_H 78,.ownL CZ r5_A r5_n r5_c r5 32,.blk b1 ([I8 a0_0,I8 a0_1,I8 a0_2,I8 a0_3,I8 a0_4]) 23] [.inn CZ y10_H r8,.rowL CB s7_A s7_n s7_c (subL a1 (isub .i64 r2 32) (a1.length:Int)),.rowL CW (some ⟨0,0,none⟩) 1 1 ([tab_0]),.rowL CV (some ⟨1,0,none⟩) 1 1 ([tab_1]),.rowL CV (some ⟨2,0,none⟩) 1 1 ([tab_2]),.rowL CB a1_A a1_n a1_c a1,.rowL CB a2_A a2_n a2_c a2,.rowL CB a3_A a3_n a3_c a3] w∧∃ g46,a=fr g46 135 [(2,[.slice a2_A a2_n a2_c]),(4,[P0 b1]),(8,[.slice none 0 0,I8 0]),(18,[.slice r16_A r16_n r16_c]),(21,[P0 b25])]) (fun N nj=>?_) ?_
  clear h
  have h:=hj
  refine rg [14] (fun k=>True) 15 fun _ j47=>?_
  have hs:=hs.drawn1
  refine gq 0 105 (.slice r5_A r5_n r5_c) ?_
  refine gq 1 106 (.slice r15_A r15_n r15_c) ?_
  refine gq 4 109 (.pointer (some ⟨b1,2,none⟩)) ?_
  refine tgt 5 110 _ (yv hs 5 2 3 rfl (by rfl) .grow) ?_
  refine gq 6 111 (.slice a3_A a3_n a3_c) ?_
  refine gq 7 112 (P0 b1) ?_
  refine tgt 8 113 _ (yv hs 5 0 3 rfl (by rfl) .grow) ?_
  refine gq 9 114 (I8 (imul .i64 2 a0_0)) ?_
  refine gq 10 115 (U1 (iconv .u8 (imul .i64 2 a0_0))) ?_
  refine wpG.many [2,13] (by kernel_rfl) (by decide) (forall_cons ?_ (forall_cons ?_ forall_nil))
  obtain ⟨r27,hg,h⟩:=ob h
  refine (oC 107 hs (kpke_vector_dot.ok hg _ (rL 4 hs) (rL 1 hs)) ?_)
  intro w gw hs
  refine ⟨.of gw,?_⟩
  refine wpG.many [3,13] (by kernel_rfl) (by decide) (forall_cons ?_ (forall_cons ?_ forall_nil))
  obtain ⟨r28,hg,h⟩:=ob h
  refine (oC 108 hs (kq_Back.ok hg _) ?_)
  intro w gw hs
  refine ⟨.of gw,?_⟩
  refine wpG.many [11,13] (by kernel_rfl) (by decide) (forall_cons ?_ (forall_cons ?_ forall_nil))
  obtain ⟨r29,hg,h⟩:=ob h
  refine (oC 116 hs (kpke_Noise.ok hg _ (rR 7 hs) (rR 2 hs) (rR 3 hs) (rR 4 hs)) ?_)
  intro w gw hs
  refine ⟨.of gw,?_⟩
  refine wpG.many [12,13] (by kernel_rfl) (by decide) (forall_cons ?_ (forall_cons ?_ forall_nil))
  obtain ⟨r30,hg,h⟩:=ob h
  refine (oC 117 hs (kq_Add.ok hg _) ?_)
  intro w gw hs
  refine ⟨.of gw,?_⟩
  refine go 13 (oNe 21 32 .i32 (zeroA 256) hs fun b31 w gw hs=>⟨.of gw,?_⟩)
  refine go 14 (oWe 32 .i32 r30 hs 0 fun w kp hs=>⟨⟨fun hf=>absurd hf (by decide),.all _ _⟩,?_⟩)
  refine gf (j47 _ _ ?_)
  obtain rfl:=of_some h
  exact nj _ _ ⟨b31,(hs.conv rfl),eg⟩
  refine (oN 21 32 hs (enc .i32 (zeroA 256)) (ag .i32 (zeroA 256)) ?_)
  intro b32 w gw hs
  refine ⟨.of gw,?_⟩
  obtain ⟨r33,hg,h⟩:=ob h
  refine go 12 (oC 117 hs (kq_Add.ok hg _) fun w gw hs=>⟨.of gw,?_⟩)
  refine go 14 (oWe 32 .i32 r33 hs 0 fun w kp hs=>⟨⟨fun hf=>absurd hf (by decide),.all _ _⟩,?_⟩)
  refine gf (j47 _ _ ?_)
  obtain rfl:=of_some h
  exact nj _ _ ⟨b32,(hs.conv rfl),eg⟩
  refine (oN 21 32 hs (enc .i32 (zeroA 256)) (ag .i32 (zeroA 256)) ?_)
  intro b34 w gw hs
  refine ⟨.of gw,?_⟩
  obtain ⟨r35,hg,h⟩:=ob h
  refine go 11 (oC 116 hs (kpke_Noise.ok hg _ (rR 7 hs) (rR 2 hs) (rR 3 hs) (rR 4 hs)) fun w gw hs=>⟨.of gw,?_⟩)
  obtain ⟨r36,hg,h⟩:=ob h
  refine go 12 (oC 117 hs (kq_Add.ok hg _) fun w gw hs=>⟨.of gw,?_⟩)
  refine go 14 (oWe 32 .i32 r36 hs 0 fun w kp hs=>⟨⟨fun hf=>absurd hf (by decide),.all _ _⟩,?_⟩)
  refine gf (j47 _ _ ?_)
  obtain rfl:=of_some h
  exact nj _ _ ⟨b34,(hs.conv rfl),eg⟩
  refine (oN 21 32 hs (enc .i32 (zeroA 256)) (ag .i32 (zeroA 256)) ?_)
  intro b37 w gw hs
  refine ⟨.of gw,?_⟩
  obtain ⟨r38,hg,h⟩:=ob h
  refine go 3 (oC 108 hs (kq_Back.ok hg _) fun w gw hs=>⟨.of gw,?_⟩)
  obtain ⟨r39,hg,h⟩:=ob h
  refine go 11 (oC 116 hs (kpke_Noise.ok hg _ (rR 7 hs) (rR 2 hs) (rR 3 hs) (rR 4 hs)) fun w gw hs=>⟨.of gw,?_⟩)
  obtain ⟨r40,hg,h⟩:=ob h
  refine go 12 (oC 117 hs (kq_Add.ok hg _) fun w gw hs=>⟨.of gw,?_⟩)
  refine go 14 (oWe 32 .i32 r40 hs 0 fun w kp hs=>⟨⟨fun hf=>absurd hf (by decide),.all _ _⟩,?_⟩)
  refine gf (j47 _ _ ?_)
  obtain rfl:=of_some h
  exact nj _ _ ⟨b37,(hs.conv rfl),eg⟩
  refine (oN 21 32 hs (enc .i32 (zeroA 256)) (ag .i32 (zeroA 256)) ?_)
  intro b41 w gw hs
  refine ⟨.of gw,?_⟩
  obtain ⟨r42,hg,h⟩:=ob h
  refine go 2 (oC 107 hs (kpke_vector_dot.ok hg _ (rL 5 hs) (rL 2 hs)) fun w gw hs=>⟨.of gw,?_⟩)
  obtain ⟨r43,hg,h⟩:=ob h
  refine go 3 (oC 108 hs (kq_Back.ok hg _) fun w gw hs=>⟨.of gw,?_⟩)
  obtain ⟨r44,hg,h⟩:=ob h
  refine go 11 (oC 116 hs (kpke_Noise.ok hg _ (rR 7 hs) (rR 2 hs) (rR 3 hs) (rR 4 hs)) fun w gw hs=>⟨.of gw,?_⟩)
  obtain ⟨r45,hg,h⟩:=ob h
  refine go 12 (oC 117 hs (kq_Add.ok hg _) fun w gw hs=>⟨.of gw,?_⟩)
  refine go 14 (oWe 32 .i32 r45 hs 0 fun w kp hs=>⟨⟨fun hf=>absurd hf (by decide),.all _ _⟩,?_⟩)
  refine gf (j47 _ _ ?_)
  obtain rfl:=of_some h
  exact nj _ _ ⟨b41,(hs.conv rfl),eg⟩
  clear hj hs
  rintro a w ⟨b25,hs,g46,rfl⟩
  refine T s45 (xs fun _ s48=>?_)
  refine rg [7] (fun k=>True) 8 fun _ j49=>?_
  have hs:=hs.drawn1
  refine tgt 0 118 _ (yWe 32 hs 0 .grow) ?_
  refine gq 1 119 (.slice a2_A a2_n a2_c) ?_
  refine gq 4 122 (.pointer (some ⟨b1,4,none⟩)) ?_
  refine tgt 5 123 _ (yv hs 6 4 3 rfl (by rfl) .grow) ?_
  obtain ⟨r46,hg,h⟩:=ob h
  refine go 2 (oC 120 hs (kpke_spread.ok hg _ (rR 6 hs)) fun w gw hs=>⟨.of gw,?_⟩)
  obtain ⟨r47,hg,h⟩:=ob h
  refine go 3 (oC 121 hs (kq_Add.ok hg _) fun w gw hs=>⟨.of gw,?_⟩)
  obtain ⟨r48,hg,h⟩:=ob h
  refine go 6 (oC 124 hs (kq_Squeeze.ok hg _) fun w gw hs=>⟨.of gw,?_⟩)
  refine go 7 (oWe 32 .i32 r48 hs 0 fun w kp hs=>⟨⟨fun hf=>absurd hf (by decide),.all _ _⟩,?_⟩)
  refine gf (j49 _ _ ?_)
  refine T s48 (xs fun _ s50=>?_)
  refine rg [] (fun k=>True) 12 fun _ j51=>?_
  have hs:=hs.drawn1
  refine gq 0 125 (.slice r16_A r16_n r16_c) ?_
  refine gq 1 126 (.pointer (some ⟨b1,3,none⟩)) ?_
  refine tgt 2 127 _ (yv hs 6 3 3 rfl (by rfl) .grow) ?_
  refine tgt 4 129 _ (yWe 32 hs 0 .grow) ?_
  refine gq 5 130 (.pointer (some ⟨b1,4,none⟩)) ?_
  refine tgt 6 131 _ (yv hs 6 4 3 rfl (by rfl) .grow) ?_
  obtain ⟨r49,hg,h⟩:=ob h
  refine wpG.only 3 (by kernel_rfl) (oH 128 hs (kpke_vector_packed.ok hg _ (rL 1 hs)) ?_)
  rintro ⟨r49_A,r49_n,r49_c⟩ w gw hs
  have hs:=hs.conv (L':=[.ownL CB r49_A r49_n r49_c r49 5,.blk b25 (enc .i32 r48) 32,.ownL CZ r16_A r16_n r16_c y19 32,.ownL CZ r15_A r15_n r15_c r15 32,.ownL CZ r14_A r14_n r14_c r14 32,.ownL CS y10_A y10_n y10_c y10_H 78,.ownL CZ r5_A r5_n r5_c r5 32,.blk b1 ([I8 a0_0,I8 a0_1,I8 a0_2,I8 a0_3,I8 a0_4]) 23]) rfl
  refine ⟨.of gw,?_⟩
  obtain ⟨r50,hg,h⟩:=ob h
  refine wpG.only 7 (by kernel_rfl) (oH 132 hs (kq_Pack.ok hg _) ?_)
  rintro ⟨r50_A,r50_n,r50_c⟩ w gw hs
  have hs:=hs.conv (L':=[.ownL CB r50_A r50_n r50_c r50 5,.ownL CB r49_A r49_n r49_c r49 5,.blk b25 (enc .i32 r48) 32,.ownL CZ r16_A r16_n r16_c y19 32,.ownL CZ r15_A r15_n r15_c r15 32,.ownL CZ r14_A r14_n r14_c r14 32,.ownL CS y10_A y10_n y10_c y10_H 78,.ownL CZ r5_A r5_n r5_c r5 32,.blk b1 ([I8 a0_0,I8 a0_1,I8 a0_2,I8 a0_3,I8 a0_4]) 23]) rfl
  refine ⟨.of gw,?_⟩
  refine go 8 (oLt (C:=CS) 133 59 24 2 (.slice none 0 0) #[(0,.slice r49_A r49_n r49_c),(1,.slice r50_A r50_n r50_c)] ([(r49_A,r49_n,r49_c),(r50_A,r50_n,r50_c)]:List HS) hs rfl (by decide) (by decide) fun s51_A s51_n s51_c w gw hs=>⟨.of gw,?_⟩)
  obtain ⟨r52,hg,h⟩:=ob h
  refine wpG.only 9 (by kernel_rfl) (oH 134 hs (bits_Join.ok hg _ (LLP.mk (rL 0 hs) (inn_cons (rL 2 hs) (inn_cons (rL 1 hs) inn_nil)))) ?_)
  rintro ⟨r52_A,r52_n,r52_c⟩ w gw hs
  have hs:=hs.conv (L':=[.ownL CB r52_A r52_n r52_c r52 5,.ownL CS s51_A s51_n s51_c ([(r49_A,r49_n,r49_c),(r50_A,r50_n,r50_c)]:List HS) 24,.ownL CB r50_A r50_n r50_c r50 5,.ownL CB r49_A r49_n r49_c r49 5,.blk b25 (enc .i32 r48) 32,.ownL CZ r16_A r16_n r16_c y19 32,.ownL CZ r15_A r15_n r15_c r15 32,.ownL CZ r14_A r14_n r14_c r14 32,.ownL CS y10_A y10_n y10_c y10_H 78,.ownL CZ r5_A r5_n r5_c r5 32,.blk b1 ([I8 a0_0,I8 a0_1,I8 a0_2,I8 a0_3,I8 a0_4]) 23]) rfl
  refine ⟨.of gw,?_⟩
  refine gq 10 8 (.slice r52_A r52_n r52_c) ?_
  refine gq 11 9 (I8 0) ?_
  refine gf (j51 _ _ ?_)
  refine T s50 (xret ?_)
  obtain ⟨rfl,rfl⟩:=os2 h
  exact qq _ _ (pt [8,9] [.slice r52_A r52_n r52_c,I8 0] ⟨⟨r52_A,r52_n,r52_c⟩,cr,(pz (dr [1,0,0,0,0,0,0,0,0,0,0] hs))⟩)
  refine tb 1 65 (nt hc) ?_
  refine fj j23 s22 (ct (xs fun _ s52=>(xn 3 fun _ j53=>?_)))
  refine nq 0 [(66,I8 r9),(8,.slice none 0 0),(9,I8 r9)] ?_
  refine fj j53 s52 (xret (tr ?_))
  obtain ⟨rfl,rfl⟩:=os2 h
  have hs:=hs.addNilL CB 5
  exact qq _ _ (pt [8,9] [.slice none 0 0,I8 r9] ⟨⟨none,0,0⟩,cr,(pz (dr [1,0,0,0] hs))⟩)
  refine tb 6 53 (nt hc) ?_
  refine nq 7 [(54,.bool true),(46,.bool true)] ?_
  refine fj j18 s17 (ct (xs fun _ s54=>(xn 2 fun _ j55=>?_)))
  refine nq 0 [(8,.slice none 0 0),(9,I8 14)] ?_
  refine fj j55 s54 (xret (iR (tr ?_)))
  obtain ⟨rfl,rfl⟩:=os2 h
  have hs:=hs.addNilL CB 5
  exact qq _ _ (pt [8,9] [.slice none 0 0,I8 14] ⟨⟨none,0,0⟩,cr,(pz (dr [1,0,0] hs))⟩)
  refine tb 2 49 (nt hc) ?_
  refine nq 3 [(50,.bool true),(51,undef),(52,undef),(53,undef),(54,.bool true),(46,.bool true)] ?_
  refine fj j18 s17 (ct (xs fun _ s56=>(xn 2 fun _ j57=>?_)))
  refine nq 0 [(8,.slice none 0 0),(9,I8 14)] ?_
  refine fj j57 s56 (xret (iR (tr ?_)))
  obtain ⟨rfl,rfl⟩:=os2 h
  have hs:=hs.addNilL CB 5
  exact qq _ _ (pt [8,9] [.slice none 0 0,I8 14] ⟨⟨none,0,0⟩,cr,(pz (dr [1,0,0] hs))⟩)
 | false=>
  have h:=of_if_f h
  refine nq 6 [(42,.bool false),(13,.slice r5_A r5_n r5_c),(14,.bool false)] ?_
  refine fj j13 s12 (xs fun _ s58=>(xb (xs fun _ s59=>(xn 3 fun _ j60=>?_))))
  refine nq 0 [(44,.bool false),(45,.bool true),(43,.bool true)] ?_
  refine fj j60 s59 (ct (xs fun _ s61=>(xn 2 fun _ j62=>?_)))
  refine nq 0 [(8,.slice none 0 0),(9,I8 10)] ?_
  refine fj j62 s61 (xret (iR (tr ?_)))
  obtain ⟨rfl,rfl⟩:=os2 h
  have hs:=hs.addNilL CB 5
  exact qq _ _ (pt [8,9] [.slice none 0 0,I8 10] ⟨⟨none,0,0⟩,cr,(pz (dr [1,0,0] hs))⟩)
 refine tb 3 35 (nt hc) ?_
 refine qo 4 31 (.bool true) ?_
 refine fj j11 s10 (ct (xs fun _ s63=>(xn 2 fun _ j64=>?_)))
 refine nq 0 [(8,.slice none 0 0),(9,I8 10)] ?_
 refine fj j64 s63 (xret (iR (tr ?_)))
 obtain ⟨rfl,rfl⟩:=os2 h
 have hs:=hs.addNilL CB 5
 exact qq _ _ (pt [8,9] [.slice none 0 0,I8 10] ⟨⟨none,0,0⟩,cr,(pz (dr [1,0] hs))⟩)
theorem kem_good.ok {K:Nat}{a0_0 a0_1 a0_2 a0_3 a0_4:Int}{a1:List Int}{r0:Bool}{a1_A:Option Addr}{a1_n a1_c:Nat}(h:kem_good.f K a0_0 a0_1 a0_2 a0_3 a0_4 a1=some r0) (w0:World) (hp1:RowL CB w0 a1_A a1_n a1_c a1) (hg0:RowL CW w0 (some ⟨0,0,none⟩) 1 1 [tab_0]) (hg1:RowL CV w0 (some ⟨1,0,none⟩) 1 1 [tab_1]) (hg2:RowL CV w0 (some ⟨2,0,none⟩) 1 1 [tab_2]):Ret Tryd.prog 74 #[.agg #[I8 a0_0,I8 a0_1,I8 a0_2,I8 a0_3,I8 a0_4],.slice a1_A a1_n a1_c] w0 (.bool r0):=by
 refine calls_k Tryd.func74 rfl fun Q qq=>?_
 have hs:=St.startR (all_cons (RowP.ent hp1) (all_cons (RowP.ent hg0) (all_cons (RowP.ent hg1) (all_cons (RowP.ent hg2) all_nil))))
 refine wc (a':=(fu 13 [.agg #[I8 a0_0,I8 a0_1,I8 a0_2,I8 a0_3,I8 a0_4],.slice a1_A a1_n a1_c])) ?_
 refine xs fun _ s1=>?_
 refine xn 2 fun _ j2=>?_
 refine so 0 (oBa 2 23 hs [I8 a0_0,I8 a0_1,I8 a0_2,I8 a0_3,I8 a0_4] fun b1 w gw hs=>?_)
 refine qo 1 4 (.bool false) ?_
 refine fj j2 s1 (xs fun _ s3=>(xn 8 fun _ j4=>?_))
 refine tkt 0 8 _ (yWs 5 23 hs 0 .grow) ?_
 refine qo 1 9 (.slice a1_A a1_n a1_c) ?_
 obtain ⟨⟨r2,r3⟩,hg,h⟩:=ob h
 refine wpS.only 2 (oH 10 hs (kpke_Encrypt.ok hg _ (rR 0 hs) (RowL.nil _) (RowL.nil _) (rR 1 hs) (rR 2 hs) (rR 3 hs)) ?_)
 rintro ⟨r2_A,r2_n,r2_c⟩ w gw hs
 have hs:=hs.conv (L':=[.ownL CB r2_A r2_n r2_c r2 5,.blk b1 ([I8 a0_0,I8 a0_1,I8 a0_2,I8 a0_3,I8 a0_4]) 23]) rfl
 refine ⟨fun _=>trivial,?_⟩
 refine nq 3 [(7,.tuple #[.slice r2_A r2_n r2_c,I8 r3]),(11,.slice r2_A r2_n r2_c),(12,I8 r3),(5,.slice r2_A r2_n r2_c),(6,I8 r3)] ?_
 refine fj j4 s3 (xs fun _ s5=>(xn 3 fun _ j6=>?_))
 refine nq 0 [(13,I8 r3),(14,.bool (r3 == 14)),(4,.bool (r3 == 14))] ?_
 refine fj j6 s5 (xret ?_)
 obtain rfl:=of_some h
 exact qq _ _ (pt [4] [.bool (r3 == 14)] ⟨cr,hs.none⟩)
theorem bits_Same.ok {K:Nat}{a0 a1:List Int}{r0:Bool}{a0_A:Option Addr}{a0_n a0_c:Nat}{a1_A:Option Addr}{a1_n a1_c:Nat}(h:bits_Same.f K a0 a1=some r0) (w0:World) (hp0:RowL CB w0 a0_A a0_n a0_c a0) (hp1:RowL CB w0 a1_A a1_n a1_c a1):Ret Tryd.prog 99 #[.slice a0_A a0_n a0_c,.slice a1_A a1_n a1_c] w0 (.bool r0):=by
 refine calls_k Tryd.func99 rfl fun Q qq=>?_
 have hs:=St.startR (all_cons (RowP.ent hp0) (all_cons (RowP.ent hp1) all_nil))
 refine wc (a':=(fu 29 [.slice a0_A a0_n a0_c,.slice a1_A a1_n a1_c])) ?_
 refine xs fun _ s1=>?_
 refine xn 1 fun _ j2=>?_
 refine qo 0 4 (.bool false) ?_
 refine fj j2 s1 (xs fun _ s3=>(xs fun _ s4=>(xn 5 fun _ j5=>?_)))
 refine qo 0 7 (.slice a0_A a0_n a0_c) ?_
 refine tkf 1 8 (I8 (a0.length:Int)) (yl (rR 0 hs)) ?_
 refine qo 2 9 (.slice a1_A a1_n a1_c) ?_
 refine tkf 3 10 (I8 (a1.length:Int)) (yl (rR 1 hs)) ?_
 obtain ⟨hc,h⟩|⟨hc,h⟩:=of_if h
 refine tb 4 11 (nf hc) ?_
 refine fj j5 s4 (cf (xk (T s3 (xs fun _ s6=>(xn 1 fun _ j7=>?_)))))
 refine qo 0 5 (U1 0) ?_
 refine fj j7 s6 (xs fun _ s8=>(xs fun _ s9=>(xn 3 fun _ j10=>?_)))
 refine qo 0 12 (.slice a0_A a0_n a0_c) ?_
 refine tkf 1 13 (I8 (a0.length:Int)) (yl (rR 0 hs)) ?_
 refine qo 2 14 (I8 0) ?_
 refine fj j10 s9 (?_)
 obtain ⟨y3,hy,hk0⟩:=ob h
 refine wp_exq (N:=fun a w=>St w0 [] [] [.rowL CB a0_A a0_n a0_c a0,.rowL CB a1_A a1_n a1_c a1] w∧∃ g12,a=fr g12 31 [(4,[.bool false,U1 y3])]) (fun N0 nn0=>?_) ?_
 clear hk0
 refine xb ?_
 refine wp_loop_k (fun n a w=>∃ z1 z2,bits_Same.l0 K n a0 a1 z1 z2=some y3∧St w0 [] [] [.rowL CB a0_A a0_n a0_c a0,.rowL CB a1_A a1_n a1_c a1] w∧∃ g11,a=fr g11 31 [(0,[.slice a0_A a0_n a0_c,.slice a1_A a1_n a1_c]),(4,[.bool false,U1 z1]),(13,[I8 (a0.length:Int),I8 z2])]) K ⟨0,0,hy,hs.conv rfl,eg⟩ ?_
 clear hs h hy
 rintro n a w ⟨z1,z2,h,hs,g11,rfl⟩ KL0 kl0
 cases n with
 | zero=>exact nomatch (show none=some _ from h)
 | succ n=>
  refine xs fun _ s13=>?_
  refine xn 1 fun _ j14=>?_
  obtain ⟨hc,h⟩|⟨hc,h⟩:=of_if h
  refine tb 0 15 (dt hc) ?_
  refine fj j14 s13 (xs fun _ s15=>(ct (xk (T s15 (xs fun _ s16=>(xb (xs fun _ s17=>(xn 2 fun _ j18=>?_))))))))
  refine nq 0 [(16,I8 z2),(6,I8 z2)] ?_
  refine fj j18 s17 (?_)
  refine rg [] (fun k=>True) 12 fun _ j19=>?_
  have hs:=hs.drawn1
  refine gq 0 17 (U1 z1) ?_
  refine gq 1 18 (.slice a0_A a0_n a0_c) ?_
  refine gq 2 19 (I8 z2) ?_
  obtain ⟨h0,h1,h⟩:=oc2 h
  have i0_20:=h0
  have i1_20:=h1
  refine tgf 3 20 (PA CB a0_A z2) (yiL (C:=CB) 24 5 .i64 z2 (rR 0 hs) h0 h1) ?_
  refine tgt 4 21 _ (yL (C:=CB) 5 z2 (rR 0 hs) rfl i0_20 i1_20) ?_
  refine gq 5 22 (.slice a1_A a1_n a1_c) ?_
  refine gq 6 23 (I8 z2) ?_
  obtain ⟨h0,h1,h⟩:=oc2 h
  have i0_21:=h0
  have i1_21:=h1
  refine tgf 7 24 (PA CB a1_A z2) (yiL (C:=CB) 24 5 .i64 z2 (rR 1 hs) h0 h1) ?_
  refine tgt 8 25 _ (yL (C:=CB) 5 z2 (rR 1 hs) rfl i0_21 i1_21) ?_
  refine gq 9 26 (U1 (ixor .u8 (rdL CB a0 z2) (rdL CB a1 z2))) ?_
  refine gq 10 27 (U1 (ior .u8 z1 (ixor .u8 (rdL CB a0 z2) (rdL CB a1 z2)))) ?_
  obtain ⟨x4,hx,h⟩:=ob h
  refine tgf 11 5 (U1 x4) (yn hx) ?_
  refine gf (j19 _ _ ?_)
  refine iN (T s16 (xn 2 fun _ j22=>?_))
  refine nq 0 [(28,I8 (iadd .i64 z2 1)),(14,I8 (iadd .i64 z2 1))] ?_
  refine fin (j22 _ _ ?_)
  exact tn (kl0 _ _ ⟨n,ls n,x4,(iadd .i64 z2 1),h,(hs.conv rfl),eg⟩)
  refine tb 0 15 (df hc) ?_
  refine fj j14 s13 (xs fun _ s23=>(cf (xexit (tx (tx (iH ?_))))))
  obtain rfl:=of_some h
  exact exq_n (nn0 _ _ ⟨(hs.conv rfl),eg⟩)
 clear hs h hy
 rintro a w ⟨hs,g12,rfl⟩
 have h:=hk0
 refine T s8 (xs fun _ s24=>(xn 3 fun _ j25=>?_))
 refine nq 0 [(29,U1 y3),(30,.bool (y3 == 0)),(4,.bool (y3 == 0))] ?_
 refine fj j25 s24 (xret ?_)
 obtain rfl:=of_some h
 exact qq _ _ (pt [4] [.bool (y3 == 0)] ⟨cr,hs.none⟩)
 refine tb 4 11 (nt hc) ?_
 refine fj j5 s4 (ct (xs fun _ s26=>(xn 1 fun _ j27=>?_)))
 refine qo 0 4 (.bool false) ?_
 refine fj j27 s26 (xret (tr ?_))
 obtain rfl:=of_some h
 exact qq _ _ (pt [4] [.bool false] ⟨cr,hs.none⟩)
end Go.Proofs.YtemdbgmldljbpaaDoor
