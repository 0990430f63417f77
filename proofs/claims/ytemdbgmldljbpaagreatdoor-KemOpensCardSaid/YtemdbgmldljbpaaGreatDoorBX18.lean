/- own -/
import Derived.Test.YtemdbgmldljbpaaGreatDoorMh
import Derived.Test.YtemdbgmldljbpaaGreatDoorProg
import Derived.Test.YtemdbgmldljbpaaGreatDoorBFKemOpens
import Derived.Test.YtemdbgmldljbpaaGreatDoorBX1
import Derived.Test.YtemdbgmldljbpaaGreatDoorBX12
import Derived.Test.YtemdbgmldljbpaaGreatDoorBX14
import Derived.Test.YtemdbgmldljbpaaGreatDoorBX17
import Derived.Test.YtemdbgmldljbpaaGreatDoorBX9
set_option linter.unusedVariables false
set_option linter.unusedSimpArgs false
set_option maxRecDepth 100000
set_option maxHeartbeats 4000000
namespace Go.Proofs.YtemdbgmldljbpaaGreatDoor
open Go.Mx
attribute [local irreducible] wpOp
theorem ref25_Sub.ok {K:Nat}{a0 a1 r0:Arr 256}(h:ref25_Sub.f K a0 a1=some r0) (w0:World):Ret Tryz.prog 45 #[ag .i32 a0,ag .i32 a1] w0 (ag .i32 r0):=by
 refine calls_k Tryz.func45 rfl fun Q qq=>?_
 have hs:=St.start w0
 refine wc (a':=(fu 20 [ag .i32 a0,ag .i32 a1])) (xs fun _ s1=>(xn 3 fun _ j2=>(so 0 (oBe 2 70 .i32 a0 hs fun b1 w gw hs=>(so 1 (oBe 3 70 .i32 a1 hs fun b2 w gw hs=>?_))))))
 refine so 2 (oNe 4 70 .i32 (zeroA 256) hs fun b3 w gw hs=>?_)
 refine fj j2 s1 (xs fun _ s3=>(xs fun _ s4=>(xn 1 fun _ j5=>(qo 0 5 (I8 0) (fj j5 s4 (?_))))))
 obtain ⟨y6,hy,hk0⟩:=ob h
 refine wp_exq (N:=fun a w=>St w0 [] [.blk b3 (enc .i32 (zeroA 256)) 70,.blk b2 (enc .i32 a1) 70,.blk b1 (enc .i32 y6) 70] [] w∧∃ g7,a=fr g7 22 [(2,[P0 b1]),(4,[P0 b3])]) (fun N0 nn0=>?_) ?_
 clear hk0
 refine xb ?_
 refine wp_loop_k (fun n a w=>∃ z4 z5,ref25_Sub.l0 K n a1 z4 z5=some y6∧St w0 [] [.blk b3 (enc .i32 (zeroA 256)) 70,.blk b2 (enc .i32 a1) 70,.blk b1 (enc .i32 z5) 70] [] w∧∃ g6,a=fr g6 22 [(2,[P0 b1,P0 b2,P0 b3,I8 z4])]) K ⟨0,a0,hy,hs.conv rfl,eg⟩ ?_
 clear hs h hy
 rintro n a w ⟨z4,z5,h,hs,g6,rfl⟩ KL0 kl0
 cases n with
 | zero=>exact nomatch (show none=some _ from h)
 | succ n=>
  refine xs fun _ s8=>(xs fun _ s9=>(xn 2 fun _ j10=>(qo 0 6 (I8 z4) ?_)))
  obtain ⟨hc,h⟩|⟨hc,h⟩:=of_if h
  refine tb 1 7 (dt hc) ?_
  refine fj j10 s9 (ct (xk (T s8 (xs fun _ s11=>(xb ?_)))))
  refine rg [11] (fun k=>True) 12 fun _ j12=>?_
  have hs:=hs.drawn1
  refine gq 0 10 (I8 z4) (gq 1 11 (I8 z4) ?_)
  obtain ⟨i0_13,i1_13,h⟩:=oc2 h
  refine tgf 2 12 (P1 b1 z4) (yi 70 21 256 1 .i64 z4 i0_13 i1_13) (tgt 3 13 _ (yA hs 2 21 z4 rfl i0_13 i1_13 .grow) (gq 4 14 (I8 z4) ?_))
  obtain ⟨i0_14,i1_14,h⟩:=oc2 h
  refine tgf 5 15 (P1 b2 z4) (yi 70 21 256 1 .i64 z4 i0_14 i1_14) (tgt 6 16 _ (yA hs 1 21 z4 rfl i0_14 i1_14 .grow) (gq 7 17 (I4 (isub .i32 (rd z5 z4) (rd a1 z4))) (gq 8 18 (I4 (iadd .i32 (isub .i32 (rd z5 z4) (rd a1 z4)) 3329)) (gq 9 19 (I4 (irem .i32 (iadd .i32 (isub .i32 (rd z5 z4) (rd a1 z4)) 3329) 3329)) ?_))))
  obtain ⟨i0_15,i1_15,h⟩:=oc2 h
  refine tgf 10 20 (P1 b1 z4) (yi 70 21 256 1 .i64 z4 i0_15 i1_15) ?_
  obtain ⟨x7,hx,h⟩:=ob h
  refine go 11 (oA 21 x7 z4 hs 2 rfl (by cases hx; kernel_rfl) i0_15 i1_15 fun w kp hs=>⟨⟨fun hf=>absurd hf (by decide),.all _ _⟩,?_⟩)
  refine gf (j12 _ _ ?_)
  refine iN (T s11 (xn 3 fun _ j16=>?_))
  refine nq 0 [(8,I8 z4),(9,I8 (iadd .i64 z4 1))] ?_
  obtain ⟨x8,hx,h⟩:=ob h
  refine tkf 2 5 (I8 x8) (yn hx) (fin (j16 _ _ ?_))
  exact tn (kl0 _ _ ⟨n,ls n,x8,(wr z5 z4 x7),h,(hs.conv rfl),eg⟩)
  refine tb 1 7 (df hc) (fj j10 s9 (cf (xexit (tx (tx (iH ?_))))))
  obtain rfl:=of_some h
  exact exq_n (nn0 _ _ ⟨(hs.conv rfl),eg⟩)
 clear hs h hy
 rintro a w ⟨hs,g7,rfl⟩
 have h:=hk0
 refine T s3 (xs fun _ s17=>(xn 2 fun _ j18=>(tkt 0 21 _ (yWe 70 hs 2 .grow) (so 1 (oWe 70 .i32 y6 hs 0 fun w kp hs=>(fj j18 s17 (xret ?_)))))))
 obtain rfl:=of_some h
 exact qq _ _ (pr (rr [.cell 4 70] [ag .i32 y6] (.cons (rcN 256 hs 0 rfl (enc_len _ _)) .nil)) ⟨cr,hs.none⟩)
theorem ref26_Decrypt.ok {K:Nat}{a0_0 a0_1 a0_2 a0_3 a0_4:Int}{a1 a2 r0:List Int}{r1:Int}{a1_A:Option Addr}{a1_n a1_c:Nat}{a2_A:Option Addr}{a2_n a2_c:Nat}(h:ref26_Decrypt.f K a0_0 a0_1 a0_2 a0_3 a0_4 a1 a2=some (r0,r1)) (w0:World) (hp1:RowL CB w0 a1_A a1_n a1_c a1) (hp2:RowL CB w0 a2_A a2_n a2_c a2):Calls Tryz.prog 21 #[.agg #[I8 a0_0,I8 a0_1,I8 a0_2,I8 a0_3,I8 a0_4],.slice a1_A a1_n a1_c,.slice a2_A a2_n a2_c] w0 fun e w'=>∃ h:(Option Addr × Nat × Nat),e = .returned (.tuple #[.slice h.1 h.2.1 h.2.2,I8 r1])∧St w0 [] [.ownL CB h.1 h.2.1 h.2.2 r0 5] [] w':=by
 refine calls_k Tryz.func21 rfl fun Q qq=>?_
 have hs:=St.startR (all_cons (RowP.ent hp1) (all_cons (RowP.ent hp2) all_nil))
 refine wc (a':=(fu 94 [.agg #[I8 a0_0,I8 a0_1,I8 a0_2,I8 a0_3,I8 a0_4],.slice a1_A a1_n a1_c,.slice a2_A a2_n a2_c])) (xs fun _ s1=>(xn 3 fun _ j2=>(so 0 (oBa 3 23 hs [I8 a0_0,I8 a0_1,I8 a0_2,I8 a0_3,I8 a0_4] fun b1 w gw hs=>(nq 1 [(6,.slice none 0 0),(7,I8 0)] ?_)))))
 refine fj j2 s1 (xs fun _ s3=>(xn 9 fun _ j4=>(tkt 0 21 _ (yWs 5 23 hs 0 .grow) ?_)))
 obtain ⟨⟨r2,r3,r4⟩,hg,h⟩:=ob h
 refine so 1 (oC 22 hs (ref26_Sizes.ok hg _) fun w gw hs=>?_)
 refine nq 2 [(20,.tuple #[I8 r2,I8 r3,I8 r4]),(23,I8 r2),(24,I8 r3),(25,I8 r4),(8,I8 r2),(9,I8 r3),(10,I8 r4)] (fj j4 s3 (xs fun _ s5=>(xs fun _ s6=>(xn 2 fun _ j7=>(qo 0 26 (I8 r3) ?_)))))
 obtain ⟨hc,h⟩|⟨hc,h⟩:=of_if h
 refine tb 1 27 (et hc) ?_
 refine fj j7 s6 (ct (xs fun _ s8=>(xn 2 fun _ j9=>(nq 0 [(6,.slice none 0 0),(7,I8 9)] (fj j9 s8 (xret (tr ?_)))))))
 obtain ⟨rfl,rfl⟩:=os2 h
 have hs:=hs.addNilL CB 5
 exact qq _ _ (pt [6,7] [.slice none 0 0,I8 9] ⟨⟨none,0,0⟩,cr,(pz (dr [1,0] hs))⟩)
 refine tb 1 27 (ef hc) (fj j7 s6 (cf (xk (T s5 (xs fun _ s10=>(xs fun _ s11=>(xn 4 fun _ j12=>(qo 0 28 (.slice a1_A a1_n a1_c) (tkf 1 29 (I8 (a1.length:Int)) (yl (rR 0 hs)) (qo 2 30 (I8 r3) ?_))))))))))
 obtain ⟨hc,h⟩|⟨hc,h⟩:=of_if h
 refine tb 3 31 (nf hc) ?_
 refine fj j12 s11 (cf (xk (T s10 (xs fun _ s13=>(xn 9 fun _ j14=>(nq 0 [(33,.slice a1_A a1_n a1_c),(34,P0 b1)] (tkt 2 35 _ (yv hs 0 0 3 rfl (by rfl) .grow) ?_)))))))
 obtain ⟨⟨r5,r6⟩,hg,h⟩:=ob h
 refine wpS.only 3 (oH 36 hs (ref26_read.ok hg _ (rR 0 hs)) ?_)
 rintro ⟨r5_A,r5_n,r5_c⟩ w gw hs
 have hs:=hs.conv (L':=[.ownL CZ r5_A r5_n r5_c r5 70,.blk b1 ([I8 a0_0,I8 a0_1,I8 a0_2,I8 a0_3,I8 a0_4]) 23]) rfl
 refine ⟨fun _=>trivial,?_⟩
 refine nq 4 [(32,.tuple #[.slice r5_A r5_n r5_c,.bool r6]),(37,.slice r5_A r5_n r5_c)] ?_
 cases r6 with
 | true=>
  have h:=of_if_t h
  refine nq 6 [(38,.bool true),(11,.slice r5_A r5_n r5_c),(12,.bool true)] (fj j14 s13 (xs fun _ s15=>(xs fun _ s16=>(xn 2 fun _ j17=>(nq 0 [(39,.bool true),(40,.bool false)] (fj j17 s16 (cf (xk (T s15 (xs fun _ s18=>(xs fun _ s19=>(xn 4 fun _ j20=>(qo 0 41 (.slice a2_A a2_n a2_c) ?_)))))))))))))
  refine tkf 1 42 (I8 (a2.length:Int)) (yl (rR 1 hs)) (qo 2 43 (I8 r4) ?_)
  obtain ⟨hc,h⟩|⟨hc,h⟩:=of_if h
  refine tb 3 44 (nf hc) ?_
  refine fj j20 s19 (cf (xk (T s18 (xs fun _ s21=>(xn 11 fun _ j22=>(nq 0 [(46,.slice a2_A a2_n a2_c),(47,P0 b1)] (tkt 2 48 _ (yv hs 1 0 3 rfl (by rfl) .grow) (qo 3 49 (.pointer (some ⟨b1,3,none⟩)) (tkt 4 50 _ (yv hs 1 3 3 rfl (by rfl) .grow) ?_)))))))))
  obtain ⟨⟨r7,r8⟩,hg,h⟩:=ob h
  refine wpS.only 5 (oH 51 hs (ref26_read.ok hg _ (rR 1 hs)) ?_)
  rintro ⟨r7_A,r7_n,r7_c⟩ w gw hs
  have hs:=hs.conv (L':=[.ownL CZ r7_A r7_n r7_c r7 70,.ownL CZ r5_A r5_n r5_c r5 70,.blk b1 ([I8 a0_0,I8 a0_1,I8 a0_2,I8 a0_3,I8 a0_4]) 23]) rfl
  refine ⟨fun _=>trivial,?_⟩
  refine nq 6 [(45,.tuple #[.slice r7_A r7_n r7_c,.bool r8]),(52,.slice r7_A r7_n r7_c),(53,.bool r8),(13,.slice r7_A r7_n r7_c),(14,.bool r8)] (fj j22 s21 (xs fun _ s23=>(xn 1 fun _ j24=>(qo 0 15 (.slice none 0 0) (fj j24 s23 (xs fun _ s25=>(xs fun _ s26=>(xn 1 fun _ j27=>(qo 0 16 (I8 0) ?_)))))))))
  refine fj j27 s26 (?_)
  have hs:=hs.addNilL CZ 70
  obtain ⟨y11,hy,hk0⟩:=ob h
  refine wp_exq (N:=fun a w=>∃ y11_A y11_n y11_c,St w0 [] [.ownL CZ y11_A y11_n y11_c y11 70,.ownL CZ r7_A r7_n r7_c r7 70,.ownL CZ r5_A r5_n r5_c r5 70,.blk b1 ([I8 a0_0,I8 a0_1,I8 a0_2,I8 a0_3,I8 a0_4]) 23] [.rowL CB a1_A a1_n a1_c a1,.rowL CB a2_A a2_n a2_c a2] w∧∃ g29,a=fr g29 97 [(2,[.slice a2_A a2_n a2_c,P0 b1]),(6,[.slice none 0 0,I8 0]),(11,[.slice r5_A r5_n r5_c]),(15,[.slice y11_A y11_n y11_c])]) (fun N0 nn0=>?_) ?_
  clear hk0
  refine xb ?_
  refine wp_loop_k (fun n a w=>∃ z9 z10,∃ z10_A z10_n z10_c,ref26_Decrypt.l0 K n a0_0 a0_3 r7 z9 z10=some y11∧St w0 [] [.ownL CZ z10_A z10_n z10_c z10 70,.ownL CZ r7_A r7_n r7_c r7 70,.ownL CZ r5_A r5_n r5_c r5 70,.blk b1 ([I8 a0_0,I8 a0_1,I8 a0_2,I8 a0_3,I8 a0_4]) 23] [.rowL CB a1_A a1_n a1_c a1,.rowL CB a2_A a2_n a2_c a2] w∧∃ g28,a=fr g28 97 [(2,[.slice a2_A a2_n a2_c,P0 b1]),(6,[.slice none 0 0,I8 0]),(11,[.slice r5_A r5_n r5_c]),(13,[.slice r7_A r7_n r7_c]),(15,[.slice z10_A z10_n z10_c,I8 z9])]) K ⟨0,([]:List (Arr 256)),none,0,0,hy,hs.conv rfl,eg⟩ ?_
  clear hs h hy
  rintro n a w ⟨z9,z10,z10_A,z10_n,z10_c,h,hs,g28,rfl⟩ KL0 kl0
  cases n with
  | zero=>exact nomatch (show none=some _ from h)
  | succ n=>
   refine xs fun _ s30=>(xs fun _ s31=>(xn 4 fun _ j32=>(nq 0 [(54,I8 z9),(55,P0 b1)] (tkt 2 56 _ (yv hs 3 0 3 rfl (by rfl) .grow) ?_))))
   obtain ⟨hc,h⟩|⟨hc,h⟩:=of_if h
   refine tb 3 57 (dt hc) ?_
   refine fj j32 s31 (ct (xk (T s30 (xs fun _ s33=>(xb ?_)))))
   refine rg [10] (fun k=>True) 12 fun _ j34=>?_
   have hs:=hs.drawn1
   refine gq 0 60 (.slice z10_A z10_n z10_c) (gq 1 61 (.slice r7_A r7_n r7_c) (gq 2 62 (I8 z9) ?_))
   obtain ⟨h0,h1,h⟩:=oc2 h
   have i0_35:=h0
   have i1_35:=h1
   refine tgf 3 63 (PA CZ r7_A z9) (yiL (C:=CZ) 66 70 .i64 z9 (rL 1 hs) h0 h1) ?_
   refine wpG.take [4,7,8,9,10,11] 4 true (some 64) (ag .i32 (rdL CZ r7 z9)) (by kernel_rfl) (by kernel_rfl) (yLA (C:=CZ) 70 z9 (rL 1 hs) rfl i0_35 i1_35) ?_
   refine gq 5 65 (.pointer (some ⟨b1,3,none⟩)) ?_
   refine wpG.take [6,7,8,9,10,11] 6 true (some 66) (I8 a0_3) (by kernel_rfl) (by kernel_rfl) (yv hs 3 3 3 rfl (by rfl) .grow) ?_
   obtain ⟨r12,hg,h⟩:=ob h
   refine go 7 (oC 67 hs (ref25_Widen.ok hg _) fun w gw hs=>⟨.of gw,?_⟩)
   obtain ⟨r13,hg,h⟩:=ob h
   refine go 8 (oC 68 hs (ref25_Ntt.ok hg _) fun w gw hs=>⟨.of gw,?_⟩)
   refine go 9 (oLL (C:=CZ) 69 66 70 1 (ag .i32 (zeroA 256)) #[(0,ag .i32 r13)] [r13] hs rfl rfl (by decide) (by decide) fun s14_A s14_n s14_c w gw hs=>⟨.of gw,?_⟩)
   obtain ⟨h0,h⟩:=oc h
   refine go 10 (oAp (C:=CZ) 70 66 66 70 1024 137438953472 hs 1 rfl (rL 0 hs) h0 (by decide) (by decide) fun s15_A s15_n s15_c w hs=>⟨⟨fun hf=>absurd hf (by decide),.all _ _⟩,?_⟩)
   refine gq 11 15 (.slice s15_A s15_n s15_c) (gf (j34 _ _ ?_))
   refine iN (T s33 (xn 3 fun _ j36=>?_))
   refine nq 0 [(58,I8 z9),(59,I8 (iadd .i64 z9 1))] ?_
   obtain ⟨x16,hx,h⟩:=ob h
   refine tkf 2 16 (I8 x16) (yn hx) (fin (j36 _ _ ?_))
   exact tn (kl0 _ _ ⟨n,ls n,x16,(z10++([r13]:List (Arr 256))),s15_A,s15_n,s15_c,h,(dr [0,1,1,1,1] hs),eg⟩)
   refine tb 3 57 (df hc) (fj j32 s31 (cf (xexit (tx (tx (iH ?_))))))
   obtain rfl:=of_some h
   exact exq_n (nn0 _ _ ⟨z10_A,z10_n,z10_c,(hs.conv rfl),eg⟩)
  clear hs h hy
  rintro a w ⟨y11_A,y11_n,y11_c,hs,g29,rfl⟩
  have h:=hk0
  refine T s25 (xs fun _ s37=>?_)
  obtain ⟨y18,hj,h⟩:=ob h
  refine wp_join (N:=fun a w=>∃ b17,St w0 [] [.blk b17 (enc .i32 y18) 70,.ownL CZ y11_A y11_n y11_c y11 70,.ownL CZ r7_A r7_n r7_c r7 70,.ownL CZ r5_A r5_n r5_c r5 70,.blk b1 ([I8 a0_0,I8 a0_1,I8 a0_2,I8 a0_3,I8 a0_4]) 23] [.rowL CB a1_A a1_n a1_c a1,.rowL CB a2_A a2_n a2_c a2] w∧∃ g38,a=fr g38 97 [(3,[P0 b1]),(6,[.slice none 0 0,I8 0]),(11,[.slice r5_A r5_n r5_c]),(15,[.slice y11_A y11_n y11_c]),(17,[P0 b17])]) (fun N nj=>?_) ?_
  clear h
  have h:=hj
  refine rg [15] (fun k=>True) 17 fun _ j39=>?_
  have hs:=hs.drawn1
  refine gq 0 72 (.slice a2_A a2_n a2_c) (gq 1 73 (.pointer (some ⟨b1,3,none⟩)) (tgt 2 74 _ (yv hs 3 3 3 rfl (by rfl) .grow) (gq 3 75 (I8 (imul .i64 32 a0_3)) (gq 4 76 (P0 b1) ?_))))
  refine tgt 5 77 _ (yv hs 3 0 3 rfl (by rfl) .grow) (gq 6 78 (I8 (imul .i64 (imul .i64 32 a0_3) a0_0)) ?_)
  obtain ⟨h0,h1,h⟩:=oc2 h
  obtain ⟨h2,h⟩:=oc h
  obtain ⟨s19_A,hA⟩ : ∃ A,A=if a2_c=((imul .i64 (imul .i64 32 a0_3) a0_0):Int).toNat then a2_A else adr a2_A (((imul .i64 (imul .i64 32 a0_3) a0_0):Int).toNat*Cod.size CB):=⟨_,rfl⟩
  obtain ⟨s19_n,hn⟩ : ∃ n,n=((a2.length:Int):Int).toNat-((imul .i64 (imul .i64 32 a0_3) a0_0):Int).toNat:=⟨_,rfl⟩
  obtain ⟨s19_c,hc⟩ : ∃ c,c=a2_c-((imul .i64 (imul .i64 32 a0_3) a0_0):Int).toNat:=⟨_,rfl⟩
  refine tgf 7 79 (.slice s19_A s19_n s19_c) (ysb (C:=CB) 24 5 (some (I8 (imul .i64 (imul .i64 32 a0_3) a0_0))) none (imul .i64 (imul .i64 32 a0_3) a0_0) (a2.length:Int) (rR 1 hs) (.inr ⟨_,rfl⟩) (.inl ⟨rfl,rfl⟩) h0 h1 h2 hA hn hc) ?_
  have hs:=hs.addSub (C:=CB) 1 rfl h0 h1 h2 hA hn hc
  refine gq 8 80 (.pointer (some ⟨b1,4,none⟩)) (tgt 9 81 _ (yv hs 3 4 3 rfl (by rfl) .grow) ?_)
  refine wpG.many [10,14] (by kernel_rfl) (by decide) (forall_cons ?_ (forall_cons ?_ forall_nil))
  obtain ⟨⟨r20,r21⟩,hg,h⟩:=ob h
  refine (oC 82 hs (ref25_Unpack.ok hg _ (rR 0 hs)) ?_)
  intro w gw hs
  refine ⟨.of gw,?_⟩
  refine gq 11 71 (.tuple #[ag .i32 r20,.bool r21]) (gq 12 83 (ag .i32 r20) (gq 13 84 (.bool r21) (go 14 (oNe 17 70 .i32 (zeroA 256) hs fun b22 w gw hs=>⟨.of gw,(go 15 (oWe 70 .i32 r20 hs 0 fun w kp hs=>⟨⟨fun hf=>absurd hf (by decide),.all _ _⟩,?_⟩))⟩))))
  refine gq 16 18 (.bool r21) (gf (j39 _ _ ?_))
  obtain rfl:=of_some h
  exact nj _ _ ⟨b22,(pk [1,2] hs),eg⟩
  refine (oN 17 70 hs (enc .i32 (zeroA 256)) (ag .i32 (zeroA 256)) ?_)
  intro b23 w gw hs
  refine ⟨.of gw,?_⟩
  obtain ⟨⟨r24,r25⟩,hg,h⟩:=ob h
  refine go 10 (oC 82 hs (ref25_Unpack.ok hg _ (rR 0 hs)) fun w gw hs=>⟨.of gw,?_⟩)
  refine gq 11 71 (.tuple #[ag .i32 r24,.bool r25]) (gq 12 83 (ag .i32 r24) (gq 13 84 (.bool r25) (go 15 (oWe 70 .i32 r24 hs 0 fun w kp hs=>⟨⟨fun hf=>absurd hf (by decide),.all _ _⟩,(gq 16 18 (.bool r25) ?_)⟩))))
  refine gf (j39 _ _ ?_)
  obtain rfl:=of_some h
  exact nj _ _ ⟨b23,(pk [1,2] hs),eg⟩
  clear hj hs
  rintro a w ⟨b17,hs,g38,rfl⟩
  refine T s37 (xs fun _ s40=>(xn 11 fun _ j41=>(tkt 0 85 _ (yWe 70 hs 0 .grow) (qo 1 86 (.pointer (some ⟨b1,4,none⟩)) (tkt 2 87 _ (yv hs 4 4 3 rfl (by rfl) .grow) ?_)))))
  obtain ⟨r26,hg,h⟩:=ob h
  refine so 3 (oC 88 hs (ref25_Widen.ok hg _) fun w gw hs=>?_)
  refine nq 4 [(89,.slice r5_A r5_n r5_c),(90,.slice y11_A y11_n y11_c)] ?_
  obtain ⟨r27,hg,h⟩:=ob h
  refine so 6 (oC 91 hs (ref26_dot.ok hg _ (rL 3 hs) (rL 1 hs)) fun w gw hs=>?_)
  obtain ⟨r28,hg,h⟩:=ob h
  refine so 7 (oC 92 hs (ref25_Back.ok hg _) fun w gw hs=>?_)
  obtain ⟨r29,hg,h⟩:=ob h
  refine so 8 (oC 93 hs (ref25_Sub.ok hg _) fun w gw hs=>?_)
  refine so 9 (oNe 19 70 .i32 (zeroA 256) hs fun b30 w gw hs=>?_)
  refine so 10 (oWe 70 .i32 r29 hs 0 fun w kp hs=>?_)
  refine fj j41 s40 (xs fun _ s42=>(xn 5 fun _ j43=>(tkt 0 94 _ (yWe 70 hs 0 .grow) ?_)))
  obtain ⟨r31,hg,h⟩:=ob h
  refine so 1 (oC 95 hs (ref25_Squeeze.ok hg _) fun w gw hs=>?_)
  obtain ⟨r32,hg,h⟩:=ob h
  refine wpS.only 2 (oH 96 hs (ref25_Pack.ok hg _) ?_)
  rintro ⟨r32_A,r32_n,r32_c⟩ w gw hs
  have hs:=hs.conv (L':=[.ownL CB r32_A r32_n r32_c r32 5,.blk b30 (enc .i32 r29) 70,.blk b17 (enc .i32 y18) 70,.ownL CZ y11_A y11_n y11_c y11 70,.ownL CZ r7_A r7_n r7_c r7 70,.ownL CZ r5_A r5_n r5_c r5 70,.blk b1 ([I8 a0_0,I8 a0_1,I8 a0_2,I8 a0_3,I8 a0_4]) 23]) rfl
  refine ⟨fun _=>trivial,?_⟩
  refine nq 3 [(6,.slice r32_A r32_n r32_c),(7,I8 0)] (fj j43 s42 (xret ?_))
  obtain ⟨rfl,rfl⟩:=os2 h
  exact qq _ _ (pt [6,7] [.slice r32_A r32_n r32_c,I8 0] ⟨⟨r32_A,r32_n,r32_c⟩,cr,(pz (dr [1,0,0,0,0,0,0] hs))⟩)
  refine tb 3 44 (nt hc) (fj j20 s19 (ct (xs fun _ s44=>(xn 2 fun _ j45=>(nq 0 [(6,.slice none 0 0),(7,I8 14)] (fj j45 s44 (xret (tr ?_))))))))
  obtain ⟨rfl,rfl⟩:=os2 h
  have hs:=hs.addNilL CB 5
  exact qq _ _ (pt [6,7] [.slice none 0 0,I8 14] ⟨⟨none,0,0⟩,cr,(pz (dr [1,0,0] hs))⟩)
 | false=>
  have h:=of_if_f h
  refine nq 6 [(38,.bool false),(11,.slice r5_A r5_n r5_c),(12,.bool false)] (fj j14 s13 (xs fun _ s46=>(xs fun _ s47=>(xn 2 fun _ j48=>(nq 0 [(39,.bool false),(40,.bool true)] (fj j48 s47 (ct (xs fun _ s49=>(xn 2 fun _ j50=>(nq 0 [(6,.slice none 0 0),(7,I8 10)] ?_))))))))))
  refine fj j50 s49 (xret (tr ?_))
  obtain ⟨rfl,rfl⟩:=os2 h
  have hs:=hs.addNilL CB 5
  exact qq _ _ (pt [6,7] [.slice none 0 0,I8 10] ⟨⟨none,0,0⟩,cr,(pz (dr [1,0,0] hs))⟩)
 refine tb 3 31 (nt hc) (fj j12 s11 (ct (xs fun _ s51=>(xn 2 fun _ j52=>(nq 0 [(6,.slice none 0 0),(7,I8 10)] (fj j52 s51 (xret (tr ?_))))))))
 obtain ⟨rfl,rfl⟩:=os2 h
 have hs:=hs.addNilL CB 5
 exact qq _ _ (pt [6,7] [.slice none 0 0,I8 10] ⟨⟨none,0,0⟩,cr,(pz (dr [1,0] hs))⟩)
theorem ref27_Open.ok {K:Nat}{a0_0 a0_1 a0_2 a0_3 a0_4:Int}{a1 a2 r0:List Int}{r1:Int}{a1_A:Option Addr}{a1_n a1_c:Nat}{a2_A:Option Addr}{a2_n a2_c:Nat}(h:ref27_Open.f K a0_0 a0_1 a0_2 a0_3 a0_4 a1 a2=some (r0,r1)) (w0:World) (hp1:RowL CB w0 a1_A a1_n a1_c a1) (hp2:RowL CB w0 a2_A a2_n a2_c a2):Calls Tryz.prog 8 #[.agg #[I8 a0_0,I8 a0_1,I8 a0_2,I8 a0_3,I8 a0_4],.slice a1_A a1_n a1_c,.slice a2_A a2_n a2_c] w0 fun e w'=>∃ h:(Option Addr × Nat × Nat),e = .returned (.tuple #[.slice h.1 h.2.1 h.2.2,I8 r1])∧St w0 [] [.rowL CB h.1 h.2.1 h.2.2 r0] [] w':=by
 refine calls_k Tryz.func8 rfl fun Q qq=>?_
 have hs:=St.startR (all_cons (RowP.ent hp1) (all_cons (RowP.ent hp2) all_nil))
 refine wc (a':=(fu 119 [.agg #[I8 a0_0,I8 a0_1,I8 a0_2,I8 a0_3,I8 a0_4],.slice a1_A a1_n a1_c,.slice a2_A a2_n a2_c])) (xs fun _ s1=>(xn 3 fun _ j2=>(so 0 (oBa 3 23 hs [I8 a0_0,I8 a0_1,I8 a0_2,I8 a0_3,I8 a0_4] fun b1 w gw hs=>(nq 1 [(6,.slice none 0 0),(7,I8 0)] ?_)))))
 refine fj j2 s1 (xs fun _ s3=>(xn 9 fun _ j4=>(tkt 0 23 _ (yWs 5 23 hs 0 .grow) ?_)))
 obtain ⟨⟨r2,r3,r4⟩,hg,h⟩:=ob h
 refine so 1 (oC 24 hs (ref26_Sizes.ok hg _) fun w gw hs=>?_)
 refine nq 2 [(22,.tuple #[I8 r2,I8 r3,I8 r4]),(25,I8 r2),(26,I8 r3),(27,I8 r4),(8,I8 r2),(9,I8 r3),(10,I8 r4)] (fj j4 s3 (xs fun _ s5=>(xs fun _ s6=>(xn 2 fun _ j7=>(qo 0 28 (I8 r2) ?_)))))
 obtain ⟨hc,h⟩|⟨hc,h⟩:=of_if h
 refine tb 1 29 (et hc) ?_
 refine fj j7 s6 (ct (xs fun _ s8=>(xn 2 fun _ j9=>(nq 0 [(6,.slice none 0 0),(7,I8 9)] (fj j9 s8 (xret (tr ?_)))))))
 obtain ⟨rfl,rfl⟩:=os2 h
 have hs:=hs.addNilR CB
 exact qq _ _ (pt [6,7] [.slice none 0 0,I8 9] ⟨⟨none,0,0⟩,cr,(pz (dr [1,0] hs))⟩)
 refine tb 1 29 (ef hc) (fj j7 s6 (cf (xk (T s5 (xs fun _ s10=>(xs fun _ s11=>(xn 7 fun _ j12=>(qo 0 30 (.slice a1_A a1_n a1_c) (tkf 1 31 (I8 (a1.length:Int)) (yl (rR 0 hs)) (nq 2 [(32,I8 r2),(33,I8 r3),(34,I8 (iadd .i64 r2 r3)),(35,I8 (iadd .i64 (iadd .i64 r2 r3) 64))] ?_))))))))))
 obtain ⟨hc,h⟩|⟨hc,h⟩:=of_if h
 refine tb 6 36 (nf hc) ?_
 refine fj j12 s11 (cf (xk (T s10 (xs fun _ s13=>(xn 4 fun _ j14=>(nq 0 [(37,.slice a1_A a1_n a1_c),(38,I8 r3)] ?_))))))
 obtain ⟨h0,h1,h⟩:=oc2 h
 obtain ⟨h2,h⟩:=oc h
 obtain ⟨s5_A,hA⟩ : ∃ A,A=if a1_c=(0:Int).toNat then a1_A else adr a1_A ((0:Int).toNat*Cod.size CB):=⟨_,rfl⟩
 obtain ⟨s5_n,hn⟩ : ∃ n,n=(r3:Int).toNat-(0:Int).toNat:=⟨_,rfl⟩
 obtain ⟨s5_c,hc⟩ : ∃ c,c=a1_c-(0:Int).toNat:=⟨_,rfl⟩
 refine tkf 2 39 (.slice s5_A s5_n s5_c) (ysb (C:=CB) 24 5 none (some (I8 r3)) 0 r3 (rR 0 hs) (.inl ⟨rfl,rfl⟩) (.inr ⟨_,rfl⟩) h0 h1 h2 hA hn hc) ?_
 have hs:=hs.addSub (C:=CB) 0 rfl h0 h1 h2 hA hn hc
 refine qo 3 11 (.slice s5_A s5_n s5_c) (fj j14 s13 (xs fun _ s15=>(xn 7 fun _ j16=>(nq 0 [(40,.slice a1_A a1_n a1_c),(41,I8 r3),(42,I8 r2),(43,I8 r3),(44,I8 (iadd .i64 r2 r3))] ?_))))
 obtain ⟨h0,h1,h⟩:=oc2 h
 obtain ⟨h2,h⟩:=oc h
 obtain ⟨s6_A,hA⟩ : ∃ A,A=if a1_c=(r3:Int).toNat then a1_A else adr a1_A ((r3:Int).toNat*Cod.size CB):=⟨_,rfl⟩
 obtain ⟨s6_n,hn⟩ : ∃ n,n=((iadd .i64 r2 r3):Int).toNat-(r3:Int).toNat:=⟨_,rfl⟩
 obtain ⟨s6_c,hc⟩ : ∃ c,c=a1_c-(r3:Int).toNat:=⟨_,rfl⟩
 refine tkf 5 45 (.slice s6_A s6_n s6_c) (ysb (C:=CB) 24 5 (some (I8 r3)) (some (I8 (iadd .i64 r2 r3))) r3 (iadd .i64 r2 r3) (rR 1 hs) (.inr ⟨_,rfl⟩) (.inr ⟨_,rfl⟩) h0 h1 h2 hA hn hc) ?_
 have hs:=hs.addSub (C:=CB) 1 rfl h0 h1 h2 hA hn hc
 refine qo 6 12 (.slice s6_A s6_n s6_c) (fj j16 s15 (xs fun _ s17=>(xn 10 fun _ j18=>(nq 0 [(46,.slice a1_A a1_n a1_c),(47,I8 r2),(48,I8 r3),(49,I8 (iadd .i64 r2 r3)),(50,I8 r2),(51,I8 r3),(52,I8 (iadd .i64 r2 r3)),(53,I8 (iadd .i64 (iadd .i64 r2 r3) 32))] ?_))))
 obtain ⟨h0,h1,h⟩:=oc2 h
 obtain ⟨h2,h⟩:=oc h
 obtain ⟨s7_A,hA⟩ : ∃ A,A=if a1_c=((iadd .i64 r2 r3):Int).toNat then a1_A else adr a1_A (((iadd .i64 r2 r3):Int).toNat*Cod.size CB):=⟨_,rfl⟩
 obtain ⟨s7_n,hn⟩ : ∃ n,n=((iadd .i64 (iadd .i64 r2 r3) 32):Int).toNat-((iadd .i64 r2 r3):Int).toNat:=⟨_,rfl⟩
 obtain ⟨s7_c,hc⟩ : ∃ c,c=a1_c-((iadd .i64 r2 r3):Int).toNat:=⟨_,rfl⟩
 refine tkf 8 54 (.slice s7_A s7_n s7_c) (ysb (C:=CB) 24 5 (some (I8 (iadd .i64 r2 r3))) (some (I8 (iadd .i64 (iadd .i64 r2 r3) 32))) (iadd .i64 r2 r3) (iadd .i64 (iadd .i64 r2 r3) 32) (rR 2 hs) (.inr ⟨_,rfl⟩) (.inr ⟨_,rfl⟩) h0 h1 h2 hA hn hc) ?_
 have hs:=hs.addSub (C:=CB) 2 rfl h0 h1 h2 hA hn hc
 refine qo 9 13 (.slice s7_A s7_n s7_c) (fj j18 s17 (xs fun _ s19=>(xn 8 fun _ j20=>(tkt 0 56 _ (yWs 5 23 hs 0 .grow) (qo 1 57 (.slice s5_A s5_n s5_c) ?_)))))
 obtain ⟨⟨r8,r9⟩,hg,h⟩:=ob h
 refine wpS.only 2 (oH 58 hs (ref26_Decrypt.ok hg _ (rR 2 hs) (RowL.nil _)) ?_)
 rintro ⟨r8_A,r8_n,r8_c⟩ w gw hs
 have hs:=hs.conv (L':=[.ownL CB r8_A r8_n r8_c r8 5,.blk b1 ([I8 a0_0,I8 a0_1,I8 a0_2,I8 a0_3,I8 a0_4]) 23]) rfl
 refine ⟨fun _=>trivial,?_⟩
 refine nq 3 [(55,.tuple #[.slice r8_A r8_n r8_c,I8 r9]),(59,.slice r8_A r8_n r8_c),(60,I8 r9),(14,.slice r8_A r8_n r8_c),(15,I8 r9)] (fj j20 s19 (xs fun _ s21=>(xs fun _ s22=>(xn 15 fun _ j23=>(qo 0 61 (I8 r9) ?_)))))
 obtain ⟨hc,h⟩|⟨hc,h⟩:=of_if h
 refine tb 1 62 (et hc) ?_
 refine nq 2 [(63,.bool true),(64,undef),(65,undef),(66,undef),(67,undef),(68,.bool true),(69,.bool true),(70,undef),(71,undef),(72,undef),(73,undef),(74,undef),(75,.bool true)] (fj j23 s22 (ct (xs fun _ s24=>(xn 2 fun _ j25=>(nq 0 [(6,.slice none 0 0),(7,I8 10)] (fj j25 s24 (xret (tr ?_))))))))
 obtain ⟨rfl,rfl⟩:=os2 h
 have hs:=hs.addNilR CB
 exact qq _ _ (pt [6,7] [.slice none 0 0,I8 10] ⟨⟨none,0,0⟩,cr,(pz (dr [1,0,0] hs))⟩)
 refine tb 1 62 (ef hc) (qo 2 63 (.bool false) (tkt 3 64 _ (yWs 5 23 hs 1 .grow) (qo 4 65 (.slice s6_A s6_n s6_c) ?_)))
 obtain ⟨r10,hg,h⟩:=ob h
 cases r10 with
 | true=>
  have h:=of_if_t h
  refine so 5 (oC 66 hs (ref27_such.ok hg _ (rR 1 hs)) fun w gw hs=>?_)
  refine nq 6 [(67,.bool false),(68,.bool false),(69,.bool false),(70,.slice s6_A s6_n s6_c)] ?_
  obtain ⟨r11,hg,h⟩:=ob h
  refine wpS.only 10 (oH 71 hs (ref27_h.ok hg _ (rR 1 hs)) ?_)
  rintro ⟨r11_A,r11_n,r11_c⟩ w gw hs
  have hs:=hs.conv (L':=[.ownL CB r11_A r11_n r11_c r11 5,.ownL CB r8_A r8_n r8_c r8 5,.blk b1 ([I8 a0_0,I8 a0_1,I8 a0_2,I8 a0_3,I8 a0_4]) 23]) rfl
  refine ⟨fun _=>trivial,?_⟩
  refine qo 11 72 (.slice s7_A s7_n s7_c) ?_
  obtain ⟨r12,hg,h⟩:=ob h
  cases r12 with
  | true=>
   have h:=of_if_t h
   refine so 12 (oC 73 hs (ref01_Same.ok hg _ (rL 0 hs) (rR 0 hs)) fun w gw hs=>?_)
   refine nq 13 [(74,.bool false),(75,.bool false)] (fj j23 s22 (cf (xk (T s21 (xs fun _ s26=>(xs fun _ s27=>(xn 4 fun _ j28=>(qo 0 76 (.slice a2_A a2_n a2_c) (tkf 1 77 (I8 (a2.length:Int)) (yl (rR 4 hs)) (qo 2 78 (I8 r4) ?_))))))))))
   obtain ⟨hc,h⟩|⟨hc,h⟩:=of_if h
   refine tb 3 79 (nf hc) ?_
   refine fj j28 s27 (cf (xk (T s26 (xs fun _ s29=>(xn 9 fun _ j30=>(tkt 0 81 _ (yWs 5 23 hs 2 .grow) (nq 1 [(82,.slice s5_A s5_n s5_c),(83,.slice a2_A a2_n a2_c)] ?_)))))))
   obtain ⟨⟨r13,r14⟩,hg,h⟩:=ob h
   refine wpS.only 3 (oH 84 hs (ref26_Decrypt.ok hg _ (rR 2 hs) (rR 4 hs)) ?_)
   rintro ⟨r13_A,r13_n,r13_c⟩ w gw hs
   have hs:=hs.conv (L':=[.ownL CB r13_A r13_n r13_c r13 5,.ownL CB r11_A r11_n r11_c r11 5,.ownL CB r8_A r8_n r8_c r8 5,.blk b1 ([I8 a0_0,I8 a0_1,I8 a0_2,I8 a0_3,I8 a0_4]) 23]) rfl
   refine ⟨fun _=>trivial,?_⟩
   refine nq 4 [(80,.tuple #[.slice r13_A r13_n r13_c,I8 r14]),(85,.slice r13_A r13_n r13_c),(86,I8 r14),(16,.slice r13_A r13_n r13_c),(17,I8 r14)] (fj j30 s29 (xs fun _ s31=>(xn 4 fun _ j32=>(nq 0 [(87,.slice r13_A r13_n r13_c),(88,.slice s7_A s7_n s7_c)] ?_))))
   obtain ⟨r15,hg,h⟩:=ob h
   refine wpS.only 2 (oH 89 hs (ref27_g.ok hg _ (rL 0 hs) (rR 0 hs)) ?_)
   rintro ⟨r15_A,r15_n,r15_c⟩ w gw hs
   have hs:=hs.conv (L':=[.ownL CB r15_A r15_n r15_c r15 5,.ownL CB r13_A r13_n r13_c r13 5,.ownL CB r11_A r11_n r11_c r11 5,.ownL CB r8_A r8_n r8_c r8 5,.blk b1 ([I8 a0_0,I8 a0_1,I8 a0_2,I8 a0_3,I8 a0_4]) 23]) rfl
   refine ⟨fun _=>trivial,?_⟩
   refine qo 3 18 (.slice r15_A r15_n r15_c) (fj j32 s31 (xs fun _ s33=>?_))
   refine rg [] (fun k=>True) 11 fun _ j34=>?_
   have hs:=hs.drawn1
   refine tgt 0 91 _ (yWs 5 23 hs 4 .grow) (gq 1 92 (.slice s6_A s6_n s6_c) (gq 2 93 (.slice r13_A r13_n r13_c) (gq 3 94 (.slice r15_A r15_n r15_c) ?_)))
   obtain ⟨hs,hfr35⟩:=hs.freezeF 0 rfl
   obtain ⟨h0,h1,h⟩:=oc2 h
   obtain ⟨h2,h⟩:=oc h
   obtain ⟨s16_A,hA⟩ : ∃ A,A=if r15_c=(32:Int).toNat then r15_A else adr r15_A ((32:Int).toNat*Cod.size CB):=⟨_,rfl⟩
   obtain ⟨s16_n,hn⟩ : ∃ n,n=((r15.length:Int):Int).toNat-(32:Int).toNat:=⟨_,rfl⟩
   obtain ⟨s16_c,hc⟩ : ∃ c,c=r15_c-(32:Int).toNat:=⟨_,rfl⟩
   refine tgf 4 95 (.slice s16_A s16_n s16_c) (ysb (C:=CB) 24 5 (some (I8 32)) none 32 (r15.length:Int) (hs.rowF 0 rfl) (.inr ⟨_,rfl⟩) (.inl ⟨rfl,rfl⟩) h0 h1 h2 hA hn hc) ?_
   have hs:=hs.addSubF (C:=CB) 0 rfl h0 h1 h2 hA hn hc
   obtain ⟨⟨r17,r18⟩,hg,h⟩:=ob h
   refine wpG.only 5 (by kernel_rfl) (oH 96 hs (ref26_Encrypt.ok hg _ (rR 3 hs) (rL 0 hs) (hs.rowF 0 rfl)) ?_)
   rintro ⟨r17_A,r17_n,r17_c⟩ w gw hs
   have hs:=hs.conv (L':=[.ownL CB r17_A r17_n r17_c r17 5,.ownL CB r13_A r13_n r13_c r13 5,.ownL CB r11_A r11_n r11_c r11 5,.ownL CB r8_A r8_n r8_c r8 5,.blk b1 ([I8 a0_0,I8 a0_1,I8 a0_2,I8 a0_3,I8 a0_4]) 23]) rfl
   refine ⟨.of gw,?_⟩
   refine gq 6 90 (.tuple #[.slice r17_A r17_n r17_c,I8 r18]) (gq 7 97 (.slice r17_A r17_n r17_c) (gq 8 98 (I8 r18) (gq 9 19 (.slice r17_A r17_n r17_c) (gq 10 15 (I8 r18) ?_))))
   refine gf (j34 _ _ (T s33 (xs fun _ s36=>(xs fun _ s37=>(xn 2 fun _ j38=>(qo 0 99 (I8 r18) ?_))))))
   obtain ⟨hc,h⟩|⟨hc,h⟩:=of_if h
   refine tb 1 100 (nf hc) ?_
   refine fj j38 s37 (cf (xk (T s36 (xs fun _ s39=>(xs fun _ s40=>(xn 4 fun _ j41=>(nq 0 [(102,.slice r17_A r17_n r17_c),(103,.slice a2_A a2_n a2_c)] ?_)))))))
   obtain ⟨r19,hg,h⟩:=ob h
   cases r19 with
   | true=>
    have h:=of_if_t h
    refine so 2 (oC 104 hs (ref01_Same.ok hg _ (rL 0 hs) (rR 6 hs)) fun w gw hs=>?_)
    refine qo 3 105 (.bool false) (fj j41 s40 (cf (xk (T s39 (xs fun _ s42=>(xn 4 fun _ j43=>(qo 0 120 (.slice r15_A r15_n r15_c) ?_)))))))
    obtain ⟨h0,h1,h⟩:=oc2 h
    obtain ⟨h2,h⟩:=oc h
    obtain ⟨s20_A,hA⟩ : ∃ A,A=if r15_c=(0:Int).toNat then r15_A else adr r15_A ((0:Int).toNat*Cod.size CB):=⟨_,rfl⟩
    obtain ⟨s20_n,hn⟩ : ∃ n,n=(32:Int).toNat-(0:Int).toNat:=⟨_,rfl⟩
    obtain ⟨s20_c,hc⟩ : ∃ c,c=r15_c-(0:Int).toNat:=⟨_,rfl⟩
    refine tkf 1 121 (.slice s20_A s20_n s20_c) (ysb (C:=CB) 24 5 none (some (I8 32)) 0 32 (hs.rowF 1 rfl) (.inl ⟨rfl,rfl⟩) (.inr ⟨_,rfl⟩) h0 h1 h2 hA hn hc) ?_
    have hs:=hs.addSubF (C:=CB) 1 rfl h0 h1 h2 hA hn hc
    refine nq 2 [(6,.slice s20_A s20_n s20_c),(7,I8 0)] (fj j43 s42 (xret ?_))
    obtain ⟨rfl,rfl⟩:=os2 h
    have hs:=hs.promote 0 rfl hfr35
    exact qq _ _ (pt [6,7] [.slice s20_A s20_n s20_c,I8 0] ⟨⟨s20_A,s20_n,s20_c⟩,cr,(dr [1,0,0,0,0,0] hs)⟩)
   | false=>
    have h:=of_if_f h
    refine so 2 (oC 104 hs (ref01_Same.ok hg _ (rL 0 hs) (rR 6 hs)) fun w gw hs=>?_)
    refine qo 3 105 (.bool true) (fj j41 s40 (ct (xs fun _ s44=>(xn 15 fun _ j45=>(nq 0 [(107,.slice a1_A a1_n a1_c),(108,I8 r2),(109,I8 r3),(110,I8 (iadd .i64 r2 r3)),(111,I8 (iadd .i64 (iadd .i64 r2 r3) 32))] ?_)))))
    obtain ⟨h0,h1,h⟩:=oc2 h
    obtain ⟨h2,h⟩:=oc h
    obtain ⟨s21_A,hA⟩ : ∃ A,A=if a1_c=((iadd .i64 (iadd .i64 r2 r3) 32):Int).toNat then a1_A else adr a1_A (((iadd .i64 (iadd .i64 r2 r3) 32):Int).toNat*Cod.size CB):=⟨_,rfl⟩
    obtain ⟨s21_n,hn⟩ : ∃ n,n=((a1.length:Int):Int).toNat-((iadd .i64 (iadd .i64 r2 r3) 32):Int).toNat:=⟨_,rfl⟩
    obtain ⟨s21_c,hc⟩ : ∃ c,c=a1_c-((iadd .i64 (iadd .i64 r2 r3) 32):Int).toNat:=⟨_,rfl⟩
    refine tkf 5 112 (.slice s21_A s21_n s21_c) (ysb (C:=CB) 24 5 (some (I8 (iadd .i64 (iadd .i64 r2 r3) 32))) none (iadd .i64 (iadd .i64 r2 r3) 32) (a1.length:Int) (rR 5 hs) (.inr ⟨_,rfl⟩) (.inl ⟨rfl,rfl⟩) h0 h1 h2 hA hn hc) ?_
    have hs:=hs.addSub (C:=CB) 5 rfl h0 h1 h2 hA hn hc
    refine qo 6 113 (.slice a2_A a2_n a2_c) (so 7 (oLt (C:=CS) 114 57 24 2 (.slice none 0 0) #[(0,.slice s21_A s21_n s21_c),(1,.slice a2_A a2_n a2_c)] ([(s21_A,s21_n,s21_c),(a2_A,a2_n,a2_c)]:List HS) hs rfl (by decide) (by decide) fun s22_A s22_n s22_c w gw hs=>?_))
    obtain ⟨r23,hg,h⟩:=ob h
    refine wpS.only 8 (oH 115 hs (ref01_Join.ok hg _ (LLP.mk (rL 0 hs) (inn_cons (rR 0 hs) (inn_cons (rR 7 hs) inn_nil)))) ?_)
    rintro ⟨r23_A,r23_n,r23_c⟩ w gw hs
    have hs:=hs.conv (L':=[.ownL CB r23_A r23_n r23_c r23 5,.ownL CS s22_A s22_n s22_c ([(s21_A,s21_n,s21_c),(a2_A,a2_n,a2_c)]:List HS) 24,.ownL CB r17_A r17_n r17_c r17 5,.ownL CB r13_A r13_n r13_c r13 5,.ownL CB r11_A r11_n r11_c r11 5,.ownL CB r8_A r8_n r8_c r8 5,.blk b1 ([I8 a0_0,I8 a0_1,I8 a0_2,I8 a0_3,I8 a0_4]) 23]) rfl
    refine ⟨fun _=>trivial,?_⟩
    obtain ⟨⟨r24,r25⟩,hg,h⟩:=ob h
    refine wpS.only 9 (oH 116 hs (ref08_Sum.ok hg _ (rL 0 hs)) ?_)
    rintro ⟨r24_A,r24_n,r24_c⟩ w gw hs
    have hs:=hs.conv (L':=[.ownL CB r24_A r24_n r24_c r24 5,.ownL CB r23_A r23_n r23_c r23 5,.ownL CS s22_A s22_n s22_c ([(s21_A,s21_n,s21_c),(a2_A,a2_n,a2_c)]:List HS) 24,.ownL CB r17_A r17_n r17_c r17 5,.ownL CB r13_A r13_n r13_c r13 5,.ownL CB r11_A r11_n r11_c r11 5,.ownL CB r8_A r8_n r8_c r8 5,.blk b1 ([I8 a0_0,I8 a0_1,I8 a0_2,I8 a0_3,I8 a0_4]) 23]) rfl
    refine ⟨fun _=>trivial,?_⟩
    refine nq 10 [(106,.tuple #[.slice r24_A r24_n r24_c,I8 r25]),(117,.slice r24_A r24_n r24_c),(118,I8 r25),(20,.slice r24_A r24_n r24_c),(21,I8 r25)] (fj j45 s44 (xs fun _ s46=>(xn 3 fun _ j47=>(nq 0 [(119,.slice r24_A r24_n r24_c),(6,.slice r24_A r24_n r24_c),(7,I8 0)] (fj j47 s46 (xret (tr ?_)))))))
    obtain ⟨rfl,rfl⟩:=os2 h
    have hs:=hs.ownRow 0 rfl
    exact qq _ _ (pt [6,7] [.slice r24_A r24_n r24_c,I8 0] ⟨⟨r24_A,r24_n,r24_c⟩,cr,(pz (dr [1,0,0,0,0,0,0,0] hs))⟩)
   refine tb 1 100 (nt hc) (fj j38 s37 (ct (xs fun _ s48=>(xn 3 fun _ j49=>(nq 0 [(101,I8 r18),(6,.slice none 0 0),(7,I8 r18)] (fj j49 s48 (xret (tr ?_))))))))
   obtain ⟨rfl,rfl⟩:=os2 h
   have hs:=hs.addNilR CB
   exact qq _ _ (pt [6,7] [.slice none 0 0,I8 r18] ⟨⟨none,0,0⟩,cr,(pz (dr [1,0,0,0,0,0] hs))⟩)
   refine tb 3 79 (nt hc) (fj j28 s27 (ct (xs fun _ s50=>(xn 2 fun _ j51=>(nq 0 [(6,.slice none 0 0),(7,I8 14)] (fj j51 s50 (xret (tr ?_))))))))
   obtain ⟨rfl,rfl⟩:=os2 h
   have hs:=hs.addNilR CB
   exact qq _ _ (pt [6,7] [.slice none 0 0,I8 14] ⟨⟨none,0,0⟩,cr,(pz (dr [1,0,0,0] hs))⟩)
  | false=>
   have h:=of_if_f h
   refine so 12 (oC 73 hs (ref01_Same.ok hg _ (rL 0 hs) (rR 0 hs)) fun w gw hs=>?_)
   refine nq 13 [(74,.bool true),(75,.bool true)] (fj j23 s22 (ct (xs fun _ s52=>(xn 2 fun _ j53=>(nq 0 [(6,.slice none 0 0),(7,I8 10)] (fj j53 s52 (xret (tr ?_))))))))
   obtain ⟨rfl,rfl⟩:=os2 h
   have hs:=hs.addNilR CB
   exact qq _ _ (pt [6,7] [.slice none 0 0,I8 10] ⟨⟨none,0,0⟩,cr,(pz (dr [1,0,0,0] hs))⟩)
 | false=>
  have h:=of_if_f h
  refine so 5 (oC 66 hs (ref27_such.ok hg _ (rR 1 hs)) fun w gw hs=>?_)
  refine nq 6 [(67,.bool true),(68,.bool true),(69,.bool true),(70,undef),(71,undef),(72,undef),(73,undef),(74,undef),(75,.bool true)] (fj j23 s22 (ct (xs fun _ s54=>(xn 2 fun _ j55=>(nq 0 [(6,.slice none 0 0),(7,I8 10)] (fj j55 s54 (xret (tr ?_))))))))
  obtain ⟨rfl,rfl⟩:=os2 h
  have hs:=hs.addNilR CB
  exact qq _ _ (pt [6,7] [.slice none 0 0,I8 10] ⟨⟨none,0,0⟩,cr,(pz (dr [1,0,0] hs))⟩)
 refine tb 6 36 (nt hc) (fj j12 s11 (ct (xs fun _ s56=>(xn 2 fun _ j57=>(nq 0 [(6,.slice none 0 0),(7,I8 10)] (fj j57 s56 (xret (tr ?_))))))))
 obtain ⟨rfl,rfl⟩:=os2 h
 have hs:=hs.addNilR CB
 exact qq _ _ (pt [6,7] [.slice none 0 0,I8 10] ⟨⟨none,0,0⟩,cr,(pz (dr [1,0] hs))⟩)
end Go.Proofs.YtemdbgmldljbpaaGreatDoor
