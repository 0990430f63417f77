/- own -/
import Derived.Test.YtemdbgmldljbpaaDoorMh
import Derived.Test.YtemdbgmldljbpaaDoorProg
import Derived.Test.YtemdbgmldljbpaaDoorZFKpkeWorks
import Derived.Test.YtemdbgmldljbpaaDoorZX0
import Derived.Test.YtemdbgmldljbpaaDoorZX12
import Derived.Test.YtemdbgmldljbpaaDoorZX13
import Derived.Test.YtemdbgmldljbpaaDoorZX14
import Derived.Test.YtemdbgmldljbpaaDoorZX7
import Derived.Test.YtemdbgmldljbpaaDoorZX8
import Derived.Test.YtemdbgmldljbpaaDoorZX9
set_option linter.unusedVariables false
set_option linter.unusedSimpArgs false
set_option maxRecDepth 100000
set_option maxHeartbeats 4000000
namespace Go.Proofs.YtemdbgmldljbpaaDoor
open Go.Mx
attribute [local irreducible] wpOp
theorem ref26_Decrypt.ok {K:Nat}{a0_0 a0_1 a0_2 a0_3 a0_4:Int}{a1 a2 r0:List Int}{r1:Int}{a1_A:Option Addr}{a1_n a1_c:Nat}{a2_A:Option Addr}{a2_n a2_c:Nat}(h:ref26_Decrypt.f K a0_0 a0_1 a0_2 a0_3 a0_4 a1 a2=some (r0,r1)) (w0:World) (hp1:RowL CB w0 a1_A a1_n a1_c a1) (hp2:RowL CB w0 a2_A a2_n a2_c a2):Calls Tryd.prog 24 #[.agg #[I8 a0_0,I8 a0_1,I8 a0_2,I8 a0_3,I8 a0_4],.slice a1_A a1_n a1_c,.slice a2_A a2_n a2_c] w0 fun e w'=>∃ h:(Option Addr × Nat × Nat),e = .returned (.tuple #[.slice h.1 h.2.1 h.2.2,I8 r1])∧St w0 [] [.ownL CB h.1 h.2.1 h.2.2 r0 5] [] w':=by
 refine calls_k Tryd.func24 rfl fun Q qq=>?_
 have hs:=St.startR (all_cons (RowP.ent hp1) (all_cons (RowP.ent hp2) all_nil))
 refine wc (a':=(fu 94 [.agg #[I8 a0_0,I8 a0_1,I8 a0_2,I8 a0_3,I8 a0_4],.slice a1_A a1_n a1_c,.slice a2_A a2_n a2_c])) ?_
 refine xs fun _ s1=>?_
 refine xn 3 fun _ j2=>?_
 refine so 0 (oB 3 23 (.agg #[I8 a0_0,I8 a0_1,I8 a0_2,I8 a0_3,I8 a0_4]) hs ([I8 a0_0,I8 a0_1,I8 a0_2,I8 a0_3,I8 a0_4]) fun b1 w gw hs=>?_)
 refine nq 1 [(6,.slice none 0 0),(7,I8 0)] ?_
 refine fj j2 s1 (xs fun _ s3=>(xn 9 fun _ j4=>?_))
 refine tkt 0 21 (.agg #[I8 a0_0,I8 a0_1,I8 a0_2,I8 a0_3,I8 a0_4]) (yW hs 0 5 23 rfl (by simp [enc_len]) .grow) ?_
 obtain ⟨⟨r2,r3,r4⟩,hg,h⟩:=ob h
 refine so 1 (oC 22 hs (ref26_Sizes.ok hg _) fun w gw hs=>?_)
 refine nq 2 [(20,.tuple #[I8 r2,I8 r3,I8 r4]),(23,I8 r2),(24,I8 r3),(25,I8 r4),(8,I8 r2),(9,I8 r3),(10,I8 r4)] ?_
 refine fj j4 s3 (xs fun _ s5=>(xs fun _ s6=>(xn 2 fun _ j7=>?_)))
 refine qo 0 26 (I8 r3) ?_
 obtain ⟨hc,h⟩|⟨hc,h⟩:=of_if h
 refine tb 1 27 (et hc) ?_
 refine fj j7 s6 (ct (xs fun _ s8=>(xn 2 fun _ j9=>?_)))
 refine nq 0 [(6,.slice none 0 0),(7,I8 9)] ?_
 refine fj j9 s8 (xret (tr ?_))
 obtain ⟨rfl,rfl⟩:=os2 h
 have hs:=hs.addNilL CB 5
 exact qq _ _ (pt [6,7] [.slice none 0 0,I8 9] ⟨⟨none,0,0⟩,cr,(pz (dr [1,0] hs))⟩)
 refine tb 1 27 (ef hc) ?_
 refine fj j7 s6 (cf (xk (T s5 (xs fun _ s10=>(xs fun _ s11=>(xn 4 fun _ j12=>?_))))))
 refine qo 0 28 (.slice a1_A a1_n a1_c) ?_
 refine tkf 1 29 (I8 (a1.length:Int)) (yl (hs.rowR 0 rfl)) ?_
 refine qo 2 30 (I8 r3) ?_
 obtain ⟨hc,h⟩|⟨hc,h⟩:=of_if h
 refine tb 3 31 (nf hc) ?_
 refine fj j12 s11 (cf (xk (T s10 (xs fun _ s13=>(xn 9 fun _ j14=>?_)))))
 refine nq 0 [(33,.slice a1_A a1_n a1_c),(34,P0 b1)] ?_
 refine tkt 2 35 (I8 a0_0) (yv hs 0 0 3 rfl (by rfl) .grow) ?_
 obtain ⟨⟨r5,r6⟩,hg,h⟩:=ob h
 refine wpS.only 3 (oH 36 hs (ref26_read.ok hg _ (hs.rowR 0 rfl)) ?_)
 rintro ⟨r5_A,r5_n,r5_c⟩ w gw hs
 have hs:=hs.conv (L':=[.ownL CZ r5_A r5_n r5_c r5 32,.blk b1 ([I8 a0_0,I8 a0_1,I8 a0_2,I8 a0_3,I8 a0_4]) 23]) rfl
 refine ⟨fun _=>trivial,?_⟩
 refine nq 4 [(32,.tuple #[.slice r5_A r5_n r5_c,.bool r6]),(37,.slice r5_A r5_n r5_c)] ?_
 cases r6 with
 | true=>
  have h:=of_if_t h
  refine nq 6 [(38,.bool true),(11,.slice r5_A r5_n r5_c),(12,.bool true)] ?_
  refine fj j14 s13 (xs fun _ s15=>(xs fun _ s16=>(xn 2 fun _ j17=>?_)))
  refine nq 0 [(39,.bool true),(40,.bool false)] ?_
  refine fj j17 s16 (cf (xk (T s15 (xs fun _ s18=>(xs fun _ s19=>(xn 4 fun _ j20=>?_))))))
  refine qo 0 41 (.slice a2_A a2_n a2_c) ?_
  refine tkf 1 42 (I8 (a2.length:Int)) (yl (hs.rowR 1 rfl)) ?_
  refine qo 2 43 (I8 r4) ?_
  obtain ⟨hc,h⟩|⟨hc,h⟩:=of_if h
  refine tb 3 44 (nf hc) ?_
  refine fj j20 s19 (cf (xk (T s18 (xs fun _ s21=>(xn 11 fun _ j22=>?_)))))
  refine nq 0 [(46,.slice a2_A a2_n a2_c),(47,P0 b1)] ?_
  refine tkt 2 48 (I8 a0_0) (yv hs 1 0 3 rfl (by rfl) .grow) ?_
  refine qo 3 49 (.pointer (some ⟨b1,3,none⟩)) ?_
  refine tkt 4 50 (I8 a0_3) (yv hs 1 3 3 rfl (by rfl) .grow) ?_
  obtain ⟨⟨r7,r8⟩,hg,h⟩:=ob h
  refine wpS.only 5 (oH 51 hs (ref26_read.ok hg _ (hs.rowR 1 rfl)) ?_)
  rintro ⟨r7_A,r7_n,r7_c⟩ w gw hs
  have hs:=hs.conv (L':=[.ownL CZ r7_A r7_n r7_c r7 32,.ownL CZ r5_A r5_n r5_c r5 32,.blk b1 ([I8 a0_0,I8 a0_1,I8 a0_2,I8 a0_3,I8 a0_4]) 23]) rfl
  refine ⟨fun _=>trivial,?_⟩
  refine nq 6 [(45,.tuple #[.slice r7_A r7_n r7_c,.bool r8]),(52,.slice r7_A r7_n r7_c),(53,.bool r8),(13,.slice r7_A r7_n r7_c),(14,.bool r8)] ?_
  refine fj j22 s21 (xs fun _ s23=>(xn 1 fun _ j24=>?_))
  refine qo 0 15 (.slice none 0 0) ?_
  refine fj j24 s23 (xs fun _ s25=>(xs fun _ s26=>(xn 1 fun _ j27=>?_)))
  refine qo 0 16 (I8 0) ?_
  refine fj j27 s26 (?_)
  have hs:=hs.addNilL CZ 32
  obtain ⟨y11,hy,hk0⟩:=ob h
  refine wp_exq (N:=fun a w=>∃ y11_A y11_n y11_c,St w0 [] [.ownL CZ y11_A y11_n y11_c y11 32,.ownL CZ r7_A r7_n r7_c r7 32,.ownL CZ r5_A r5_n r5_c r5 32,.blk b1 ([I8 a0_0,I8 a0_1,I8 a0_2,I8 a0_3,I8 a0_4]) 23] [.rowL CB a1_A a1_n a1_c a1,.rowL CB a2_A a2_n a2_c a2] w∧∃ g29,a=fr g29 97 [(2,[.slice a2_A a2_n a2_c,P0 b1]),(6,[.slice none 0 0,I8 0]),(11,[.slice r5_A r5_n r5_c]),(15,[.slice y11_A y11_n y11_c])]) (fun N0 nn0=>?_) ?_
  clear hk0
  refine xb ?_
  refine wp_loop_k (fun n a w=>∃ z9 z10,∃ z10_A z10_n z10_c,ref26_Decrypt.l0 K n a0_0 a0_3 r7 z9 z10=some y11∧St w0 [] [.ownL CZ z10_A z10_n z10_c z10 32,.ownL CZ r7_A r7_n r7_c r7 32,.ownL CZ r5_A r5_n r5_c r5 32,.blk b1 ([I8 a0_0,I8 a0_1,I8 a0_2,I8 a0_3,I8 a0_4]) 23] [.rowL CB a1_A a1_n a1_c a1,.rowL CB a2_A a2_n a2_c a2] w∧∃ g28,a=fr g28 97 [(2,[.slice a2_A a2_n a2_c,P0 b1]),(6,[.slice none 0 0,I8 0]),(11,[.slice r5_A r5_n r5_c]),(13,[.slice r7_A r7_n r7_c]),(15,[.slice z10_A z10_n z10_c,I8 z9])]) K ⟨0,([]:List (Arr 256)),none,0,0,hy,hs.conv rfl,eg⟩ ?_
  clear hs h hy
  rintro n a w ⟨z9,z10,z10_A,z10_n,z10_c,h,hs,g28,rfl⟩ KL0 kl0
  cases n with
  | zero=>exact nomatch (show none=some _ from h)
  | succ n=>
   refine xs fun _ s30=>?_
   refine xs fun _ s31=>?_
   refine xn 4 fun _ j32=>?_
   refine nq 0 [(54,I8 z9),(55,P0 b1)] ?_
   refine tkt 2 56 (I8 a0_0) (yv hs 3 0 3 rfl (by rfl) .grow) ?_
   obtain ⟨hc,h⟩|⟨hc,h⟩:=of_if h
   refine tb 3 57 (dt hc) ?_
   refine fj j32 s31 (ct (xk (T s30 (xs fun _ s33=>(xb ?_)))))
   refine rg [10] (fun k=>True) 12 fun _ j34=>?_
   have hs:=hs.drawn1
   refine gq 0 60 (.slice z10_A z10_n z10_c) ?_
   refine gq 1 61 (.slice r7_A r7_n r7_c) ?_
   refine gq 2 62 (I8 z9) ?_
   obtain ⟨h0,h1,h⟩:=oc2 h
   have i0_35:=h0
   have i1_35:=h1
   refine tgf 3 63 (PA CZ r7_A z9) (yiL (C:=CZ) 77 32 .i64 z9 (hs.rowL 1 rfl) h0 h1) ?_
   refine wpG.take [4,7,8,9,10,11] 4 true (some 64) (ag .i32 (rdL CZ r7 z9)) (by kernel_rfl) (by kernel_rfl) (yLA (C:=CZ) 32 z9 (hs.rowL 1 rfl) rfl i0_35 i1_35) ?_
   refine gq 5 65 (.pointer (some ⟨b1,3,none⟩)) ?_
   refine wpG.take [6,7,8,9,10,11] 6 true (some 66) (I8 a0_3) (by kernel_rfl) (by kernel_rfl) (yv hs 3 3 3 rfl (by rfl) .grow) ?_
   obtain ⟨r12,hg,h⟩:=ob h
   refine go 7 (oC 67 hs (ref25_Widen.ok hg _) fun w gw hs=>⟨.of gw,?_⟩)
   obtain ⟨r13,hg,h⟩:=ob h
   refine go 8 (oC 68 hs (ref25_Ntt.ok hg _) fun w gw hs=>⟨.of gw,?_⟩)
   refine go 9 (oLL (C:=CZ) 69 77 32 1 (ag .i32 (zeroA 256)) #[(0,ag .i32 r13)] [r13] hs rfl rfl (by decide) (by decide) fun s14_A s14_n s14_c w gw hs=>⟨.of gw,?_⟩)
   obtain ⟨h0,h⟩:=oc h
   refine go 10 (oAp (C:=CZ) 70 77 77 32 1024 137438953472 hs 1 rfl (hs.rowL 0 rfl) h0 (by decide) (by decide) fun s15_A s15_n s15_c w hs=>⟨⟨fun hf=>absurd hf (by decide),.all _ _⟩,?_⟩)
   refine gq 11 15 (.slice s15_A s15_n s15_c) ?_
   refine gf (j34 _ _ ?_)
   refine iN (T s33 (xn 3 fun _ j36=>?_))
   refine nq 0 [(58,I8 z9),(59,I8 (iadd .i64 z9 1))] ?_
   obtain ⟨x16,hx,h⟩:=ob h
   refine tkf 2 16 (I8 x16) (yn hx) ?_
   refine fin (j36 _ _ ?_)
   exact tn (kl0 _ _ ⟨n,ls n,x16,(z10++([r13]:List (Arr 256))),s15_A,s15_n,s15_c,h,(dr [0,1,1,1,1] hs),eg⟩)
   refine tb 3 57 (df hc) ?_
   refine fj j32 s31 (cf (xexit (tx (tx (iH ?_)))))
   obtain rfl:=of_some h
   exact exq_n (nn0 _ _ ⟨z10_A,z10_n,z10_c,(hs.conv rfl),eg⟩)
  clear hs h hy
  rintro a w ⟨y11_A,y11_n,y11_c,hs,g29,rfl⟩
  have h:=hk0
  refine T s25 (xs fun _ s37=>?_)
  obtain ⟨y18,hj,h⟩:=ob h
  refine wp_join (N:=fun a w=>∃ b17,St w0 [] [.blk b17 (enc .i32 y18) 32,.ownL CZ y11_A y11_n y11_c y11 32,.ownL CZ r7_A r7_n r7_c r7 32,.ownL CZ r5_A r5_n r5_c r5 32,.blk b1 ([I8 a0_0,I8 a0_1,I8 a0_2,I8 a0_3,I8 a0_4]) 23] [.rowL CB a1_A a1_n a1_c a1,.rowL CB a2_A a2_n a2_c a2] w∧∃ g38,a=fr g38 97 [(3,[P0 b1]),(6,[.slice none 0 0,I8 0]),(11,[.slice r5_A r5_n r5_c]),(15,[.slice y11_A y11_n y11_c]),(17,[P0 b17])]) (fun N nj=>?_) ?_
  clear h
  have h:=hj
  refine rg [15] (fun k=>True) 17 fun _ j39=>?_
  have hs:=hs.drawn1
  refine gq 0 72 (.slice a2_A a2_n a2_c) ?_
  refine gq 1 73 (.pointer (some ⟨b1,3,none⟩)) ?_
  refine tgt 2 74 (I8 a0_3) (yv hs 3 3 3 rfl (by rfl) .grow) ?_
  refine gq 3 75 (I8 (imul .i64 32 a0_3)) ?_
  refine gq 4 76 (P0 b1) ?_
  refine tgt 5 77 (I8 a0_0) (yv hs 3 0 3 rfl (by rfl) .grow) ?_
  refine gq 6 78 (I8 (imul .i64 (imul .i64 32 a0_3) a0_0)) ?_
  obtain ⟨h0,h1,h⟩:=oc2 h
  obtain ⟨h2,h⟩:=oc h
  obtain ⟨s19_A,hA⟩ : ∃ A,A=if a2_c=((imul .i64 (imul .i64 32 a0_3) a0_0):Int).toNat then a2_A else adr a2_A (((imul .i64 (imul .i64 32 a0_3) a0_0):Int).toNat*Cod.size CB):=⟨_,rfl⟩
  obtain ⟨s19_n,hn⟩ : ∃ n,n=((a2.length:Int):Int).toNat-((imul .i64 (imul .i64 32 a0_3) a0_0):Int).toNat:=⟨_,rfl⟩
  obtain ⟨s19_c,hc⟩ : ∃ c,c=a2_c-((imul .i64 (imul .i64 32 a0_3) a0_0):Int).toNat:=⟨_,rfl⟩
  refine tgf 7 79 (.slice s19_A s19_n s19_c) (ysb (C:=CB) 24 5 (some (I8 (imul .i64 (imul .i64 32 a0_3) a0_0))) none (imul .i64 (imul .i64 32 a0_3) a0_0) (a2.length:Int) (hs.rowR 1 rfl) (.inr ⟨_,rfl⟩) (.inl ⟨rfl,rfl⟩) h0 h1 h2 hA hn hc) ?_
  have hs:=hs.addSub (C:=CB) 1 rfl h0 h1 h2 hA hn hc
  refine gq 8 80 (.pointer (some ⟨b1,4,none⟩)) ?_
  refine tgt 9 81 (I8 a0_4) (yv hs 3 4 3 rfl (by rfl) .grow) ?_
  refine wpG.many [10,14] (by kernel_rfl) (by decide) (forall_cons ?_ (forall_cons ?_ forall_nil))
  obtain ⟨⟨r20,r21⟩,hg,h⟩:=ob h
  refine (oC 82 hs (ref25_Unpack.ok hg _ (hs.rowR 0 rfl)) ?_)
  intro w gw hs
  refine ⟨.of gw,?_⟩
  refine gq 11 71 (.tuple #[ag .i32 r20,.bool r21]) ?_
  refine gq 12 83 (ag .i32 r20) ?_
  refine gq 13 84 (.bool r21) ?_
  refine go 14 (oN 17 32 hs (enc .i32 (zeroA 256)) (ag .i32 (zeroA 256)) fun b22 w gw hs=>⟨.of gw,?_⟩)
  refine go 15 (oWe 32 .i32 r20 hs 0 fun w kp hs=>⟨⟨fun hf=>absurd hf (by decide),.all _ _⟩,?_⟩)
  refine gq 16 18 (.bool r21) ?_
  refine gf (j39 _ _ ?_)
  obtain rfl:=of_some h
  exact nj _ _ ⟨b22,(pk [1,2] hs),eg⟩
  refine (oN 17 32 hs (enc .i32 (zeroA 256)) (ag .i32 (zeroA 256)) ?_)
  intro b23 w gw hs
  refine ⟨.of gw,?_⟩
  obtain ⟨⟨r24,r25⟩,hg,h⟩:=ob h
  refine go 10 (oC 82 hs (ref25_Unpack.ok hg _ (hs.rowR 0 rfl)) fun w gw hs=>⟨.of gw,?_⟩)
  refine gq 11 71 (.tuple #[ag .i32 r24,.bool r25]) ?_
  refine gq 12 83 (ag .i32 r24) ?_
  refine gq 13 84 (.bool r25) ?_
  refine go 15 (oWe 32 .i32 r24 hs 0 fun w kp hs=>⟨⟨fun hf=>absurd hf (by decide),.all _ _⟩,?_⟩)
  refine gq 16 18 (.bool r25) ?_
  refine gf (j39 _ _ ?_)
  obtain rfl:=of_some h
  exact nj _ _ ⟨b23,(pk [1,2] hs),eg⟩
  clear hj hs
  rintro a w ⟨b17,hs,g38,rfl⟩
  refine T s37 (xs fun _ s40=>(xn 11 fun _ j41=>?_))
  refine tkt 0 85 (ag .i32 y18) (yWe 32 hs 0 .grow) ?_
  refine qo 1 86 (.pointer (some ⟨b1,4,none⟩)) ?_
  refine tkt 2 87 (I8 a0_4) (yv hs 4 4 3 rfl (by rfl) .grow) ?_
  obtain ⟨r26,hg,h⟩:=ob h
  refine so 3 (oC 88 hs (ref25_Widen.ok hg _) fun w gw hs=>?_)
  refine nq 4 [(89,.slice r5_A r5_n r5_c),(90,.slice y11_A y11_n y11_c)] ?_
  obtain ⟨r27,hg,h⟩:=ob h
  refine so 6 (oC 91 hs (ref26_dot.ok hg _ (hs.rowL 3 rfl) (hs.rowL 1 rfl)) fun w gw hs=>?_)
  obtain ⟨r28,hg,h⟩:=ob h
  refine so 7 (oC 92 hs (ref25_Back.ok hg _) fun w gw hs=>?_)
  obtain ⟨r29,hg,h⟩:=ob h
  refine so 8 (oC 93 hs (ref25_Sub.ok hg _) fun w gw hs=>?_)
  refine so 9 (oN 19 32 hs (enc .i32 (zeroA 256)) (ag .i32 (zeroA 256)) fun b30 w gw hs=>?_)
  refine so 10 (oWe 32 .i32 r29 hs 0 fun w kp hs=>?_)
  refine fj j41 s40 (xs fun _ s42=>(xn 5 fun _ j43=>?_))
  refine tkt 0 94 (ag .i32 r29) (yWe 32 hs 0 .grow) ?_
  obtain ⟨r31,hg,h⟩:=ob h
  refine so 1 (oC 95 hs (ref25_Squeeze.ok hg _) fun w gw hs=>?_)
  obtain ⟨r32,hg,h⟩:=ob h
  refine wpS.only 2 (oH 96 hs (ref25_Pack.ok hg _) ?_)
  rintro ⟨r32_A,r32_n,r32_c⟩ w gw hs
  have hs:=hs.conv (L':=[.ownL CB r32_A r32_n r32_c r32 5,.blk b30 (enc .i32 r29) 32,.blk b17 (enc .i32 y18) 32,.ownL CZ y11_A y11_n y11_c y11 32,.ownL CZ r7_A r7_n r7_c r7 32,.ownL CZ r5_A r5_n r5_c r5 32,.blk b1 ([I8 a0_0,I8 a0_1,I8 a0_2,I8 a0_3,I8 a0_4]) 23]) rfl
  refine ⟨fun _=>trivial,?_⟩
  refine nq 3 [(6,.slice r32_A r32_n r32_c),(7,I8 0)] ?_
  refine fj j43 s42 (xret ?_)
  obtain ⟨rfl,rfl⟩:=os2 h
  exact qq _ _ (pt [6,7] [.slice r32_A r32_n r32_c,I8 0] ⟨⟨r32_A,r32_n,r32_c⟩,cr,(pz (dr [1,0,0,0,0,0,0] hs))⟩)
  refine tb 3 44 (nt hc) ?_
  refine fj j20 s19 (ct (xs fun _ s44=>(xn 2 fun _ j45=>?_)))
  refine nq 0 [(6,.slice none 0 0),(7,I8 14)] ?_
  refine fj j45 s44 (xret (tr ?_))
  obtain ⟨rfl,rfl⟩:=os2 h
  have hs:=hs.addNilL CB 5
  exact qq _ _ (pt [6,7] [.slice none 0 0,I8 14] ⟨⟨none,0,0⟩,cr,(pz (dr [1,0,0] hs))⟩)
 | false=>
  have h:=of_if_f h
  refine nq 6 [(38,.bool false),(11,.slice r5_A r5_n r5_c),(12,.bool false)] ?_
  refine fj j14 s13 (xs fun _ s46=>(xs fun _ s47=>(xn 2 fun _ j48=>?_)))
  refine nq 0 [(39,.bool false),(40,.bool true)] ?_
  refine fj j48 s47 (ct (xs fun _ s49=>(xn 2 fun _ j50=>?_)))
  refine nq 0 [(6,.slice none 0 0),(7,I8 10)] ?_
  refine fj j50 s49 (xret (tr ?_))
  obtain ⟨rfl,rfl⟩:=os2 h
  have hs:=hs.addNilL CB 5
  exact qq _ _ (pt [6,7] [.slice none 0 0,I8 10] ⟨⟨none,0,0⟩,cr,(pz (dr [1,0,0] hs))⟩)
 refine tb 3 31 (nt hc) ?_
 refine fj j12 s11 (ct (xs fun _ s51=>(xn 2 fun _ j52=>?_)))
 refine nq 0 [(6,.slice none 0 0),(7,I8 10)] ?_
 refine fj j52 s51 (xret (tr ?_))
 obtain ⟨rfl,rfl⟩:=os2 h
 have hs:=hs.addNilL CB 5
 exact qq _ _ (pt [6,7] [.slice none 0 0,I8 10] ⟨⟨none,0,0⟩,cr,(pz (dr [1,0] hs))⟩)
theorem ref01_Same.ok {K:Nat}{a0 a1:List Int}{r0:Bool}{a0_A:Option Addr}{a0_n a0_c:Nat}{a1_A:Option Addr}{a1_n a1_c:Nat}(h:ref01_Same.f K a0 a1=some r0) (w0:World) (hp0:RowL CB w0 a0_A a0_n a0_c a0) (hp1:RowL CB w0 a1_A a1_n a1_c a1):Ret Tryd.prog 25 #[.slice a0_A a0_n a0_c,.slice a1_A a1_n a1_c] w0 (.bool r0):=by
 refine calls_k Tryd.func25 rfl fun Q qq=>?_
 have hs:=St.startR (all_cons (RowP.ent hp0) (all_cons (RowP.ent hp1) all_nil))
 refine wc (a':=(fu 24 [.slice a0_A a0_n a0_c,.slice a1_A a1_n a1_c])) ?_
 refine xs fun _ s1=>?_
 refine xn 1 fun _ j2=>?_
 refine qo 0 4 (.bool false) ?_
 refine fj j2 s1 (xs fun _ s3=>(xs fun _ s4=>(xn 5 fun _ j5=>?_)))
 refine qo 0 6 (.slice a0_A a0_n a0_c) ?_
 refine tkf 1 7 (I8 (a0.length:Int)) (yl (hs.rowR 0 rfl)) ?_
 refine qo 2 8 (.slice a1_A a1_n a1_c) ?_
 refine tkf 3 9 (I8 (a1.length:Int)) (yl (hs.rowR 1 rfl)) ?_
 obtain ⟨hc,h⟩|⟨hc,h⟩:=of_if h
 refine tb 4 10 (nf hc) ?_
 refine fj j5 s4 (cf (xk (T s3 (xs fun _ s6=>(xs fun _ s7=>(xn 1 fun _ j8=>?_))))))
 refine qo 0 5 (I8 0) ?_
 refine fj j8 s7 (?_)
 obtain ⟨t0,hy,hk0⟩:=ob h
 refine wp_exq (N:=fun a w=>t0 = .inl ()∧St w0 [] [] [.rowL CB a0_A a0_n a0_c a0,.rowL CB a1_A a1_n a1_c a1] w∧∃ g10,a=fr g10 26 []) (fun N0 nn0=>?_) ?_
 refine xb ?_
 refine wp_loop_k (fun n a w=>∃ z1,ref01_Same.l0 K n a0 a1 z1=some t0∧St w0 [] [] [.rowL CB a0_A a0_n a0_c a0,.rowL CB a1_A a1_n a1_c a1] w∧∃ g9,a=fr g9 26 [(0,[.slice a0_A a0_n a0_c,.slice a1_A a1_n a1_c]),(5,[I8 z1])]) K ⟨0,hy,hs.conv rfl,eg⟩ ?_
 clear hs h hy
 rintro n a w ⟨z1,h,hs,g9,rfl⟩ KL0 kl0
 cases n with
 | zero=>exact nomatch (show none=some _ from h)
 | succ n=>
  refine xs fun _ s11=>?_
  refine xs fun _ s12=>?_
  refine xn 4 fun _ j13=>?_
  refine nq 0 [(11,I8 z1),(12,.slice a0_A a0_n a0_c)] ?_
  refine tkf 2 13 (I8 (a0.length:Int)) (yl (hs.rowR 0 rfl)) ?_
  obtain ⟨hc,h⟩|⟨hc,h⟩:=of_if h
  refine tb 3 14 (dt hc) ?_
  refine fj j13 s12 (ct (xk (T s11 (xs fun _ s14=>(xb (xs fun _ s15=>?_))))))
  refine rg [] (fun k=>True) 9 fun _ j16=>?_
  have hs:=hs.drawn1
  refine gq 0 17 (.slice a0_A a0_n a0_c) ?_
  refine gq 1 18 (I8 z1) ?_
  obtain ⟨h0,h1,h⟩:=oc2 h
  have i0_17:=h0
  have i1_17:=h1
  refine tgf 2 19 (PA CB a0_A z1) (yiL (C:=CB) 24 5 .i64 z1 (hs.rowR 0 rfl) h0 h1) ?_
  refine tgt 3 20 (U1 (rdL CB a0 z1)) (yL (C:=CB) 5 z1 (hs.rowR 0 rfl) rfl i0_17 i1_17) ?_
  refine gq 4 21 (.slice a1_A a1_n a1_c) ?_
  refine gq 5 22 (I8 z1) ?_
  obtain ⟨h0,h1,h⟩:=oc2 h
  have i0_18:=h0
  have i1_18:=h1
  refine tgf 6 23 (PA CB a1_A z1) (yiL (C:=CB) 24 5 .i64 z1 (hs.rowR 1 rfl) h0 h1) ?_
  refine tgt 7 24 (U1 (rdL CB a1 z1)) (yL (C:=CB) 5 z1 (hs.rowR 1 rfl) rfl i0_18 i1_18) ?_
  obtain ⟨hc,h⟩|⟨hc,h⟩:=of_if h
  refine gb 8 25 (nf hc) ?_
  refine gf (j16 _ _ ?_)
  refine T s15 (cf (xk (iN (T s14 (xn 3 fun _ j19=>?_)))))
  refine nq 0 [(15,I8 z1),(16,I8 (iadd .i64 z1 1))] ?_
  obtain ⟨x2,hx,h⟩:=ob h
  refine tkf 2 5 (I8 x2) (yn hx) ?_
  refine fin (j19 _ _ ?_)
  exact tn (kl0 _ _ ⟨n,ls n,x2,h,(hs.conv rfl),eg⟩)
  refine gb 8 25 (nt hc) ?_
  refine gf (j16 _ _ ?_)
  refine T s15 (ct (xs fun _ s20=>(xn 1 fun _ j21=>?_)))
  refine qo 0 4 (.bool false) ?_
  refine fj j21 s20 (xret (iR (tr (tr (iR (exq_r (tr ?_)))))))
  obtain rfl:=of_some h
  have q0:=of_some hk0
  subst q0
  exact qq _ _ (pt [4] [.bool false] ⟨cr,hs.none⟩)
  refine tb 3 14 (df hc) ?_
  refine fj j13 s12 (cf (xexit (tx (tx (iH ?_)))))
  obtain rfl:=of_some h
  exact exq_n (nn0 _ _ ⟨rfl,(hs.conv rfl),eg⟩)
 clear hs h hy
 rintro a w ⟨rfl,hs,g10,rfl⟩
 have h:=hk0
 refine T s6 (xs fun _ s22=>(xn 1 fun _ j23=>?_))
 refine qo 0 4 (.bool true) ?_
 refine fj j23 s22 (xret ?_)
 obtain rfl:=of_some h
 exact qq _ _ (pt [4] [.bool true] ⟨cr,hs.none⟩)
 refine tb 4 10 (nt hc) ?_
 refine fj j5 s4 (ct (xs fun _ s24=>(xn 1 fun _ j25=>?_)))
 refine qo 0 4 (.bool false) ?_
 refine fj j25 s24 (xret (tr ?_))
 obtain rfl:=of_some h
 exact qq _ _ (pt [4] [.bool false] ⟨cr,hs.none⟩)
end Go.Proofs.YtemdbgmldljbpaaDoor
