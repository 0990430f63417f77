/- own -/
import Derived.Test.YtemdbgmldljbpaaGreatDoorMh
import Derived.Test.YtemdbgmldljbpaaGreatDoorProg
import Derived.Test.YtemdbgmldljbpaaGreatDoorBF0
import Derived.Test.YtemdbgmldljbpaaGreatDoorBX1
import Derived.Test.YtemdbgmldljbpaaGreatDoorBX3
import Derived.Test.YtemdbgmldljbpaaGreatDoorBX5
import Derived.Test.YtemdbgmldljbpaaGreatDoorBX7
set_option linter.unusedVariables false
set_option linter.unusedSimpArgs false
set_option maxRecDepth 100000
set_option maxHeartbeats 4000000
namespace Go.Proofs.YtemdbgmldljbpaaGreatDoor
open Go.Mx
attribute [local irreducible] wpOp
theorem kpke_Decrypt.ok {K:Nat}{a0_0 a0_1 a0_2 a0_3 a0_4:Int}{a1 a2 r0:List Int}{r1:Int}{a1_A:Option Addr}{a1_n a1_c:Nat}{a2_A:Option Addr}{a2_n a2_c:Nat}(h:kpke_Decrypt.f K a0_0 a0_1 a0_2 a0_3 a0_4 a1 a2=some (r0,r1)) (w0:World) (hp1:RowL CB w0 a1_A a1_n a1_c a1) (hp2:RowL CB w0 a2_A a2_n a2_c a2):Calls Tryz.prog 38 #[.agg #[I8 a0_0,I8 a0_1,I8 a0_2,I8 a0_3,I8 a0_4],.slice a1_A a1_n a1_c,.slice a2_A a2_n a2_c] w0 fun e w'=>∃ h:(Option Addr × Nat × Nat),e = .returned (.tuple #[.slice h.1 h.2.1 h.2.2,I8 r1])∧St w0 [] [.ownL CB h.1 h.2.1 h.2.2 r0 5] [] w':=by
 refine calls_k Tryz.func38 rfl fun Q qq=>?_
 have hs:=St.startR (all_cons (RowP.ent hp1) (all_cons (RowP.ent hp2) all_nil))
 refine wc (a':=(fu 96 [.agg #[I8 a0_0,I8 a0_1,I8 a0_2,I8 a0_3,I8 a0_4],.slice a1_A a1_n a1_c,.slice a2_A a2_n a2_c])) (xs fun _ s1=>(xn 3 fun _ j2=>(so 0 (oBa 3 23 hs [I8 a0_0,I8 a0_1,I8 a0_2,I8 a0_3,I8 a0_4] fun b1 w gw hs=>(nq 1 [(6,.slice none 0 0),(7,I8 0)] ?_)))))
 refine fj j2 s1 (xs fun _ s3=>(xn 9 fun _ j4=>(tkt 0 21 _ (yWs 5 23 hs 0 .grow) ?_)))
 obtain ⟨⟨r2,r3,r4⟩,hg,h⟩:=ob h
 refine so 1 (oC 22 hs (kpke_Sizes.ok hg _) fun w gw hs=>?_)
 refine nq 2 [(20,.tuple #[I8 r2,I8 r3,I8 r4]),(23,I8 r2),(24,I8 r3),(25,I8 r4),(8,I8 r2),(9,I8 r3),(10,I8 r4)] (fj j4 s3 (xs fun _ s5=>(xb (xs fun _ s6=>(xn 3 fun _ j7=>(qo 0 27 (I8 r3) ?_))))))
 obtain ⟨hc,h⟩|⟨hc,h⟩:=of_if h
 refine tb 1 28 (et hc) ?_
 refine qo 2 26 (.bool true) (fj j7 s6 (ct (xs fun _ s8=>(xn 2 fun _ j9=>(nq 0 [(6,.slice none 0 0),(7,I8 9)] (fj j9 s8 (xret (iR (tr ?_)))))))))
 obtain ⟨rfl,rfl⟩:=os2 h
 have hs:=hs.addNilL CB 5
 exact qq _ _ (pt [6,7] [.slice none 0 0,I8 9] ⟨⟨none,0,0⟩,cr,(pz (dr [1,0] hs))⟩)
 refine tb 1 28 (ef hc) (qo 2 26 (.bool false) (fj j7 s6 (cf (xs fun _ s10=>(xn 5 fun _ j11=>(qo 0 30 (.slice a1_A a1_n a1_c) (tkf 1 31 (I8 (a1.length:Int)) (yl (rR 0 hs)) ?_)))))))
 refine qo 2 32 (I8 r3) ?_
 obtain ⟨hc,h⟩|⟨hc,h⟩:=of_if h
 refine tb 3 33 (nf hc) ?_
 refine qo 4 29 (.bool false) (fj j11 s10 (cf (xk (iN (T s5 (xs fun _ s12=>(xn 9 fun _ j13=>(nq 0 [(35,.slice a1_A a1_n a1_c),(36,P0 b1)] (tkt 2 37 _ (yv hs 0 0 3 rfl (by rfl) .grow) ?_)))))))))
 obtain ⟨⟨r5,r6⟩,hg,h⟩:=ob h
 refine wpS.only 3 (oH 38 hs (kpke_read.ok hg _ (rR 0 hs)) ?_)
 rintro ⟨r5_A,r5_n,r5_c⟩ w gw hs
 have hs:=hs.conv (L':=[.ownL CZ r5_A r5_n r5_c r5 70,.blk b1 ([I8 a0_0,I8 a0_1,I8 a0_2,I8 a0_3,I8 a0_4]) 23]) rfl
 refine ⟨fun _=>trivial,?_⟩
 refine nq 4 [(34,.tuple #[.slice r5_A r5_n r5_c,.bool r6]),(39,.slice r5_A r5_n r5_c)] ?_
 cases r6 with
 | true=>
  have h:=of_if_t h
  refine nq 6 [(40,.bool true),(11,.slice r5_A r5_n r5_c),(12,.bool true)] (fj j13 s12 (xs fun _ s14=>(xb (xs fun _ s15=>(xn 3 fun _ j16=>(nq 0 [(42,.bool true),(43,.bool false),(41,.bool false)] (fj j16 s15 (cf (xs fun _ s17=>(xn 5 fun _ j18=>(qo 0 45 (.slice a2_A a2_n a2_c) ?_)))))))))))
  refine tkf 1 46 (I8 (a2.length:Int)) (yl (rR 1 hs)) (qo 2 47 (I8 r4) ?_)
  obtain ⟨hc,h⟩|⟨hc,h⟩:=of_if h
  refine tb 3 48 (nf hc) ?_
  refine qo 4 44 (.bool false) (fj j18 s17 (cf (xk (iN (T s14 (xs fun _ s19=>(xn 11 fun _ j20=>(nq 0 [(50,.slice a2_A a2_n a2_c),(51,P0 b1)] (tkt 2 52 _ (yv hs 1 0 3 rfl (by rfl) .grow) (qo 3 53 (.pointer (some ⟨b1,3,none⟩)) ?_))))))))))
  refine tkt 4 54 _ (yv hs 1 3 3 rfl (by rfl) .grow) ?_
  obtain ⟨⟨r7,r8⟩,hg,h⟩:=ob h
  refine wpS.only 5 (oH 55 hs (kpke_read.ok hg _ (rR 1 hs)) ?_)
  rintro ⟨r7_A,r7_n,r7_c⟩ w gw hs
  have hs:=hs.conv (L':=[.ownL CZ r7_A r7_n r7_c r7 70,.ownL CZ r5_A r5_n r5_c r5 70,.blk b1 ([I8 a0_0,I8 a0_1,I8 a0_2,I8 a0_3,I8 a0_4]) 23]) rfl
  refine ⟨fun _=>trivial,?_⟩
  refine nq 6 [(49,.tuple #[.slice r7_A r7_n r7_c,.bool r8]),(56,.slice r7_A r7_n r7_c),(57,.bool r8),(13,.slice r7_A r7_n r7_c),(14,.bool r8)] (fj j20 s19 (xs fun _ s21=>(xs fun _ s22=>(xn 3 fun _ j23=>(qo 0 58 (.slice r7_A r7_n r7_c) (tkf 1 59 (I8 (r7.length:Int)) (yl (rL 0 hs)) (qo 2 60 (I8 0) ?_)))))))
  refine fj j23 s22 (?_)
  obtain ⟨y11,hy,hk0⟩:=ob h
  refine wp_exq (N:=fun a w=>St w0 [] [.ownL CZ r7_A r7_n r7_c y11 70,.ownL CZ r5_A r5_n r5_c r5 70,.blk b1 ([I8 a0_0,I8 a0_1,I8 a0_2,I8 a0_3,I8 a0_4]) 23] [.rowL CB a1_A a1_n a1_c a1,.rowL CB a2_A a2_n a2_c a2] w∧∃ g25,a=fr g25 99 [(2,[.slice a2_A a2_n a2_c,P0 b1]),(6,[.slice none 0 0,I8 0]),(10,[I8 r4,.slice r5_A r5_n r5_c]),(13,[.slice r7_A r7_n r7_c])]) (fun N0 nn0=>?_) ?_
  clear hk0
  refine xb ?_
  refine wp_loop_k (fun n a w=>∃ z9 z10,kpke_Decrypt.l0 K n a0_3 r7 z9 z10=some y11∧St w0 [] [.ownL CZ r7_A r7_n r7_c z10 70,.ownL CZ r5_A r5_n r5_c r5 70,.blk b1 ([I8 a0_0,I8 a0_1,I8 a0_2,I8 a0_3,I8 a0_4]) 23] [.rowL CB a1_A a1_n a1_c a1,.rowL CB a2_A a2_n a2_c a2] w∧∃ g24,a=fr g24 99 [(2,[.slice a2_A a2_n a2_c,P0 b1]),(6,[.slice none 0 0,I8 0]),(10,[I8 r4,.slice r5_A r5_n r5_c]),(13,[.slice r7_A r7_n r7_c]),(58,[.slice r7_A r7_n r7_c,I8 (r7.length:Int),I8 z9])]) K ⟨0,r7,hy,hs.conv rfl,eg⟩ ?_
  clear hs h hy
  rintro n a w ⟨z9,z10,h,hs,g24,rfl⟩ KL0 kl0
  cases n with
  | zero=>exact nomatch (show none=some _ from h)
  | succ n=>
   refine xs fun _ s26=>(xn 1 fun _ j27=>?_)
   obtain ⟨hc,h⟩|⟨hc,h⟩:=of_if h
   refine tb 0 61 (dt hc) ?_
   refine fj j27 s26 (xs fun _ s28=>(ct (xk (T s28 (xs fun _ s29=>(xb (xs fun _ s30=>(xn 6 fun _ j31=>(qo 0 62 (I8 z9) ?_)))))))))
   obtain ⟨h0,h1,h⟩:=oc2 h
   have i0_32:=h0
   have i1_32:=h1
   refine tkf 1 63 (PA CZ r7_A z9) (yiL (C:=CZ) 97 70 .i64 z9 (rL 0 hs) h0 h1) (tkt 2 64 _ (yLA (C:=CZ) 70 z9 (rL 0 hs) rfl i0_32 i1_32) (so 3 (oNe 16 70 .i32 (zeroA 256) hs fun b12 w gw hs=>(qo 4 15 (I8 z9) (so 5 (oWe 70 .i32 (rdL CZ z10 z9) hs 0 fun w kp hs=>?_))))))
   refine fj j31 s30 (xn 8 fun _ j33=>(nq 0 [(65,.slice r7_A r7_n r7_c),(66,I8 z9)] (tkt 2 67 _ (yWe 70 hs 0 .grow) (qo 3 68 (.pointer (some ⟨b1,3,none⟩)) (tkt 4 69 _ (yv hs 3 3 3 rfl (by rfl) .grow) ?_)))))
   obtain ⟨r13,hg,h⟩:=ob h
   refine so 5 (oC 70 hs (kq_Widen.ok hg _) fun w gw hs=>?_)
   obtain ⟨h0,h1,h⟩:=oc2 h
   have i0_34:=h0
   have i1_34:=h1
   refine tkf 6 71 (PA CZ r7_A z9) (yiL (C:=CZ) 97 70 .i64 z9 (rL 1 hs) h0 h1) (so 7 (oL (C:=CZ) 70 z9 r13 hs 1 rfl i0_34 i1_34 fun w hs=>(fin (j33 _ _ (iN (T s29 (xn 2 fun _ j35=>(nq 0 [(72,I8 (iadd .i64 z9 1)),(60,I8 (iadd .i64 z9 1))] (fin (j35 _ _ ?_))))))))))
   exact tn (kl0 _ _ ⟨n,ls n,(iadd .i64 z9 1),(wrL z10 z9 r13),h,(dr [0,1,1,1] hs),eg⟩)
   refine tb 0 61 (df hc) (fj j27 s26 (xs fun _ s36=>(cf (xexit (tx (tx (iH ?_)))))))
   obtain rfl:=of_some h
   exact exq_n (nn0 _ _ ⟨(hs.conv rfl),eg⟩)
  clear hs h hy
  rintro a w ⟨hs,g25,rfl⟩
  have h:=hk0
  refine T s21 (xs fun _ s37=>?_)
  obtain ⟨y15,hj,h⟩:=ob h
  refine wp_join (N:=fun a w=>∃ b14,St w0 [] [.blk b14 (enc .i32 y15) 70,.ownL CZ r7_A r7_n r7_c y11 70,.ownL CZ r5_A r5_n r5_c r5 70,.blk b1 ([I8 a0_0,I8 a0_1,I8 a0_2,I8 a0_3,I8 a0_4]) 23] [.rowL CB a1_A a1_n a1_c a1,.rowL CB a2_A a2_n a2_c a2] w∧∃ g38,a=fr g38 99 [(3,[P0 b1]),(6,[.slice none 0 0,I8 0]),(11,[.slice r5_A r5_n r5_c]),(13,[.slice r7_A r7_n r7_c]),(17,[P0 b14])]) (fun N nj=>?_) ?_
  clear h
  have h:=hj
  refine rg [14] (fun k=>True) 16 fun _ j39=>?_
  have hs:=hs.drawn1
  refine gq 0 74 (.slice a2_A a2_n a2_c) (gq 1 75 (I8 r4) (gq 2 76 (.pointer (some ⟨b1,4,none⟩)) (tgt 3 77 _ (yv hs 2 4 3 rfl (by rfl) .grow) (gq 4 78 (I8 (imul .i64 32 a0_4)) ?_))))
  refine gq 5 79 (I8 (isub .i64 r4 (imul .i64 32 a0_4))) ?_
  obtain ⟨h0,h1,h⟩:=oc2 h
  obtain ⟨h2,h⟩:=oc h
  obtain ⟨s16_A,hA⟩ : ∃ A,A=if a2_c=((isub .i64 r4 (imul .i64 32 a0_4)):Int).toNat then a2_A else adr a2_A (((isub .i64 r4 (imul .i64 32 a0_4)):Int).toNat*Cod.size CB):=⟨_,rfl⟩
  obtain ⟨s16_n,hn⟩ : ∃ n,n=((a2.length:Int):Int).toNat-((isub .i64 r4 (imul .i64 32 a0_4)):Int).toNat:=⟨_,rfl⟩
  obtain ⟨s16_c,hc⟩ : ∃ c,c=a2_c-((isub .i64 r4 (imul .i64 32 a0_4)):Int).toNat:=⟨_,rfl⟩
  refine tgf 6 80 (.slice s16_A s16_n s16_c) (ysb (C:=CB) 24 5 (some (I8 (isub .i64 r4 (imul .i64 32 a0_4)))) none (isub .i64 r4 (imul .i64 32 a0_4)) (a2.length:Int) (rR 1 hs) (.inr ⟨_,rfl⟩) (.inl ⟨rfl,rfl⟩) h0 h1 h2 hA hn hc) ?_
  have hs:=hs.addSub (C:=CB) 1 rfl h0 h1 h2 hA hn hc
  refine gq 7 81 (.pointer (some ⟨b1,4,none⟩)) (tgt 8 82 _ (yv hs 2 4 3 rfl (by rfl) .grow) ?_)
  refine wpG.many [9,13] (by kernel_rfl) (by decide) (forall_cons ?_ (forall_cons ?_ forall_nil))
  obtain ⟨⟨r17,r18⟩,hg,h⟩:=ob h
  refine (oC 83 hs (kq_Unpack.ok hg _ (rR 0 hs)) ?_)
  intro w gw hs
  refine ⟨.of gw,?_⟩
  refine gq 10 73 (.tuple #[ag .i32 r17,.bool r18]) (gq 11 84 (ag .i32 r17) (gq 12 85 (.bool r18) (go 13 (oNe 17 70 .i32 (zeroA 256) hs fun b19 w gw hs=>⟨.of gw,(go 14 (oWe 70 .i32 r17 hs 0 fun w kp hs=>⟨⟨fun hf=>absurd hf (by decide),.all _ _⟩,?_⟩))⟩))))
  refine gq 15 18 (.bool r18) (gf (j39 _ _ ?_))
  obtain rfl:=of_some h
  exact nj _ _ ⟨b19,(pk [1,2] hs),eg⟩
  refine (oN 17 70 hs (enc .i32 (zeroA 256)) (ag .i32 (zeroA 256)) ?_)
  intro b20 w gw hs
  refine ⟨.of gw,?_⟩
  obtain ⟨⟨r21,r22⟩,hg,h⟩:=ob h
  refine go 9 (oC 83 hs (kq_Unpack.ok hg _ (rR 0 hs)) fun w gw hs=>⟨.of gw,?_⟩)
  refine gq 10 73 (.tuple #[ag .i32 r21,.bool r22]) (gq 11 84 (ag .i32 r21) (gq 12 85 (.bool r22) (go 14 (oWe 70 .i32 r21 hs 0 fun w kp hs=>⟨⟨fun hf=>absurd hf (by decide),.all _ _⟩,(gq 15 18 (.bool r22) ?_)⟩))))
  refine gf (j39 _ _ ?_)
  obtain rfl:=of_some h
  exact nj _ _ ⟨b20,(pk [1,2] hs),eg⟩
  clear hj hs
  rintro a w ⟨b14,hs,g38,rfl⟩
  refine T s37 (xs fun _ s40=>(xn 12 fun _ j41=>(tkt 0 86 _ (yWe 70 hs 0 .grow) (qo 1 87 (.pointer (some ⟨b1,4,none⟩)) (tkt 2 88 _ (yv hs 3 4 3 rfl (by rfl) .grow) ?_)))))
  obtain ⟨r23,hg,h⟩:=ob h
  refine so 3 (oC 89 hs (kq_Widen.ok hg _) fun w gw hs=>?_)
  refine nq 4 [(90,.slice r5_A r5_n r5_c),(91,.slice r7_A r7_n r7_c)] ?_
  obtain ⟨r24,hg,h⟩:=ob h
  refine wpS.only 6 (oH 92 hs (kpke_vector_parts.ok hg _ (rL 1 hs)) ?_)
  rintro ⟨r24_A,r24_n,r24_c⟩ w gw hs
  have hs:=hs.conv (L':=[.ownL CZ r24_A r24_n r24_c r24 70,.blk b14 (enc .i32 y15) 70,.ownL CZ r7_A r7_n r7_c y11 70,.ownL CZ r5_A r5_n r5_c r5 70,.blk b1 ([I8 a0_0,I8 a0_1,I8 a0_2,I8 a0_3,I8 a0_4]) 23]) rfl
  refine ⟨fun _=>trivial,?_⟩
  obtain ⟨r25,hg,h⟩:=ob h
  refine so 7 (oC 93 hs (kpke_vector_dot.ok hg _ (rL 3 hs) (rL 0 hs)) fun w gw hs=>?_)
  obtain ⟨r26,hg,h⟩:=ob h
  refine so 8 (oC 94 hs (kq_Back.ok hg _) fun w gw hs=>?_)
  obtain ⟨r27,hg,h⟩:=ob h
  refine so 9 (oC 95 hs (kq_Sub.ok hg _) fun w gw hs=>?_)
  refine so 10 (oNe 19 70 .i32 (zeroA 256) hs fun b28 w gw hs=>?_)
  refine so 11 (oWe 70 .i32 r27 hs 0 fun w kp hs=>?_)
  refine fj j41 s40 (xs fun _ s42=>(xn 5 fun _ j43=>(tkt 0 96 _ (yWe 70 hs 0 .grow) ?_)))
  obtain ⟨r29,hg,h⟩:=ob h
  refine so 1 (oC 97 hs (kq_Squeeze.ok hg _) fun w gw hs=>?_)
  obtain ⟨r30,hg,h⟩:=ob h
  refine wpS.only 2 (oH 98 hs (kq_Pack.ok hg _) ?_)
  rintro ⟨r30_A,r30_n,r30_c⟩ w gw hs
  have hs:=hs.conv (L':=[.ownL CB r30_A r30_n r30_c r30 5,.blk b28 (enc .i32 r27) 70,.ownL CZ r24_A r24_n r24_c r24 70,.blk b14 (enc .i32 y15) 70,.ownL CZ r7_A r7_n r7_c y11 70,.ownL CZ r5_A r5_n r5_c r5 70,.blk b1 ([I8 a0_0,I8 a0_1,I8 a0_2,I8 a0_3,I8 a0_4]) 23]) rfl
  refine ⟨fun _=>trivial,?_⟩
  refine nq 3 [(6,.slice r30_A r30_n r30_c),(7,I8 0)] (fj j43 s42 (xret ?_))
  obtain ⟨rfl,rfl⟩:=os2 h
  exact qq _ _ (pt [6,7] [.slice r30_A r30_n r30_c,I8 0] ⟨⟨r30_A,r30_n,r30_c⟩,cr,(pz (dr [1,0,0,0,0,0,0] hs))⟩)
  refine tb 3 48 (nt hc) (qo 4 44 (.bool true) (fj j18 s17 (ct (xs fun _ s44=>(xn 2 fun _ j45=>(nq 0 [(6,.slice none 0 0),(7,I8 14)] (fj j45 s44 (xret (iR (tr ?_))))))))))
  obtain ⟨rfl,rfl⟩:=os2 h
  have hs:=hs.addNilL CB 5
  exact qq _ _ (pt [6,7] [.slice none 0 0,I8 14] ⟨⟨none,0,0⟩,cr,(pz (dr [1,0,0] hs))⟩)
 | false=>
  have h:=of_if_f h
  refine nq 6 [(40,.bool false),(11,.slice r5_A r5_n r5_c),(12,.bool false)] (fj j13 s12 (xs fun _ s46=>(xb (xs fun _ s47=>(xn 3 fun _ j48=>(nq 0 [(42,.bool false),(43,.bool true),(41,.bool true)] (fj j48 s47 (ct (xs fun _ s49=>(xn 2 fun _ j50=>(nq 0 [(6,.slice none 0 0),(7,I8 10)] ?_)))))))))))
  refine fj j50 s49 (xret (iR (tr ?_)))
  obtain ⟨rfl,rfl⟩:=os2 h
  have hs:=hs.addNilL CB 5
  exact qq _ _ (pt [6,7] [.slice none 0 0,I8 10] ⟨⟨none,0,0⟩,cr,(pz (dr [1,0,0] hs))⟩)
 refine tb 3 33 (nt hc) (qo 4 29 (.bool true) (fj j11 s10 (ct (xs fun _ s51=>(xn 2 fun _ j52=>(nq 0 [(6,.slice none 0 0),(7,I8 10)] (fj j52 s51 (xret (iR (tr ?_))))))))))
 obtain ⟨rfl,rfl⟩:=os2 h
 have hs:=hs.addNilL CB 5
 exact qq _ _ (pt [6,7] [.slice none 0 0,I8 10] ⟨⟨none,0,0⟩,cr,(pz (dr [1,0] hs))⟩)
theorem bits_Same.ok {K:Nat}{a0 a1:List Int}{r0:Bool}{a0_A:Option Addr}{a0_n a0_c:Nat}{a1_A:Option Addr}{a1_n a1_c:Nat}(h:bits_Same.f K a0 a1=some r0) (w0:World) (hp0:RowL CB w0 a0_A a0_n a0_c a0) (hp1:RowL CB w0 a1_A a1_n a1_c a1):Ret Tryz.prog 39 #[.slice a0_A a0_n a0_c,.slice a1_A a1_n a1_c] w0 (.bool r0):=by
 refine calls_k Tryz.func39 rfl fun Q qq=>?_
 have hs:=St.startR (all_cons (RowP.ent hp0) (all_cons (RowP.ent hp1) all_nil))
 refine wc (a':=(fu 29 [.slice a0_A a0_n a0_c,.slice a1_A a1_n a1_c])) (xs fun _ s1=>(xn 1 fun _ j2=>(qo 0 4 (.bool false) (fj j2 s1 (xs fun _ s3=>(xs fun _ s4=>(xn 5 fun _ j5=>?_)))))))
 refine qo 0 7 (.slice a0_A a0_n a0_c) (tkf 1 8 (I8 (a0.length:Int)) (yl (rR 0 hs)) (qo 2 9 (.slice a1_A a1_n a1_c) (tkf 3 10 (I8 (a1.length:Int)) (yl (rR 1 hs)) ?_)))
 obtain ⟨hc,h⟩|⟨hc,h⟩:=of_if h
 refine tb 4 11 (nf hc) ?_
 refine fj j5 s4 (cf (xk (T s3 (xs fun _ s6=>(xn 1 fun _ j7=>(qo 0 5 (U1 0) (fj j7 s6 (xs fun _ s8=>(xs fun _ s9=>(xn 3 fun _ j10=>(qo 0 12 (.slice a0_A a0_n a0_c) (tkf 1 13 (I8 (a0.length:Int)) (yl (rR 0 hs)) ?_))))))))))))
 refine qo 2 14 (I8 0) (fj j10 s9 (?_))
 obtain ⟨y3,hy,hk0⟩:=ob h
 refine wp_exq (N:=fun a w=>St w0 [] [] [.rowL CB a0_A a0_n a0_c a0,.rowL CB a1_A a1_n a1_c a1] w∧∃ g12,a=fr g12 31 [(4,[.bool false,U1 y3])]) (fun N0 nn0=>?_) ?_
 clear hk0
 refine xb ?_
 refine wp_loop_k (fun n a w=>∃ z1 z2,bits_Same.l0 K n a0 a1 z1 z2=some y3∧St w0 [] [] [.rowL CB a0_A a0_n a0_c a0,.rowL CB a1_A a1_n a1_c a1] w∧∃ g11,a=fr g11 31 [(0,[.slice a0_A a0_n a0_c,.slice a1_A a1_n a1_c]),(4,[.bool false,U1 z1]),(13,[I8 (a0.length:Int),I8 z2])]) K ⟨0,0,hy,hs.conv rfl,eg⟩ ?_
 clear hs h hy
 rintro n a w ⟨z1,z2,h,hs,g11,rfl⟩ KL0 kl0
 cases n with
 | zero=>exact nomatch (show none=some _ from h)
 | succ n=>
  refine xs fun _ s13=>(xn 1 fun _ j14=>?_)
  obtain ⟨hc,h⟩|⟨hc,h⟩:=of_if h
  refine tb 0 15 (dt hc) ?_
  refine fj j14 s13 (xs fun _ s15=>(ct (xk (T s15 (xs fun _ s16=>(xb (xs fun _ s17=>(xn 2 fun _ j18=>(nq 0 [(16,I8 z2),(6,I8 z2)] (fj j18 s17 (?_)))))))))))
  refine rg [] (fun k=>True) 12 fun _ j19=>?_
  have hs:=hs.drawn1
  refine gq 0 17 (U1 z1) (gq 1 18 (.slice a0_A a0_n a0_c) (gq 2 19 (I8 z2) ?_))
  obtain ⟨h0,h1,h⟩:=oc2 h
  have i0_20:=h0
  have i1_20:=h1
  refine tgf 3 20 (PA CB a0_A z2) (yiL (C:=CB) 24 5 .i64 z2 (rR 0 hs) h0 h1) (tgt 4 21 _ (yL (C:=CB) 5 z2 (rR 0 hs) rfl i0_20 i1_20) (gq 5 22 (.slice a1_A a1_n a1_c) (gq 6 23 (I8 z2) ?_)))
  obtain ⟨h0,h1,h⟩:=oc2 h
  have i0_21:=h0
  have i1_21:=h1
  refine tgf 7 24 (PA CB a1_A z2) (yiL (C:=CB) 24 5 .i64 z2 (rR 1 hs) h0 h1) (tgt 8 25 _ (yL (C:=CB) 5 z2 (rR 1 hs) rfl i0_21 i1_21) (gq 9 26 (U1 (ixor .u8 (rdL CB a0 z2) (rdL CB a1 z2))) (gq 10 27 (U1 (ior .u8 z1 (ixor .u8 (rdL CB a0 z2) (rdL CB a1 z2)))) ?_)))
  obtain ⟨x4,hx,h⟩:=ob h
  refine tgf 11 5 (U1 x4) (yn hx) (gf (j19 _ _ ?_))
  refine iN (T s16 (xn 2 fun _ j22=>?_))
  refine nq 0 [(28,I8 (iadd .i64 z2 1)),(14,I8 (iadd .i64 z2 1))] (fin (j22 _ _ ?_))
  exact tn (kl0 _ _ ⟨n,ls n,x4,(iadd .i64 z2 1),h,(hs.conv rfl),eg⟩)
  refine tb 0 15 (df hc) (fj j14 s13 (xs fun _ s23=>(cf (xexit (tx (tx (iH ?_)))))))
  obtain rfl:=of_some h
  exact exq_n (nn0 _ _ ⟨(hs.conv rfl),eg⟩)
 clear hs h hy
 rintro a w ⟨hs,g12,rfl⟩
 have h:=hk0
 refine T s8 (xs fun _ s24=>(xn 3 fun _ j25=>(nq 0 [(29,U1 y3),(30,.bool (y3 == 0)),(4,.bool (y3 == 0))] (fj j25 s24 (xret ?_)))))
 obtain rfl:=of_some h
 exact qq _ _ (pt [4] [.bool (y3 == 0)] ⟨cr,hs.none⟩)
 refine tb 4 11 (nt hc) (fj j5 s4 (ct (xs fun _ s26=>(xn 1 fun _ j27=>(qo 0 4 (.bool false) (fj j27 s26 (xret (tr ?_))))))))
 obtain rfl:=of_some h
 exact qq _ _ (pt [4] [.bool false] ⟨cr,hs.none⟩)
end Go.Proofs.YtemdbgmldljbpaaGreatDoor

/- own -/
set_option linter.unusedVariables false
set_option linter.unusedSimpArgs false
set_option maxRecDepth 100000
set_option maxHeartbeats 4000000
namespace Go.Proofs.YtemdbgmldljbpaaGreatDoor
open Go.Mx
attribute [local irreducible] wpOp
theorem kem_Open.ok {K:Nat}{a0_0 a0_1 a0_2 a0_3 a0_4:Int}{a1 a2 r0:List Int}{r1:Int}{a1_A:Option Addr}{a1_n a1_c:Nat}{a2_A:Option Addr}{a2_n a2_c:Nat}(h:kem_Open.f K a0_0 a0_1 a0_2 a0_3 a0_4 a1 a2=some (r0,r1)) (w0:World) (hp1:RowL CB w0 a1_A a1_n a1_c a1) (hp2:RowL CB w0 a2_A a2_n a2_c a2) (hg0:RowL CW w0 (some ⟨0,0,none⟩) 1 1 [tab_0]) (hg1:RowL CV w0 (some ⟨1,0,none⟩) 1 1 [tab_1]) (hg2:RowL CV w0 (some ⟨2,0,none⟩) 1 1 [tab_2]):Calls Tryz.prog 7 #[.agg #[I8 a0_0,I8 a0_1,I8 a0_2,I8 a0_3,I8 a0_4],.slice a1_A a1_n a1_c,.slice a2_A a2_n a2_c] w0 fun e w'=>∃ h:(Option Addr × Nat × Nat),e = .returned (.tuple #[.slice h.1 h.2.1 h.2.2,I8 r1])∧St w0 [] [.rowL CB h.1 h.2.1 h.2.2 r0] [] w':=by
 refine calls_k Tryz.func7 rfl fun Q qq=>?_
 have hs:=St.startR (all_cons (RowP.ent hp1) (all_cons (RowP.ent hp2) (all_cons (RowP.ent hg0) (all_cons (RowP.ent hg1) (all_cons (RowP.ent hg2) all_nil)))))
 refine wc (a':=(fu 37 [.agg #[I8 a0_0,I8 a0_1,I8 a0_2,I8 a0_3,I8 a0_4],.slice a1_A a1_n a1_c,.slice a2_A a2_n a2_c])) (xs fun _ s1=>(xn 3 fun _ j2=>(so 0 (oBa 3 23 hs [I8 a0_0,I8 a0_1,I8 a0_2,I8 a0_3,I8 a0_4] fun b1 w gw hs=>(nq 1 [(6,.slice none 0 0),(7,I8 0)] ?_)))))
 refine fj j2 s1 (xs fun _ s3=>(xn 9 fun _ j4=>(tkt 0 14 _ (yWs 5 23 hs 0 .grow) ?_)))
 obtain ⟨⟨r2,r3,r4⟩,hg,h⟩:=ob h
 refine so 1 (oC 15 hs (kem_Sizes.ok hg _) fun w gw hs=>?_)
 refine nq 2 [(13,.tuple #[I8 r2,I8 r3,I8 r4]),(16,I8 r2),(17,I8 r3),(18,I8 r4),(8,I8 r2),(9,I8 r3),(10,I8 r4)] (fj j4 s3 (xs fun _ s5=>(xs fun _ s6=>(xn 2 fun _ j7=>(qo 0 19 (I8 r2) ?_)))))
 obtain ⟨hc,h⟩|⟨hc,h⟩:=of_if h
 refine tb 1 20 (et hc) ?_
 refine fj j7 s6 (ct (xs fun _ s8=>(xn 2 fun _ j9=>(nq 0 [(6,.slice none 0 0),(7,I8 9)] (fj j9 s8 (xret (tr ?_)))))))
 obtain ⟨rfl,rfl⟩:=os2 h
 have hs:=hs.addNilR CB
 exact qq _ _ (pt [6,7] [.slice none 0 0,I8 9] ⟨⟨none,0,0⟩,cr,(pz (dr [1,0] hs))⟩)
 refine tb 1 20 (ef hc) (fj j7 s6 (cf (xk (T s5 (xs fun _ s10=>(xn 9 fun _ j11=>(tkt 0 22 _ (yWs 5 23 hs 0 .grow) (qo 1 23 (.slice a1_A a1_n a1_c) ?_))))))))
 refine wpS.only 2 (op_inline (d:=(some 24)) (f:=18) (args:=#[.agg #[I8 a0_0,I8 a0_1,I8 a0_2,I8 a0_3,I8 a0_4],.slice a1_A a1_n a1_c]) (by kernel_rfl) (fun _=>by kernel_rfl) fun R12 kI12=>?_)
 refine calls_k Tryz.func18 rfl fun Q12 qq12=>?_
 refine wc (a':=(fu 72 [.agg #[I8 a0_0,I8 a0_1,I8 a0_2,I8 a0_3,I8 a0_4],.slice a1_A a1_n a1_c])) (xs fun _ s13=>(xn 3 fun _ j14=>(so 0 (oBa 2 23 hs [I8 a0_0,I8 a0_1,I8 a0_2,I8 a0_3,I8 a0_4] fun b5 w gw hs=>(so 1 (oNa 4 47 hs [I8 0,I8 0,I8 0,I8 0,I8 0,.slice none 0 0,.slice none 0 0,.slice none 0 0,.slice none 0 0,.nilFunc] fun b6 w gw hs=>?_))))))
 refine qo 2 5 (.bool false) (fj j14 s13 (xs fun _ s15=>(xn 9 fun _ j16=>(tkt 0 14 _ (yWs 5 23 hs 1 .grow) ?_))))
 obtain ⟨⟨r7,r8,r9⟩,hg,h⟩:=ob h
 refine so 1 (oC 15 hs (kem_Sizes.ok hg _) fun w gw hs=>?_)
 refine nq 2 [(13,.tuple #[I8 r7,I8 r8,I8 r9]),(16,I8 r7),(17,I8 r8),(18,I8 r9),(6,I8 r7),(7,I8 r8),(8,I8 r9)] (fj j16 s15 (xs fun _ s17=>(xs fun _ s18=>(xn 4 fun _ j19=>(qo 0 19 (.slice a1_A a1_n a1_c) (tkf 1 20 (I8 (a1.length:Int)) (yl (rR 0 hs)) (qo 2 21 (I8 r8) ?_)))))))
 obtain ⟨hc,h⟩|⟨hc,h⟩:=of_if h
 refine tb 3 22 (nf hc) ?_
 refine fj j19 s18 (cf (xk (T s17 (xs fun _ s20=>(xn 3 fun _ j21=>(nq 0 [(24,I8 r8),(25,I8 (isub .i64 r8 64))] ?_))))))
 obtain ⟨x10,hx,h⟩:=ob h
 refine tkf 2 9 (I8 x10) (yn hx) (fj j21 s20 (xs fun _ s22=>?_))
 refine rg [23] (fun k=>True) 24 fun _ j23=>?_
 have hs:=hs.drawn1
 refine tgt 0 26 _ (yWs 5 23 hs 1 .grow) (gq 1 27 (.slice a1_A a1_n a1_c) (gq 2 28 (I8 x10) (gq 3 29 (I8 r7) (gq 4 30 (I8 (isub .i64 x10 r7)) ?_))))
 obtain ⟨h0,h1,h⟩:=oc2 h
 obtain ⟨h2,h⟩:=oc h
 obtain ⟨s11_A,hA⟩ : ∃ A,A=if a1_c=(0:Int).toNat then a1_A else adr a1_A ((0:Int).toNat*Cod.size CB):=⟨_,rfl⟩
 obtain ⟨s11_n,hn⟩ : ∃ n,n=((isub .i64 x10 r7):Int).toNat-(0:Int).toNat:=⟨_,rfl⟩
 obtain ⟨s11_c,hc⟩ : ∃ c,c=a1_c-(0:Int).toNat:=⟨_,rfl⟩
 refine tgf 5 31 (.slice s11_A s11_n s11_c) (ysb (C:=CB) 24 5 none (some (I8 (isub .i64 x10 r7))) 0 (isub .i64 x10 r7) (rR 0 hs) (.inl ⟨rfl,rfl⟩) (.inr ⟨_,rfl⟩) h0 h1 h2 hA hn hc) ?_
 have hs:=hs.addSub (C:=CB) 0 rfl h0 h1 h2 hA hn hc
 refine gq 6 32 (.slice a1_A a1_n a1_c) (gq 7 33 (I8 x10) (gq 8 34 (I8 r7) (gq 9 35 (I8 (isub .i64 x10 r7)) (gq 10 36 (I8 x10) ?_))))
 obtain ⟨h0,h1,h⟩:=oc2 h
 obtain ⟨h2,h⟩:=oc h
 obtain ⟨s12_A,hA⟩ : ∃ A,A=if a1_c=((isub .i64 x10 r7):Int).toNat then a1_A else adr a1_A (((isub .i64 x10 r7):Int).toNat*Cod.size CB):=⟨_,rfl⟩
 obtain ⟨s12_n,hn⟩ : ∃ n,n=(x10:Int).toNat-((isub .i64 x10 r7):Int).toNat:=⟨_,rfl⟩
 obtain ⟨s12_c,hc⟩ : ∃ c,c=a1_c-((isub .i64 x10 r7):Int).toNat:=⟨_,rfl⟩
 refine tgf 11 37 (.slice s12_A s12_n s12_c) (ysb (C:=CB) 24 5 (some (I8 (isub .i64 x10 r7))) (some (I8 x10)) (isub .i64 x10 r7) x10 (rR 1 hs) (.inr ⟨_,rfl⟩) (.inr ⟨_,rfl⟩) h0 h1 h2 hA hn hc) ?_
 have hs:=hs.addSub (C:=CB) 1 rfl h0 h1 h2 hA hn hc
 refine gq 12 38 (.slice a1_A a1_n a1_c) (gq 13 39 (I8 x10) (gq 14 40 (I8 x10) (gq 15 41 (I8 (iadd .i64 x10 32)) ?_)))
 obtain ⟨h0,h1,h⟩:=oc2 h
 obtain ⟨h2,h⟩:=oc h
 obtain ⟨s13_A,hA⟩ : ∃ A,A=if a1_c=(x10:Int).toNat then a1_A else adr a1_A ((x10:Int).toNat*Cod.size CB):=⟨_,rfl⟩
 obtain ⟨s13_n,hn⟩ : ∃ n,n=((iadd .i64 x10 32):Int).toNat-(x10:Int).toNat:=⟨_,rfl⟩
 obtain ⟨s13_c,hc⟩ : ∃ c,c=a1_c-(x10:Int).toNat:=⟨_,rfl⟩
 refine tgf 16 42 (.slice s13_A s13_n s13_c) (ysb (C:=CB) 24 5 (some (I8 x10)) (some (I8 (iadd .i64 x10 32))) x10 (iadd .i64 x10 32) (rR 2 hs) (.inr ⟨_,rfl⟩) (.inr ⟨_,rfl⟩) h0 h1 h2 hA hn hc) ?_
 have hs:=hs.addSub (C:=CB) 2 rfl h0 h1 h2 hA hn hc
 refine gq 17 43 (.slice a1_A a1_n a1_c) (gq 18 44 (I8 x10) (gq 19 45 (I8 (iadd .i64 x10 32)) ?_))
 obtain ⟨h0,h1,h⟩:=oc2 h
 obtain ⟨h2,h⟩:=oc h
 obtain ⟨s14_A,hA⟩ : ∃ A,A=if a1_c=((iadd .i64 x10 32):Int).toNat then a1_A else adr a1_A (((iadd .i64 x10 32):Int).toNat*Cod.size CB):=⟨_,rfl⟩
 obtain ⟨s14_n,hn⟩ : ∃ n,n=((a1.length:Int):Int).toNat-((iadd .i64 x10 32):Int).toNat:=⟨_,rfl⟩
 obtain ⟨s14_c,hc⟩ : ∃ c,c=a1_c-((iadd .i64 x10 32):Int).toNat:=⟨_,rfl⟩
 refine tgf 20 46 (.slice s14_A s14_n s14_c) (ysb (C:=CB) 24 5 (some (I8 (iadd .i64 x10 32))) none (iadd .i64 x10 32) (a1.length:Int) (rR 3 hs) (.inr ⟨_,rfl⟩) (.inl ⟨rfl,rfl⟩) h0 h1 h2 hA hn hc) ?_
 have hs:=hs.addSub (C:=CB) 3 rfl h0 h1 h2 hA hn hc
 refine gq 21 47 (.agg #[I8 a0_0,I8 a0_1,I8 a0_2,I8 a0_3,I8 a0_4,.slice s11_A s11_n s11_c,.slice s12_A s12_n s12_c,.slice s13_A s13_n s13_c,.slice s14_A s14_n s14_c,.nilFunc]) (go 22 (oNa 10 47 hs [I8 0,I8 0,I8 0,I8 0,I8 0,.slice none 0 0,.slice none 0 0,.slice none 0 0,.slice none 0 0,.nilFunc] fun b15 w gw hs=>⟨.of gw,(go 23 (oWa 47 [I8 a0_0,I8 a0_1,I8 a0_2,I8 a0_3,I8 a0_4,.slice s11_A s11_n s11_c,.slice s12_A s12_n s12_c,.slice s13_A s13_n s13_c,.slice s14_A s14_n s14_c,.nilFunc] hs 0 fun w kp hs=>⟨⟨fun hf=>absurd hf (by decide),.all _ _⟩,(gf (j23 _ _ (T s22 (xs fun _ s24=>(xn 3 fun _ j25=>?_)))))⟩))⟩))
 refine nq 0 [(48,.func (.func 37) #[] #[P0 b15]),(49,.pointer (some ⟨b15,9,none⟩))] (so 2 (oS1 45 (.func (.func 37) #[] #[P0 b15]) 9 hs 0 rfl rfl (by simp) fun w kp hs=>(fj j25 s24 (xs fun _ s26=>(xn 9 fun _ j27=>(tkt 0 51 _ (yWs 5 23 hs 2 .grow) (qo 1 52 (.pointer (some ⟨b15,5,none⟩)) ?_)))))))
 refine tkt 2 53 _ (yv hs 0 5 24 rfl (by rfl) .grow) ?_
 obtain ⟨⟨r16,r17⟩,hg,h⟩:=ob h
 refine wpS.only 3 (oH 54 hs (kpke_Decrypt.ok hg _ (rR 3 hs) (RowL.nil _)) ?_)
 rintro ⟨r16_A,r16_n,r16_c⟩ w gw hs
 have hs:=hs.conv (L':=[.ownL CB r16_A r16_n r16_c r16 5,.blk b15 ([I8 a0_0,I8 a0_1,I8 a0_2,I8 a0_3,I8 a0_4,.slice s11_A s11_n s11_c,.slice s12_A s12_n s12_c,.slice s13_A s13_n s13_c,.slice s14_A s14_n s14_c,.func (.func 37) #[] #[P0 b15]]) 47,.blk b6 ([I8 0,I8 0,I8 0,I8 0,I8 0,.slice none 0 0,.slice none 0 0,.slice none 0 0,.slice none 0 0,.nilFunc]) 47,.blk b5 ([I8 a0_0,I8 a0_1,I8 a0_2,I8 a0_3,I8 a0_4]) 23,.blk b1 ([I8 a0_0,I8 a0_1,I8 a0_2,I8 a0_3,I8 a0_4]) 23]) rfl
 refine ⟨fun _=>trivial,?_⟩
 refine nq 4 [(50,.tuple #[.slice r16_A r16_n r16_c,I8 r17]),(55,.slice r16_A r16_n r16_c),(56,I8 r17),(11,.slice r16_A r16_n r16_c),(12,I8 r17)] (fj j27 s26 (xs fun _ s28=>?_))
 refine rg [17] (fun k=>True) 19 fun _ j29=>?_
 have hs:=hs.drawn1
 refine tgt 0 57 _ (yWs 10 47 hs 1 .grow) (gq 1 58 (I8 r17) ?_)
 obtain ⟨hc,h⟩|⟨hc,h⟩:=of_if h
 refine gb 2 59 (nf hc) ?_
 refine gq 3 60 (.bool false) (gq 4 61 undef (gq 5 62 undef (gq 6 63 undef (gq 7 64 undef ?_))))
 refine gq 8 65 (.bool false) (gq 9 66 (.bool false) (gq 10 67 undef (gq 11 68 undef (gq 13 70 undef ?_))))
 refine gq 14 71 undef (gq 12 69 undef (gq 15 72 undef (gq 16 73 (.bool false) (go 17 (oWa 47 [I8 a0_0,I8 a0_1,I8 a0_2,I8 a0_3,I8 a0_4,.slice s11_A s11_n s11_c,.slice s12_A s12_n s12_c,.slice s13_A s13_n s13_c,.slice s14_A s14_n s14_c,.func (.func 37) #[] #[P0 b15]] hs 2 fun w kp hs=>⟨⟨fun hf=>absurd hf (by decide),.all _ _⟩,?_⟩)))))
 refine gq 18 5 (.bool false) (gf (j29 _ _ (T s28 (xret ?_))))
 refine qq12 _ _ (pr (rr [.cell 4 47,.tmp 5] [.agg #[I8 a0_0,I8 a0_1,I8 a0_2,I8 a0_3,I8 a0_4,.slice s11_A s11_n s11_c,.slice s12_A s12_n s12_c,.slice s13_A s13_n s13_c,.slice s14_A s14_n s14_c,.func (.func 37) #[] #[P0 b15]],.bool false] (.cons (rcN 10 hs 2 rfl (by simp [enc_len])) (.cons rt .nil))) ?_)
 refine kI12 _ _ ?_
 refine ⟨fun _=>trivial,?_⟩
 refine nq 3 [(21,.tuple #[.agg #[I8 a0_0,I8 a0_1,I8 a0_2,I8 a0_3,I8 a0_4,.slice s11_A s11_n s11_c,.slice s12_A s12_n s12_c,.slice s13_A s13_n s13_c,.slice s14_A s14_n s14_c,.func (.func 37) #[] #[P0 b15]],.bool false]),(25,.agg #[I8 a0_0,I8 a0_1,I8 a0_2,I8 a0_3,I8 a0_4,.slice s11_A s11_n s11_c,.slice s12_A s12_n s12_c,.slice s13_A s13_n s13_c,.slice s14_A s14_n s14_c,.func (.func 37) #[] #[P0 b15]]),(26,.bool false)] (so 6 (oNa 11 47 hs [I8 0,I8 0,I8 0,I8 0,I8 0,.slice none 0 0,.slice none 0 0,.slice none 0 0,.slice none 0 0,.nilFunc] fun b18 w gw hs=>(so 7 (oWa 47 [I8 a0_0,I8 a0_1,I8 a0_2,I8 a0_3,I8 a0_4,.slice s11_A s11_n s11_c,.slice s12_A s12_n s12_c,.slice s13_A s13_n s13_c,.slice s14_A s14_n s14_c,.func (.func 37) #[] #[P0 b15]] hs 0 fun w kp hs=>(qo 8 12 (.bool false) (fj j11 s10 (xs fun _ s30=>(xb (xs fun _ s31=>(xn 3 fun _ j32=>?_))))))))))
 refine nq 0 [(28,.bool false),(29,.bool true),(27,.bool true)] (fj j32 s31 (ct (xs fun _ s33=>(xn 2 fun _ j34=>(nq 0 [(6,.slice none 0 0),(7,I8 10)] (fj j34 s33 (xret (iR (tr ?_)))))))))
 obtain ⟨rfl,rfl⟩:=os2 h
 have hs:=hs.addNilR CB
 exact qq _ _ (pt [6,7] [.slice none 0 0,I8 10] ⟨⟨none,0,0⟩,cr,(pz (dr [1,0,0,0,0,0,0] hs))⟩)
 refine gb 2 59 (nt hc) (gq 3 60 (.bool true) ?_)
 refine wpG.take [4,7,8,9,10,11,12,13,14,15,16,17,18] 4 true (some 61) (.agg #[I8 a0_0,I8 a0_1,I8 a0_2,I8 a0_3,I8 a0_4]) (by kernel_rfl) (by kernel_rfl) (yWs 5 23 hs 3 .grow) ?_
 refine gq 5 62 (.pointer (some ⟨b15,6,none⟩)) ?_
 refine wpG.take [6,7,8,9,10,11,12,13,14,15,16,17,18] 6 true (some 63) (.slice s12_A s12_n s12_c) (by kernel_rfl) (by kernel_rfl) (yv hs 1 6 24 rfl (by rfl) .grow) ?_
 obtain ⟨r19,hg,h⟩:=ob h
 cases r19 with
 | true=>
  have h:=of_if_t h
  refine go 7 (oC 64 hs (kem_good.ok hg _ (rR 2 hs) (rR 6 hs) (rR 7 hs) (rR 8 hs)) fun w gw hs=>⟨.of gw,?_⟩)
  refine gq 8 65 (.bool true) (gq 9 66 (.bool true) (gq 10 67 (.pointer (some ⟨b15,6,none⟩)) ?_))
  refine wpG.take [11,12,15,16,17,18] 11 true (some 68) (.slice s12_A s12_n s12_c) (by kernel_rfl) (by kernel_rfl) (yv hs 1 6 24 rfl (by rfl) .grow) ?_
  refine gq 13 70 (.pointer (some ⟨b15,7,none⟩)) ?_
  refine wpG.take [14,15,16,17,18] 14 true (some 71) (.slice s13_A s13_n s13_c) (by kernel_rfl) (by kernel_rfl) (yv hs 1 7 24 rfl (by rfl) .grow) ?_
  obtain ⟨r20,hg,h⟩:=ob h
  refine wpG.only 12 (by kernel_rfl) (oH 69 hs (kem_digest.ok hg _ (rR 2 hs) (rR 6 hs) (rR 7 hs) (rR 8 hs)) ?_)
  rintro ⟨r20_A,r20_n,r20_c⟩ w gw hs
  have hs:=hs.conv (L':=[.ownL CB r20_A r20_n r20_c r20 5,.ownL CB r16_A r16_n r16_c r16 5,.blk b15 ([I8 a0_0,I8 a0_1,I8 a0_2,I8 a0_3,I8 a0_4,.slice s11_A s11_n s11_c,.slice s12_A s12_n s12_c,.slice s13_A s13_n s13_c,.slice s14_A s14_n s14_c,.func (.func 37) #[] #[P0 b15]]) 47,.blk b6 ([I8 0,I8 0,I8 0,I8 0,I8 0,.slice none 0 0,.slice none 0 0,.slice none 0 0,.slice none 0 0,.nilFunc]) 47,.blk b5 ([I8 a0_0,I8 a0_1,I8 a0_2,I8 a0_3,I8 a0_4]) 23,.blk b1 ([I8 a0_0,I8 a0_1,I8 a0_2,I8 a0_3,I8 a0_4]) 23]) rfl
  refine ⟨.of gw,?_⟩
  obtain ⟨r21,hg,h⟩:=ob h
  refine go 15 (oC 72 hs (bits_Same.ok hg _ (rL 0 hs) (rR 1 hs)) fun w gw hs=>⟨.of gw,?_⟩)
  refine gq 16 73 (.bool r21) (go 17 (oWa 47 [I8 a0_0,I8 a0_1,I8 a0_2,I8 a0_3,I8 a0_4,.slice s11_A s11_n s11_c,.slice s12_A s12_n s12_c,.slice s13_A s13_n s13_c,.slice s14_A s14_n s14_c,.func (.func 37) #[] #[P0 b15]] hs 3 fun w kp hs=>⟨⟨fun hf=>absurd hf (by decide),.all _ _⟩,(gq 18 5 (.bool r21) (gf (j29 _ _ (T s28 (xret ?_)))))⟩))
  refine qq12 _ _ (pr (rr [.cell 4 47,.tmp 5] [.agg #[I8 a0_0,I8 a0_1,I8 a0_2,I8 a0_3,I8 a0_4,.slice s11_A s11_n s11_c,.slice s12_A s12_n s12_c,.slice s13_A s13_n s13_c,.slice s14_A s14_n s14_c,.func (.func 37) #[] #[P0 b15]],.bool r21] (.cons (rcN 10 hs 3 rfl (by simp [enc_len])) (.cons rt .nil))) ?_)
  refine kI12 _ _ ?_
  refine ⟨fun _=>trivial,?_⟩
  refine nq 3 [(21,.tuple #[.agg #[I8 a0_0,I8 a0_1,I8 a0_2,I8 a0_3,I8 a0_4,.slice s11_A s11_n s11_c,.slice s12_A s12_n s12_c,.slice s13_A s13_n s13_c,.slice s14_A s14_n s14_c,.func (.func 37) #[] #[P0 b15]],.bool r21]),(25,.agg #[I8 a0_0,I8 a0_1,I8 a0_2,I8 a0_3,I8 a0_4,.slice s11_A s11_n s11_c,.slice s12_A s12_n s12_c,.slice s13_A s13_n s13_c,.slice s14_A s14_n s14_c,.func (.func 37) #[] #[P0 b15]])] ?_
  cases r21 with
  | true=>
   have h:=of_if_t h
   refine qo 5 26 (.bool true) (so 6 (oNa 11 47 hs [I8 0,I8 0,I8 0,I8 0,I8 0,.slice none 0 0,.slice none 0 0,.slice none 0 0,.slice none 0 0,.nilFunc] fun b22 w gw hs=>(so 7 (oWa 47 [I8 a0_0,I8 a0_1,I8 a0_2,I8 a0_3,I8 a0_4,.slice s11_A s11_n s11_c,.slice s12_A s12_n s12_c,.slice s13_A s13_n s13_c,.slice s14_A s14_n s14_c,.func (.func 37) #[] #[P0 b15]] hs 0 fun w kp hs=>(qo 8 12 (.bool true) (fj j11 s10 (xs fun _ s35=>(xb (xs fun _ s36=>(xn 3 fun _ j37=>?_))))))))))
   refine nq 0 [(28,.bool true),(29,.bool false),(27,.bool false)] (fj j37 s36 (cf (xs fun _ s38=>(xn 5 fun _ j39=>(qo 0 31 (.slice a2_A a2_n a2_c) (tkf 1 32 (I8 (a2.length:Int)) (yl (rR 5 hs)) (qo 2 33 (I8 r4) ?_)))))))
   obtain ⟨hc,h⟩|⟨hc,h⟩:=of_if h
   refine tb 3 34 (nf hc) ?_
   refine qo 4 30 (.bool false) (fj j39 s38 (cf (xk (iN (T s35 (xs fun _ s40=>(xn 7 fun _ j41=>(tkt 0 35 _ (yWs 10 47 hs 0 .grow) (qo 1 36 (.slice a2_A a2_n a2_c) ?_)))))))))
   refine wpS.only 2 (op_inline (d:=(some 37)) (f:=19) (args:=#[.agg #[I8 a0_0,I8 a0_1,I8 a0_2,I8 a0_3,I8 a0_4,.slice s11_A s11_n s11_c,.slice s12_A s12_n s12_c,.slice s13_A s13_n s13_c,.slice s14_A s14_n s14_c,.func (.func 37) #[] #[P0 b15]],.slice a2_A a2_n a2_c]) (by kernel_rfl) (fun _=>by kernel_rfl) fun R43 kI43=>?_)
   refine calls_k Tryz.func19 rfl fun Q43 qq43=>?_
   refine wc (a':=(fu 55 [.agg #[I8 a0_0,I8 a0_1,I8 a0_2,I8 a0_3,I8 a0_4,.slice s11_A s11_n s11_c,.slice s12_A s12_n s12_c,.slice s13_A s13_n s13_c,.slice s14_A s14_n s14_c,.func (.func 37) #[] #[P0 b15]],.slice a2_A a2_n a2_c])) (xs fun _ s44=>(xn 3 fun _ j45=>(so 0 (oB 2 47 (.agg #[I8 a0_0,I8 a0_1,I8 a0_2,I8 a0_3,I8 a0_4,.slice s11_A s11_n s11_c,.slice s12_A s12_n s12_c,.slice s13_A s13_n s13_c,.slice s14_A s14_n s14_c,.func (.func 37) #[] #[P0 b15]]) hs ([I8 a0_0,I8 a0_1,I8 a0_2,I8 a0_3,I8 a0_4,.slice s11_A s11_n s11_c,.slice s12_A s12_n s12_c,.slice s13_A s13_n s13_c,.slice s14_A s14_n s14_c,.func (.func 37) #[] #[P0 b15]]) fun b23 w gw hs=>(nq 1 [(4,.slice none 0 0),(5,I8 0)] ?_)))))
   refine fj j45 s44 (xs fun _ s46=>(xn 11 fun _ j47=>(qo 0 15 (P0 b23) (tkt 1 16 (.agg #[I8 a0_0,I8 a0_1,I8 a0_2,I8 a0_3,I8 a0_4]) (yN hs 0 0 5 23 rfl (by simp [enc_len]) (by simp [enc_len]) .grow) (qo 2 17 (.pointer (some ⟨b23,5,none⟩)) (tkt 3 18 _ (yv hs 0 5 24 rfl (by rfl) .grow) ?_))))))
   refine qo 4 19 (.slice a2_A a2_n a2_c) ?_
   obtain ⟨⟨r24,r25⟩,hg,h⟩:=ob h
   refine wpS.only 5 (oH 20 hs (kpke_Decrypt.ok hg _ (rR 3 hs) (rR 5 hs)) ?_)
   rintro ⟨r24_A,r24_n,r24_c⟩ w gw hs
   have hs:=hs.conv (L':=[.ownL CB r24_A r24_n r24_c r24 5,.blk b23 ([I8 a0_0,I8 a0_1,I8 a0_2,I8 a0_3,I8 a0_4,.slice s11_A s11_n s11_c,.slice s12_A s12_n s12_c,.slice s13_A s13_n s13_c,.slice s14_A s14_n s14_c,.func (.func 37) #[] #[P0 b15]]) 47,.blk b22 ([I8 a0_0,I8 a0_1,I8 a0_2,I8 a0_3,I8 a0_4,.slice s11_A s11_n s11_c,.slice s12_A s12_n s12_c,.slice s13_A s13_n s13_c,.slice s14_A s14_n s14_c,.func (.func 37) #[] #[P0 b15]]) 47,.ownL CB r20_A r20_n r20_c r20 5,.ownL CB r16_A r16_n r16_c r16 5,.blk b15 ([I8 a0_0,I8 a0_1,I8 a0_2,I8 a0_3,I8 a0_4,.slice s11_A s11_n s11_c,.slice s12_A s12_n s12_c,.slice s13_A s13_n s13_c,.slice s14_A s14_n s14_c,.func (.func 37) #[] #[P0 b15]]) 47,.blk b6 ([I8 a0_0,I8 a0_1,I8 a0_2,I8 a0_3,I8 a0_4,.slice s11_A s11_n s11_c,.slice s12_A s12_n s12_c,.slice s13_A s13_n s13_c,.slice s14_A s14_n s14_c,.func (.func 37) #[] #[P0 b15]]) 47,.blk b5 ([I8 a0_0,I8 a0_1,I8 a0_2,I8 a0_3,I8 a0_4]) 23,.blk b1 ([I8 a0_0,I8 a0_1,I8 a0_2,I8 a0_3,I8 a0_4]) 23]) rfl
   refine ⟨fun _=>trivial,?_⟩
   refine nq 6 [(14,.tuple #[.slice r24_A r24_n r24_c,I8 r25]),(21,.slice r24_A r24_n r24_c),(22,I8 r25),(6,.slice r24_A r24_n r24_c),(7,I8 r25)] (fj j47 s46 (xs fun _ s48=>(xn 9 fun _ j49=>(nq 0 [(24,.slice r24_A r24_n r24_c),(25,.pointer (some ⟨b23,7,none⟩))] (tkt 2 26 _ (yv hs 1 7 24 rfl (by rfl) .grow) ?_)))))
   refine wpS.only 3 (op_inline (d:=(some 27)) (f:=35) (args:=#[.slice r24_A r24_n r24_c,.slice s13_A s13_n s13_c]) (by kernel_rfl) (fun _=>by kernel_rfl) fun R50 kI50=>?_)
   refine calls_k Tryz.func35 rfl fun Q50 qq50=>?_
   refine wc (a':=(fu 18 [.slice r24_A r24_n r24_c,.slice s13_A s13_n s13_c])) (xs fun _ s51=>(xn 2 fun _ j52=>(nq 0 [(4,.slice none 0 0),(5,.slice none 0 0)] (fj j52 s51 (xs fun _ s53=>(xn 10 fun _ j54=>?_))))))
   refine nq 0 [(9,.slice r24_A r24_n r24_c),(10,.slice s13_A s13_n s13_c)] (so 2 (oLt (C:=CS) 11 57 24 2 (.slice none 0 0) #[(0,.slice r24_A r24_n r24_c),(1,.slice s13_A s13_n s13_c)] ([(r24_A,r24_n,r24_c),(s13_A,s13_n,s13_c)]:List HS) hs rfl (by decide) (by decide) fun s26_A s26_n s26_c w gw hs=>?_))
   obtain ⟨r27,hg,h⟩:=ob h
   refine wpS.only 3 (oH 12 hs (bits_Join.ok hg _ (LLP.mk (rL 0 hs) (inn_cons (rL 1 hs) (inn_cons (rR 1 hs) inn_nil)))) ?_)
   rintro ⟨r27_A,r27_n,r27_c⟩ w gw hs
   have hs:=hs.conv (L':=[.ownL CB r27_A r27_n r27_c r27 5,.ownL CS s26_A s26_n s26_c ([(r24_A,r24_n,r24_c),(s13_A,s13_n,s13_c)]:List HS) 24,.ownL CB r24_A r24_n r24_c r24 5,.blk b23 ([I8 a0_0,I8 a0_1,I8 a0_2,I8 a0_3,I8 a0_4,.slice s11_A s11_n s11_c,.slice s12_A s12_n s12_c,.slice s13_A s13_n s13_c,.slice s14_A s14_n s14_c,.func (.func 37) #[] #[P0 b15]]) 47,.blk b22 ([I8 a0_0,I8 a0_1,I8 a0_2,I8 a0_3,I8 a0_4,.slice s11_A s11_n s11_c,.slice s12_A s12_n s12_c,.slice s13_A s13_n s13_c,.slice s14_A s14_n s14_c,.func (.func 37) #[] #[P0 b15]]) 47,.ownL CB r20_A r20_n r20_c r20 5,.ownL CB r16_A r16_n r16_c r16 5,.blk b15 ([I8 a0_0,I8 a0_1,I8 a0_2,I8 a0_3,I8 a0_4,.slice s11_A s11_n s11_c,.slice s12_A s12_n s12_c,.slice s13_A s13_n s13_c,.slice s14_A s14_n s14_c,.func (.func 37) #[] #[P0 b15]]) 47,.blk b6 ([I8 a0_0,I8 a0_1,I8 a0_2,I8 a0_3,I8 a0_4,.slice s11_A s11_n s11_c,.slice s12_A s12_n s12_c,.slice s13_A s13_n s13_c,.slice s14_A s14_n s14_c,.func (.func 37) #[] #[P0 b15]]) 47,.blk b5 ([I8 a0_0,I8 a0_1,I8 a0_2,I8 a0_3,I8 a0_4]) 23,.blk b1 ([I8 a0_0,I8 a0_1,I8 a0_2,I8 a0_3,I8 a0_4]) 23]) rfl
   refine ⟨fun _=>trivial,?_⟩
   obtain ⟨⟨r28,r29⟩,hg,h⟩:=ob h
   refine wpS.only 4 (oH 13 hs (keccak_Sum.ok hg _ (rL 0 hs) (rR 6 hs) (rR 7 hs) (rR 8 hs)) ?_)
   rintro ⟨r28_A,r28_n,r28_c⟩ w gw hs
   have hs:=hs.conv (L':=[.ownL CB r28_A r28_n r28_c r28 5,.ownL CB r27_A r27_n r27_c r27 5,.ownL CS s26_A s26_n s26_c ([(r24_A,r24_n,r24_c),(s13_A,s13_n,s13_c)]:List HS) 24,.ownL CB r24_A r24_n r24_c r24 5,.blk b23 ([I8 a0_0,I8 a0_1,I8 a0_2,I8 a0_3,I8 a0_4,.slice s11_A s11_n s11_c,.slice s12_A s12_n s12_c,.slice s13_A s13_n s13_c,.slice s14_A s14_n s14_c,.func (.func 37) #[] #[P0 b15]]) 47,.blk b22 ([I8 a0_0,I8 a0_1,I8 a0_2,I8 a0_3,I8 a0_4,.slice s11_A s11_n s11_c,.slice s12_A s12_n s12_c,.slice s13_A s13_n s13_c,.slice s14_A s14_n s14_c,.func (.func 37) #[] #[P0 b15]]) 47,.ownL CB r20_A r20_n r20_c r20 5,.ownL CB r16_A r16_n r16_c r16 5,.blk b15 ([I8 a0_0,I8 a0_1,I8 a0_2,I8 a0_3,I8 a0_4,.slice s11_A s11_n s11_c,.slice s12_A s12_n s12_c,.slice s13_A s13_n s13_c,.slice s14_A s14_n s14_c,.func (.func 37) #[] #[P0 b15]]) 47,.blk b6 ([I8 a0_0,I8 a0_1,I8 a0_2,I8 a0_3,I8 a0_4,.slice s11_A s11_n s11_c,.slice s12_A s12_n s12_c,.slice s13_A s13_n s13_c,.slice s14_A s14_n s14_c,.func (.func 37) #[] #[P0 b15]]) 47,.blk b5 ([I8 a0_0,I8 a0_1,I8 a0_2,I8 a0_3,I8 a0_4]) 23,.blk b1 ([I8 a0_0,I8 a0_1,I8 a0_2,I8 a0_3,I8 a0_4]) 23]) rfl
   refine ⟨fun _=>trivial,?_⟩
   refine nq 5 [(8,.tuple #[.slice r28_A r28_n r28_c,I8 r29]),(14,.slice r28_A r28_n r28_c),(15,I8 r29),(6,.slice r28_A r28_n r28_c),(7,I8 r29)] (fj j54 s53 (xs fun _ s55=>?_))
   refine rg [] (fun k=>True) 6 fun _ j56=>?_
   have hs:=hs.drawn1
   refine gq 0 16 (.slice r28_A r28_n r28_c) ?_
   obtain ⟨hs,hfr57⟩:=hs.freezeF 0 rfl
   obtain ⟨h0,h1,h⟩:=oc2 h
   obtain ⟨h2,h3,h⟩:=oc2 h
   obtain ⟨s30_A,hA⟩ : ∃ A,A=if (32:Int).toNat=(0:Int).toNat then r28_A else adr r28_A ((0:Int).toNat*Cod.size CB):=⟨_,rfl⟩
   obtain ⟨s30_n,hn⟩ : ∃ n,n=(32:Int).toNat-(0:Int).toNat:=⟨_,rfl⟩
   obtain ⟨s30_c,hc⟩ : ∃ c,c=(32:Int).toNat-(0:Int).toNat:=⟨_,rfl⟩
   refine tgf 1 17 (.slice s30_A s30_n s30_c) (yld_sub3 (mx:=32) (k:=.i64) (C:=CB) (t:=24) (e:=5) (low:=none) (high:=some (I8 32)) (lo:=0) (hi:=32) (hs.rowF 0 rfl) (by kernel_rfl) (by kernel_rfl) (by kernel_rfl) (.inl ⟨rfl,rfl⟩) ⟨_,rfl⟩ h0 h1 h2 h3 hA hn hc) ?_
   have hs:=hs.addSub3F (C:=CB) 0 rfl h0 h1 h2 h3 hA hn hc
   refine gq 2 18 (.slice r28_A r28_n r28_c) ?_
   obtain ⟨h0,h1,h⟩:=oc2 h
   obtain ⟨h2,h⟩:=oc h
   obtain ⟨s31_A,hA⟩ : ∃ A,A=if r28_c=(32:Int).toNat then r28_A else adr r28_A ((32:Int).toNat*Cod.size CB):=⟨_,rfl⟩
   obtain ⟨s31_n,hn⟩ : ∃ n,n=((r28.length:Int):Int).toNat-(32:Int).toNat:=⟨_,rfl⟩
   obtain ⟨s31_c,hc⟩ : ∃ c,c=r28_c-(32:Int).toNat:=⟨_,rfl⟩
   refine tgf 3 19 (.slice s31_A s31_n s31_c) (ysb (C:=CB) 24 5 (some (I8 32)) none 32 (r28.length:Int) (hs.rowF 1 rfl) (.inr ⟨_,rfl⟩) (.inl ⟨rfl,rfl⟩) h0 h1 h2 hA hn hc) ?_
   have hs:=hs.addSubF (C:=CB) 1 rfl h0 h1 h2 hA hn hc
   refine gq 4 4 (.slice s30_A s30_n s30_c) (gq 5 5 (.slice s31_A s31_n s31_c) (gf (j56 _ _ (T s55 (xret ?_)))))
   refine qq50 _ _ (pt [4,5] [.slice s30_A s30_n s30_c,.slice s31_A s31_n s31_c] ?_)
   refine kI50 _ _ ?_
   refine ⟨fun _=>trivial,?_⟩
   refine nq 4 [(23,.tuple #[.slice s30_A s30_n s30_c,.slice s31_A s31_n s31_c]),(28,.slice s30_A s30_n s30_c),(29,.slice s31_A s31_n s31_c),(8,.slice s30_A s30_n s30_c),(9,.slice s31_A s31_n s31_c)] (fj j49 s48 (xs fun _ s58=>(xn 10 fun _ j59=>(qo 0 31 (.pointer (some ⟨b23,9,none⟩)) (tkt 1 32 _ (yv hs 3 9 45 rfl (by rfl) .grow) (nq 2 [(33,.slice r24_A r24_n r24_c),(34,.slice s31_A s31_n s31_c)] ?_))))))
   refine wpS.only 4 (op_inline (d:=(some 35)) (f:=37) (args:=#[.slice r24_A r24_n r24_c,.slice s31_A s31_n s31_c,P0 b15]) (by kernel_rfl) (fun _=>by kernel_rfl) fun R60 kI60=>?_)
   refine calls_k Tryz.func37 rfl fun Q60 qq60=>?_
   refine wc (a':=(fu 13 [.slice r24_A r24_n r24_c,.slice s31_A s31_n s31_c,P0 b15])) (xs fun _ s61=>(xn 2 fun _ j62=>(nq 0 [(5,.slice none 0 0),(6,I8 0)] (fj j62 s61 (xs fun _ s63=>(xn 11 fun _ j64=>?_))))))
   refine qo 0 7 (P0 b15) (tkt 1 8 (.agg #[I8 a0_0,I8 a0_1,I8 a0_2,I8 a0_3,I8 a0_4]) (yN hs 7 0 5 23 rfl (by simp [enc_len]) (by simp [enc_len]) .grow) (qo 2 9 (.pointer (some ⟨b15,6,none⟩)) (tkt 3 10 _ (yv hs 7 6 24 rfl (by rfl) .grow) (nq 4 [(11,.slice r24_A r24_n r24_c),(12,.slice s31_A s31_n s31_c)] ?_))))
   obtain ⟨⟨r32,r33⟩,hg,h⟩:=ob h
   refine wpS.only 6 (oH 13 hs (kpke_Encrypt.ok hg _ (rR 5 hs) (rL 2 hs) (hs.rowF 0 rfl) (rR 9 hs) (rR 10 hs) (rR 11 hs)) ?_)
   rintro ⟨r32_A,r32_n,r32_c⟩ w gw hs
   have hs:=hs.conv (L':=[.ownL CB r32_A r32_n r32_c r32 5,.ownL CB r27_A r27_n r27_c r27 5,.ownL CS s26_A s26_n s26_c ([(r24_A,r24_n,r24_c),(s13_A,s13_n,s13_c)]:List HS) 24,.ownL CB r24_A r24_n r24_c r24 5,.blk b23 ([I8 a0_0,I8 a0_1,I8 a0_2,I8 a0_3,I8 a0_4,.slice s11_A s11_n s11_c,.slice s12_A s12_n s12_c,.slice s13_A s13_n s13_c,.slice s14_A s14_n s14_c,.func (.func 37) #[] #[P0 b15]]) 47,.blk b22 ([I8 a0_0,I8 a0_1,I8 a0_2,I8 a0_3,I8 a0_4,.slice s11_A s11_n s11_c,.slice s12_A s12_n s12_c,.slice s13_A s13_n s13_c,.slice s14_A s14_n s14_c,.func (.func 37) #[] #[P0 b15]]) 47,.ownL CB r20_A r20_n r20_c r20 5,.ownL CB r16_A r16_n r16_c r16 5,.blk b15 ([I8 a0_0,I8 a0_1,I8 a0_2,I8 a0_3,I8 a0_4,.slice s11_A s11_n s11_c,.slice s12_A s12_n s12_c,.slice s13_A s13_n s13_c,.slice s14_A s14_n s14_c,.func (.func 37) #[] #[P0 b15]]) 47,.blk b6 ([I8 a0_0,I8 a0_1,I8 a0_2,I8 a0_3,I8 a0_4,.slice s11_A s11_n s11_c,.slice s12_A s12_n s12_c,.slice s13_A s13_n s13_c,.slice s14_A s14_n s14_c,.func (.func 37) #[] #[P0 b15]]) 47,.blk b5 ([I8 a0_0,I8 a0_1,I8 a0_2,I8 a0_3,I8 a0_4]) 23,.blk b1 ([I8 a0_0,I8 a0_1,I8 a0_2,I8 a0_3,I8 a0_4]) 23]) rfl
   refine ⟨fun _=>trivial,?_⟩
   refine nq 7 [(14,.slice r32_A r32_n r32_c),(15,I8 r33),(5,.slice r32_A r32_n r32_c),(6,I8 r33)] (fj j64 s63 (xret ?_))
   refine qq60 _ _ (pt [5,6] [.slice r32_A r32_n r32_c,I8 r33] ?_)
   refine kI60 _ _ ?_
   refine ⟨fun _=>trivial,?_⟩
   refine nq 5 [(30,.tuple #[.slice r32_A r32_n r32_c,I8 r33]),(36,.slice r32_A r32_n r32_c),(37,I8 r33),(10,.slice r32_A r32_n r32_c),(11,I8 r33)] (fj j59 s58 (xs fun _ s65=>(xb (xs fun _ s66=>(xn 3 fun _ j67=>(qo 0 39 (I8 r33) ?_))))))
   obtain ⟨hc,h⟩|⟨hc,h⟩:=of_if h
   refine tb 1 40 (nf hc) ?_
   refine qo 2 38 (.bool false) (fj j67 s66 (cf (xs fun _ s68=>(xn 4 fun _ j69=>(nq 0 [(43,.slice r32_A r32_n r32_c),(44,.slice a2_A a2_n a2_c)] ?_)))))
   obtain ⟨r34,hg,h⟩:=ob h
   cases r34 with
   | true=>
    have h:=of_if_t h
    refine so 2 (oC 45 hs (bits_Same.ok hg _ (rL 0 hs) (rR 8 hs)) fun w gw hs=>?_)
    refine qo 3 42 (.bool true) (fj j69 s68 (ct (xs fun _ s70=>(xn 3 fun _ j71=>(nq 0 [(46,.slice s30_A s30_n s30_c),(4,.slice s30_A s30_n s30_c),(5,I8 0)] (fj j71 s70 (xret (iR (tr ?_)))))))))
    refine qq43 _ _ (pt [4,5] [.slice s30_A s30_n s30_c,I8 0] ?_)
    refine kI43 _ _ ?_
    refine ⟨fun _=>trivial,?_⟩
    refine nq 3 [(38,.slice s30_A s30_n s30_c),(39,I8 0),(6,.slice s30_A s30_n s30_c),(7,I8 0)] (fj j41 s40 (xret ?_))
    obtain ⟨rfl,rfl⟩:=os2 h
    have hs:=hs.promote 1 rfl hfr57
    exact qq _ _ (pt [6,7] [.slice s30_A s30_n s30_c,I8 0] ⟨⟨s30_A,s30_n,s30_c⟩,cr,(dr [1,0,0,0,0,0,0,0,0,0,0,0,0] hs)⟩)
   | false=>
    have h:=of_if_f h
    refine so 2 (oC 45 hs (bits_Same.ok hg _ (rL 0 hs) (rR 8 hs)) fun w gw hs=>?_)
    refine qo 3 42 (.bool false) (fj j69 s68 (cf (xk (iN (T s65 (xs fun _ s72=>(xn 11 fun _ j73=>(qo 0 48 (.pointer (some ⟨b23,8,none⟩)) (tkt 1 49 _ (yv hs 4 8 24 rfl (by rfl) .grow) (qo 2 50 (.slice a2_A a2_n a2_c) ?_))))))))))
    refine so 3 (oLt (C:=CS) 51 57 24 2 (.slice none 0 0) #[(0,.slice s14_A s14_n s14_c),(1,.slice a2_A a2_n a2_c)] ([(s14_A,s14_n,s14_c),(a2_A,a2_n,a2_c)]:List HS) hs rfl (by decide) (by decide) fun s35_A s35_n s35_c w gw hs=>?_)
    obtain ⟨r36,hg,h⟩:=ob h
    refine wpS.only 4 (oH 52 hs (bits_Join.ok hg _ (LLP.mk (rL 0 hs) (inn_cons (rR 3 hs) (inn_cons (rR 8 hs) inn_nil)))) ?_)
    rintro ⟨r36_A,r36_n,r36_c⟩ w gw hs
    have hs:=hs.conv (L':=[.ownL CB r36_A r36_n r36_c r36 5,.ownL CS s35_A s35_n s35_c ([(s14_A,s14_n,s14_c),(a2_A,a2_n,a2_c)]:List HS) 24,.ownL CB r32_A r32_n r32_c r32 5,.ownL CB r27_A r27_n r27_c r27 5,.ownL CS s26_A s26_n s26_c ([(r24_A,r24_n,r24_c),(s13_A,s13_n,s13_c)]:List HS) 24,.ownL CB r24_A r24_n r24_c r24 5,.blk b23 ([I8 a0_0,I8 a0_1,I8 a0_2,I8 a0_3,I8 a0_4,.slice s11_A s11_n s11_c,.slice s12_A s12_n s12_c,.slice s13_A s13_n s13_c,.slice s14_A s14_n s14_c,.func (.func 37) #[] #[P0 b15]]) 47,.blk b22 ([I8 a0_0,I8 a0_1,I8 a0_2,I8 a0_3,I8 a0_4,.slice s11_A s11_n s11_c,.slice s12_A s12_n s12_c,.slice s13_A s13_n s13_c,.slice s14_A s14_n s14_c,.func (.func 37) #[] #[P0 b15]]) 47,.ownL CB r20_A r20_n r20_c r20 5,.ownL CB r16_A r16_n r16_c r16 5,.blk b15 ([I8 a0_0,I8 a0_1,I8 a0_2,I8 a0_3,I8 a0_4,.slice s11_A s11_n s11_c,.slice s12_A s12_n s12_c,.slice s13_A s13_n s13_c,.slice s14_A s14_n s14_c,.func (.func 37) #[] #[P0 b15]]) 47,.blk b6 ([I8 a0_0,I8 a0_1,I8 a0_2,I8 a0_3,I8 a0_4,.slice s11_A s11_n s11_c,.slice s12_A s12_n s12_c,.slice s13_A s13_n s13_c,.slice s14_A s14_n s14_c,.func (.func 37) #[] #[P0 b15]]) 47,.blk b5 ([I8 a0_0,I8 a0_1,I8 a0_2,I8 a0_3,I8 a0_4]) 23,.blk b1 ([I8 a0_0,I8 a0_1,I8 a0_2,I8 a0_3,I8 a0_4]) 23]) rfl
    refine ⟨fun _=>trivial,?_⟩
    obtain ⟨⟨r37,r38⟩,hg,h⟩:=ob h
    refine wpS.only 5 (oH 53 hs (keccak_Sum.ok hg _ (rL 0 hs) (rR 9 hs) (rR 10 hs) (rR 11 hs)) ?_)
    rintro ⟨r37_A,r37_n,r37_c⟩ w gw hs
    have hs:=hs.conv (L':=[.ownL CB r37_A r37_n r37_c r37 5,.ownL CB r36_A r36_n r36_c r36 5,.ownL CS s35_A s35_n s35_c ([(s14_A,s14_n,s14_c),(a2_A,a2_n,a2_c)]:List HS) 24,.ownL CB r32_A r32_n r32_c r32 5,.ownL CB r27_A r27_n r27_c r27 5,.ownL CS s26_A s26_n s26_c ([(r24_A,r24_n,r24_c),(s13_A,s13_n,s13_c)]:List HS) 24,.ownL CB r24_A r24_n r24_c r24 5,.blk b23 ([I8 a0_0,I8 a0_1,I8 a0_2,I8 a0_3,I8 a0_4,.slice s11_A s11_n s11_c,.slice s12_A s12_n s12_c,.slice s13_A s13_n s13_c,.slice s14_A s14_n s14_c,.func (.func 37) #[] #[P0 b15]]) 47,.blk b22 ([I8 a0_0,I8 a0_1,I8 a0_2,I8 a0_3,I8 a0_4,.slice s11_A s11_n s11_c,.slice s12_A s12_n s12_c,.slice s13_A s13_n s13_c,.slice s14_A s14_n s14_c,.func (.func 37) #[] #[P0 b15]]) 47,.ownL CB r20_A r20_n r20_c r20 5,.ownL CB r16_A r16_n r16_c r16 5,.blk b15 ([I8 a0_0,I8 a0_1,I8 a0_2,I8 a0_3,I8 a0_4,.slice s11_A s11_n s11_c,.slice s12_A s12_n s12_c,.slice s13_A s13_n s13_c,.slice s14_A s14_n s14_c,.func (.func 37) #[] #[P0 b15]]) 47,.blk b6 ([I8 a0_0,I8 a0_1,I8 a0_2,I8 a0_3,I8 a0_4,.slice s11_A s11_n s11_c,.slice s12_A s12_n s12_c,.slice s13_A s13_n s13_c,.slice s14_A s14_n s14_c,.func (.func 37) #[] #[P0 b15]]) 47,.blk b5 ([I8 a0_0,I8 a0_1,I8 a0_2,I8 a0_3,I8 a0_4]) 23,.blk b1 ([I8 a0_0,I8 a0_1,I8 a0_2,I8 a0_3,I8 a0_4]) 23]) rfl
    refine ⟨fun _=>trivial,?_⟩
    refine nq 6 [(47,.tuple #[.slice r37_A r37_n r37_c,I8 r38]),(54,.slice r37_A r37_n r37_c),(55,I8 r38),(12,.slice r37_A r37_n r37_c),(13,I8 r38)] (fj j73 s72 (xs fun _ s74=>(xn 3 fun _ j75=>(nq 0 [(56,.slice r37_A r37_n r37_c),(4,.slice r37_A r37_n r37_c),(5,I8 0)] (fj j75 s74 (xret ?_))))))
    refine qq43 _ _ (pt [4,5] [.slice r37_A r37_n r37_c,I8 0] ?_)
    refine kI43 _ _ ?_
    refine ⟨fun _=>trivial,?_⟩
    refine nq 3 [(38,.slice r37_A r37_n r37_c),(39,I8 0),(6,.slice r37_A r37_n r37_c),(7,I8 0)] (fj j41 s40 (xret ?_))
    obtain ⟨rfl,rfl⟩:=os2 h
    have hs:=hs.ownRow 0 rfl
    exact qq _ _ (pt [6,7] [.slice r37_A r37_n r37_c,I8 0] ⟨⟨r37_A,r37_n,r37_c⟩,cr,(pz (dr [1,0,0,0,0,0,0,0,0,0,0,0,0,0,0] hs))⟩)
   refine tb 1 40 (nt hc) (qo 2 38 (.bool true) (fj j67 s66 (ct (xs fun _ s76=>(xn 3 fun _ j77=>(nq 0 [(41,I8 r33),(4,.slice none 0 0),(5,I8 r33)] (fj j77 s76 (xret (iR (tr ?_))))))))))
   refine qq43 _ _ (pt [4,5] [.slice none 0 0,I8 r33] ?_)
   refine kI43 _ _ ?_
   refine ⟨fun _=>trivial,?_⟩
   refine nq 3 [(38,.slice none 0 0),(39,I8 r33),(6,.slice none 0 0),(7,I8 r33)] (fj j41 s40 (xret ?_))
   obtain ⟨rfl,rfl⟩:=os2 h
   have hs:=hs.addNilR CB
   exact qq _ _ (pt [6,7] [.slice none 0 0,I8 r33] ⟨⟨none,0,0⟩,cr,(pz (dr [1,0,0,0,0,0,0,0,0,0,0,0,0] hs))⟩)
   refine tb 3 34 (nt hc) (qo 4 30 (.bool true) (fj j39 s38 (ct (xs fun _ s78=>(xn 2 fun _ j79=>(nq 0 [(6,.slice none 0 0),(7,I8 14)] (fj j79 s78 (xret (iR (tr ?_))))))))))
   obtain ⟨rfl,rfl⟩:=os2 h
   have hs:=hs.addNilR CB
   exact qq _ _ (pt [6,7] [.slice none 0 0,I8 14] ⟨⟨none,0,0⟩,cr,(pz (dr [1,0,0,0,0,0,0,0] hs))⟩)
  | false=>
   have h:=of_if_f h
   refine qo 5 26 (.bool false) (so 6 (oNa 11 47 hs [I8 0,I8 0,I8 0,I8 0,I8 0,.slice none 0 0,.slice none 0 0,.slice none 0 0,.slice none 0 0,.nilFunc] fun b39 w gw hs=>(so 7 (oWa 47 [I8 a0_0,I8 a0_1,I8 a0_2,I8 a0_3,I8 a0_4,.slice s11_A s11_n s11_c,.slice s12_A s12_n s12_c,.slice s13_A s13_n s13_c,.slice s14_A s14_n s14_c,.func (.func 37) #[] #[P0 b15]] hs 0 fun w kp hs=>(qo 8 12 (.bool false) (fj j11 s10 (xs fun _ s80=>(xb (xs fun _ s81=>(xn 3 fun _ j82=>?_))))))))))
   refine nq 0 [(28,.bool false),(29,.bool true),(27,.bool true)] (fj j82 s81 (ct (xs fun _ s83=>(xn 2 fun _ j84=>(nq 0 [(6,.slice none 0 0),(7,I8 10)] (fj j84 s83 (xret (iR (tr ?_)))))))))
   obtain ⟨rfl,rfl⟩:=os2 h
   have hs:=hs.addNilR CB
   exact qq _ _ (pt [6,7] [.slice none 0 0,I8 10] ⟨⟨none,0,0⟩,cr,(pz (dr [1,0,0,0,0,0,0,0] hs))⟩)
 | false=>
  have h:=of_if_f h
  refine go 7 (oC 64 hs (kem_good.ok hg _ (rR 2 hs) (rR 6 hs) (rR 7 hs) (rR 8 hs)) fun w gw hs=>⟨.of gw,?_⟩)
  refine gq 8 65 (.bool false) (gq 9 66 (.bool false) (gq 10 67 undef (gq 11 68 undef (gq 13 70 undef ?_))))
  refine gq 14 71 undef (gq 12 69 undef (gq 15 72 undef (gq 16 73 (.bool false) (go 17 (oWa 47 [I8 a0_0,I8 a0_1,I8 a0_2,I8 a0_3,I8 a0_4,.slice s11_A s11_n s11_c,.slice s12_A s12_n s12_c,.slice s13_A s13_n s13_c,.slice s14_A s14_n s14_c,.func (.func 37) #[] #[P0 b15]] hs 2 fun w kp hs=>⟨⟨fun hf=>absurd hf (by decide),.all _ _⟩,?_⟩)))))
  refine gq 18 5 (.bool false) (gf (j29 _ _ (T s28 (xret ?_))))
  refine qq12 _ _ (pr (rr [.cell 4 47,.tmp 5] [.agg #[I8 a0_0,I8 a0_1,I8 a0_2,I8 a0_3,I8 a0_4,.slice s11_A s11_n s11_c,.slice s12_A s12_n s12_c,.slice s13_A s13_n s13_c,.slice s14_A s14_n s14_c,.func (.func 37) #[] #[P0 b15]],.bool false] (.cons (rcN 10 hs 2 rfl (by simp [enc_len])) (.cons rt .nil))) ?_)
  refine kI12 _ _ ?_
  refine ⟨fun _=>trivial,?_⟩
  refine nq 3 [(21,.tuple #[.agg #[I8 a0_0,I8 a0_1,I8 a0_2,I8 a0_3,I8 a0_4,.slice s11_A s11_n s11_c,.slice s12_A s12_n s12_c,.slice s13_A s13_n s13_c,.slice s14_A s14_n s14_c,.func (.func 37) #[] #[P0 b15]],.bool false]),(25,.agg #[I8 a0_0,I8 a0_1,I8 a0_2,I8 a0_3,I8 a0_4,.slice s11_A s11_n s11_c,.slice s12_A s12_n s12_c,.slice s13_A s13_n s13_c,.slice s14_A s14_n s14_c,.func (.func 37) #[] #[P0 b15]]),(26,.bool false)] (so 6 (oNa 11 47 hs [I8 0,I8 0,I8 0,I8 0,I8 0,.slice none 0 0,.slice none 0 0,.slice none 0 0,.slice none 0 0,.nilFunc] fun b40 w gw hs=>(so 7 (oWa 47 [I8 a0_0,I8 a0_1,I8 a0_2,I8 a0_3,I8 a0_4,.slice s11_A s11_n s11_c,.slice s12_A s12_n s12_c,.slice s13_A s13_n s13_c,.slice s14_A s14_n s14_c,.func (.func 37) #[] #[P0 b15]] hs 0 fun w kp hs=>(qo 8 12 (.bool false) (fj j11 s10 (xs fun _ s85=>(xb (xs fun _ s86=>(xn 3 fun _ j87=>?_))))))))))
  refine nq 0 [(28,.bool false),(29,.bool true),(27,.bool true)] (fj j87 s86 (ct (xs fun _ s88=>(xn 2 fun _ j89=>(nq 0 [(6,.slice none 0 0),(7,I8 10)] (fj j89 s88 (xret (iR (tr ?_)))))))))
  obtain ⟨rfl,rfl⟩:=os2 h
  have hs:=hs.addNilR CB
  exact qq _ _ (pt [6,7] [.slice none 0 0,I8 10] ⟨⟨none,0,0⟩,cr,(pz (dr [1,0,0,0,0,0,0] hs))⟩)
 refine tb 3 22 (nt hc) (fj j19 s18 (ct (xs fun _ s90=>(xn 3 fun _ j91=>(qo 0 23 (.agg #[I8 0,I8 0,I8 0,I8 0,I8 0,.slice none 0 0,.slice none 0 0,.slice none 0 0,.slice none 0 0,.nilFunc]) (so 1 (oWa 47 [I8 0,I8 0,I8 0,I8 0,I8 0,.slice none 0 0,.slice none 0 0,.slice none 0 0,.slice none 0 0,.nilFunc] hs 0 fun w kp hs=>(qo 2 5 (.bool false) ?_))))))))
 refine fj j91 s90 (xret (tr ?_))
 refine qq12 _ _ (pr (rr [.cell 4 47,.tmp 5] [.agg #[I8 0,I8 0,I8 0,I8 0,I8 0,.slice none 0 0,.slice none 0 0,.slice none 0 0,.slice none 0 0,.nilFunc],.bool false] (.cons (rcN 10 hs 0 rfl (by simp [enc_len])) (.cons rt .nil))) ?_)
 refine kI12 _ _ ?_
 refine ⟨fun _=>trivial,?_⟩
 refine nq 3 [(21,.tuple #[.agg #[I8 0,I8 0,I8 0,I8 0,I8 0,.slice none 0 0,.slice none 0 0,.slice none 0 0,.slice none 0 0,.nilFunc],.bool false]),(25,.agg #[I8 0,I8 0,I8 0,I8 0,I8 0,.slice none 0 0,.slice none 0 0,.slice none 0 0,.slice none 0 0,.nilFunc]),(26,.bool false)] (so 6 (oNa 11 47 hs [I8 0,I8 0,I8 0,I8 0,I8 0,.slice none 0 0,.slice none 0 0,.slice none 0 0,.slice none 0 0,.nilFunc] fun b41 w gw hs=>(so 7 (oWa 47 [I8 0,I8 0,I8 0,I8 0,I8 0,.slice none 0 0,.slice none 0 0,.slice none 0 0,.slice none 0 0,.nilFunc] hs 0 fun w kp hs=>(qo 8 12 (.bool false) (fj j11 s10 (xs fun _ s92=>(xb (xs fun _ s93=>(xn 3 fun _ j94=>?_))))))))))
 refine nq 0 [(28,.bool false),(29,.bool true),(27,.bool true)] (fj j94 s93 (ct (xs fun _ s95=>(xn 2 fun _ j96=>(nq 0 [(6,.slice none 0 0),(7,I8 10)] (fj j96 s95 (xret (iR (tr ?_)))))))))
 obtain ⟨rfl,rfl⟩:=os2 h
 have hs:=hs.addNilR CB
 exact qq _ _ (pt [6,7] [.slice none 0 0,I8 10] ⟨⟨none,0,0⟩,cr,(pz (dr [1,0,0,0,0] hs))⟩)
theorem law27_awake.ok {K:Nat}{r0:Bool}(h:law27_awake.f K=some r0) (w0:World) (hg0:RowL CW w0 (some ⟨0,0,none⟩) 1 1 [tab_0]) (hg1:RowL CV w0 (some ⟨1,0,none⟩) 1 1 [tab_1]) (hg2:RowL CV w0 (some ⟨2,0,none⟩) 1 1 [tab_2]):Ret Tryz.prog 6 #[] w0 (.bool r0):=by
 refine calls_k Tryz.func6 rfl fun Q qq=>?_
 have hs:=St.startR (all_cons (RowP.ent hg0) (all_cons (RowP.ent hg1) (all_cons (RowP.ent hg2) all_nil)))
 refine wc (a':=(fu 37 [])) (xs fun _ s1=>(xn 1 fun _ j2=>(qo 0 0 (.bool false) (fj j2 s1 (xs fun _ s3=>(xn 7 fun _ j4=>?_))))))
 obtain ⟨⟨r1_0,r1_1,r1_2,r1_3,r1_4,r2⟩,hg,h⟩:=ob h
 refine so 0 (oC 9 hs (ref26_Set.ok hg _) fun w gw hs=>?_)
 refine nq 1 [(8,.tuple #[.agg #[I8 r1_0,I8 r1_1,I8 r1_2,I8 r1_3,I8 r1_4],.bool r2]),(10,.agg #[I8 r1_0,I8 r1_1,I8 r1_2,I8 r1_3,I8 r1_4]),(11,.bool r2)] (so 4 (oNa 1 23 hs [I8 0,I8 0,I8 0,I8 0,I8 0] fun b3 w gw hs=>(so 5 (oWa 23 [I8 r1_0,I8 r1_1,I8 r1_2,I8 r1_3,I8 r1_4] hs 0 fun w kp hs=>(qo 6 2 (.bool r2) (fj j4 s3 (xs fun _ s5=>(xn 9 fun _ j6=>?_))))))))
 refine tkt 0 13 _ (yWs 5 23 hs 0 .grow) ?_
 obtain ⟨⟨r4,r5,r6⟩,hg,h⟩:=ob h
 refine so 1 (oC 14 hs (kem_Sizes.ok hg _) fun w gw hs=>?_)
 refine nq 2 [(12,.tuple #[I8 r4,I8 r5,I8 r6]),(15,I8 r4),(16,I8 r5),(17,I8 r6),(3,I8 r4),(4,I8 r5),(5,I8 r6)] (fj j6 s5 (xs fun _ s7=>(xn 7 fun _ j8=>(tkt 0 19 _ (yWs 5 23 hs 0 .grow) ?_))))
 obtain ⟨⟨r7,r8⟩,hg,h⟩:=ob h
 refine wpS.only 1 (oH 20 hs (kem_Open.ok hg _ (RowL.nil _) (RowL.nil _) (rR 0 hs) (rR 1 hs) (rR 2 hs)) ?_)
 rintro ⟨r7_A,r7_n,r7_c⟩ w gw hs
 have hs:=hs.conv (L':=[.rowL CB r7_A r7_n r7_c r7,.blk b3 ([I8 r1_0,I8 r1_1,I8 r1_2,I8 r1_3,I8 r1_4]) 23]) rfl
 have hs:=hs.toR 0 rfl
 refine ⟨fun _=>trivial,?_⟩
 refine nq 2 [(18,.tuple #[.slice r7_A r7_n r7_c,I8 r8]),(21,.slice r7_A r7_n r7_c),(22,I8 r8),(6,.slice r7_A r7_n r7_c),(7,I8 r8)] (fj j8 s7 (xs fun _ s9=>(xn 15 fun _ j10=>(qo 0 23 (I8 r4) ?_))))
 obtain ⟨hc,h⟩|⟨hc,h⟩:=of_if h
 refine tb 1 24 (et hc) ?_
 refine nq 2 [(25,.bool true),(26,I8 r5)] ?_
 obtain ⟨hc,h⟩|⟨hc,h⟩:=of_if h
 refine tb 4 27 (et hc) ?_
 refine nq 5 [(28,.bool true),(29,.bool true),(30,I8 r6)] ?_
 obtain ⟨hc,h⟩|⟨hc,h⟩:=of_if h
 refine tb 8 31 (et hc) ?_
 refine nq 9 [(32,.bool true),(33,.bool true),(34,I8 r8),(35,.bool (r8 == 10)),(36,.bool (r8 == 10)),(0,.bool (r8 == 10))] (fj j10 s9 (xret ?_))
 obtain rfl:=of_some h
 exact qq _ _ (pt [0] [.bool (r8 == 10)] ⟨cr,hs.none⟩)
 refine tb 8 31 (ef hc) (nq 9 [(32,.bool false),(33,.bool false),(34,undef),(35,undef),(36,.bool false),(0,.bool false)] (fj j10 s9 (xret ?_)))
 obtain rfl:=of_some h
 exact qq _ _ (pt [0] [.bool false] ⟨cr,hs.none⟩)
 refine tb 4 27 (ef hc) (nq 5 [(28,.bool false),(29,.bool false),(30,undef),(31,undef),(32,.bool false),(33,.bool false),(34,undef),(35,undef),(36,.bool false),(0,.bool false)] (fj j10 s9 (xret ?_)))
 obtain rfl:=of_some h
 exact qq _ _ (pt [0] [.bool false] ⟨cr,hs.none⟩)
 refine tb 1 24 (ef hc) (nq 2 [(25,.bool false),(26,undef),(27,undef),(28,.bool false),(29,.bool false),(30,undef),(31,undef),(32,.bool false),(33,.bool false),(34,undef),(35,undef),(36,.bool false),(0,.bool false)] (fj j10 s9 (xret ?_)))
 obtain rfl:=of_some h
 exact qq _ _ (pt [0] [.bool false] ⟨cr,hs.none⟩)
theorem ref01_Same.ok {K:Nat}{a0 a1:List Int}{r0:Bool}{a0_A:Option Addr}{a0_n a0_c:Nat}{a1_A:Option Addr}{a1_n a1_c:Nat}(h:ref01_Same.f K a0 a1=some r0) (w0:World) (hp0:RowL CB w0 a0_A a0_n a0_c a0) (hp1:RowL CB w0 a1_A a1_n a1_c a1):Ret Tryz.prog 9 #[.slice a0_A a0_n a0_c,.slice a1_A a1_n a1_c] w0 (.bool r0):=by
 refine calls_k Tryz.func9 rfl fun Q qq=>?_
 have hs:=St.startR (all_cons (RowP.ent hp0) (all_cons (RowP.ent hp1) all_nil))
 refine wc (a':=(fu 24 [.slice a0_A a0_n a0_c,.slice a1_A a1_n a1_c])) (xs fun _ s1=>(xn 1 fun _ j2=>(qo 0 4 (.bool false) (fj j2 s1 (xs fun _ s3=>(xs fun _ s4=>(xn 5 fun _ j5=>?_)))))))
 refine qo 0 6 (.slice a0_A a0_n a0_c) (tkf 1 7 (I8 (a0.length:Int)) (yl (rR 0 hs)) (qo 2 8 (.slice a1_A a1_n a1_c) (tkf 3 9 (I8 (a1.length:Int)) (yl (rR 1 hs)) ?_)))
 obtain ⟨hc,h⟩|⟨hc,h⟩:=of_if h
 refine tb 4 10 (nf hc) ?_
 refine fj j5 s4 (cf (xk (T s3 (xs fun _ s6=>(xs fun _ s7=>(xn 1 fun _ j8=>(qo 0 5 (I8 0) (fj j8 s7 (?_)))))))))
 obtain ⟨t0,hy,hk0⟩:=ob h
 refine wp_exq (N:=fun a w=>t0 = .inl ()∧St w0 [] [] [.rowL CB a0_A a0_n a0_c a0,.rowL CB a1_A a1_n a1_c a1] w∧∃ g10,a=fr g10 26 []) (fun N0 nn0=>?_) ?_
 refine xb ?_
 refine wp_loop_k (fun n a w=>∃ z1,ref01_Same.l0 K n a0 a1 z1=some t0∧St w0 [] [] [.rowL CB a0_A a0_n a0_c a0,.rowL CB a1_A a1_n a1_c a1] w∧∃ g9,a=fr g9 26 [(0,[.slice a0_A a0_n a0_c,.slice a1_A a1_n a1_c]),(5,[I8 z1])]) K ⟨0,hy,hs.conv rfl,eg⟩ ?_
 clear hs h hy
 rintro n a w ⟨z1,h,hs,g9,rfl⟩ KL0 kl0
 cases n with
 | zero=>exact nomatch (show none=some _ from h)
 | succ n=>
  refine xs fun _ s11=>(xs fun _ s12=>(xn 4 fun _ j13=>(nq 0 [(11,I8 z1),(12,.slice a0_A a0_n a0_c)] (tkf 2 13 (I8 (a0.length:Int)) (yl (rR 0 hs)) ?_))))
  obtain ⟨hc,h⟩|⟨hc,h⟩:=of_if h
  refine tb 3 14 (dt hc) ?_
  refine fj j13 s12 (ct (xk (T s11 (xs fun _ s14=>(xb (xs fun _ s15=>?_))))))
  refine rg [] (fun k=>True) 9 fun _ j16=>?_
  have hs:=hs.drawn1
  refine gq 0 17 (.slice a0_A a0_n a0_c) (gq 1 18 (I8 z1) ?_)
  obtain ⟨h0,h1,h⟩:=oc2 h
  have i0_17:=h0
  have i1_17:=h1
  refine tgf 2 19 (PA CB a0_A z1) (yiL (C:=CB) 24 5 .i64 z1 (rR 0 hs) h0 h1) (tgt 3 20 _ (yL (C:=CB) 5 z1 (rR 0 hs) rfl i0_17 i1_17) (gq 4 21 (.slice a1_A a1_n a1_c) (gq 5 22 (I8 z1) ?_)))
  obtain ⟨h0,h1,h⟩:=oc2 h
  have i0_18:=h0
  have i1_18:=h1
  refine tgf 6 23 (PA CB a1_A z1) (yiL (C:=CB) 24 5 .i64 z1 (rR 1 hs) h0 h1) (tgt 7 24 _ (yL (C:=CB) 5 z1 (rR 1 hs) rfl i0_18 i1_18) ?_)
  obtain ⟨hc,h⟩|⟨hc,h⟩:=of_if h
  refine gb 8 25 (nf hc) ?_
  refine gf (j16 _ _ (T s15 (cf (xk (iN (T s14 (xn 3 fun _ j19=>(nq 0 [(15,I8 z1),(16,I8 (iadd .i64 z1 1))] ?_))))))))
  obtain ⟨x2,hx,h⟩:=ob h
  refine tkf 2 5 (I8 x2) (yn hx) (fin (j19 _ _ ?_))
  exact tn (kl0 _ _ ⟨n,ls n,x2,h,(hs.conv rfl),eg⟩)
  refine gb 8 25 (nt hc) (gf (j16 _ _ (T s15 (ct (xs fun _ s20=>(xn 1 fun _ j21=>(qo 0 4 (.bool false) (fj j21 s20 (xret (iR (tr (tr (iR (exq_r (tr ?_)))))))))))))))
  obtain rfl:=of_some h
  have q0:=of_some hk0
  subst q0
  exact qq _ _ (pt [4] [.bool false] ⟨cr,hs.none⟩)
  refine tb 3 14 (df hc) (fj j13 s12 (cf (xexit (tx (tx (iH ?_))))))
  obtain rfl:=of_some h
  exact exq_n (nn0 _ _ ⟨rfl,(hs.conv rfl),eg⟩)
 clear hs h hy
 rintro a w ⟨rfl,hs,g10,rfl⟩
 have h:=hk0
 refine T s6 (xs fun _ s22=>(xn 1 fun _ j23=>(qo 0 4 (.bool true) (fj j23 s22 (xret ?_)))))
 obtain rfl:=of_some h
 exact qq _ _ (pt [4] [.bool true] ⟨cr,hs.none⟩)
 refine tb 4 10 (nt hc) (fj j5 s4 (ct (xs fun _ s24=>(xn 1 fun _ j25=>(qo 0 4 (.bool false) (fj j25 s24 (xret (tr ?_))))))))
 obtain rfl:=of_some h
 exact qq _ _ (pt [4] [.bool false] ⟨cr,hs.none⟩)
end Go.Proofs.YtemdbgmldljbpaaGreatDoor
