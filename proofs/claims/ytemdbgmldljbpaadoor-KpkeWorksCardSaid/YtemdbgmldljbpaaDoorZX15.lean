/- own -/
import Derived.Test.YtemdbgmldljbpaaDoorMh
import Derived.Test.YtemdbgmldljbpaaDoorProg
import Derived.Test.YtemdbgmldljbpaaDoorZF0
import Derived.Test.YtemdbgmldljbpaaDoorZX3
import Derived.Test.YtemdbgmldljbpaaDoorZX6
import Derived.Test.YtemdbgmldljbpaaDoorZX8
set_option linter.unusedVariables false
set_option linter.unusedSimpArgs false
set_option maxRecDepth 100000
set_option maxHeartbeats 4000000
namespace Go.Proofs.YtemdbgmldljbpaaDoor
open Go.Mx
attribute [local irreducible] wpOp
theorem kpke_Decrypt.ok {K:Nat}{a0_0 a0_1 a0_2 a0_3 a0_4:Int}{a1 a2 r0:List Int}{r1:Int}{a1_A:Option Addr}{a1_n a1_c:Nat}{a2_A:Option Addr}{a2_n a2_c:Nat}(h:kpke_Decrypt.f K a0_0 a0_1 a0_2 a0_3 a0_4 a1 a2=some (r0,r1)) (w0:World) (hp1:RowL CB w0 a1_A a1_n a1_c a1) (hp2:RowL CB w0 a2_A a2_n a2_c a2):Calls Tryd.prog 23 #[.agg #[I8 a0_0,I8 a0_1,I8 a0_2,I8 a0_3,I8 a0_4],.slice a1_A a1_n a1_c,.slice a2_A a2_n a2_c] w0 fun e w'=>∃ h:(Option Addr × Nat × Nat),e = .returned (.tuple #[.slice h.1 h.2.1 h.2.2,I8 r1])∧St w0 [] [.ownL CB h.1 h.2.1 h.2.2 r0 5] [] w':=by
 refine calls_k Tryd.func23 rfl fun Q qq=>?_
 have hs:=St.startR (all_cons (RowP.ent hp1) (all_cons (RowP.ent hp2) all_nil))
 refine wc (a':=(fu 96 [.agg #[I8 a0_0,I8 a0_1,I8 a0_2,I8 a0_3,I8 a0_4],.slice a1_A a1_n a1_c,.slice a2_A a2_n a2_c])) ?_
 refine xs fun _ s1=>?_
 refine xn 3 fun _ j2=>?_
 refine so 0 (oB 3 23 (.agg #[I8 a0_0,I8 a0_1,I8 a0_2,I8 a0_3,I8 a0_4]) hs ([I8 a0_0,I8 a0_1,I8 a0_2,I8 a0_3,I8 a0_4]) fun b1 w gw hs=>?_)
 refine nq 1 [(6,.slice none 0 0),(7,I8 0)] ?_
 refine fj j2 s1 (xs fun _ s3=>(xn 9 fun _ j4=>?_))
 refine tkt 0 21 (.agg #[I8 a0_0,I8 a0_1,I8 a0_2,I8 a0_3,I8 a0_4]) (yW hs 0 5 23 rfl (by simp [enc_len]) .grow) ?_
 obtain ⟨⟨r2,r3,r4⟩,hg,h⟩:=ob h
 refine so 1 (oC 22 hs (kpke_Sizes.ok hg _) fun w gw hs=>?_)
 refine nq 2 [(20,.tuple #[I8 r2,I8 r3,I8 r4]),(23,I8 r2),(24,I8 r3),(25,I8 r4),(8,I8 r2),(9,I8 r3),(10,I8 r4)] ?_
 refine fj j4 s3 (xs fun _ s5=>(xb (xs fun _ s6=>(xn 3 fun _ j7=>?_))))
 refine qo 0 27 (I8 r3) ?_
 obtain ⟨hc,h⟩|⟨hc,h⟩:=of_if h
 refine tb 1 28 (et hc) ?_
 refine qo 2 26 (.bool true) ?_
 refine fj j7 s6 (ct (xs fun _ s8=>(xn 2 fun _ j9=>?_)))
 refine nq 0 [(6,.slice none 0 0),(7,I8 9)] ?_
 refine fj j9 s8 (xret (iR (tr ?_)))
 obtain ⟨rfl,rfl⟩:=os2 h
 have hs:=hs.addNilL CB 5
 exact qq _ _ (pt [6,7] [.slice none 0 0,I8 9] ⟨⟨none,0,0⟩,cr,(pz (dr [1,0] hs))⟩)
 refine tb 1 28 (ef hc) ?_
 refine qo 2 26 (.bool false) ?_
 refine fj j7 s6 (cf (xs fun _ s10=>(xn 5 fun _ j11=>?_)))
 refine qo 0 30 (.slice a1_A a1_n a1_c) ?_
 refine tkf 1 31 (I8 (a1.length:Int)) (yl (hs.rowR 0 rfl)) ?_
 refine qo 2 32 (I8 r3) ?_
 obtain ⟨hc,h⟩|⟨hc,h⟩:=of_if h
 refine tb 3 33 (nf hc) ?_
 refine qo 4 29 (.bool false) ?_
 refine fj j11 s10 (cf (xk (iN (T s5 (xs fun _ s12=>(xn 9 fun _ j13=>?_))))))
 refine nq 0 [(35,.slice a1_A a1_n a1_c),(36,P0 b1)] ?_
 refine tkt 2 37 (I8 a0_0) (yv hs 0 0 3 rfl (by rfl) .grow) ?_
 obtain ⟨⟨r5,r6⟩,hg,h⟩:=ob h
 refine wpS.only 3 (oH 38 hs (kpke_read.ok hg _ (hs.rowR 0 rfl)) ?_)
 rintro ⟨r5_A,r5_n,r5_c⟩ w gw hs
 have hs:=hs.conv (L':=[.ownL CZ r5_A r5_n r5_c r5 32,.blk b1 ([I8 a0_0,I8 a0_1,I8 a0_2,I8 a0_3,I8 a0_4]) 23]) rfl
 refine ⟨fun _=>trivial,?_⟩
 refine nq 4 [(34,.tuple #[.slice r5_A r5_n r5_c,.bool r6]),(39,.slice r5_A r5_n r5_c)] ?_
 cases r6 with
 | true=>
  have h:=of_if_t h
  refine nq 6 [(40,.bool true),(11,.slice r5_A r5_n r5_c),(12,.bool true)] ?_
  refine fj j13 s12 (xs fun _ s14=>(xb (xs fun _ s15=>(xn 3 fun _ j16=>?_))))
  refine nq 0 [(42,.bool true),(43,.bool false),(41,.bool false)] ?_
  refine fj j16 s15 (cf (xs fun _ s17=>(xn 5 fun _ j18=>?_)))
  refine qo 0 45 (.slice a2_A a2_n a2_c) ?_
  refine tkf 1 46 (I8 (a2.length:Int)) (yl (hs.rowR 1 rfl)) ?_
  refine qo 2 47 (I8 r4) ?_
  obtain ⟨hc,h⟩|⟨hc,h⟩:=of_if h
  refine tb 3 48 (nf hc) ?_
  refine qo 4 44 (.bool false) ?_
  refine fj j18 s17 (cf (xk (iN (T s14 (xs fun _ s19=>(xn 11 fun _ j20=>?_))))))
  refine nq 0 [(50,.slice a2_A a2_n a2_c),(51,P0 b1)] ?_
  refine tkt 2 52 (I8 a0_0) (yv hs 1 0 3 rfl (by rfl) .grow) ?_
  refine qo 3 53 (.pointer (some ⟨b1,3,none⟩)) ?_
  refine tkt 4 54 (I8 a0_3) (yv hs 1 3 3 rfl (by rfl) .grow) ?_
  obtain ⟨⟨r7,r8⟩,hg,h⟩:=ob h
  refine wpS.only 5 (oH 55 hs (kpke_read.ok hg _ (hs.rowR 1 rfl)) ?_)
  rintro ⟨r7_A,r7_n,r7_c⟩ w gw hs
  have hs:=hs.conv (L':=[.ownL CZ r7_A r7_n r7_c r7 32,.ownL CZ r5_A r5_n r5_c r5 32,.blk b1 ([I8 a0_0,I8 a0_1,I8 a0_2,I8 a0_3,I8 a0_4]) 23]) rfl
  refine ⟨fun _=>trivial,?_⟩
  refine nq 6 [(49,.tuple #[.slice r7_A r7_n r7_c,.bool r8]),(56,.slice r7_A r7_n r7_c),(57,.bool r8),(13,.slice r7_A r7_n r7_c),(14,.bool r8)] ?_
  refine fj j20 s19 (xs fun _ s21=>(xs fun _ s22=>(xn 3 fun _ j23=>?_)))
  refine qo 0 58 (.slice r7_A r7_n r7_c) ?_
  refine tkf 1 59 (I8 (r7.length:Int)) (yl (hs.rowL 0 rfl)) ?_
  refine qo 2 60 (I8 0) ?_
  refine fj j23 s22 (?_)
  obtain ⟨y11,hy,hk0⟩:=ob h
  refine wp_exq (N:=fun a w=>St w0 [] [.ownL CZ r7_A r7_n r7_c y11 32,.ownL CZ r5_A r5_n r5_c r5 32,.blk b1 ([I8 a0_0,I8 a0_1,I8 a0_2,I8 a0_3,I8 a0_4]) 23] [.rowL CB a1_A a1_n a1_c a1,.rowL CB a2_A a2_n a2_c a2] w∧∃ g25,a=fr g25 99 [(2,[.slice a2_A a2_n a2_c,P0 b1]),(6,[.slice none 0 0,I8 0]),(10,[I8 r4,.slice r5_A r5_n r5_c]),(13,[.slice r7_A r7_n r7_c])]) (fun N0 nn0=>?_) ?_
  clear hk0
  refine xb ?_
  refine wp_loop_k (fun n a w=>∃ z9 z10,kpke_Decrypt.l0 K n a0_3 r7 z9 z10=some y11∧St w0 [] [.ownL CZ r7_A r7_n r7_c z10 32,.ownL CZ r5_A r5_n r5_c r5 32,.blk b1 ([I8 a0_0,I8 a0_1,I8 a0_2,I8 a0_3,I8 a0_4]) 23] [.rowL CB a1_A a1_n a1_c a1,.rowL CB a2_A a2_n a2_c a2] w∧∃ g24,a=fr g24 99 [(2,[.slice a2_A a2_n a2_c,P0 b1]),(6,[.slice none 0 0,I8 0]),(10,[I8 r4,.slice r5_A r5_n r5_c]),(13,[.slice r7_A r7_n r7_c]),(58,[.slice r7_A r7_n r7_c,I8 (r7.length:Int),I8 z9])]) K ⟨0,r7,hy,hs.conv rfl,eg⟩ ?_
  clear hs h hy
  rintro n a w ⟨z9,z10,h,hs,g24,rfl⟩ KL0 kl0
  cases n with
  | zero=>exact nomatch (show none=some _ from h)
  | succ n=>
   refine xs fun _ s26=>?_
   refine xn 1 fun _ j27=>?_
   obtain ⟨hc,h⟩|⟨hc,h⟩:=of_if h
   refine tb 0 61 (dt hc) ?_
   refine fj j27 s26 (xs fun _ s28=>(ct (xk (T s28 (xs fun _ s29=>(xb (xs fun _ s30=>(xn 6 fun _ j31=>?_))))))))
   refine qo 0 62 (I8 z9) ?_
   obtain ⟨h0,h1,h⟩:=oc2 h
   have i0_32:=h0
   have i1_32:=h1
   refine tkf 1 63 (PA CZ r7_A z9) (yiL (C:=CZ) 78 32 .i64 z9 (hs.rowL 0 rfl) h0 h1) ?_
   refine tkt 2 64 (ag .i32 (rdL CZ z10 z9)) (yLA (C:=CZ) 32 z9 (hs.rowL 0 rfl) rfl i0_32 i1_32) ?_
   refine so 3 (oN 16 32 hs (enc .i32 (zeroA 256)) (ag .i32 (zeroA 256)) fun b12 w gw hs=>?_)
   refine qo 4 15 (I8 z9) ?_
   refine so 5 (oWe 32 .i32 (rdL CZ z10 z9) hs 0 fun w kp hs=>?_)
   refine fj j31 s30 (xn 8 fun _ j33=>?_)
   refine nq 0 [(65,.slice r7_A r7_n r7_c),(66,I8 z9)] ?_
   refine tkt 2 67 (ag .i32 (rdL CZ z10 z9)) (yWe 32 hs 0 .grow) ?_
   refine qo 3 68 (.pointer (some ⟨b1,3,none⟩)) ?_
   refine tkt 4 69 (I8 a0_3) (yv hs 3 3 3 rfl (by rfl) .grow) ?_
   obtain ⟨r13,hg,h⟩:=ob h
   refine so 5 (oC 70 hs (kq_Widen.ok hg _) fun w gw hs=>?_)
   obtain ⟨h0,h1,h⟩:=oc2 h
   have i0_34:=h0
   have i1_34:=h1
   refine tkf 6 71 (PA CZ r7_A z9) (yiL (C:=CZ) 78 32 .i64 z9 (hs.rowL 1 rfl) h0 h1) ?_
   refine so 7 (oL (C:=CZ) 32 z9 r13 hs 1 rfl i0_34 i1_34 fun w hs=>?_)
   refine fin (j33 _ _ (iN (T s29 (xn 2 fun _ j35=>?_))))
   refine nq 0 [(72,I8 (iadd .i64 z9 1)),(60,I8 (iadd .i64 z9 1))] ?_
   refine fin (j35 _ _ ?_)
   exact tn (kl0 _ _ ⟨n,ls n,(iadd .i64 z9 1),(wrL z10 z9 r13),h,(dr [0,1,1,1] hs),eg⟩)
   refine tb 0 61 (df hc) ?_
   refine fj j27 s26 (xs fun _ s36=>(cf (xexit (tx (tx (iH ?_))))))
   obtain rfl:=of_some h
   exact exq_n (nn0 _ _ ⟨(hs.conv rfl),eg⟩)
  clear hs h hy
  rintro a w ⟨hs,g25,rfl⟩
  have h:=hk0
  refine T s21 (xs fun _ s37=>?_)
  obtain ⟨y15,hj,h⟩:=ob h
  refine wp_join (N:=fun a w=>∃ b14,St w0 [] [.blk b14 (enc .i32 y15) 32,.ownL CZ r7_A r7_n r7_c y11 32,.ownL CZ r5_A r5_n r5_c r5 32,.blk b1 ([I8 a0_0,I8 a0_1,I8 a0_2,I8 a0_3,I8 a0_4]) 23] [.rowL CB a1_A a1_n a1_c a1,.rowL CB a2_A a2_n a2_c a2] w∧∃ g38,a=fr g38 99 [(3,[P0 b1]),(6,[.slice none 0 0,I8 0]),(11,[.slice r5_A r5_n r5_c]),(13,[.slice r7_A r7_n r7_c]),(17,[P0 b14])]) (fun N nj=>?_) ?_
  clear h
  have h:=hj
  refine rg [14] (fun k=>True) 16 fun _ j39=>?_
  have hs:=hs.drawn1
  refine gq 0 74 (.slice a2_A a2_n a2_c) ?_
  refine gq 1 75 (I8 r4) ?_
  refine gq 2 76 (.pointer (some ⟨b1,4,none⟩)) ?_
  refine tgt 3 77 (I8 a0_4) (yv hs 2 4 3 rfl (by rfl) .grow) ?_
  refine gq 4 78 (I8 (imul .i64 32 a0_4)) ?_
  refine gq 5 79 (I8 (isub .i64 r4 (imul .i64 32 a0_4))) ?_
  obtain ⟨h0,h1,h⟩:=oc2 h
  obtain ⟨h2,h⟩:=oc h
  obtain ⟨s16_A,hA⟩ : ∃ A,A=if a2_c=((isub .i64 r4 (imul .i64 32 a0_4)):Int).toNat then a2_A else adr a2_A (((isub .i64 r4 (imul .i64 32 a0_4)):Int).toNat*Cod.size CB):=⟨_,rfl⟩
  obtain ⟨s16_n,hn⟩ : ∃ n,n=((a2.length:Int):Int).toNat-((isub .i64 r4 (imul .i64 32 a0_4)):Int).toNat:=⟨_,rfl⟩
  obtain ⟨s16_c,hc⟩ : ∃ c,c=a2_c-((isub .i64 r4 (imul .i64 32 a0_4)):Int).toNat:=⟨_,rfl⟩
  refine tgf 6 80 (.slice s16_A s16_n s16_c) (ysb (C:=CB) 24 5 (some (I8 (isub .i64 r4 (imul .i64 32 a0_4)))) none (isub .i64 r4 (imul .i64 32 a0_4)) (a2.length:Int) (hs.rowR 1 rfl) (.inr ⟨_,rfl⟩) (.inl ⟨rfl,rfl⟩) h0 h1 h2 hA hn hc) ?_
  have hs:=hs.addSub (C:=CB) 1 rfl h0 h1 h2 hA hn hc
  refine gq 7 81 (.pointer (some ⟨b1,4,none⟩)) ?_
  refine tgt 8 82 (I8 a0_4) (yv hs 2 4 3 rfl (by rfl) .grow) ?_
  refine wpG.many [9,13] (by kernel_rfl) (by decide) (forall_cons ?_ (forall_cons ?_ forall_nil))
  obtain ⟨⟨r17,r18⟩,hg,h⟩:=ob h
  refine (oC 83 hs (kq_Unpack.ok hg _ (hs.rowR 0 rfl)) ?_)
  intro w gw hs
  refine ⟨.of gw,?_⟩
  refine gq 10 73 (.tuple #[ag .i32 r17,.bool r18]) ?_
  refine gq 11 84 (ag .i32 r17) ?_
  refine gq 12 85 (.bool r18) ?_
  refine go 13 (oN 17 32 hs (enc .i32 (zeroA 256)) (ag .i32 (zeroA 256)) fun b19 w gw hs=>⟨.of gw,?_⟩)
  refine go 14 (oWe 32 .i32 r17 hs 0 fun w kp hs=>⟨⟨fun hf=>absurd hf (by decide),.all _ _⟩,?_⟩)
  refine gq 15 18 (.bool r18) ?_
  refine gf (j39 _ _ ?_)
  obtain rfl:=of_some h
  exact nj _ _ ⟨b19,(pk [1,2] hs),eg⟩
  refine (oN 17 32 hs (enc .i32 (zeroA 256)) (ag .i32 (zeroA 256)) ?_)
  intro b20 w gw hs
  refine ⟨.of gw,?_⟩
  obtain ⟨⟨r21,r22⟩,hg,h⟩:=ob h
  refine go 9 (oC 83 hs (kq_Unpack.ok hg _ (hs.rowR 0 rfl)) fun w gw hs=>⟨.of gw,?_⟩)
  refine gq 10 73 (.tuple #[ag .i32 r21,.bool r22]) ?_
  refine gq 11 84 (ag .i32 r21) ?_
  refine gq 12 85 (.bool r22) ?_
  refine go 14 (oWe 32 .i32 r21 hs 0 fun w kp hs=>⟨⟨fun hf=>absurd hf (by decide),.all _ _⟩,?_⟩)
  refine gq 15 18 (.bool r22) ?_
  refine gf (j39 _ _ ?_)
  obtain rfl:=of_some h
  exact nj _ _ ⟨b20,(pk [1,2] hs),eg⟩
  clear hj hs
  rintro a w ⟨b14,hs,g38,rfl⟩
  refine T s37 (xs fun _ s40=>(xn 12 fun _ j41=>?_))
  refine tkt 0 86 (ag .i32 y15) (yWe 32 hs 0 .grow) ?_
  refine qo 1 87 (.pointer (some ⟨b1,4,none⟩)) ?_
  refine tkt 2 88 (I8 a0_4) (yv hs 3 4 3 rfl (by rfl) .grow) ?_
  obtain ⟨r23,hg,h⟩:=ob h
  refine so 3 (oC 89 hs (kq_Widen.ok hg _) fun w gw hs=>?_)
  refine nq 4 [(90,.slice r5_A r5_n r5_c),(91,.slice r7_A r7_n r7_c)] ?_
  obtain ⟨r24,hg,h⟩:=ob h
  refine wpS.only 6 (oH 92 hs (kpke_vector_parts.ok hg _ (hs.rowL 1 rfl)) ?_)
  rintro ⟨r24_A,r24_n,r24_c⟩ w gw hs
  have hs:=hs.conv (L':=[.ownL CZ r24_A r24_n r24_c r24 32,.blk b14 (enc .i32 y15) 32,.ownL CZ r7_A r7_n r7_c y11 32,.ownL CZ r5_A r5_n r5_c r5 32,.blk b1 ([I8 a0_0,I8 a0_1,I8 a0_2,I8 a0_3,I8 a0_4]) 23]) rfl
  refine ⟨fun _=>trivial,?_⟩
  obtain ⟨r25,hg,h⟩:=ob h
  refine so 7 (oC 93 hs (kpke_vector_dot.ok hg _ (hs.rowL 3 rfl) (hs.rowL 0 rfl)) fun w gw hs=>?_)
  obtain ⟨r26,hg,h⟩:=ob h
  refine so 8 (oC 94 hs (kq_Back.ok hg _) fun w gw hs=>?_)
  obtain ⟨r27,hg,h⟩:=ob h
  refine so 9 (oC 95 hs (kq_Sub.ok hg _) fun w gw hs=>?_)
  refine so 10 (oN 19 32 hs (enc .i32 (zeroA 256)) (ag .i32 (zeroA 256)) fun b28 w gw hs=>?_)
  refine so 11 (oWe 32 .i32 r27 hs 0 fun w kp hs=>?_)
  refine fj j41 s40 (xs fun _ s42=>(xn 5 fun _ j43=>?_))
  refine tkt 0 96 (ag .i32 r27) (yWe 32 hs 0 .grow) ?_
  obtain ⟨r29,hg,h⟩:=ob h
  refine so 1 (oC 97 hs (kq_Squeeze.ok hg _) fun w gw hs=>?_)
  obtain ⟨r30,hg,h⟩:=ob h
  refine wpS.only 2 (oH 98 hs (kq_Pack.ok hg _) ?_)
  rintro ⟨r30_A,r30_n,r30_c⟩ w gw hs
  have hs:=hs.conv (L':=[.ownL CB r30_A r30_n r30_c r30 5,.blk b28 (enc .i32 r27) 32,.ownL CZ r24_A r24_n r24_c r24 32,.blk b14 (enc .i32 y15) 32,.ownL CZ r7_A r7_n r7_c y11 32,.ownL CZ r5_A r5_n r5_c r5 32,.blk b1 ([I8 a0_0,I8 a0_1,I8 a0_2,I8 a0_3,I8 a0_4]) 23]) rfl
  refine ⟨fun _=>trivial,?_⟩
  refine nq 3 [(6,.slice r30_A r30_n r30_c),(7,I8 0)] ?_
  refine fj j43 s42 (xret ?_)
  obtain ⟨rfl,rfl⟩:=os2 h
  exact qq _ _ (pt [6,7] [.slice r30_A r30_n r30_c,I8 0] ⟨⟨r30_A,r30_n,r30_c⟩,cr,(pz (dr [1,0,0,0,0,0,0] hs))⟩)
  refine tb 3 48 (nt hc) ?_
  refine qo 4 44 (.bool true) ?_
  refine fj j18 s17 (ct (xs fun _ s44=>(xn 2 fun _ j45=>?_)))
  refine nq 0 [(6,.slice none 0 0),(7,I8 14)] ?_
  refine fj j45 s44 (xret (iR (tr ?_)))
  obtain ⟨rfl,rfl⟩:=os2 h
  have hs:=hs.addNilL CB 5
  exact qq _ _ (pt [6,7] [.slice none 0 0,I8 14] ⟨⟨none,0,0⟩,cr,(pz (dr [1,0,0] hs))⟩)
 | false=>
  have h:=of_if_f h
  refine nq 6 [(40,.bool false),(11,.slice r5_A r5_n r5_c),(12,.bool false)] ?_
  refine fj j13 s12 (xs fun _ s46=>(xb (xs fun _ s47=>(xn 3 fun _ j48=>?_))))
  refine nq 0 [(42,.bool false),(43,.bool true),(41,.bool true)] ?_
  refine fj j48 s47 (ct (xs fun _ s49=>(xn 2 fun _ j50=>?_)))
  refine nq 0 [(6,.slice none 0 0),(7,I8 10)] ?_
  refine fj j50 s49 (xret (iR (tr ?_)))
  obtain ⟨rfl,rfl⟩:=os2 h
  have hs:=hs.addNilL CB 5
  exact qq _ _ (pt [6,7] [.slice none 0 0,I8 10] ⟨⟨none,0,0⟩,cr,(pz (dr [1,0,0] hs))⟩)
 refine tb 3 33 (nt hc) ?_
 refine qo 4 29 (.bool true) ?_
 refine fj j11 s10 (ct (xs fun _ s51=>(xn 2 fun _ j52=>?_)))
 refine nq 0 [(6,.slice none 0 0),(7,I8 10)] ?_
 refine fj j52 s51 (xret (iR (tr ?_)))
 obtain ⟨rfl,rfl⟩:=os2 h
 have hs:=hs.addNilL CB 5
 exact qq _ _ (pt [6,7] [.slice none 0 0,I8 10] ⟨⟨none,0,0⟩,cr,(pz (dr [1,0] hs))⟩)
end Go.Proofs.YtemdbgmldljbpaaDoor
