/- own -/
import Derived.Test.YtemdbgmldljbpaaGreatDoorMh
import Derived.Test.YtemdbgmldljbpaaGreatDoorProg
import Derived.Test.YtemdbgmldljbpaaGreatDoorBF0
import Derived.Test.YtemdbgmldljbpaaGreatDoorBX12
import Derived.Test.YtemdbgmldljbpaaGreatDoorBX14
import Derived.Test.YtemdbgmldljbpaaGreatDoorBX1
set_option linter.unusedVariables false
set_option linter.unusedSimpArgs false
set_option maxRecDepth 100000
set_option maxHeartbeats 4000000
namespace Go.Proofs.YtemdbgmldljbpaaGreatDoor
open Go.Mx
attribute [local irreducible] wpOp
theorem ref25_Unpack.ok {K:Nat}{a0:List Int}{a1:Int}{r0:Arr 256}{r1:Bool}{a0_A:Option Addr}{a0_n a0_c:Nat}(h:ref25_Unpack.f K a0 a1=some (r0,r1)) (w0:World) (hp0:RowL CB w0 a0_A a0_n a0_c a0):Ret Tryz.prog 44 #[.slice a0_A a0_n a0_c,I8 a1] w0 (.tuple #[ag .i32 r0,.bool r1]):=by
 refine calls_k Tryz.func44 rfl fun Q qq=>?_
 have hs:=St.startR (all_cons (RowP.ent hp0) all_nil)
 refine wc (a':=(fu 42 [.slice a0_A a0_n a0_c,I8 a1])) (xs fun _ s1=>(xn 2 fun _ j2=>(so 0 (oNe 4 70 .i32 (zeroA 256) hs fun b1 w gw hs=>(qo 1 5 (.bool false) ?_)))))
 refine fj j2 s1 (xs fun _ s3=>(xs fun _ s4=>(xn 13 fun _ j5=>(qo 0 9 (I8 a1) ?_))))
 obtain ⟨hc,h⟩|⟨hc,h⟩:=of_if h
 refine tb 1 10 (dt hc) ?_
 refine nq 2 [(11,.bool true),(12,undef),(13,undef),(14,.bool true),(15,.bool true),(16,undef),(17,undef),(18,undef),(19,undef),(20,undef),(21,.bool true)] (fj j5 s4 (ct (xs fun _ s6=>(xn 3 fun _ j7=>(qo 0 22 (ag .i32 (zeroA 256)) (so 1 (oWe 70 .i32 (zeroA 256) hs 0 fun w kp hs=>(qo 2 5 (.bool false) ?_))))))))
 refine fj j7 s6 (xret (tr ?_))
 obtain ⟨rfl,rfl⟩:=os2 h
 exact qq _ _ (pr (rr [.cell 4 70,.tmp 5] [ag .i32 (zeroA 256),.bool false] (.cons (rcN 256 hs 0 rfl (enc_len _ _)) (.cons rt .nil))) ⟨cr,hs.none⟩)
 refine tb 1 10 (df hc) (nq 2 [(11,.bool false),(12,I8 a1)] ?_)
 obtain ⟨hc,h⟩|⟨hc,h⟩:=of_if h
 refine tb 4 13 (dt hc) ?_
 refine nq 5 [(14,.bool true),(15,.bool true),(16,undef),(17,undef),(18,undef),(19,undef),(20,undef),(21,.bool true)] (fj j5 s4 (ct (xs fun _ s8=>(xn 3 fun _ j9=>(qo 0 22 (ag .i32 (zeroA 256)) (so 1 (oWe 70 .i32 (zeroA 256) hs 0 fun w kp hs=>(qo 2 5 (.bool false) ?_))))))))
 refine fj j9 s8 (xret (tr ?_))
 obtain ⟨rfl,rfl⟩:=os2 h
 exact qq _ _ (pr (rr [.cell 4 70,.tmp 5] [ag .i32 (zeroA 256),.bool false] (.cons (rcN 256 hs 0 rfl (enc_len _ _)) (.cons rt .nil))) ⟨cr,hs.none⟩)
 refine tb 4 13 (df hc) (nq 5 [(14,.bool false),(15,.bool false),(16,.slice a0_A a0_n a0_c)] (tkf 8 17 (I8 (a0.length:Int)) (yl (rR 0 hs)) (nq 9 [(18,I8 a1),(19,I8 (imul .i64 32 a1))] ?_)))
 obtain ⟨hc,h⟩|⟨hc,h⟩:=of_if h
 refine tb 11 20 (nf hc) ?_
 refine qo 12 21 (.bool false) (fj j5 s4 (cf (xk (T s3 (xs fun _ s10=>(xn 4 fun _ j11=>(nq 0 [(23,.slice a0_A a0_n a0_c),(24,I8 a1)] ?_)))))))
 obtain ⟨r2,hg,h⟩:=ob h
 refine wpS.only 2 (oH 25 hs (ref01_Unpack.ok hg _ (rR 0 hs)) ?_)
 rintro ⟨r2_A,r2_n,r2_c⟩ w gw hs
 have hs:=hs.conv (L':=[.ownL (CI .u32) r2_A r2_n r2_c r2 112,.blk b1 (enc .i32 (zeroA 256)) 70]) rfl
 refine ⟨fun _=>trivial,?_⟩
 refine qo 3 6 (.slice r2_A r2_n r2_c) (fj j11 s10 (xs fun _ s12=>(xn 1 fun _ j13=>(so 0 (oNe 7 70 .i32 (zeroA 256) hs fun b3 w gw hs=>(fj j13 s12 (xs fun _ s14=>(xs fun _ s15=>(xn 1 fun _ j16=>(qo 0 8 (I8 0) ?_))))))))))
 refine fj j16 s15 (?_)
 obtain ⟨y6,hy,hk0⟩:=ob h
 refine wp_exq (N:=fun a w=>St w0 [] [.blk b3 (enc .i32 y6) 70,.ownL (CI .u32) r2_A r2_n r2_c r2 112,.blk b1 (enc .i32 (zeroA 256)) 70] [.rowL CB a0_A a0_n a0_c a0] w∧∃ g18,a=fr g18 44 [(1,[I8 a1]),(4,[P0 b1,.bool false]),(7,[P0 b3])]) (fun N0 nn0=>?_) ?_
 clear hk0
 refine xb ?_
 refine wp_loop_k (fun n a w=>∃ z4 z5,ref25_Unpack.l0 K n r2 z4 z5=some y6∧St w0 [] [.blk b3 (enc .i32 z5) 70,.ownL (CI .u32) r2_A r2_n r2_c r2 112,.blk b1 (enc .i32 (zeroA 256)) 70] [.rowL CB a0_A a0_n a0_c a0] w∧∃ g17,a=fr g17 44 [(1,[I8 a1]),(4,[P0 b1,.bool false,.slice r2_A r2_n r2_c,P0 b3,I8 z4])]) K ⟨0,(zeroA 256),hy,hs.conv rfl,eg⟩ ?_
 clear hs h hy
 rintro n a w ⟨z4,z5,h,hs,g17,rfl⟩ KL0 kl0
 cases n with
 | zero=>exact nomatch (show none=some _ from h)
 | succ n=>
  refine xs fun _ s19=>(xs fun _ s20=>(xn 2 fun _ j21=>(qo 0 26 (I8 z4) ?_)))
  obtain ⟨hc,h⟩|⟨hc,h⟩:=of_if h
  refine tb 1 27 (dt hc) ?_
  refine fj j21 s20 (ct (xk (T s19 (xs fun _ s22=>(xb (xn 8 fun _ j23=>(nq 0 [(30,I8 z4),(31,.slice r2_A r2_n r2_c),(32,I8 z4)] ?_)))))))
  obtain ⟨h0,h1,h⟩:=oc2 h
  have i0_24:=h0
  have i1_24:=h1
  refine tkf 3 33 (PA (CI .u32) r2_A z4) (yiL (C:=(CI .u32)) 110 112 .i64 z4 (rL 1 hs) h0 h1) (tkt 4 34 _ (yL (C:=(CI .u32)) 112 z4 (rL 1 hs) rfl i0_24 i1_24) (qo 5 35 (I4 (iconv .i32 (rdL (CI .u32) r2 z4))) ?_))
  obtain ⟨i0_25,i1_25,h⟩:=oc2 h
  refine tkf 6 36 (P1 b3 z4) (yi 70 21 256 1 .i64 z4 i0_25 i1_25) ?_
  obtain ⟨x7,hx,h⟩:=ob h
  refine so 7 (oA 21 x7 z4 hs 0 rfl (by cases hx; kernel_rfl) i0_25 i1_25 fun w kp hs=>?_)
  refine fin (j23 _ _ (iN (T s22 (xn 3 fun _ j26=>(nq 0 [(28,I8 z4),(29,I8 (iadd .i64 z4 1))] ?_)))))
  obtain ⟨x8,hx,h⟩:=ob h
  refine tkf 2 8 (I8 x8) (yn hx) (fin (j26 _ _ ?_))
  exact tn (kl0 _ _ ⟨n,ls n,x8,(wr z5 z4 x7),h,(hs.conv rfl),eg⟩)
  refine tb 1 27 (df hc) (fj j21 s20 (cf (xexit (tx (tx (iH ?_))))))
  obtain rfl:=of_some h
  exact exq_n (nn0 _ _ ⟨(hs.conv rfl),eg⟩)
 clear hs h hy
 rintro a w ⟨hs,g18,rfl⟩
 have h:=hk0
 refine T s14 (xs fun _ s27=>(xs fun _ s28=>?_))
 refine rg [] (fun k=>True) 5 fun _ j29=>?_
 have hs:=hs.drawn1
 refine tgt 0 37 _ (yWe 70 hs 0 .grow) (gq 1 38 (I8 a1) ?_)
 obtain ⟨r9,hg,h⟩:=ob h
 refine go 2 (oC 39 hs (ref25_bound.ok hg _) fun w gw hs=>⟨.of gw,?_⟩)
 obtain ⟨r10,hg,h⟩:=ob h
 cases r10 with
 | true=>
  have h:=of_if_t h
  refine go 3 (oC 40 hs (ref25_Below.ok hg _) fun w gw hs=>⟨.of gw,?_⟩)
  refine gq 4 41 (.bool false) (gf (j29 _ _ (T s28 (cf (xk (T s27 (xs fun _ s30=>(xn 3 fun _ j31=>(tkt 0 43 _ (yWe 70 hs 0 .grow) (so 1 (oWe 70 .i32 y6 hs 2 fun w kp hs=>?_)))))))))))
  refine qo 2 5 (.bool true) (fj j31 s30 (xret ?_))
  obtain ⟨rfl,rfl⟩:=os2 h
  exact qq _ _ (pr (rr [.cell 4 70,.tmp 5] [ag .i32 y6,.bool true] (.cons (rcN 256 hs 2 rfl (enc_len _ _)) (.cons rt .nil))) ⟨cr,hs.none⟩)
 | false=>
  have h:=of_if_f h
  refine go 3 (oC 40 hs (ref25_Below.ok hg _) fun w gw hs=>⟨.of gw,?_⟩)
  refine gq 4 41 (.bool true) (gf (j29 _ _ (T s28 (ct (xs fun _ s32=>(xn 3 fun _ j33=>(qo 0 42 (ag .i32 (zeroA 256)) (so 1 (oWe 70 .i32 (zeroA 256) hs 2 fun w kp hs=>?_)))))))))
  refine qo 2 5 (.bool false) (fj j33 s32 (xret (tr ?_)))
  obtain ⟨rfl,rfl⟩:=os2 h
  exact qq _ _ (pr (rr [.cell 4 70,.tmp 5] [ag .i32 (zeroA 256),.bool false] (.cons (rcN 256 hs 2 rfl (enc_len _ _)) (.cons rt .nil))) ⟨cr,hs.none⟩)
 refine tb 11 20 (nt hc) (qo 12 21 (.bool true) (fj j5 s4 (ct (xs fun _ s34=>(xn 3 fun _ j35=>(qo 0 22 (ag .i32 (zeroA 256)) (so 1 (oWe 70 .i32 (zeroA 256) hs 0 fun w kp hs=>?_))))))))
 refine qo 2 5 (.bool false) (fj j35 s34 (xret (tr ?_)))
 obtain ⟨rfl,rfl⟩:=os2 h
 exact qq _ _ (pr (rr [.cell 4 70,.tmp 5] [ag .i32 (zeroA 256),.bool false] (.cons (rcN 256 hs 0 rfl (enc_len _ _)) (.cons rt .nil))) ⟨cr,hs.none⟩)
theorem ref26_read.ok {K:Nat}{a0:List Int}{a1 a2:Int}{r0:List (Arr 256)}{r1:Bool}{a0_A:Option Addr}{a0_n a0_c:Nat}(h:ref26_read.f K a0 a1 a2=some (r0,r1)) (w0:World) (hp0:RowL CB w0 a0_A a0_n a0_c a0):Calls Tryz.prog 41 #[.slice a0_A a0_n a0_c,I8 a1,I8 a2] w0 fun e w'=>∃ h:(Option Addr × Nat × Nat),e = .returned (.tuple #[.slice h.1 h.2.1 h.2.2,.bool r1])∧St w0 [] [.ownL CZ h.1 h.2.1 h.2.2 r0 70] [] w':=by
 refine calls_k Tryz.func41 rfl fun Q qq=>?_
 have hs:=St.startR (all_cons (RowP.ent hp0) all_nil)
 refine wc (a':=(fu 37 [.slice a0_A a0_n a0_c,I8 a1,I8 a2])) (xs fun _ s1=>(xn 2 fun _ j2=>(nq 0 [(6,.slice none 0 0),(7,.bool false)] (fj j2 s1 (xs fun _ s3=>(xn 1 fun _ j4=>?_))))))
 refine qo 0 8 (.slice none 0 0) (fj j4 s3 (xs fun _ s5=>(xs fun _ s6=>(xn 1 fun _ j7=>(qo 0 9 (I8 0) (fj j7 s6 (?_)))))))
 have hs:=hs.addNilL CZ 70
 obtain ⟨t0,hy,hk0⟩:=ob h
 refine wp_exq (N:=fun a w=>∃ y3,∃ y3_A y3_n y3_c,t0 = .inl y3∧St w0 [] [.ownL CZ y3_A y3_n y3_c y3 70] [.rowL CB a0_A a0_n a0_c a0] w∧∃ g9,a=fr g9 40 [(8,[.slice y3_A y3_n y3_c])]) (fun N0 nn0=>?_) ?_
 refine xb ?_
 refine wp_loop_k (fun n a w=>∃ z1 z2,∃ z2_A z2_n z2_c,ref26_read.l0 K n a0 a1 a2 z1 z2=some t0∧St w0 [] [.ownL CZ z2_A z2_n z2_c z2 70] [.rowL CB a0_A a0_n a0_c a0] w∧∃ g8,a=fr g8 40 [(0,[.slice a0_A a0_n a0_c,I8 a1,I8 a2]),(8,[.slice z2_A z2_n z2_c,I8 z1])]) K ⟨0,([]:List (Arr 256)),none,0,0,hy,hs.conv rfl,eg⟩ ?_
 clear hs h hy
 rintro n a w ⟨z1,z2,z2_A,z2_n,z2_c,h,hs,g8,rfl⟩ KL0 kl0
 cases n with
 | zero=>exact nomatch (show none=some _ from h)
 | succ n=>
  refine xs fun _ s10=>(xs fun _ s11=>(xn 3 fun _ j12=>(nq 0 [(12,I8 z1),(13,I8 a1)] ?_)))
  obtain ⟨hc,h⟩|⟨hc,h⟩:=of_if h
  refine tb 2 14 (dt hc) ?_
  refine fj j12 s11 (ct (xk (T s10 (xs fun _ s13=>(xb (xs fun _ s14=>(xn 19 fun _ j15=>(nq 0 [(18,.slice a0_A a0_n a0_c),(19,I8 a2),(20,I8 (imul .i64 32 a2)),(21,I8 z1),(22,I8 (imul .i64 (imul .i64 32 a2) z1)),(23,I8 a2),(24,I8 (imul .i64 32 a2)),(25,I8 z1),(26,I8 (iadd .i64 z1 1)),(27,I8 (imul .i64 (imul .i64 32 a2) (iadd .i64 z1 1)))] ?_))))))))
  obtain ⟨h0,h1,h⟩:=oc2 h
  obtain ⟨h2,h⟩:=oc h
  obtain ⟨s4_A,hA⟩ : ∃ A,A=if a0_c=((imul .i64 (imul .i64 32 a2) z1):Int).toNat then a0_A else adr a0_A (((imul .i64 (imul .i64 32 a2) z1):Int).toNat*Cod.size CB):=⟨_,rfl⟩
  obtain ⟨s4_n,hn⟩ : ∃ n,n=((imul .i64 (imul .i64 32 a2) (iadd .i64 z1 1)):Int).toNat-((imul .i64 (imul .i64 32 a2) z1):Int).toNat:=⟨_,rfl⟩
  obtain ⟨s4_c,hc⟩ : ∃ c,c=a0_c-((imul .i64 (imul .i64 32 a2) z1):Int).toNat:=⟨_,rfl⟩
  refine tkf 10 28 (.slice s4_A s4_n s4_c) (ysb (C:=CB) 24 5 (some (I8 (imul .i64 (imul .i64 32 a2) z1))) (some (I8 (imul .i64 (imul .i64 32 a2) (iadd .i64 z1 1)))) (imul .i64 (imul .i64 32 a2) z1) (imul .i64 (imul .i64 32 a2) (iadd .i64 z1 1)) (rR 0 hs) (.inr ⟨_,rfl⟩) (.inr ⟨_,rfl⟩) h0 h1 h2 hA hn hc) ?_
  have hs:=hs.addSub (C:=CB) 0 rfl h0 h1 h2 hA hn hc
  refine qo 11 29 (I8 a2) ?_
  obtain ⟨⟨r5,r6⟩,hg,h⟩:=ob h
  refine so 12 (oC 30 hs (ref25_Unpack.ok hg _ (rR 0 hs)) fun w gw hs=>?_)
  refine nq 13 [(17,.tuple #[ag .i32 r5,.bool r6]),(31,ag .i32 r5)] ?_
  cases r6 with
  | true=>
   have h:=of_if_t h
   refine qo 15 32 (.bool true) (so 16 (oNe 10 70 .i32 (zeroA 256) hs fun b7 w gw hs=>(so 17 (oWe 70 .i32 r5 hs 0 fun w kp hs=>(qo 18 11 (.bool true) (fj j15 s14 (xs fun _ s16=>(xs fun _ s17=>(xn 2 fun _ j18=>?_)))))))))
   refine nq 0 [(33,.bool true),(34,.bool false)] (fj j18 s17 (cf (xk (T s16 (xn 5 fun _ j19=>(qo 0 35 (.slice z2_A z2_n z2_c) (tkt 1 36 _ (yWe 70 hs 0 .grow) (so 2 (oLL (C:=CZ) 37 66 70 1 (ag .i32 (zeroA 256)) #[(0,ag .i32 r5)] [r5] hs rfl rfl (by decide) (by decide) fun s8_A s8_n s8_c w gw hs=>?_)))))))))
   obtain ⟨h0,h⟩:=oc h
   refine so 3 (oAp (C:=CZ) 38 66 66 70 1024 137438953472 hs 2 rfl (rL 0 hs) h0 (by decide) (by decide) fun s9_A s9_n s9_c w hs=>?_)
   refine qo 4 8 (.slice s9_A s9_n s9_c) (fin (j19 _ _ (iN (T s13 (xn 3 fun _ j20=>(nq 0 [(15,I8 z1),(16,I8 (iadd .i64 z1 1))] ?_))))))
   obtain ⟨x10,hx,h⟩:=ob h
   refine tkf 2 9 (I8 x10) (yn hx) (fin (j20 _ _ ?_))
   exact tn (kl0 _ _ ⟨n,ls n,x10,(z2++([r5]:List (Arr 256))),s9_A,s9_n,s9_c,h,(pk [1] (dr [0,0,1] hs)),eg⟩)
  | false=>
   have h:=of_if_f h
   refine qo 15 32 (.bool false) (so 16 (oNe 10 70 .i32 (zeroA 256) hs fun b11 w gw hs=>(so 17 (oWe 70 .i32 r5 hs 0 fun w kp hs=>(qo 18 11 (.bool false) (fj j15 s14 (xs fun _ s21=>(xs fun _ s22=>(xn 2 fun _ j23=>?_)))))))))
   refine nq 0 [(33,.bool false),(34,.bool true)] (fj j23 s22 (ct (xs fun _ s24=>(xn 2 fun _ j25=>(nq 0 [(6,.slice none 0 0),(7,.bool false)] (fj j25 s24 (xret (tr (iR (tr (tr (iR (exq_r (tr ?_))))))))))))))
   obtain rfl:=of_some h
   obtain ⟨q0,qr0⟩:=Prod.mk.inj (of_some hk0)
   have q1:=qr0
   subst q0
   subst q1
   have hs:=hs.addNilL CZ 70
   exact qq _ _ (pt [6,7] [.slice none 0 0,.bool false] ⟨⟨none,0,0⟩,cr,(pz (dr [1,0,0] hs))⟩)
  refine tb 2 14 (df hc) (fj j12 s11 (cf (xexit (tx (tx (iH ?_))))))
  obtain rfl:=of_some h
  exact exq_n (nn0 _ _ ⟨z2,z2_A,z2_n,z2_c,rfl,(hs.conv rfl),eg⟩)
 clear hs h hy
 rintro a w ⟨y3,y3_A,y3_n,y3_c,rfl,hs,g9,rfl⟩
 have h:=hk0
 refine T s5 (xs fun _ s26=>(xn 3 fun _ j27=>(nq 0 [(39,.slice y3_A y3_n y3_c),(6,.slice y3_A y3_n y3_c),(7,.bool true)] (fj j27 s26 (xret ?_)))))
 obtain ⟨rfl,rfl⟩:=os2 h
 exact qq _ _ (pt [6,7] [.slice y3_A y3_n y3_c,.bool true] ⟨⟨y3_A,y3_n,y3_c⟩,cr,(pz hs)⟩)
theorem ref25_Widen.ok {K:Nat}{a0:Arr 256}{a1:Int}{r0:Arr 256}(h:ref25_Widen.f K a0 a1=some r0) (w0:World):Ret Tryz.prog 43 #[ag .i32 a0,I8 a1] w0 (ag .i32 r0):=by
 refine calls_k Tryz.func43 rfl fun Q qq=>?_
 have hs:=St.start w0
 refine wc (a':=(fu 36 [ag .i32 a0,I8 a1])) (xs fun _ s1=>(xn 2 fun _ j2=>(so 0 (oBe 2 70 .i32 a0 hs fun b1 w gw hs=>(so 1 (oNe 4 70 .i32 (zeroA 256) hs fun b2 w gw hs=>?_))))))
 refine fj j2 s1 (xs fun _ s3=>(xs fun _ s4=>?_))
 refine rg [] (fun k=>True) 13 fun _ j5=>?_
 have hs:=hs.drawn1
 refine gq 0 6 (I8 a1) ?_
 obtain ⟨hc,h⟩|⟨hc,h⟩:=of_if h
 refine gb 1 7 (dt hc) ?_
 refine gq 2 8 (.bool true) (gq 3 9 undef (gq 4 10 undef (gq 5 11 (.bool true) (gq 6 12 (.bool true) ?_))))
 refine gq 7 13 undef (gq 8 14 undef (gq 9 15 undef (gq 10 16 undef (gq 11 17 undef ?_))))
 refine gq 12 18 (.bool true) (gf (j5 _ _ (T s4 (ct (xs fun _ s6=>(xn 2 fun _ j7=>(qo 0 19 (ag .i32 (zeroA 256)) (so 1 (oWe 70 .i32 (zeroA 256) hs 0 fun w kp hs=>?_)))))))))
 refine fj j7 s6 (xret (tr ?_))
 obtain rfl:=of_some h
 exact qq _ _ (pr (rr [.cell 4 70] [ag .i32 (zeroA 256)] (.cons (rcN 256 hs 0 rfl (enc_len _ _)) .nil)) ⟨cr,hs.none⟩)
 refine gb 1 7 (df hc) (gq 2 8 (.bool false) (gq 3 9 (I8 a1) ?_))
 obtain ⟨hc,h⟩|⟨hc,h⟩:=of_if h
 refine gb 4 10 (dt hc) ?_
 refine gq 5 11 (.bool true) (gq 6 12 (.bool true) (gq 7 13 undef (gq 8 14 undef (gq 9 15 undef ?_))))
 refine gq 10 16 undef (gq 11 17 undef (gq 12 18 (.bool true) (gf (j5 _ _ (T s4 (ct (xs fun _ s8=>(xn 2 fun _ j9=>?_))))))))
 refine qo 0 19 (ag .i32 (zeroA 256)) (so 1 (oWe 70 .i32 (zeroA 256) hs 0 fun w kp hs=>(fj j9 s8 (xret (tr ?_)))))
 obtain rfl:=of_some h
 exact qq _ _ (pr (rr [.cell 4 70] [ag .i32 (zeroA 256)] (.cons (rcN 256 hs 0 rfl (enc_len _ _)) .nil)) ⟨cr,hs.none⟩)
 refine gb 4 10 (df hc) (gq 5 11 (.bool false) (gq 6 12 (.bool false) (tgt 7 13 _ (yWe 70 hs 1 .grow) (gq 8 14 (I8 a1) ?_))))
 obtain ⟨h0,h⟩:=oc h
 refine tgf 9 15 (I4 (ishl .i32 1 a1)) (ysl 21 .i64 h0) ?_
 obtain ⟨r3,hg,h⟩:=ob h
 cases r3 with
 | true=>
  have h:=of_if_t h
  refine go 10 (oC 16 hs (ref25_Below.ok hg _) fun w gw hs=>⟨.of gw,?_⟩)
  refine gq 11 17 (.bool false) (gq 12 18 (.bool false) (gf (j5 _ _ (T s4 (cf (xk (T s3 (xs fun _ s10=>(xs fun _ s11=>(xn 1 fun _ j12=>(qo 0 5 (I8 0) ?_)))))))))))
  refine fj j12 s11 (?_)
  obtain ⟨y6,hy,hk0⟩:=ob h
  refine wp_exq (N:=fun a w=>St w0 [] [.blk b2 (enc .i32 (zeroA 256)) 70,.blk b1 (enc .i32 y6) 70] [] w∧∃ g14,a=fr g14 38 [(2,[P0 b1]),(4,[P0 b2])]) (fun N0 nn0=>?_) ?_
  clear hk0
  refine xb ?_
  refine wp_loop_k (fun n a w=>∃ z4 z5,ref25_Widen.l0 K n a1 z4 z5=some y6∧St w0 [] [.blk b2 (enc .i32 (zeroA 256)) 70,.blk b1 (enc .i32 z5) 70] [] w∧∃ g13,a=fr g13 38 [(1,[I8 a1,P0 b1]),(4,[P0 b2,I8 z4])]) K ⟨0,a0,hy,hs.conv rfl,eg⟩ ?_
  clear hs h hy
  rintro n a w ⟨z4,z5,h,hs,g13,rfl⟩ KL0 kl0
  cases n with
  | zero=>exact nomatch (show none=some _ from h)
  | succ n=>
   refine xs fun _ s15=>(xs fun _ s16=>(xn 2 fun _ j17=>(qo 0 20 (I8 z4) ?_)))
   obtain ⟨hc,h⟩|⟨hc,h⟩:=of_if h
   refine tb 1 21 (dt hc) ?_
   refine fj j17 s16 (ct (xk (T s15 (xs fun _ s18=>(xb ?_)))))
   refine rg [13] (fun k=>True) 14 fun _ j19=>?_
   have hs:=hs.drawn1
   refine gq 0 24 (I8 z4) (gq 1 25 (I8 z4) ?_)
   obtain ⟨i0_20,i1_20,h⟩:=oc2 h
   refine tgf 2 26 (P1 b1 z4) (yi 70 21 256 1 .i64 z4 i0_20 i1_20) (tgt 3 27 _ (yA hs 1 21 z4 rfl i0_20 i1_20 .grow) (gq 4 28 (I4 (imul .i32 2 (rd z5 z4))) (gq 5 29 (I4 (imul .i32 (imul .i32 2 (rd z5 z4)) 3329)) (gq 6 30 (I8 a1) ?_))))
   obtain ⟨h0,h⟩:=oc h
   refine tgf 7 31 (I4 (ishl .i32 1 a1)) (ysl 21 .i64 h0) (gq 8 32 (I4 (iadd .i32 (imul .i32 (imul .i32 2 (rd z5 z4)) 3329) (ishl .i32 1 a1))) (gq 9 33 (I8 a1) ?_))
   obtain ⟨h0,h⟩:=oc h
   refine tgf 10 34 (I4 (ishl .i32 2 a1)) (ysl 21 .i64 h0) ?_
   obtain ⟨h0,h⟩:=oc h
   refine tgf 11 35 (I4 (iquo .i32 (iadd .i32 (imul .i32 (imul .i32 2 (rd z5 z4)) 3329) (ishl .i32 1 a1)) (ishl .i32 2 a1))) (yq 21 h0) ?_
   obtain ⟨i0_21,i1_21,h⟩:=oc2 h
   refine tgf 12 36 (P1 b1 z4) (yi 70 21 256 1 .i64 z4 i0_21 i1_21) ?_
   obtain ⟨x7,hx,h⟩:=ob h
   refine go 13 (oA 21 x7 z4 hs 1 rfl (by cases hx; kernel_rfl) i0_21 i1_21 fun w kp hs=>⟨⟨fun hf=>absurd hf (by decide),.all _ _⟩,?_⟩)
   refine gf (j19 _ _ ?_)
   refine iN (T s18 (xn 3 fun _ j22=>?_))
   refine nq 0 [(22,I8 z4),(23,I8 (iadd .i64 z4 1))] ?_
   obtain ⟨x8,hx,h⟩:=ob h
   refine tkf 2 5 (I8 x8) (yn hx) (fin (j22 _ _ ?_))
   exact tn (kl0 _ _ ⟨n,ls n,x8,(wr z5 z4 x7),h,(hs.conv rfl),eg⟩)
   refine tb 1 21 (df hc) (fj j17 s16 (cf (xexit (tx (tx (iH ?_))))))
   obtain rfl:=of_some h
   exact exq_n (nn0 _ _ ⟨(hs.conv rfl),eg⟩)
  clear hs h hy
  rintro a w ⟨hs,g14,rfl⟩
  have h:=hk0
  refine T s10 (xs fun _ s23=>(xn 2 fun _ j24=>(tkt 0 37 _ (yWe 70 hs 1 .grow) (so 1 (oWe 70 .i32 y6 hs 0 fun w kp hs=>(fj j24 s23 (xret ?_)))))))
  obtain rfl:=of_some h
  exact qq _ _ (pr (rr [.cell 4 70] [ag .i32 y6] (.cons (rcN 256 hs 0 rfl (enc_len _ _)) .nil)) ⟨cr,hs.none⟩)
 | false=>
  have h:=of_if_f h
  refine go 10 (oC 16 hs (ref25_Below.ok hg _) fun w gw hs=>⟨.of gw,?_⟩)
  refine gq 11 17 (.bool true) (gq 12 18 (.bool true) (gf (j5 _ _ (T s4 (ct (xs fun _ s25=>(xn 2 fun _ j26=>(qo 0 19 (ag .i32 (zeroA 256)) ?_))))))))
  refine so 1 (oWe 70 .i32 (zeroA 256) hs 0 fun w kp hs=>?_)
  refine fj j26 s25 (xret (tr ?_))
  obtain rfl:=of_some h
  exact qq _ _ (pr (rr [.cell 4 70] [ag .i32 (zeroA 256)] (.cons (rcN 256 hs 0 rfl (enc_len _ _)) .nil)) ⟨cr,hs.none⟩)
theorem ref25_Back.ok {K:Nat}{a0 r0:Arr 256}(h:ref25_Back.f K a0=some r0) (w0:World):Ret Tryz.prog 46 #[ag .i32 a0] w0 (ag .i32 r0):=by
 refine calls_k Tryz.func46 rfl fun Q qq=>?_
 have hs:=St.start w0
 refine wc (a':=(fu 62 [ag .i32 a0])) (xs fun _ s1=>(xn 2 fun _ j2=>(so 0 (oBe 1 70 .i32 a0 hs fun b1 w gw hs=>(so 1 (oNe 2 70 .i32 (zeroA 256) hs fun b2 w gw hs=>?_))))))
 refine fj j2 s1 (xs fun _ s3=>(xn 3 fun _ j4=>?_))
 obtain ⟨r3,hg,h⟩:=ob h
 refine so 0 (oC 10 hs (ref25_powers.ok hg _) fun w gw hs=>?_)
 refine so 1 (oNe 3 69 .i32 (zeroA 256) hs fun b4 w gw hs=>?_)
 refine so 2 (oWe 69 .i32 r3 hs 0 fun w kp hs=>?_)
 refine fj j4 s3 (xs fun _ s5=>(xn 1 fun _ j6=>(so 0 (oNe 4 70 .i32 (zeroA 256) hs fun b5 w gw hs=>(fj j6 s5 (xs fun _ s7=>(xs fun _ s8=>(xn 1 fun _ j9=>(qo 0 5 (I8 0) (fj j9 s8 (?_)))))))))))
 obtain ⟨y8,hy,hk0⟩:=ob h
 refine wp_exq (N:=fun a w=>St w0 [] [.blk b5 (enc .i32 y8) 70,.blk b4 (enc .i32 r3) 69,.blk b2 (enc .i32 (zeroA 256)) 70,.blk b1 (enc .i32 a0) 70] [] w∧∃ g11,a=fr g11 63 [(2,[P0 b2]),(4,[P0 b5])]) (fun N0 nn0=>?_) ?_
 clear hk0
 refine xb ?_
 refine wp_loop_k (fun n a w=>∃ z6 z7,ref25_Back.l0 K n a0 r3 z6 z7=some y8∧St w0 [] [.blk b5 (enc .i32 z7) 70,.blk b4 (enc .i32 r3) 69,.blk b2 (enc .i32 (zeroA 256)) 70,.blk b1 (enc .i32 a0) 70] [] w∧∃ g10,a=fr g10 63 [(1,[P0 b1,P0 b2,P0 b4,P0 b5,I8 z6])]) K ⟨0,(zeroA 256),hy,hs.conv rfl,eg⟩ ?_
 clear hs h hy
 rintro n a w ⟨z6,z7,h,hs,g10,rfl⟩ KL0 kl0
 cases n with
 | zero=>exact nomatch (show none=some _ from h)
 | succ n=>
  refine xs fun _ s12=>(xs fun _ s13=>(xn 2 fun _ j14=>(qo 0 11 (I8 z6) ?_)))
  obtain ⟨hc,h⟩|⟨hc,h⟩:=of_if h
  refine tb 1 12 (dt hc) ?_
  refine fj j14 s13 (ct (xk (T s12 (xs fun _ s15=>(xb (xs fun _ s16=>(xn 1 fun _ j17=>(qo 0 6 (I4 0) (fj j17 s16 (xs fun _ s18=>(xn 1 fun _ j19=>(qo 0 7 (I4 0) (fj j19 s18 (xs fun _ s20=>(xs fun _ s21=>(xn 1 fun _ j22=>?_))))))))))))))))
  refine qo 0 8 (I8 0) (fj j22 s21 (?_))
  obtain ⟨⟨y12,y13⟩,hy,hk1⟩:=ob h
  refine wp_exq (N:=fun a w=>St w0 [] [.blk b5 (enc .i32 z7) 70,.blk b4 (enc .i32 r3) 69,.blk b2 (enc .i32 (zeroA 256)) 70,.blk b1 (enc .i32 a0) 70] [] w∧∃ g24,a=fr g24 63 [(1,[P0 b1,P0 b2,P0 b4,P0 b5,I8 z6,I4 y12,I4 y13])]) (fun N1 nn1=>?_) ?_
  clear hk1
  refine xb ?_
  refine wp_loop_k (fun n a w=>∃ z9 z10 z11,ref25_Back.l1 K n a0 r3 z6 z9 z10 z11=some (y12,y13)∧St w0 [] [.blk b5 (enc .i32 z7) 70,.blk b4 (enc .i32 r3) 69,.blk b2 (enc .i32 (zeroA 256)) 70,.blk b1 (enc .i32 a0) 70] [] w∧∃ g23,a=fr g23 63 [(1,[P0 b1,P0 b2,P0 b4,P0 b5,I8 z6,I4 z9,I4 z10,I8 z11])]) K ⟨0,0,0,hy,hs.conv rfl,eg⟩ ?_
  clear hs h hy
  rintro n a w ⟨z9,z10,z11,h,hs,g23,rfl⟩ KL1 kl1
  cases n with
  | zero=>exact nomatch (show none=some _ from h)
  | succ n=>
   refine xs fun _ s25=>(xs fun _ s26=>(xn 2 fun _ j27=>(qo 0 15 (I8 z11) ?_)))
   obtain ⟨hc,h⟩|⟨hc,h⟩:=of_if h
   refine tb 1 16 (dt hc) ?_
   refine fj j27 s26 (ct (xk (T s25 (xs fun _ s28=>(xb (xs fun _ s29=>(xn 12 fun _ j30=>(qo 0 19 (I8 z11) ?_))))))))
   obtain ⟨r14,hg,h⟩:=ob h
   refine so 1 (oC 20 hs (ref25_turned.ok hg _) fun w gw hs=>?_)
   refine nq 2 [(21,I8 (imul .i64 2 r14)),(22,I8 (iadd .i64 (imul .i64 2 r14) 1)),(23,I8 z6),(24,I8 (imul .i64 (iadd .i64 (imul .i64 2 r14) 1) z6)),(25,I8 (irem .i64 (imul .i64 (iadd .i64 (imul .i64 2 r14) 1) z6) 256)),(26,I8 (isub .i64 256 (irem .i64 (imul .i64 (iadd .i64 (imul .i64 2 r14) 1) z6) 256))),(27,I8 (irem .i64 (isub .i64 256 (irem .i64 (imul .i64 (iadd .i64 (imul .i64 2 r14) 1) z6) 256)) 256))] ?_
   obtain ⟨x15,hx,h⟩:=ob h
   have hx:=of_some hx
   subst hx
   obtain ⟨i0_31,i1_31,h⟩:=oc2 h
   refine tkf 9 28 (.pointer (some ⟨b4,0+((irem .i64 (isub .i64 256 (irem .i64 (imul .i64 (iadd .i64 (imul .i64 2 r14) 1) z6) 256)) 256):Int).toNat*1,none⟩)) (yi 69 21 256 1 .i64 (irem .i64 (isub .i64 256 (irem .i64 (imul .i64 (iadd .i64 (imul .i64 2 r14) 1) z6) 256)) 256) i0_31 i1_31) (tkt 10 29 _ (yA hs 1 21 (irem .i64 (isub .i64 256 (irem .i64 (imul .i64 (iadd .i64 (imul .i64 2 r14) 1) z6) 256)) 256) rfl i0_31 i1_31 .grow) ?_)
   obtain ⟨x16,hx,h⟩:=ob h
   refine tkf 11 9 (I4 x16) (yn hx) (fj j30 s29 (xs fun _ s32=>(xn 10 fun _ j33=>(nq 0 [(30,I4 z9),(31,I8 z11),(32,I8 (imul .i64 2 z11))] ?_))))
   obtain ⟨x17,hx,h⟩:=ob h
   have hx:=of_some hx
   subst hx
   obtain ⟨i0_34,i1_34,h⟩:=oc2 h
   refine tkf 3 33 (P1 b1 (imul .i64 2 z11)) (yi 70 21 256 1 .i64 (imul .i64 2 z11) i0_34 i1_34) (tkt 4 34 _ (yA hs 3 21 (imul .i64 2 z11) rfl i0_34 i1_34 .grow) (nq 5 [(35,I4 x16),(36,I4 (imul .i32 (rd a0 (imul .i64 2 z11)) x16)),(37,I4 (iadd .i32 z9 (imul .i32 (rd a0 (imul .i64 2 z11)) x16))),(38,I4 (irem .i32 (iadd .i32 z9 (imul .i32 (rd a0 (imul .i64 2 z11)) x16)) 3329))] ?_))
   obtain ⟨x18,hx,h⟩:=ob h
   refine tkf 9 6 (I4 x18) (yn hx) (fj j33 s32 (xn 11 fun _ j35=>(nq 0 [(39,I4 z10),(40,I8 z11),(41,I8 (imul .i64 2 z11)),(42,I8 (iadd .i64 (imul .i64 2 z11) 1))] ?_)))
   obtain ⟨x19,hx,h⟩:=ob h
   have hx:=of_some hx
   subst hx
   obtain ⟨i0_36,i1_36,h⟩:=oc2 h
   refine tkf 4 43 (.pointer (some ⟨b1,0+((iadd .i64 (imul .i64 2 z11) 1):Int).toNat*1,none⟩)) (yi 70 21 256 1 .i64 (iadd .i64 (imul .i64 2 z11) 1) i0_36 i1_36) (tkt 5 44 _ (yA hs 3 21 (iadd .i64 (imul .i64 2 z11) 1) rfl i0_36 i1_36 .grow) (nq 6 [(45,I4 x16),(46,I4 (imul .i32 (rd a0 (iadd .i64 (imul .i64 2 z11) 1)) x16)),(47,I4 (iadd .i32 z10 (imul .i32 (rd a0 (iadd .i64 (imul .i64 2 z11) 1)) x16))),(48,I4 (irem .i32 (iadd .i32 z10 (imul .i32 (rd a0 (iadd .i64 (imul .i64 2 z11) 1)) x16)) 3329))] ?_))
   obtain ⟨x20,hx,h⟩:=ob h
   refine tkf 10 7 (I4 x20) (yn hx) (fin (j35 _ _ (iN (T s28 (xn 3 fun _ j37=>(nq 0 [(17,I8 z11),(18,I8 (iadd .i64 z11 1))] ?_))))))
   obtain ⟨x21,hx,h⟩:=ob h
   refine tkf 2 8 (I8 x21) (yn hx) (fin (j37 _ _ ?_))
   exact tn (kl1 _ _ ⟨n,ls n,x18,x20,x21,h,(hs.conv rfl),eg⟩)
   refine tb 1 16 (df hc) (fj j27 s26 (cf (xexit (tx (tx (iH ?_))))))
   obtain ⟨rfl,rfl⟩:=os2 h
   exact exq_n (nn1 _ _ ⟨(hs.conv rfl),eg⟩)
  clear hs h hy
  rintro a w ⟨hs,g24,rfl⟩
  have h:=hk1
  refine T s20 (xs fun _ s38=>(xn 7 fun _ j39=>(nq 0 [(49,I8 z6),(50,I8 (imul .i64 2 z6)),(51,I4 y12),(52,I4 (imul .i32 y12 3303)),(53,I4 (irem .i32 (imul .i32 y12 3303) 3329))] ?_)))
  obtain ⟨x22,hx,h⟩:=ob h
  have hx:=of_some hx
  subst hx
  obtain ⟨i0_40,i1_40,h⟩:=oc2 h
  refine tkf 5 54 (P1 b5 (imul .i64 2 z6)) (yi 70 21 256 1 .i64 (imul .i64 2 z6) i0_40 i1_40) ?_
  obtain ⟨x23,hx,h⟩:=ob h
  refine so 6 (oA 21 x23 (imul .i64 2 z6) hs 0 rfl (by cases hx; kernel_rfl) i0_40 i1_40 fun w kp hs=>?_)
  refine fj j39 s38 (xn 8 fun _ j41=>(nq 0 [(55,I8 z6),(56,I8 (imul .i64 2 z6)),(57,I8 (iadd .i64 (imul .i64 2 z6) 1)),(58,I4 y13),(59,I4 (imul .i32 y13 3303)),(60,I4 (irem .i32 (imul .i32 y13 3303) 3329))] ?_))
  obtain ⟨x24,hx,h⟩:=ob h
  have hx:=of_some hx
  subst hx
  obtain ⟨i0_42,i1_42,h⟩:=oc2 h
  refine tkf 6 61 (.pointer (some ⟨b5,0+((iadd .i64 (imul .i64 2 z6) 1):Int).toNat*1,none⟩)) (yi 70 21 256 1 .i64 (iadd .i64 (imul .i64 2 z6) 1) i0_42 i1_42) ?_
  obtain ⟨x25,hx,h⟩:=ob h
  refine so 7 (oA 21 x25 (iadd .i64 (imul .i64 2 z6) 1) hs 0 rfl (by cases hx; kernel_rfl) i0_42 i1_42 fun w kp hs=>?_)
  refine fin (j41 _ _ (iN (T s15 (xn 3 fun _ j43=>(nq 0 [(13,I8 z6),(14,I8 (iadd .i64 z6 1))] ?_)))))
  obtain ⟨x26,hx,h⟩:=ob h
  refine tkf 2 5 (I8 x26) (yn hx) (fin (j43 _ _ ?_))
  exact tn (kl0 _ _ ⟨n,ls n,x26,(wr (wr z7 (imul .i64 2 z6) x23) (iadd .i64 (imul .i64 2 z6) 1) x25),h,(hs.conv rfl),eg⟩)
  refine tb 1 12 (df hc) (fj j14 s13 (cf (xexit (tx (tx (iH ?_))))))
  obtain rfl:=of_some h
  exact exq_n (nn0 _ _ ⟨(hs.conv rfl),eg⟩)
 clear hs h hy
 rintro a w ⟨hs,g11,rfl⟩
 have h:=hk0
 refine T s7 (xs fun _ s44=>(xn 2 fun _ j45=>(tkt 0 62 _ (yWe 70 hs 0 .grow) (so 1 (oWe 70 .i32 y8 hs 2 fun w kp hs=>(fj j45 s44 (xret ?_)))))))
 obtain rfl:=of_some h
 exact qq _ _ (pr (rr [.cell 2 70] [ag .i32 y8] (.cons (rcN 256 hs 2 rfl (enc_len _ _)) .nil)) ⟨cr,hs.none⟩)
theorem ref25_Squeeze.ok {K:Nat}{a0:Arr 256}{a1:Int}{r0:Arr 256}(h:ref25_Squeeze.f K a0 a1=some r0) (w0:World):Ret Tryz.prog 49 #[ag .i32 a0,I8 a1] w0 (ag .i32 r0):=by
 refine calls_k Tryz.func49 rfl fun Q qq=>?_
 have hs:=St.start w0
 refine wc (a':=(fu 29 [ag .i32 a0,I8 a1])) (xs fun _ s1=>(xn 2 fun _ j2=>(so 0 (oBe 2 70 .i32 a0 hs fun b1 w gw hs=>(so 1 (oNe 4 70 .i32 (zeroA 256) hs fun b2 w gw hs=>?_))))))
 refine fj j2 s1 (xs fun _ s3=>(xs fun _ s4=>(xn 6 fun _ j5=>(qo 0 6 (I8 a1) ?_))))
 obtain ⟨hc,h⟩|⟨hc,h⟩:=of_if h
 refine tb 1 7 (dt hc) ?_
 refine nq 2 [(8,.bool true),(9,undef),(10,undef),(11,.bool true)] (fj j5 s4 (ct (xs fun _ s6=>(xn 2 fun _ j7=>(qo 0 12 (ag .i32 (zeroA 256)) (so 1 (oWe 70 .i32 (zeroA 256) hs 0 fun w kp hs=>(fj j7 s6 (xret (tr ?_))))))))))
 obtain rfl:=of_some h
 exact qq _ _ (pr (rr [.cell 4 70] [ag .i32 (zeroA 256)] (.cons (rcN 256 hs 0 rfl (enc_len _ _)) .nil)) ⟨cr,hs.none⟩)
 refine tb 1 7 (df hc) (nq 2 [(8,.bool false),(9,I8 a1)] ?_)
 obtain ⟨hc,h⟩|⟨hc,h⟩:=of_if h
 refine tb 4 10 (dt hc) ?_
 refine qo 5 11 (.bool true) (fj j5 s4 (ct (xs fun _ s8=>(xn 2 fun _ j9=>(qo 0 12 (ag .i32 (zeroA 256)) (so 1 (oWe 70 .i32 (zeroA 256) hs 0 fun w kp hs=>(fj j9 s8 (xret (tr ?_))))))))))
 obtain rfl:=of_some h
 exact qq _ _ (pr (rr [.cell 4 70] [ag .i32 (zeroA 256)] (.cons (rcN 256 hs 0 rfl (enc_len _ _)) .nil)) ⟨cr,hs.none⟩)
 refine tb 4 10 (df hc) (qo 5 11 (.bool false) (fj j5 s4 (cf (xk (T s3 (xs fun _ s10=>(xs fun _ s11=>(xn 1 fun _ j12=>(qo 0 5 (I8 0) (fj j12 s11 (?_)))))))))))
 obtain ⟨y5,hy,hk0⟩:=ob h
 refine wp_exq (N:=fun a w=>St w0 [] [.blk b2 (enc .i32 (zeroA 256)) 70,.blk b1 (enc .i32 y5) 70] [] w∧∃ g14,a=fr g14 31 [(2,[P0 b1]),(4,[P0 b2])]) (fun N0 nn0=>?_) ?_
 clear hk0
 refine xb ?_
 refine wp_loop_k (fun n a w=>∃ z3 z4,ref25_Squeeze.l0 K n a1 z3 z4=some y5∧St w0 [] [.blk b2 (enc .i32 (zeroA 256)) 70,.blk b1 (enc .i32 z4) 70] [] w∧∃ g13,a=fr g13 31 [(1,[I8 a1,P0 b1]),(4,[P0 b2,I8 z3])]) K ⟨0,a0,hy,hs.conv rfl,eg⟩ ?_
 clear hs h hy
 rintro n a w ⟨z3,z4,h,hs,g13,rfl⟩ KL0 kl0
 cases n with
 | zero=>exact nomatch (show none=some _ from h)
 | succ n=>
  refine xs fun _ s15=>(xs fun _ s16=>(xn 2 fun _ j17=>(qo 0 13 (I8 z3) ?_)))
  obtain ⟨hc,h⟩|⟨hc,h⟩:=of_if h
  refine tb 1 14 (dt hc) ?_
  refine fj j17 s16 (ct (xk (T s15 (xs fun _ s18=>(xb ?_)))))
  refine rg [13] (fun k=>True) 14 fun _ j19=>?_
  have hs:=hs.drawn1
  refine gq 0 17 (I8 z3) (gq 1 18 (I8 z3) ?_)
  obtain ⟨i0_20,i1_20,h⟩:=oc2 h
  refine tgf 2 19 (P1 b1 z3) (yi 70 21 256 1 .i64 z3 i0_20 i1_20) (tgt 3 20 _ (yA hs 1 21 z3 rfl i0_20 i1_20 .grow) (gq 4 21 (I4 (imul .i32 2 (rd z4 z3))) (gq 5 22 (I8 a1) ?_)))
  obtain ⟨h0,h⟩:=oc h
  refine tgf 6 23 (I4 (ishl .i32 (imul .i32 2 (rd z4 z3)) a1)) (ysl 21 .i64 h0) (gq 7 24 (I4 (iadd .i32 (ishl .i32 (imul .i32 2 (rd z4 z3)) a1) 3329)) (gq 8 25 (I4 (iquo .i32 (iadd .i32 (ishl .i32 (imul .i32 2 (rd z4 z3)) a1) 3329) 6658)) (gq 9 26 (I8 a1) ?_)))
  obtain ⟨h0,h⟩:=oc h
  refine tgf 10 27 (I4 (ishl .i32 1 a1)) (ysl 21 .i64 h0) ?_
  obtain ⟨h0,h⟩:=oc h
  refine tgf 11 28 (I4 (irem .i32 (iquo .i32 (iadd .i32 (ishl .i32 (imul .i32 2 (rd z4 z3)) a1) 3329) 6658) (ishl .i32 1 a1))) (yr 21 h0) ?_
  obtain ⟨i0_21,i1_21,h⟩:=oc2 h
  refine tgf 12 29 (P1 b1 z3) (yi 70 21 256 1 .i64 z3 i0_21 i1_21) ?_
  obtain ⟨x6,hx,h⟩:=ob h
  refine go 13 (oA 21 x6 z3 hs 1 rfl (by cases hx; kernel_rfl) i0_21 i1_21 fun w kp hs=>⟨⟨fun hf=>absurd hf (by decide),.all _ _⟩,?_⟩)
  refine gf (j19 _ _ ?_)
  refine iN (T s18 (xn 3 fun _ j22=>?_))
  refine nq 0 [(15,I8 z3),(16,I8 (iadd .i64 z3 1))] ?_
  obtain ⟨x7,hx,h⟩:=ob h
  refine tkf 2 5 (I8 x7) (yn hx) (fin (j22 _ _ ?_))
  exact tn (kl0 _ _ ⟨n,ls n,x7,(wr z4 z3 x6),h,(hs.conv rfl),eg⟩)
  refine tb 1 14 (df hc) (fj j17 s16 (cf (xexit (tx (tx (iH ?_))))))
  obtain rfl:=of_some h
  exact exq_n (nn0 _ _ ⟨(hs.conv rfl),eg⟩)
 clear hs h hy
 rintro a w ⟨hs,g14,rfl⟩
 have h:=hk0
 refine T s10 (xs fun _ s23=>(xn 2 fun _ j24=>(tkt 0 30 _ (yWe 70 hs 1 .grow) (so 1 (oWe 70 .i32 y5 hs 0 fun w kp hs=>(fj j24 s23 (xret ?_)))))))
 obtain rfl:=of_some h
 exact qq _ _ (pr (rr [.cell 4 70] [ag .i32 y5] (.cons (rcN 256 hs 0 rfl (enc_len _ _)) .nil)) ⟨cr,hs.none⟩)
end Go.Proofs.YtemdbgmldljbpaaGreatDoor

/- own -/
set_option linter.unusedVariables false
set_option linter.unusedSimpArgs false
set_option maxRecDepth 100000
set_option maxHeartbeats 4000000
namespace Go.Proofs.YtemdbgmldljbpaaGreatDoor
open Go.Mx
attribute [local irreducible] wpOp
theorem ref26_Encrypt.ok {K:Nat}{a0_0 a0_1 a0_2 a0_3 a0_4:Int}{a1 a2 a3 r0:List Int}{r1:Int}{a1_A:Option Addr}{a1_n a1_c:Nat}{a2_A:Option Addr}{a2_n a2_c:Nat}{a3_A:Option Addr}{a3_n a3_c:Nat}(h:ref26_Encrypt.f K a0_0 a0_1 a0_2 a0_3 a0_4 a1 a2 a3=some (r0,r1)) (w0:World) (hp1:RowL CB w0 a1_A a1_n a1_c a1) (hp2:RowL CB w0 a2_A a2_n a2_c a2) (hp3:RowL CB w0 a3_A a3_n a3_c a3):Calls Tryz.prog 25 #[.agg #[I8 a0_0,I8 a0_1,I8 a0_2,I8 a0_3,I8 a0_4],.slice a1_A a1_n a1_c,.slice a2_A a2_n a2_c,.slice a3_A a3_n a3_c] w0 fun e w'=>∃ h:(Option Addr × Nat × Nat),e = .returned (.tuple #[.slice h.1 h.2.1 h.2.2,I8 r1])∧St w0 [] [.ownL CB h.1 h.2.1 h.2.2 r0 5] [] w':=by
 refine calls_k Tryz.func25 rfl fun Q qq=>?_
 have hs:=St.startR (all_cons (RowP.ent hp1) (all_cons (RowP.ent hp2) (all_cons (RowP.ent hp3) all_nil)))
 refine wc (a':=(fu 154 [.agg #[I8 a0_0,I8 a0_1,I8 a0_2,I8 a0_3,I8 a0_4],.slice a1_A a1_n a1_c,.slice a2_A a2_n a2_c,.slice a3_A a3_n a3_c])) (xs fun _ s1=>(xn 3 fun _ j2=>(so 0 (oBa 4 23 hs [I8 a0_0,I8 a0_1,I8 a0_2,I8 a0_3,I8 a0_4] fun b1 w gw hs=>(nq 1 [(8,.slice none 0 0),(9,I8 0)] ?_)))))
 refine fj j2 s1 (xs fun _ s3=>(xn 9 fun _ j4=>(tkt 0 28 _ (yWs 5 23 hs 0 .grow) ?_)))
 obtain ⟨⟨r2,r3,r4⟩,hg,h⟩:=ob h
 refine so 1 (oC 29 hs (ref26_Sizes.ok hg _) fun w gw hs=>?_)
 refine nq 2 [(27,.tuple #[I8 r2,I8 r3,I8 r4]),(30,I8 r2),(31,I8 r3),(32,I8 r4),(10,I8 r2),(11,I8 r3),(12,I8 r4)] (fj j4 s3 (xs fun _ s5=>(xs fun _ s6=>(xn 2 fun _ j7=>(qo 0 33 (I8 r2) ?_)))))
 obtain ⟨hc,h⟩|⟨hc,h⟩:=of_if h
 refine tb 1 34 (et hc) ?_
 refine fj j7 s6 (ct (xs fun _ s8=>(xn 2 fun _ j9=>(nq 0 [(8,.slice none 0 0),(9,I8 9)] (fj j9 s8 (xret (tr ?_)))))))
 obtain ⟨rfl,rfl⟩:=os2 h
 have hs:=hs.addNilL CB 5
 exact qq _ _ (pt [8,9] [.slice none 0 0,I8 9] ⟨⟨none,0,0⟩,cr,(pz (dr [1,0] hs))⟩)
 refine tb 1 34 (ef hc) (fj j7 s6 (cf (xk (T s5 (xs fun _ s10=>(xs fun _ s11=>(xn 4 fun _ j12=>(qo 0 35 (.slice a1_A a1_n a1_c) (tkf 1 36 (I8 (a1.length:Int)) (yl (rR 0 hs)) (qo 2 37 (I8 r2) ?_))))))))))
 obtain ⟨hc,h⟩|⟨hc,h⟩:=of_if h
 refine tb 3 38 (nf hc) ?_
 refine fj j12 s11 (cf (xk (T s10 (xs fun _ s13=>(xn 9 fun _ j14=>(nq 0 [(40,.slice a1_A a1_n a1_c),(41,P0 b1)] (tkt 2 42 _ (yv hs 0 0 3 rfl (by rfl) .grow) ?_)))))))
 obtain ⟨⟨r5,r6⟩,hg,h⟩:=ob h
 refine wpS.only 3 (oH 43 hs (ref26_read.ok hg _ (rR 0 hs)) ?_)
 rintro ⟨r5_A,r5_n,r5_c⟩ w gw hs
 have hs:=hs.conv (L':=[.ownL CZ r5_A r5_n r5_c r5 70,.blk b1 ([I8 a0_0,I8 a0_1,I8 a0_2,I8 a0_3,I8 a0_4]) 23]) rfl
 refine ⟨fun _=>trivial,?_⟩
 refine nq 4 [(39,.tuple #[.slice r5_A r5_n r5_c,.bool r6]),(44,.slice r5_A r5_n r5_c)] ?_
 cases r6 with
 | true=>
  have h:=of_if_t h
  refine nq 6 [(45,.bool true),(13,.slice r5_A r5_n r5_c),(14,.bool true)] (fj j14 s13 (xs fun _ s15=>(xs fun _ s16=>(xn 2 fun _ j17=>(nq 0 [(46,.bool true),(47,.bool false)] (fj j17 s16 (cf (xk (T s15 (xs fun _ s18=>(xs fun _ s19=>(xn 8 fun _ j20=>(qo 0 48 (.slice a2_A a2_n a2_c) ?_)))))))))))))
  refine tkf 1 49 (I8 (a2.length:Int)) (yl (rR 1 hs)) ?_
  obtain ⟨hc,h⟩|⟨hc,h⟩:=of_if h
  refine tb 2 50 (nf hc) ?_
  refine nq 3 [(51,.bool false),(52,.slice a3_A a3_n a3_c)] (tkf 5 53 (I8 (a3.length:Int)) (yl (rR 2 hs)) ?_)
  obtain ⟨hc,h⟩|⟨hc,h⟩:=of_if h
  refine tb 6 54 (nf hc) ?_
  refine qo 7 55 (.bool false) (fj j20 s19 (cf (xk (T s18 (xs fun _ s21=>?_)))))
  refine rg [5] (fun k=>True) 11 fun _ j22=>?_
  have hs:=hs.drawn1
  refine tgt 0 57 _ (yWs 5 23 hs 1 .grow) (gq 1 58 (.slice a1_A a1_n a1_c) (gq 2 59 (I8 r2) (gq 3 60 (I8 (isub .i64 r2 32)) ?_)))
  obtain ⟨h0,h1,h⟩:=oc2 h
  obtain ⟨h2,h⟩:=oc h
  obtain ⟨s7_A,hA⟩ : ∃ A,A=if a1_c=((isub .i64 r2 32):Int).toNat then a1_A else adr a1_A (((isub .i64 r2 32):Int).toNat*Cod.size CB):=⟨_,rfl⟩
  obtain ⟨s7_n,hn⟩ : ∃ n,n=((a1.length:Int):Int).toNat-((isub .i64 r2 32):Int).toNat:=⟨_,rfl⟩
  obtain ⟨s7_c,hc⟩ : ∃ c,c=a1_c-((isub .i64 r2 32):Int).toNat:=⟨_,rfl⟩
  refine tgf 4 61 (.slice s7_A s7_n s7_c) (ysb (C:=CB) 24 5 (some (I8 (isub .i64 r2 32))) none (isub .i64 r2 32) (a1.length:Int) (rR 0 hs) (.inr ⟨_,rfl⟩) (.inl ⟨rfl,rfl⟩) h0 h1 h2 hA hn hc) ?_
  have hs:=hs.addSub (C:=CB) 0 rfl h0 h1 h2 hA hn hc
  obtain ⟨⟨r8,r9⟩,hg,h⟩:=ob h
  refine wpG.only 5 (by kernel_rfl) (wpOp_call (d:=(some 62)) (by kernel_rfl) (fun _=>by kernel_rfl) (ref26_matrix_s.ok hg hs) ?_)
  rintro e w ⟨y10_A,y10_n,y10_c,y10_H,rfl,hs⟩
  refine ⟨_,rfl,?_⟩
  refine ⟨⟨fun hf=>absurd hf (by decide),.all _ _⟩,?_⟩
  refine gq 6 56 (.tuple #[.slice y10_A y10_n y10_c,I8 r9]) (gq 7 63 (.slice y10_A y10_n y10_c) (gq 8 64 (I8 r9) (gq 9 15 (.slice y10_A y10_n y10_c) (gq 10 16 (I8 r9) ?_))))
  refine gf (j22 _ _ (T s21 (xs fun _ s23=>(xs fun _ s24=>(xn 2 fun _ j25=>(qo 0 65 (I8 r9) ?_))))))
  obtain ⟨hc,h⟩|⟨hc,h⟩:=of_if h
  refine tb 1 66 (nf hc) ?_
  refine fj j25 s24 (cf (xk (T s23 (xs fun _ s26=>(xn 8 fun _ j27=>(qo 0 68 (P0 b1) (tkt 1 69 _ (yv hs 2 0 3 rfl (by rfl) .grow) (qo 2 70 (.pointer (some ⟨b1,1,none⟩)) (tkt 3 71 _ (yv hs 2 1 3 rfl (by rfl) .grow) ?_)))))))))
  refine qo 4 72 (.slice a3_A a3_n a3_c) ?_
  obtain ⟨r14,hg,h⟩:=ob h
  refine wpS.only 5 (oH 73 hs (ref26_row.ok hg _ (rR 4 hs)) ?_)
  rintro ⟨r14_A,r14_n,r14_c⟩ w gw hs
  have hs:=hs.conv (L':=[.ownL CZ r14_A r14_n r14_c r14 70,.ownL CS y10_A y10_n y10_c y10_H 66,.ownL CZ r5_A r5_n r5_c r5 70,.blk b1 ([I8 a0_0,I8 a0_1,I8 a0_2,I8 a0_3,I8 a0_4]) 23]) rfl
  refine ⟨fun _=>trivial,?_⟩
  obtain ⟨r15,hg,h⟩:=ob h
  refine wpS.only 6 (oH 74 hs (ref26_ntt.ok hg _ (rL 0 hs)) ?_)
  rintro ⟨r15_A,r15_n,r15_c⟩ w gw hs
  have hs:=hs.conv (L':=[.ownL CZ r15_A r15_n r15_c r15 70,.ownL CZ r14_A r14_n r14_c r14 70,.ownL CS y10_A y10_n y10_c y10_H 66,.ownL CZ r5_A r5_n r5_c r5 70,.blk b1 ([I8 a0_0,I8 a0_1,I8 a0_2,I8 a0_3,I8 a0_4]) 23]) rfl
  refine ⟨fun _=>trivial,?_⟩
  refine qo 7 17 (.slice r15_A r15_n r15_c) (fj j27 s26 (xs fun _ s28=>(xn 9 fun _ j29=>(qo 0 75 (P0 b1) (tkt 1 76 _ (yv hs 4 0 3 rfl (by rfl) .grow) (qo 2 77 (.pointer (some ⟨b1,2,none⟩)) ?_))))))
  refine tkt 3 78 _ (yv hs 4 2 3 rfl (by rfl) .grow) (nq 4 [(79,.slice a3_A a3_n a3_c),(80,P0 b1)] (tkt 6 81 _ (yv hs 4 0 3 rfl (by rfl) .grow) ?_))
  obtain ⟨r16,hg,h⟩:=ob h
  refine wpS.only 7 (oH 82 hs (ref26_row.ok hg _ (rR 4 hs)) ?_)
  rintro ⟨r16_A,r16_n,r16_c⟩ w gw hs
  have hs:=hs.conv (L':=[.ownL CZ r16_A r16_n r16_c r16 70,.ownL CZ r15_A r15_n r15_c r15 70,.ownL CZ r14_A r14_n r14_c r14 70,.ownL CS y10_A y10_n y10_c y10_H 66,.ownL CZ r5_A r5_n r5_c r5 70,.blk b1 ([I8 a0_0,I8 a0_1,I8 a0_2,I8 a0_3,I8 a0_4]) 23]) rfl
  refine ⟨fun _=>trivial,?_⟩
  refine qo 8 18 (.slice r16_A r16_n r16_c) (fj j29 s28 (xs fun _ s30=>(xn 1 fun _ j31=>(qo 0 19 (.slice none 0 0) (fj j31 s30 (xs fun _ s32=>(xs fun _ s33=>(xn 1 fun _ j34=>(qo 0 20 (I8 0) ?_)))))))))
  refine fj j34 s33 (?_)
  have hs:=hs.addNilL CB 5
  obtain ⟨y19,hy,hk0⟩:=ob h
  refine wp_exq (N:=fun a w=>∃ y19_A y19_n y19_c,St w0 [] [.ownL CB y19_A y19_n y19_c y19 5,.ownL CZ r16_A r16_n r16_c r16 70,.ownL CZ r15_A r15_n r15_c r15 70,.ownL CZ r14_A r14_n r14_c r14 70,.ownL CS y10_A y10_n y10_c y10_H 66,.ownL CZ r5_A r5_n r5_c r5 70,.blk b1 ([I8 a0_0,I8 a0_1,I8 a0_2,I8 a0_3,I8 a0_4]) 23] [.inn CZ y10_H r8,.rowL CB s7_A s7_n s7_c (subL a1 (isub .i64 r2 32) (a1.length:Int)),.rowL CB a1_A a1_n a1_c a1,.rowL CB a2_A a2_n a2_c a2,.rowL CB a3_A a3_n a3_c a3] w∧∃ g36,a=fr g36 158 [(2,[.slice a2_A a2_n a2_c,.slice a3_A a3_n a3_c,P0 b1]),(8,[.slice none 0 0,I8 0]),(13,[.slice r5_A r5_n r5_c]),(17,[.slice r15_A r15_n r15_c]),(19,[.slice y19_A y19_n y19_c])]) (fun N0 nn0=>?_) ?_
  clear hk0
  refine xb ?_
  refine wp_loop_k (fun n a w=>∃ z17 z18,∃ z18_A z18_n z18_c,ref26_Encrypt.l0 K n a0_0 a0_3 r8 r15 r16 z17 z18=some y19∧St w0 [] [.ownL CB z18_A z18_n z18_c z18 5,.ownL CZ r16_A r16_n r16_c r16 70,.ownL CZ r15_A r15_n r15_c r15 70,.ownL CZ r14_A r14_n r14_c r14 70,.ownL CS y10_A y10_n y10_c y10_H 66,.ownL CZ r5_A r5_n r5_c r5 70,.blk b1 ([I8 a0_0,I8 a0_1,I8 a0_2,I8 a0_3,I8 a0_4]) 23] [.inn CZ y10_H r8,.rowL CB s7_A s7_n s7_c (subL a1 (isub .i64 r2 32) (a1.length:Int)),.rowL CB a1_A a1_n a1_c a1,.rowL CB a2_A a2_n a2_c a2,.rowL CB a3_A a3_n a3_c a3] w∧∃ g35,a=fr g35 158 [(2,[.slice a2_A a2_n a2_c,.slice a3_A a3_n a3_c,P0 b1]),(8,[.slice none 0 0,I8 0]),(13,[.slice r5_A r5_n r5_c]),(15,[.slice y10_A y10_n y10_c]),(17,[.slice r15_A r15_n r15_c,.slice r16_A r16_n r16_c,.slice z18_A z18_n z18_c,I8 z17])]) K ⟨0,([]:List Int),none,0,0,hy,hs.conv rfl,eg⟩ ?_
  clear hs h hy
  rintro n a w ⟨z17,z18,z18_A,z18_n,z18_c,h,hs,g35,rfl⟩ KL0 kl0
  cases n with
  | zero=>exact nomatch (show none=some _ from h)
  | succ n=>
   refine xs fun _ s37=>(xs fun _ s38=>(xn 4 fun _ j39=>(nq 0 [(83,I8 z17),(84,P0 b1)] (tkt 2 85 _ (yv hs 6 0 3 rfl (by rfl) .grow) ?_))))
   obtain ⟨hc,h⟩|⟨hc,h⟩:=of_if h
   refine tb 3 86 (dt hc) ?_
   refine fj j39 s38 (ct (xk (T s37 (xs fun _ s40=>(xb (xs fun _ s41=>(xn 1 fun _ j42=>(qo 0 21 (.slice none 0 0) (fj j42 s41 (xs fun _ s43=>(xs fun _ s44=>(xn 1 fun _ j45=>(qo 0 22 (I8 0) (fj j45 s44 (?_)))))))))))))))
   have hs:=hs.addNilL CZ 70
   obtain ⟨y22,hy,hk1⟩:=ob h
   refine wp_exq (N:=fun a w=>∃ y22_A y22_n y22_c,St w0 [] [.ownL CZ y22_A y22_n y22_c y22 70,.ownL CB z18_A z18_n z18_c z18 5,.ownL CZ r16_A r16_n r16_c r16 70,.ownL CZ r15_A r15_n r15_c r15 70,.ownL CZ r14_A r14_n r14_c r14 70,.ownL CS y10_A y10_n y10_c y10_H 66,.ownL CZ r5_A r5_n r5_c r5 70,.blk b1 ([I8 a0_0,I8 a0_1,I8 a0_2,I8 a0_3,I8 a0_4]) 23] [.inn CZ y10_H r8,.rowL CB s7_A s7_n s7_c (subL a1 (isub .i64 r2 32) (a1.length:Int)),.rowL CB a1_A a1_n a1_c a1,.rowL CB a2_A a2_n a2_c a2,.rowL CB a3_A a3_n a3_c a3] w∧∃ g47,a=fr g47 158 [(2,[.slice a2_A a2_n a2_c,.slice a3_A a3_n a3_c,P0 b1]),(8,[.slice none 0 0,I8 0]),(13,[.slice r5_A r5_n r5_c]),(15,[.slice y10_A y10_n y10_c]),(17,[.slice r15_A r15_n r15_c,.slice r16_A r16_n r16_c,.slice z18_A z18_n z18_c,I8 z17,.slice y22_A y22_n y22_c])]) (fun N1 nn1=>?_) ?_
   clear hk1
   refine xb ?_
   refine wp_loop_k (fun n a w=>∃ z20 z21,∃ z21_A z21_n z21_c,ref26_Encrypt.l1 K n a0_0 r8 z17 z20 z21=some y22∧St w0 [] [.ownL CZ z21_A z21_n z21_c z21 70,.ownL CB z18_A z18_n z18_c z18 5,.ownL CZ r16_A r16_n r16_c r16 70,.ownL CZ r15_A r15_n r15_c r15 70,.ownL CZ r14_A r14_n r14_c r14 70,.ownL CS y10_A y10_n y10_c y10_H 66,.ownL CZ r5_A r5_n r5_c r5 70,.blk b1 ([I8 a0_0,I8 a0_1,I8 a0_2,I8 a0_3,I8 a0_4]) 23] [.inn CZ y10_H r8,.rowL CB s7_A s7_n s7_c (subL a1 (isub .i64 r2 32) (a1.length:Int)),.rowL CB a1_A a1_n a1_c a1,.rowL CB a2_A a2_n a2_c a2,.rowL CB a3_A a3_n a3_c a3] w∧∃ g46,a=fr g46 158 [(2,[.slice a2_A a2_n a2_c,.slice a3_A a3_n a3_c,P0 b1]),(8,[.slice none 0 0,I8 0]),(13,[.slice r5_A r5_n r5_c]),(15,[.slice y10_A y10_n y10_c]),(17,[.slice r15_A r15_n r15_c,.slice r16_A r16_n r16_c,.slice z18_A z18_n z18_c,I8 z17,.slice z21_A z21_n z21_c,I8 z20])]) K ⟨0,([]:List (Arr 256)),none,0,0,hy,hs.conv rfl,eg⟩ ?_
   clear hs h hy
   rintro n a w ⟨z20,z21,z21_A,z21_n,z21_c,h,hs,g46,rfl⟩ KL1 kl1
   cases n with
   | zero=>exact nomatch (show none=some _ from h)
   | succ n=>
    refine xs fun _ s48=>(xs fun _ s49=>(xn 4 fun _ j50=>(nq 0 [(89,I8 z20),(90,P0 b1)] (tkt 2 91 _ (yv hs 7 0 3 rfl (by rfl) .grow) ?_))))
    obtain ⟨hc,h⟩|⟨hc,h⟩:=of_if h
    refine tb 3 92 (dt hc) ?_
    refine fj j50 s49 (ct (xk (T s48 (xs fun _ s51=>(xb (xn 11 fun _ j52=>(nq 0 [(95,.slice z21_A z21_n z21_c),(96,.slice y10_A y10_n y10_c),(97,I8 z20)] ?_)))))))
    obtain ⟨h0,h1,h⟩:=oc2 h
    have i0_53:=h0
    have i1_53:=h1
    refine tkf 3 98 (PA CS y10_A z20) (yiLL (C:=CZ) 78 66 .i64 z20 (LLP.mk (rL 5 hs) (hs.innR 0 rfl)) h0 h1) ?_
    obtain ⟨s23_A,hA⟩ : ∃ A,A=(rdL CS y10_H z20).1:=⟨_,rfl⟩
    obtain ⟨s23_n,hn⟩ : ∃ n,n=(rdL CS y10_H z20).2.1:=⟨_,rfl⟩
    obtain ⟨s23_c,hc⟩ : ∃ c,c=(rdL CS y10_H z20).2.2:=⟨_,rfl⟩
    refine tkt 4 99 (.slice s23_A s23_n s23_c) (by subst hA hn hc; exact yLL (C:=CZ) 66 z20 (LLP.mk (rL 5 hs) (hs.innR 0 rfl)) i0_53 i1_53) ?_
    have hs:=hs.addInnI (C:=CZ) 0 rfl i0_53 i1_53 hA hn hc
    refine qo 5 100 (I8 z17) ?_
    obtain ⟨h0,h1,h⟩:=oc2 h
    have i0_54:=h0
    have i1_54:=h1
    refine tkf 6 101 (PA CZ s23_A z17) (yiL (C:=CZ) 66 70 .i64 z17 (rR 0 hs) h0 h1) (tkt 7 102 _ (yLA (C:=CZ) 70 z17 (rR 0 hs) rfl i0_54 i1_54) (so 8 (oLL (C:=CZ) 103 66 70 1 (ag .i32 (zeroA 256)) #[(0,ag .i32 (rdL CZ (rdLL r8 z20) z17))] [(rdL CZ (rdLL r8 z20) z17)] hs rfl rfl (by decide) (by decide) fun s24_A s24_n s24_c w gw hs=>?_)))
    obtain ⟨h0,h⟩:=oc h
    refine so 9 (oAp (C:=CZ) 104 66 66 70 1024 137438953472 hs 1 rfl (rL 0 hs) h0 (by decide) (by decide) fun s25_A s25_n s25_c w hs=>?_)
    refine qo 10 21 (.slice s25_A s25_n s25_c) (fin (j52 _ _ (iN (T s51 (xn 3 fun _ j55=>(nq 0 [(93,I8 z20),(94,I8 (iadd .i64 z20 1))] ?_))))))
    obtain ⟨x26,hx,h⟩:=ob h
    refine tkf 2 22 (I8 x26) (yn hx) (fin (j55 _ _ ?_))
    exact tn (kl1 _ _ ⟨n,ls n,x26,(z21++([(rdL CZ (rdLL r8 z20) z17)]:List (Arr 256))),s25_A,s25_n,s25_c,h,(pk [1,2,3,4,5] (dr [0,1,1,1,1,1,1,1,1] hs)),eg⟩)
    refine tb 3 92 (df hc) (fj j50 s49 (cf (xexit (tx (tx (iH ?_))))))
    obtain rfl:=of_some h
    exact exq_n (nn1 _ _ ⟨z21_A,z21_n,z21_c,(hs.conv rfl),eg⟩)
   clear hs h hy
   rintro a w ⟨y22_A,y22_n,y22_c,hs,g47,rfl⟩
   have h:=hk1
   refine T s43 (xs fun _ s56=>?_)
   obtain ⟨y28,hj,h⟩:=ob h
   refine wp_join (N:=fun a w=>∃ b27,St w0 [] [.blk b27 (enc .i32 y28) 70,.ownL CZ y22_A y22_n y22_c y22 70,.ownL CB z18_A z18_n z18_c z18 5,.ownL CZ r16_A r16_n r16_c r16 70,.ownL CZ r15_A r15_n r15_c r15 70,.ownL CZ r14_A r14_n r14_c r14 70,.ownL CS y10_A y10_n y10_c y10_H 66,.ownL CZ r5_A r5_n r5_c r5 70,.blk b1 ([I8 a0_0,I8 a0_1,I8 a0_2,I8 a0_3,I8 a0_4]) 23] [.inn CZ y10_H r8,.rowL CB s7_A s7_n s7_c (subL a1 (isub .i64 r2 32) (a1.length:Int)),.rowL CB a1_A a1_n a1_c a1,.rowL CB a2_A a2_n a2_c a2,.rowL CB a3_A a3_n a3_c a3] w∧∃ g57,a=fr g57 158 [(2,[.slice a2_A a2_n a2_c,.slice a3_A a3_n a3_c,P0 b1]),(8,[.slice none 0 0,I8 0]),(13,[.slice r5_A r5_n r5_c]),(15,[.slice y10_A y10_n y10_c]),(17,[.slice r15_A r15_n r15_c,.slice r16_A r16_n r16_c,.slice z18_A z18_n z18_c,I8 z17]),(23,[P0 b27])]) (fun N nj=>?_) ?_
   clear h
   have h:=hj
   refine rg [10] (fun k=>True) 11 fun _ j58=>?_
   have hs:=hs.drawn1
   refine gq 0 105 (.slice y22_A y22_n y22_c) (gq 1 106 (.slice r15_A r15_n r15_c) (gq 4 109 (.slice r16_A r16_n r16_c) (gq 5 110 (I8 z17) ?_)))
   obtain ⟨h0,h1,h⟩:=oc2 h
   have i0_59:=h0
   have i1_59:=h1
   refine tgf 6 111 (PA CZ r16_A z17) (yiL (C:=CZ) 66 70 .i64 z17 (rL 2 hs) h0 h1) (tgt 7 112 _ (yLA (C:=CZ) 70 z17 (rL 2 hs) rfl i0_59 i1_59) ?_)
   refine wpG.many [2,9] (by kernel_rfl) (by decide) (forall_cons ?_ (forall_cons ?_ forall_nil))
   obtain ⟨r29,hg,h⟩:=ob h
   refine (oC 107 hs (ref26_dot.ok hg _ (rL 0 hs) (rL 3 hs)) ?_)
   intro w gw hs
   refine ⟨.of gw,?_⟩
   refine wpG.many [3,9] (by kernel_rfl) (by decide) (forall_cons ?_ (forall_cons ?_ forall_nil))
   obtain ⟨r30,hg,h⟩:=ob h
   refine (oC 108 hs (ref25_Back.ok hg _) ?_)
   intro w gw hs
   refine ⟨.of gw,?_⟩
   refine wpG.many [8,9] (by kernel_rfl) (by decide) (forall_cons ?_ (forall_cons ?_ forall_nil))
   obtain ⟨r31,hg,h⟩:=ob h
   refine (oC 113 hs (ref25_Add.ok hg _) ?_)
   intro w gw hs
   refine ⟨.of gw,?_⟩
   refine go 9 (oNe 23 70 .i32 (zeroA 256) hs fun b32 w gw hs=>⟨.of gw,?_⟩)
   refine go 10 (oWe 70 .i32 r31 hs 0 fun w kp hs=>⟨⟨fun hf=>absurd hf (by decide),.all _ _⟩,?_⟩)
   refine gf (j58 _ _ ?_)
   obtain rfl:=of_some h
   exact nj _ _ ⟨b32,(hs.conv rfl),eg⟩
   refine (oN 23 70 hs (enc .i32 (zeroA 256)) (ag .i32 (zeroA 256)) ?_)
   intro b33 w gw hs
   refine ⟨.of gw,?_⟩
   obtain ⟨r34,hg,h⟩:=ob h
   refine go 8 (oC 113 hs (ref25_Add.ok hg _) fun w gw hs=>⟨.of gw,?_⟩)
   refine go 10 (oWe 70 .i32 r34 hs 0 fun w kp hs=>⟨⟨fun hf=>absurd hf (by decide),.all _ _⟩,?_⟩)
   refine gf (j58 _ _ ?_)
   obtain rfl:=of_some h
   exact nj _ _ ⟨b33,(hs.conv rfl),eg⟩
   refine (oN 23 70 hs (enc .i32 (zeroA 256)) (ag .i32 (zeroA 256)) ?_)
   intro b35 w gw hs
   refine ⟨.of gw,?_⟩
   obtain ⟨r36,hg,h⟩:=ob h
   refine go 3 (oC 108 hs (ref25_Back.ok hg _) fun w gw hs=>⟨.of gw,?_⟩)
   obtain ⟨r37,hg,h⟩:=ob h
   refine go 8 (oC 113 hs (ref25_Add.ok hg _) fun w gw hs=>⟨.of gw,?_⟩)
   refine go 10 (oWe 70 .i32 r37 hs 0 fun w kp hs=>⟨⟨fun hf=>absurd hf (by decide),.all _ _⟩,?_⟩)
   refine gf (j58 _ _ ?_)
   obtain rfl:=of_some h
   exact nj _ _ ⟨b35,(hs.conv rfl),eg⟩
   refine (oN 23 70 hs (enc .i32 (zeroA 256)) (ag .i32 (zeroA 256)) ?_)
   intro b38 w gw hs
   refine ⟨.of gw,?_⟩
   obtain ⟨r39,hg,h⟩:=ob h
   refine go 2 (oC 107 hs (ref26_dot.ok hg _ (rL 1 hs) (rL 4 hs)) fun w gw hs=>⟨.of gw,?_⟩)
   obtain ⟨r40,hg,h⟩:=ob h
   refine go 3 (oC 108 hs (ref25_Back.ok hg _) fun w gw hs=>⟨.of gw,?_⟩)
   obtain ⟨r41,hg,h⟩:=ob h
   refine go 8 (oC 113 hs (ref25_Add.ok hg _) fun w gw hs=>⟨.of gw,?_⟩)
   refine go 10 (oWe 70 .i32 r41 hs 0 fun w kp hs=>⟨⟨fun hf=>absurd hf (by decide),.all _ _⟩,?_⟩)
   refine gf (j58 _ _ ?_)
   obtain rfl:=of_some h
   exact nj _ _ ⟨b38,(hs.conv rfl),eg⟩
   clear hj hs
   rintro a w ⟨b27,hs,g57,rfl⟩
   refine T s56 (?_)
   refine rg [8] (fun k=>True) 10 fun _ j60=>?_
   have hs:=hs.drawn1
   refine gq 0 114 (.slice z18_A z18_n z18_c) ?_
   refine wpG.take [1,4,7,8,9] 1 true (some 115) (ag .i32 y28) (by kernel_rfl) (by kernel_rfl) (yWe 70 hs 0 .grow) ?_
   refine gq 2 116 (.pointer (some ⟨b1,3,none⟩)) ?_
   refine wpG.take [3,4,7,8,9] 3 true (some 117) (I8 a0_3) (by kernel_rfl) (by kernel_rfl) (yv hs 8 3 3 rfl (by rfl) .grow) ?_
   refine gq 5 119 (.pointer (some ⟨b1,3,none⟩)) ?_
   refine wpG.take [6,7,8,9] 6 true (some 120) (I8 a0_3) (by kernel_rfl) (by kernel_rfl) (yv hs 8 3 3 rfl (by rfl) .grow) ?_
   obtain ⟨r42,hg,h⟩:=ob h
   refine go 4 (oC 118 hs (ref25_Squeeze.ok hg _) fun w gw hs=>⟨.of gw,?_⟩)
   obtain ⟨r43,hg,h⟩:=ob h
   refine wpG.only 7 (by kernel_rfl) (oH 121 hs (ref25_Pack.ok hg _) ?_)
   rintro ⟨r43_A,r43_n,r43_c⟩ w gw hs
   have hs:=hs.conv (L':=[.ownL CB r43_A r43_n r43_c r43 5,.blk b27 (enc .i32 y28) 70,.ownL CZ y22_A y22_n y22_c y22 70,.ownL CB z18_A z18_n z18_c z18 5,.ownL CZ r16_A r16_n r16_c r16 70,.ownL CZ r15_A r15_n r15_c r15 70,.ownL CZ r14_A r14_n r14_c r14 70,.ownL CS y10_A y10_n y10_c y10_H 66,.ownL CZ r5_A r5_n r5_c r5 70,.blk b1 ([I8 a0_0,I8 a0_1,I8 a0_2,I8 a0_3,I8 a0_4]) 23]) rfl
   refine ⟨.of gw,?_⟩
   obtain ⟨h0,h⟩:=oc h
   refine go 8 (oAp (C:=CB) 122 24 24 5 1 140737488355328 hs 3 rfl (rL 0 hs) h0 (by decide) (by decide) fun s44_A s44_n s44_c w hs=>⟨⟨fun hf=>absurd hf (by decide),.all _ _⟩,?_⟩)
   refine gq 9 19 (.slice s44_A s44_n s44_c) (gf (j60 _ _ ?_))
   refine iN (T s40 (xn 3 fun _ j61=>?_))
   refine nq 0 [(87,I8 z17),(88,I8 (iadd .i64 z17 1))] ?_
   obtain ⟨x45,hx,h⟩:=ob h
   refine tkf 2 20 (I8 x45) (yn hx) (fin (j61 _ _ ?_))
   exact tn (kl0 _ _ ⟨n,ls n,x45,(z18++r43),s44_A,s44_n,s44_c,h,(dr [0,0,0,1,1,1,1,1,1,1] hs),eg⟩)
   refine tb 3 86 (df hc) (fj j39 s38 (cf (xexit (tx (tx (iH ?_))))))
   obtain rfl:=of_some h
   exact exq_n (nn0 _ _ ⟨z18_A,z18_n,z18_c,(hs.conv rfl),eg⟩)
  clear hs h hy
  rintro a w ⟨y19_A,y19_n,y19_c,hs,g36,rfl⟩
  have h:=hk0
  refine T s32 (xs fun _ s62=>(xn 1 fun _ j63=>(so 0 (oNe 24 70 .i32 (zeroA 256) hs fun b46 w gw hs=>(fj j63 s62 (xs fun _ s64=>(xs fun _ s65=>(xn 1 fun _ j66=>(qo 0 25 (I8 0) (fj j66 s65 (?_)))))))))))
  obtain ⟨y49,hy,hk2⟩:=ob h
  refine wp_exq (N:=fun a w=>St w0 [] [.blk b46 (enc .i32 y49) 70,.ownL CB y19_A y19_n y19_c y19 5,.ownL CZ r16_A r16_n r16_c r16 70,.ownL CZ r15_A r15_n r15_c r15 70,.ownL CZ r14_A r14_n r14_c r14 70,.ownL CS y10_A y10_n y10_c y10_H 66,.ownL CZ r5_A r5_n r5_c r5 70,.blk b1 ([I8 a0_0,I8 a0_1,I8 a0_2,I8 a0_3,I8 a0_4]) 23] [.inn CZ y10_H r8,.rowL CB s7_A s7_n s7_c (subL a1 (isub .i64 r2 32) (a1.length:Int)),.rowL CB a1_A a1_n a1_c a1,.rowL CB a2_A a2_n a2_c a2,.rowL CB a3_A a3_n a3_c a3] w∧∃ g68,a=fr g68 158 [(3,[.slice a3_A a3_n a3_c,P0 b1]),(8,[.slice none 0 0,I8 0]),(13,[.slice r5_A r5_n r5_c]),(17,[.slice r15_A r15_n r15_c]),(19,[.slice y19_A y19_n y19_c]),(24,[P0 b46])]) (fun N2 nn2=>?_) ?_
  clear hk2
  refine xb ?_
  refine wp_loop_k (fun n a w=>∃ z47 z48,ref26_Encrypt.l2 K n a2 z47 z48=some y49∧St w0 [] [.blk b46 (enc .i32 z48) 70,.ownL CB y19_A y19_n y19_c y19 5,.ownL CZ r16_A r16_n r16_c r16 70,.ownL CZ r15_A r15_n r15_c r15 70,.ownL CZ r14_A r14_n r14_c r14 70,.ownL CS y10_A y10_n y10_c y10_H 66,.ownL CZ r5_A r5_n r5_c r5 70,.blk b1 ([I8 a0_0,I8 a0_1,I8 a0_2,I8 a0_3,I8 a0_4]) 23] [.inn CZ y10_H r8,.rowL CB s7_A s7_n s7_c (subL a1 (isub .i64 r2 32) (a1.length:Int)),.rowL CB a1_A a1_n a1_c a1,.rowL CB a2_A a2_n a2_c a2,.rowL CB a3_A a3_n a3_c a3] w∧∃ g67,a=fr g67 158 [(2,[.slice a2_A a2_n a2_c,.slice a3_A a3_n a3_c,P0 b1]),(8,[.slice none 0 0,I8 0]),(13,[.slice r5_A r5_n r5_c]),(17,[.slice r15_A r15_n r15_c]),(19,[.slice y19_A y19_n y19_c]),(24,[P0 b46,I8 z47])]) K ⟨0,(zeroA 256),hy,hs.conv rfl,eg⟩ ?_
  clear hs h hy
  rintro n a w ⟨z47,z48,h,hs,g67,rfl⟩ KL2 kl2
  cases n with
  | zero=>exact nomatch (show none=some _ from h)
  | succ n=>
   refine xs fun _ s69=>(xs fun _ s70=>(xn 2 fun _ j71=>(qo 0 123 (I8 z47) ?_)))
   obtain ⟨hc,h⟩|⟨hc,h⟩:=of_if h
   refine tb 1 124 (dt hc) ?_
   refine fj j71 s70 (ct (xk (T s69 (xs fun _ s72=>(xb (xn 6 fun _ j73=>(nq 0 [(127,I8 z47),(128,.slice a2_A a2_n a2_c),(129,I8 z47)] ?_)))))))
   obtain ⟨r50,hg,h⟩:=ob h
   refine so 3 (oC 130 hs (ref26_bit.ok hg _ (rR 3 hs)) fun w gw hs=>?_)
   obtain ⟨i0_74,i1_74,h⟩:=oc2 h
   refine tkf 4 131 (P1 b46 z47) (yi 70 21 256 1 .i64 z47 i0_74 i1_74) (so 5 (oA 21 r50 z47 hs 0 rfl (by kernel_rfl) i0_74 i1_74 fun w kp hs=>(fin (j73 _ _ (iN (T s72 (xn 3 fun _ j75=>(nq 0 [(125,I8 z47),(126,I8 (iadd .i64 z47 1))] ?_))))))))
   obtain ⟨x51,hx,h⟩:=ob h
   refine tkf 2 25 (I8 x51) (yn hx) (fin (j75 _ _ ?_))
   exact tn (kl2 _ _ ⟨n,ls n,x51,(wr z48 z47 r50),h,(hs.conv rfl),eg⟩)
   refine tb 1 124 (df hc) (fj j71 s70 (cf (xexit (tx (tx (iH ?_))))))
   obtain rfl:=of_some h
   exact exq_n (nn2 _ _ ⟨(hs.conv rfl),eg⟩)
  clear hs h hy
  rintro a w ⟨hs,g68,rfl⟩
  have h:=hk2
  refine T s64 (xs fun _ s76=>?_)
  obtain ⟨y53,hj,h⟩:=ob h
  refine wp_join (N:=fun a w=>∃ b52,St w0 [] [.blk b52 (enc .i32 y53) 70,.blk b46 (enc .i32 y49) 70,.ownL CB y19_A y19_n y19_c y19 5,.ownL CZ r16_A r16_n r16_c r16 70,.ownL CZ r15_A r15_n r15_c r15 70,.ownL CZ r14_A r14_n r14_c r14 70,.ownL CS y10_A y10_n y10_c y10_H 66,.ownL CZ r5_A r5_n r5_c r5 70,.blk b1 ([I8 a0_0,I8 a0_1,I8 a0_2,I8 a0_3,I8 a0_4]) 23] [.inn CZ y10_H r8,.rowL CB s7_A s7_n s7_c (subL a1 (isub .i64 r2 32) (a1.length:Int)),.rowL CB a1_A a1_n a1_c a1,.rowL CB a2_A a2_n a2_c a2,.rowL CB a3_A a3_n a3_c a3] w∧∃ g77,a=fr g77 158 [(4,[P0 b1]),(8,[.slice none 0 0,I8 0]),(19,[.slice y19_A y19_n y19_c]),(24,[P0 b46]),(26,[P0 b52])]) (fun N nj=>?_) ?_
  clear h
  have h:=hj
  refine rg [14] (fun k=>True) 15 fun _ j78=>?_
  have hs:=hs.drawn1
  refine gq 0 132 (.slice r5_A r5_n r5_c) (gq 1 133 (.slice r15_A r15_n r15_c) (gq 4 136 (.pointer (some ⟨b1,2,none⟩)) (tgt 5 137 _ (yv hs 7 2 3 rfl (by rfl) .grow) (gq 6 138 (.slice a3_A a3_n a3_c) ?_))))
  refine gq 7 139 (P0 b1) (tgt 8 140 _ (yv hs 7 0 3 rfl (by rfl) .grow) (gq 9 141 (I8 (imul .i64 2 a0_0)) (gq 10 142 (U1 (iconv .u8 (imul .i64 2 a0_0))) ?_)))
  refine wpG.many [2,13] (by kernel_rfl) (by decide) (forall_cons ?_ (forall_cons ?_ forall_nil))
  obtain ⟨r54,hg,h⟩:=ob h
  refine (oC 134 hs (ref26_dot.ok hg _ (rL 6 hs) (rL 3 hs)) ?_)
  intro w gw hs
  refine ⟨.of gw,?_⟩
  refine wpG.many [3,13] (by kernel_rfl) (by decide) (forall_cons ?_ (forall_cons ?_ forall_nil))
  obtain ⟨r55,hg,h⟩:=ob h
  refine (oC 135 hs (ref25_Back.ok hg _) ?_)
  intro w gw hs
  refine ⟨.of gw,?_⟩
  refine wpG.many [11,13] (by kernel_rfl) (by decide) (forall_cons ?_ (forall_cons ?_ forall_nil))
  obtain ⟨r56,hg,h⟩:=ob h
  refine (oC 143 hs (ref26_Noise.ok hg _ (rR 4 hs)) ?_)
  intro w gw hs
  refine ⟨.of gw,?_⟩
  refine wpG.many [12,13] (by kernel_rfl) (by decide) (forall_cons ?_ (forall_cons ?_ forall_nil))
  obtain ⟨r57,hg,h⟩:=ob h
  refine (oC 144 hs (ref25_Add.ok hg _) ?_)
  intro w gw hs
  refine ⟨.of gw,?_⟩
  refine go 13 (oNe 26 70 .i32 (zeroA 256) hs fun b58 w gw hs=>⟨.of gw,?_⟩)
  refine go 14 (oWe 70 .i32 r57 hs 0 fun w kp hs=>⟨⟨fun hf=>absurd hf (by decide),.all _ _⟩,?_⟩)
  refine gf (j78 _ _ ?_)
  obtain rfl:=of_some h
  exact nj _ _ ⟨b58,(hs.conv rfl),eg⟩
  refine (oN 26 70 hs (enc .i32 (zeroA 256)) (ag .i32 (zeroA 256)) ?_)
  intro b59 w gw hs
  refine ⟨.of gw,?_⟩
  obtain ⟨r60,hg,h⟩:=ob h
  refine go 12 (oC 144 hs (ref25_Add.ok hg _) fun w gw hs=>⟨.of gw,?_⟩)
  refine go 14 (oWe 70 .i32 r60 hs 0 fun w kp hs=>⟨⟨fun hf=>absurd hf (by decide),.all _ _⟩,?_⟩)
  refine gf (j78 _ _ ?_)
  obtain rfl:=of_some h
  exact nj _ _ ⟨b59,(hs.conv rfl),eg⟩
  refine (oN 26 70 hs (enc .i32 (zeroA 256)) (ag .i32 (zeroA 256)) ?_)
  intro b61 w gw hs
  refine ⟨.of gw,?_⟩
  obtain ⟨r62,hg,h⟩:=ob h
  refine go 11 (oC 143 hs (ref26_Noise.ok hg _ (rR 4 hs)) fun w gw hs=>⟨.of gw,?_⟩)
  obtain ⟨r63,hg,h⟩:=ob h
  refine go 12 (oC 144 hs (ref25_Add.ok hg _) fun w gw hs=>⟨.of gw,?_⟩)
  refine go 14 (oWe 70 .i32 r63 hs 0 fun w kp hs=>⟨⟨fun hf=>absurd hf (by decide),.all _ _⟩,?_⟩)
  refine gf (j78 _ _ ?_)
  obtain rfl:=of_some h
  exact nj _ _ ⟨b61,(hs.conv rfl),eg⟩
  refine (oN 26 70 hs (enc .i32 (zeroA 256)) (ag .i32 (zeroA 256)) ?_)
  intro b64 w gw hs
  refine ⟨.of gw,?_⟩
  obtain ⟨r65,hg,h⟩:=ob h
  refine go 3 (oC 135 hs (ref25_Back.ok hg _) fun w gw hs=>⟨.of gw,?_⟩)
  obtain ⟨r66,hg,h⟩:=ob h
  refine go 11 (oC 143 hs (ref26_Noise.ok hg _ (rR 4 hs)) fun w gw hs=>⟨.of gw,?_⟩)
  obtain ⟨r67,hg,h⟩:=ob h
  refine go 12 (oC 144 hs (ref25_Add.ok hg _) fun w gw hs=>⟨.of gw,?_⟩)
  refine go 14 (oWe 70 .i32 r67 hs 0 fun w kp hs=>⟨⟨fun hf=>absurd hf (by decide),.all _ _⟩,?_⟩)
  refine gf (j78 _ _ ?_)
  obtain rfl:=of_some h
  exact nj _ _ ⟨b64,(hs.conv rfl),eg⟩
  refine (oN 26 70 hs (enc .i32 (zeroA 256)) (ag .i32 (zeroA 256)) ?_)
  intro b68 w gw hs
  refine ⟨.of gw,?_⟩
  obtain ⟨r69,hg,h⟩:=ob h
  refine go 2 (oC 134 hs (ref26_dot.ok hg _ (rL 7 hs) (rL 4 hs)) fun w gw hs=>⟨.of gw,?_⟩)
  obtain ⟨r70,hg,h⟩:=ob h
  refine go 3 (oC 135 hs (ref25_Back.ok hg _) fun w gw hs=>⟨.of gw,?_⟩)
  obtain ⟨r71,hg,h⟩:=ob h
  refine go 11 (oC 143 hs (ref26_Noise.ok hg _ (rR 4 hs)) fun w gw hs=>⟨.of gw,?_⟩)
  obtain ⟨r72,hg,h⟩:=ob h
  refine go 12 (oC 144 hs (ref25_Add.ok hg _) fun w gw hs=>⟨.of gw,?_⟩)
  refine go 14 (oWe 70 .i32 r72 hs 0 fun w kp hs=>⟨⟨fun hf=>absurd hf (by decide),.all _ _⟩,?_⟩)
  refine gf (j78 _ _ ?_)
  obtain rfl:=of_some h
  exact nj _ _ ⟨b68,(hs.conv rfl),eg⟩
  clear hj hs
  rintro a w ⟨b52,hs,g77,rfl⟩
  refine T s76 (xs fun _ s79=>?_)
  refine rg [4] (fun k=>True) 5 fun _ j80=>?_
  have hs:=hs.drawn1
  refine tgt 0 145 _ (yWe 70 hs 0 .grow) (tgt 1 146 _ (yWe 70 hs 1 .grow) ?_)
  obtain ⟨r73,hg,h⟩:=ob h
  refine go 2 (oC 147 hs (ref25_Widen.ok hg _) fun w gw hs=>⟨.of gw,?_⟩)
  obtain ⟨r74,hg,h⟩:=ob h
  refine go 3 (oC 148 hs (ref25_Add.ok hg _) fun w gw hs=>⟨.of gw,?_⟩)
  refine go 4 (oWe 70 .i32 r74 hs 0 fun w kp hs=>⟨⟨fun hf=>absurd hf (by decide),.all _ _⟩,?_⟩)
  refine gf (j80 _ _ (T s79 (xs fun _ s81=>?_)))
  refine rg [8] (fun k=>True) 11 fun _ j82=>?_
  have hs:=hs.drawn1
  refine gq 0 149 (.slice y19_A y19_n y19_c) ?_
  refine wpG.take [1,4,7,8,9,10] 1 true (some 150) (ag .i32 r74) (by kernel_rfl) (by kernel_rfl) (yWe 70 hs 0 .grow) ?_
  refine gq 2 151 (.pointer (some ⟨b1,4,none⟩)) ?_
  refine wpG.take [3,4,7,8,9,10] 3 true (some 152) (I8 a0_4) (by kernel_rfl) (by kernel_rfl) (yv hs 8 4 3 rfl (by rfl) .grow) ?_
  refine gq 5 154 (.pointer (some ⟨b1,4,none⟩)) ?_
  refine wpG.take [6,7,8,9,10] 6 true (some 155) (I8 a0_4) (by kernel_rfl) (by kernel_rfl) (yv hs 8 4 3 rfl (by rfl) .grow) ?_
  obtain ⟨r75,hg,h⟩:=ob h
  refine go 4 (oC 153 hs (ref25_Squeeze.ok hg _) fun w gw hs=>⟨.of gw,?_⟩)
  obtain ⟨r76,hg,h⟩:=ob h
  refine wpG.only 7 (by kernel_rfl) (oH 156 hs (ref25_Pack.ok hg _) ?_)
  rintro ⟨r76_A,r76_n,r76_c⟩ w gw hs
  have hs:=hs.conv (L':=[.ownL CB r76_A r76_n r76_c r76 5,.blk b52 (enc .i32 r74) 70,.blk b46 (enc .i32 y49) 70,.ownL CB y19_A y19_n y19_c y19 5,.ownL CZ r16_A r16_n r16_c r16 70,.ownL CZ r15_A r15_n r15_c r15 70,.ownL CZ r14_A r14_n r14_c r14 70,.ownL CS y10_A y10_n y10_c y10_H 66,.ownL CZ r5_A r5_n r5_c r5 70,.blk b1 ([I8 a0_0,I8 a0_1,I8 a0_2,I8 a0_3,I8 a0_4]) 23]) rfl
  refine ⟨.of gw,?_⟩
  obtain ⟨h0,h⟩:=oc h
  refine go 8 (oAp (C:=CB) 157 24 24 5 1 140737488355328 hs 3 rfl (rL 0 hs) h0 (by decide) (by decide) fun s77_A s77_n s77_c w hs=>⟨⟨fun hf=>absurd hf (by decide),.all _ _⟩,?_⟩)
  refine gq 9 8 (.slice s77_A s77_n s77_c) (gq 10 9 (I8 0) (gf (j82 _ _ (T s81 (xret ?_)))))
  obtain ⟨rfl,rfl⟩:=os2 h
  exact qq _ _ (pt [8,9] [.slice s77_A s77_n s77_c,I8 0] ⟨⟨s77_A,s77_n,s77_c⟩,cr,(pz (dr [0,0,0,1,0,0,0,0,0,0] hs))⟩)
  refine tb 1 66 (nt hc) (fj j25 s24 (ct (xs fun _ s83=>(xn 3 fun _ j84=>(nq 0 [(67,I8 r9),(8,.slice none 0 0),(9,I8 r9)] (fj j84 s83 (xret (tr ?_))))))))
  obtain ⟨rfl,rfl⟩:=os2 h
  have hs:=hs.addNilL CB 5
  exact qq _ _ (pt [8,9] [.slice none 0 0,I8 r9] ⟨⟨none,0,0⟩,cr,(pz (dr [1,0,0,0] hs))⟩)
  refine tb 6 54 (nt hc) (qo 7 55 (.bool true) (fj j20 s19 (ct (xs fun _ s85=>(xn 2 fun _ j86=>(nq 0 [(8,.slice none 0 0),(9,I8 14)] (fj j86 s85 (xret (tr ?_)))))))))
  obtain ⟨rfl,rfl⟩:=os2 h
  have hs:=hs.addNilL CB 5
  exact qq _ _ (pt [8,9] [.slice none 0 0,I8 14] ⟨⟨none,0,0⟩,cr,(pz (dr [1,0,0] hs))⟩)
  refine tb 2 50 (nt hc) (nq 3 [(51,.bool true),(52,undef),(53,undef),(54,undef),(55,.bool true)] (fj j20 s19 (ct (xs fun _ s87=>(xn 2 fun _ j88=>(nq 0 [(8,.slice none 0 0),(9,I8 14)] (fj j88 s87 (xret (tr ?_)))))))))
  obtain ⟨rfl,rfl⟩:=os2 h
  have hs:=hs.addNilL CB 5
  exact qq _ _ (pt [8,9] [.slice none 0 0,I8 14] ⟨⟨none,0,0⟩,cr,(pz (dr [1,0,0] hs))⟩)
 | false=>
  have h:=of_if_f h
  refine nq 6 [(45,.bool false),(13,.slice r5_A r5_n r5_c),(14,.bool false)] (fj j14 s13 (xs fun _ s89=>(xs fun _ s90=>(xn 2 fun _ j91=>(nq 0 [(46,.bool false),(47,.bool true)] (fj j91 s90 (ct (xs fun _ s92=>(xn 2 fun _ j93=>(nq 0 [(8,.slice none 0 0),(9,I8 10)] ?_))))))))))
  refine fj j93 s92 (xret (tr ?_))
  obtain ⟨rfl,rfl⟩:=os2 h
  have hs:=hs.addNilL CB 5
  exact qq _ _ (pt [8,9] [.slice none 0 0,I8 10] ⟨⟨none,0,0⟩,cr,(pz (dr [1,0,0] hs))⟩)
 refine tb 3 38 (nt hc) (fj j12 s11 (ct (xs fun _ s94=>(xn 2 fun _ j95=>(nq 0 [(8,.slice none 0 0),(9,I8 10)] (fj j95 s94 (xret (tr ?_))))))))
 obtain ⟨rfl,rfl⟩:=os2 h
 have hs:=hs.addNilL CB 5
 exact qq _ _ (pt [8,9] [.slice none 0 0,I8 10] ⟨⟨none,0,0⟩,cr,(pz (dr [1,0] hs))⟩)
theorem ref27_such.ok {K:Nat}{a0_0 a0_1 a0_2 a0_3 a0_4:Int}{a1:List Int}{r0:Bool}{a1_A:Option Addr}{a1_n a1_c:Nat}(h:ref27_such.f K a0_0 a0_1 a0_2 a0_3 a0_4 a1=some r0) (w0:World) (hp1:RowL CB w0 a1_A a1_n a1_c a1):Ret Tryz.prog 22 #[.agg #[I8 a0_0,I8 a0_1,I8 a0_2,I8 a0_3,I8 a0_4],.slice a1_A a1_n a1_c] w0 (.bool r0):=by
 refine calls_k Tryz.func22 rfl fun Q qq=>?_
 have hs:=St.startR (all_cons (RowP.ent hp1) all_nil)
 refine wc (a':=(fu 13 [.agg #[I8 a0_0,I8 a0_1,I8 a0_2,I8 a0_3,I8 a0_4],.slice a1_A a1_n a1_c])) (xs fun _ s1=>(xn 2 fun _ j2=>(so 0 (oBa 2 23 hs [I8 a0_0,I8 a0_1,I8 a0_2,I8 a0_3,I8 a0_4] fun b1 w gw hs=>(qo 1 4 (.bool false) ?_)))))
 refine fj j2 s1 (xs fun _ s3=>(xn 8 fun _ j4=>(tkt 0 8 _ (yWs 5 23 hs 0 .grow) (qo 1 9 (.slice a1_A a1_n a1_c) ?_))))
 obtain ⟨⟨r2,r3⟩,hg,h⟩:=ob h
 refine wpS.only 2 (oH 10 hs (ref26_Encrypt.ok hg _ (rR 0 hs) (RowL.nil _) (RowL.nil _)) ?_)
 rintro ⟨r2_A,r2_n,r2_c⟩ w gw hs
 have hs:=hs.conv (L':=[.ownL CB r2_A r2_n r2_c r2 5,.blk b1 ([I8 a0_0,I8 a0_1,I8 a0_2,I8 a0_3,I8 a0_4]) 23]) rfl
 refine ⟨fun _=>trivial,?_⟩
 refine nq 3 [(7,.tuple #[.slice r2_A r2_n r2_c,I8 r3]),(11,.slice r2_A r2_n r2_c),(12,I8 r3),(5,.slice r2_A r2_n r2_c),(6,I8 r3)] (fj j4 s3 (xs fun _ s5=>(xn 3 fun _ j6=>(nq 0 [(13,I8 r3),(14,.bool (r3 == 14)),(4,.bool (r3 == 14))] (fj j6 s5 (xret ?_))))))
 obtain rfl:=of_some h
 exact qq _ _ (pt [4] [.bool (r3 == 14)] ⟨cr,hs.none⟩)
theorem ref27_g.ok {K:Nat}{a0 a1 r0:List Int}{a0_A:Option Addr}{a0_n a0_c:Nat}{a1_A:Option Addr}{a1_n a1_c:Nat}(h:ref27_g.f K a0 a1=some r0) (w0:World) (hp0:RowL CB w0 a0_A a0_n a0_c a0) (hp1:RowL CB w0 a1_A a1_n a1_c a1):Calls Tryz.prog 24 #[.slice a0_A a0_n a0_c,.slice a1_A a1_n a1_c] w0 fun e w'=>∃ h:(Option Addr × Nat × Nat),e = .returned (.slice h.1 h.2.1 h.2.2)∧St w0 [] [.ownL CB h.1 h.2.1 h.2.2 r0 5] [] w':=by
 refine calls_k Tryz.func24 rfl fun Q qq=>?_
 have hs:=St.startR (all_cons (RowP.ent hp0) (all_cons (RowP.ent hp1) all_nil))
 refine wc (a':=(fu 14 [.slice a0_A a0_n a0_c,.slice a1_A a1_n a1_c])) (xs fun _ s1=>(xn 1 fun _ j2=>(qo 0 4 (.slice none 0 0) (fj j2 s1 (xs fun _ s3=>(xn 10 fun _ j4=>?_))))))
 refine nq 0 [(8,.slice a0_A a0_n a0_c),(9,.slice a1_A a1_n a1_c)] (so 2 (oLt (C:=CS) 10 57 24 2 (.slice none 0 0) #[(0,.slice a0_A a0_n a0_c),(1,.slice a1_A a1_n a1_c)] ([(a0_A,a0_n,a0_c),(a1_A,a1_n,a1_c)]:List HS) hs rfl (by decide) (by decide) fun s1_A s1_n s1_c w gw hs=>?_))
 obtain ⟨r2,hg,h⟩:=ob h
 refine wpS.only 3 (oH 11 hs (ref01_Join.ok hg _ (LLP.mk (rL 0 hs) (inn_cons (rR 0 hs) (inn_cons (rR 1 hs) inn_nil)))) ?_)
 rintro ⟨r2_A,r2_n,r2_c⟩ w gw hs
 have hs:=hs.conv (L':=[.ownL CB r2_A r2_n r2_c r2 5,.ownL CS s1_A s1_n s1_c ([(a0_A,a0_n,a0_c),(a1_A,a1_n,a1_c)]:List HS) 24]) rfl
 refine ⟨fun _=>trivial,?_⟩
 obtain ⟨⟨r3,r4⟩,hg,h⟩:=ob h
 refine wpS.only 4 (oH 12 hs (ref08_Sum.ok hg _ (rL 0 hs)) ?_)
 rintro ⟨r3_A,r3_n,r3_c⟩ w gw hs
 have hs:=hs.conv (L':=[.ownL CB r3_A r3_n r3_c r3 5,.ownL CB r2_A r2_n r2_c r2 5,.ownL CS s1_A s1_n s1_c ([(a0_A,a0_n,a0_c),(a1_A,a1_n,a1_c)]:List HS) 24]) rfl
 refine ⟨fun _=>trivial,?_⟩
 refine nq 5 [(7,.tuple #[.slice r3_A r3_n r3_c,I8 r4]),(13,.slice r3_A r3_n r3_c),(14,I8 r4),(5,.slice r3_A r3_n r3_c),(6,I8 r4)] (fj j4 s3 (xs fun _ s5=>(xn 2 fun _ j6=>(nq 0 [(15,.slice r3_A r3_n r3_c),(4,.slice r3_A r3_n r3_c)] (fj j6 s5 (xret ?_))))))
 obtain rfl:=of_some h
 exact qq _ _ (pt [4] [.slice r3_A r3_n r3_c] ⟨⟨r3_A,r3_n,r3_c⟩,cr,(pz (dr [1,0,0] hs))⟩)
end Go.Proofs.YtemdbgmldljbpaaGreatDoor
