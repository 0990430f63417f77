/- own -/
import Derived.Test.YtemdbgmldljbpaaGreatDoorMh
import Derived.Test.YtemdbgmldljbpaaGreatDoorProg
import Derived.Test.YtemdbgmldljbpaaGreatDoorBF0
import Derived.Test.YtemdbgmldljbpaaGreatDoorBX3
import Derived.Test.YtemdbgmldljbpaaGreatDoorBX5
import Derived.Test.YtemdbgmldljbpaaGreatDoorBX1
set_option linter.unusedVariables false
set_option linter.unusedSimpArgs false
set_option maxRecDepth 100000
set_option maxHeartbeats 4000000
namespace Go.Proofs.YtemdbgmldljbpaaGreatDoor
open Go.Mx
attribute [local irreducible] wpOp
theorem kq_Unpack.ok {K:Nat}{a0:List Int}{a1:Int}{r0:Arr 256}{r1:Bool}{a0_A:Option Addr}{a0_n a0_c:Nat}(h:kq_Unpack.f K a0 a1=some (r0,r1)) (w0:World) (hp0:RowL CB w0 a0_A a0_n a0_c a0):Ret Tryz.prog 74 #[.slice a0_A a0_n a0_c,I8 a1] w0 (.tuple #[ag .i32 r0,.bool r1]):=by
 refine calls_k Tryz.func74 rfl fun Q qq=>?_
 have hs:=St.startR (all_cons (RowP.ent hp0) all_nil)
 refine wc (a':=(fu 42 [.slice a0_A a0_n a0_c,I8 a1])) (xs fun _ s1=>(xn 2 fun _ j2=>(so 0 (oNe 4 70 .i32 (zeroA 256) hs fun b1 w gw hs=>(qo 1 5 (.bool false) ?_)))))
 refine fj j2 s1 (xs fun _ s3=>(xs fun _ s4=>(xn 13 fun _ j5=>(qo 0 9 (I8 a1) ?_))))
 obtain ⟨hc,h⟩|⟨hc,h⟩:=of_if h
 refine tb 1 10 (dt hc) ?_
 refine nq 2 [(11,.bool true),(12,undef),(13,undef),(14,.bool true),(15,.bool true),(16,undef),(17,undef),(18,undef),(19,undef),(20,undef),(21,.bool true)] (fj j5 s4 (ct (xs fun _ s6=>(xn 3 fun _ j7=>(qo 0 22 (ag .i32 (zeroA 256)) (so 1 (oWe 70 .i32 (zeroA 256) hs 0 fun w kp hs=>(qo 2 5 (.bool false) ?_))))))))
 refine fj j7 s6 (xret (tr ?_))
 obtain ⟨rfl,rfl⟩:=os2 h
 exact qq _ _ (pr (rr [.cell 4 70,.tmp 5] [ag .i32 (zeroA 256),.bool false] (.cons (rcN 256 hs 0 rfl (enc_len _ _)) (.cons rt .nil))) ⟨cr,hs.none⟩)
 refine tb 1 10 (df hc) (nq 2 [(11,.bool false),(12,I8 a1)] ?_)
 obtain ⟨hc,h⟩|⟨hc,h⟩:=of_if h
 refine tb 4 13 (dt hc) ?_
 refine nq 5 [(14,.bool true),(15,.bool true),(16,undef),(17,undef),(18,undef),(19,undef),(20,undef),(21,.bool true)] (fj j5 s4 (ct (xs fun _ s8=>(xn 3 fun _ j9=>(qo 0 22 (ag .i32 (zeroA 256)) (so 1 (oWe 70 .i32 (zeroA 256) hs 0 fun w kp hs=>(qo 2 5 (.bool false) ?_))))))))
 refine fj j9 s8 (xret (tr ?_))
 obtain ⟨rfl,rfl⟩:=os2 h
 exact qq _ _ (pr (rr [.cell 4 70,.tmp 5] [ag .i32 (zeroA 256),.bool false] (.cons (rcN 256 hs 0 rfl (enc_len _ _)) (.cons rt .nil))) ⟨cr,hs.none⟩)
 refine tb 4 13 (df hc) (nq 5 [(14,.bool false),(15,.bool false),(16,.slice a0_A a0_n a0_c)] (tkf 8 17 (I8 (a0.length:Int)) (yl (rR 0 hs)) (nq 9 [(18,I8 a1),(19,I8 (imul .i64 32 a1))] ?_)))
 obtain ⟨hc,h⟩|⟨hc,h⟩:=of_if h
 refine tb 11 20 (nf hc) ?_
 refine qo 12 21 (.bool false) (fj j5 s4 (cf (xk (T s3 (xs fun _ s10=>(xn 1 fun _ j11=>(so 0 (oNe 6 70 .i32 (zeroA 256) hs fun b2 w gw hs=>(fj j11 s10 (xs fun _ s12=>(xs fun _ s13=>(xn 5 fun _ j14=>(nq 0 [(23,.slice a0_A a0_n a0_c),(24,I8 a1)] ?_)))))))))))))
 obtain ⟨r3,hg,h⟩:=ob h
 refine wpS.only 2 (oH 25 hs (bits_Unpack.ok hg _ (rR 0 hs)) ?_)
 rintro ⟨r3_A,r3_n,r3_c⟩ w gw hs
 have hs:=hs.conv (L':=[.ownL (CI .u32) r3_A r3_n r3_c r3 112,.blk b2 (enc .i32 (zeroA 256)) 70,.blk b1 (enc .i32 (zeroA 256)) 70]) rfl
 refine ⟨fun _=>trivial,?_⟩
 refine tkf 3 26 (I8 (r3.length:Int)) (yl (rL 0 hs)) (qo 4 27 (I8 0) (fj j14 s13 (?_)))
 obtain ⟨y6,hy,hk0⟩:=ob h
 refine wp_exq (N:=fun a w=>St w0 [] [.ownL (CI .u32) r3_A r3_n r3_c r3 112,.blk b2 (enc .i32 y6) 70,.blk b1 (enc .i32 (zeroA 256)) 70] [.rowL CB a0_A a0_n a0_c a0] w∧∃ g16,a=fr g16 44 [(1,[I8 a1]),(4,[P0 b1,.bool false,P0 b2])]) (fun N0 nn0=>?_) ?_
 clear hk0
 refine xb ?_
 refine wp_loop_k (fun n a w=>∃ z4 z5,kq_Unpack.l0 K n r3 z4 z5=some y6∧St w0 [] [.ownL (CI .u32) r3_A r3_n r3_c r3 112,.blk b2 (enc .i32 z5) 70,.blk b1 (enc .i32 (zeroA 256)) 70] [.rowL CB a0_A a0_n a0_c a0] w∧∃ g15,a=fr g15 44 [(1,[I8 a1]),(4,[P0 b1,.bool false,P0 b2]),(25,[.slice r3_A r3_n r3_c,I8 (r3.length:Int),I8 z4])]) K ⟨0,(zeroA 256),hy,hs.conv rfl,eg⟩ ?_
 clear hs h hy
 rintro n a w ⟨z4,z5,h,hs,g15,rfl⟩ KL0 kl0
 cases n with
 | zero=>exact nomatch (show none=some _ from h)
 | succ n=>
  refine xs fun _ s17=>(xn 1 fun _ j18=>?_)
  obtain ⟨hc,h⟩|⟨hc,h⟩:=of_if h
  refine tb 0 28 (dt hc) ?_
  refine fj j18 s17 (xs fun _ s19=>(ct (xk (T s19 (xs fun _ s20=>(xb (xs fun _ s21=>(xn 5 fun _ j22=>(qo 0 29 (I8 z4) ?_)))))))))
  obtain ⟨h0,h1,h⟩:=oc2 h
  have i0_23:=h0
  have i1_23:=h1
  refine tkf 1 30 (PA (CI .u32) r3_A z4) (yiL (C:=(CI .u32)) 110 112 .i64 z4 (rL 0 hs) h0 h1) (tkt 2 31 _ (yL (C:=(CI .u32)) 112 z4 (rL 0 hs) rfl i0_23 i1_23) (qo 3 7 (I8 z4) ?_))
  obtain ⟨x7,hx,h⟩:=ob h
  refine tkf 4 8 (U4 x7) (yn hx) (fj j22 s21 (xn 5 fun _ j24=>(nq 0 [(32,I8 z4),(33,U4 x7),(34,I4 (iconv .i32 x7))] ?_)))
  obtain ⟨i0_25,i1_25,h⟩:=oc2 h
  refine tkf 3 35 (P1 b2 z4) (yi 70 21 256 1 .i64 z4 i0_25 i1_25) ?_
  obtain ⟨x8,hx,h⟩:=ob h
  refine so 4 (oA 21 x8 z4 hs 1 rfl (by cases hx; kernel_rfl) i0_25 i1_25 fun w kp hs=>?_)
  refine fin (j24 _ _ (iN (T s20 (xn 2 fun _ j26=>(nq 0 [(36,I8 (iadd .i64 z4 1)),(27,I8 (iadd .i64 z4 1))] (fin (j26 _ _ ?_)))))))
  exact tn (kl0 _ _ ⟨n,ls n,(iadd .i64 z4 1),(wr z5 z4 x8),h,(hs.conv rfl),eg⟩)
  refine tb 0 28 (df hc) (fj j18 s17 (xs fun _ s27=>(cf (xexit (tx (tx (iH ?_)))))))
  obtain rfl:=of_some h
  exact exq_n (nn0 _ _ ⟨(hs.conv rfl),eg⟩)
 clear hs h hy
 rintro a w ⟨hs,g16,rfl⟩
 have h:=hk0
 refine T s12 (xs fun _ s28=>(xs fun _ s29=>?_))
 refine rg [] (fun k=>True) 5 fun _ j30=>?_
 have hs:=hs.drawn1
 refine tgt 0 37 _ (yWe 70 hs 1 .grow) (gq 1 38 (I8 a1) ?_)
 obtain ⟨r9,hg,h⟩:=ob h
 refine go 2 (oC 39 hs (kq_bound.ok hg _) fun w gw hs=>⟨.of gw,?_⟩)
 obtain ⟨r10,hg,h⟩:=ob h
 cases r10 with
 | true=>
  have h:=of_if_t h
  refine go 3 (oC 40 hs (kq_below.ok hg _) fun w gw hs=>⟨.of gw,?_⟩)
  refine gq 4 41 (.bool false) (gf (j30 _ _ (T s29 (cf (xk (T s28 (xs fun _ s31=>(xn 3 fun _ j32=>(tkt 0 43 _ (yWe 70 hs 1 .grow) (so 1 (oWe 70 .i32 y6 hs 2 fun w kp hs=>?_)))))))))))
  refine qo 2 5 (.bool true) (fj j32 s31 (xret ?_))
  obtain ⟨rfl,rfl⟩:=os2 h
  exact qq _ _ (pr (rr [.cell 4 70,.tmp 5] [ag .i32 y6,.bool true] (.cons (rcN 256 hs 2 rfl (enc_len _ _)) (.cons rt .nil))) ⟨cr,hs.none⟩)
 | false=>
  have h:=of_if_f h
  refine go 3 (oC 40 hs (kq_below.ok hg _) fun w gw hs=>⟨.of gw,?_⟩)
  refine gq 4 41 (.bool true) (gf (j30 _ _ (T s29 (ct (xs fun _ s33=>(xn 3 fun _ j34=>(qo 0 42 (ag .i32 (zeroA 256)) (so 1 (oWe 70 .i32 (zeroA 256) hs 2 fun w kp hs=>?_)))))))))
  refine qo 2 5 (.bool false) (fj j34 s33 (xret (tr ?_)))
  obtain ⟨rfl,rfl⟩:=os2 h
  exact qq _ _ (pr (rr [.cell 4 70,.tmp 5] [ag .i32 (zeroA 256),.bool false] (.cons (rcN 256 hs 2 rfl (enc_len _ _)) (.cons rt .nil))) ⟨cr,hs.none⟩)
 refine tb 11 20 (nt hc) (qo 12 21 (.bool true) (fj j5 s4 (ct (xs fun _ s35=>(xn 3 fun _ j36=>(qo 0 22 (ag .i32 (zeroA 256)) (so 1 (oWe 70 .i32 (zeroA 256) hs 0 fun w kp hs=>?_))))))))
 refine qo 2 5 (.bool false) (fj j36 s35 (xret (tr ?_)))
 obtain ⟨rfl,rfl⟩:=os2 h
 exact qq _ _ (pr (rr [.cell 4 70,.tmp 5] [ag .i32 (zeroA 256),.bool false] (.cons (rcN 256 hs 0 rfl (enc_len _ _)) (.cons rt .nil))) ⟨cr,hs.none⟩)
theorem kpke_read.ok {K:Nat}{a0:List Int}{a1 a2:Int}{r0:List (Arr 256)}{r1:Bool}{a0_A:Option Addr}{a0_n a0_c:Nat}(h:kpke_read.f K a0 a1 a2=some (r0,r1)) (w0:World) (hp0:RowL CB w0 a0_A a0_n a0_c a0):Calls Tryz.prog 67 #[.slice a0_A a0_n a0_c,I8 a1,I8 a2] w0 fun e w'=>∃ h:(Option Addr × Nat × Nat),e = .returned (.tuple #[.slice h.1 h.2.1 h.2.2,.bool r1])∧St w0 [] [.ownL CZ h.1 h.2.1 h.2.2 r0 70] [] w':=by
 refine calls_k Tryz.func67 rfl fun Q qq=>?_
 have hs:=St.startR (all_cons (RowP.ent hp0) all_nil)
 refine wc (a':=(fu 41 [.slice a0_A a0_n a0_c,I8 a1,I8 a2])) (xs fun _ s1=>(xn 2 fun _ j2=>(nq 0 [(6,.slice none 0 0),(7,.bool false)] (fj j2 s1 (xs fun _ s3=>(xn 3 fun _ j4=>?_))))))
 refine nq 0 [(13,I8 a2),(14,I8 (imul .i64 32 a2))] ?_
 obtain ⟨x1,hx,h⟩:=ob h
 refine tkf 2 8 (I8 x1) (yn hx) (fj j4 s3 (xs fun _ s5=>(xn 3 fun _ j6=>(qo 0 15 (I8 a1) ?_))))
 obtain ⟨h0,h1,h⟩:=oc2 h
 refine so 1 (oMk (C:=CZ) 16 97 70 1024 137438953472 .i64 .i64 a1 hs h0 h1 (by decide) (by decide) fun s2_A s2_n s2_c w gw hs=>?_)
 refine qo 2 9 (.slice s2_A s2_n s2_c) (fj j6 s5 (xs fun _ s7=>(xs fun _ s8=>(xn 3 fun _ j9=>(qo 0 17 (.slice s2_A s2_n s2_c) (tkf 1 18 (I8 ((List.replicate (a1:Int).toNat (Cod.zero CZ)).length:Int)) (yl (rL 0 hs)) (qo 2 19 (I8 0) ?_)))))))
 refine fj j9 s8 (?_)
 obtain ⟨t0,hy,hk0⟩:=ob h
 refine wp_exq (N:=fun a w=>∃ y5,t0 = .inl y5∧St w0 [] [.ownL CZ s2_A s2_n s2_c y5 70] [.rowL CB a0_A a0_n a0_c a0] w∧∃ g11,a=fr g11 44 [(9,[.slice s2_A s2_n s2_c])]) (fun N0 nn0=>?_) ?_
 refine xb ?_
 refine wp_loop_k (fun n a w=>∃ z3 z4,kpke_read.l0 K n a0 a1 a2 x1 z3 z4=some t0∧St w0 [] [.ownL CZ s2_A s2_n s2_c z4 70] [.rowL CB a0_A a0_n a0_c a0] w∧∃ g10,a=fr g10 44 [(0,[.slice a0_A a0_n a0_c]),(2,[I8 a2]),(8,[I8 x1,.slice s2_A s2_n s2_c]),(18,[I8 ((List.replicate (a1:Int).toNat (Cod.zero CZ)).length:Int),I8 z3])]) K ⟨0,(List.replicate (a1:Int).toNat (Cod.zero CZ)),hy,hs.conv rfl,eg⟩ ?_
 clear hs h hy
 rintro n a w ⟨z3,z4,h,hs,g10,rfl⟩ KL0 kl0
 cases n with
 | zero=>exact nomatch (show none=some _ from h)
 | succ n=>
  refine xs fun _ s12=>(xn 1 fun _ j13=>?_)
  obtain ⟨hc,h⟩|⟨hc,h⟩:=of_if h
  refine tb 0 20 (dt hc) ?_
  refine fj j13 s12 (xs fun _ s14=>(ct (xk (T s14 (xs fun _ s15=>(xb (xs fun _ s16=>(xn 2 fun _ j17=>(nq 0 [(21,I8 z3),(10,I8 z3)] (fj j17 s16 (xs fun _ s18=>(xn 17 fun _ j19=>(nq 0 [(23,.slice a0_A a0_n a0_c),(24,I8 z3),(25,I8 x1),(26,I8 (imul .i64 z3 x1)),(27,I8 z3),(28,I8 (iadd .i64 z3 1)),(29,I8 x1),(30,I8 (imul .i64 (iadd .i64 z3 1) x1))] ?_)))))))))))))
  obtain ⟨h0,h1,h⟩:=oc2 h
  obtain ⟨h2,h⟩:=oc h
  obtain ⟨s6_A,hA⟩ : ∃ A,A=if a0_c=((imul .i64 z3 x1):Int).toNat then a0_A else adr a0_A (((imul .i64 z3 x1):Int).toNat*Cod.size CB):=⟨_,rfl⟩
  obtain ⟨s6_n,hn⟩ : ∃ n,n=((imul .i64 (iadd .i64 z3 1) x1):Int).toNat-((imul .i64 z3 x1):Int).toNat:=⟨_,rfl⟩
  obtain ⟨s6_c,hc⟩ : ∃ c,c=a0_c-((imul .i64 z3 x1):Int).toNat:=⟨_,rfl⟩
  refine tkf 8 31 (.slice s6_A s6_n s6_c) (ysb (C:=CB) 24 5 (some (I8 (imul .i64 z3 x1))) (some (I8 (imul .i64 (iadd .i64 z3 1) x1))) (imul .i64 z3 x1) (imul .i64 (iadd .i64 z3 1) x1) (rR 0 hs) (.inr ⟨_,rfl⟩) (.inr ⟨_,rfl⟩) h0 h1 h2 hA hn hc) ?_
  have hs:=hs.addSub (C:=CB) 0 rfl h0 h1 h2 hA hn hc
  refine qo 9 32 (I8 a2) ?_
  obtain ⟨⟨r7,r8⟩,hg,h⟩:=ob h
  refine so 10 (oC 33 hs (kq_Unpack.ok hg _ (rR 0 hs)) fun w gw hs=>?_)
  refine nq 11 [(22,.tuple #[ag .i32 r7,.bool r8]),(34,ag .i32 r7)] ?_
  cases r8 with
  | true=>
   have h:=of_if_t h
   refine qo 13 35 (.bool true) (so 14 (oNe 11 70 .i32 (zeroA 256) hs fun b9 w gw hs=>(so 15 (oWe 70 .i32 r7 hs 0 fun w kp hs=>(qo 16 12 (.bool true) (fj j19 s18 (xs fun _ s20=>(xs fun _ s21=>(xn 2 fun _ j22=>?_)))))))))
   refine nq 0 [(36,.bool true),(37,.bool false)] (fj j22 s21 (cf (xk (T s20 (xn 5 fun _ j23=>(nq 0 [(38,.slice s2_A s2_n s2_c),(39,I8 z3)] (tkt 2 40 _ (yWe 70 hs 0 .grow) ?_)))))))
   obtain ⟨h0,h1,h⟩:=oc2 h
   have i0_24:=h0
   have i1_24:=h1
   refine tkf 3 41 (PA CZ s2_A z3) (yiL (C:=CZ) 97 70 .i64 z3 (rL 1 hs) h0 h1) (so 4 (oL (C:=CZ) 70 z3 r7 hs 1 rfl i0_24 i1_24 fun w hs=>(fin (j23 _ _ (iN (T s15 (xn 2 fun _ j25=>(nq 0 [(42,I8 (iadd .i64 z3 1)),(19,I8 (iadd .i64 z3 1))] (fin (j25 _ _ ?_))))))))))
   exact tn (kl0 _ _ ⟨n,ls n,(iadd .i64 z3 1),(wrL z4 z3 r7),h,(pk [1] (dr [0,1] hs)),eg⟩)
  | false=>
   have h:=of_if_f h
   refine qo 13 35 (.bool false) (so 14 (oNe 11 70 .i32 (zeroA 256) hs fun b10 w gw hs=>(so 15 (oWe 70 .i32 r7 hs 0 fun w kp hs=>(qo 16 12 (.bool false) (fj j19 s18 (xs fun _ s26=>(xs fun _ s27=>(xn 2 fun _ j28=>?_)))))))))
   refine nq 0 [(36,.bool false),(37,.bool true)] (fj j28 s27 (ct (xs fun _ s29=>(xn 2 fun _ j30=>(nq 0 [(6,.slice none 0 0),(7,.bool false)] (fj j30 s29 (xret (tr (iR (tr (tr (iR (exq_r (tr ?_))))))))))))))
   obtain rfl:=of_some h
   obtain ⟨q0,qr0⟩:=Prod.mk.inj (of_some hk0)
   have q1:=qr0
   subst q0
   subst q1
   have hs:=hs.addNilL CZ 70
   exact qq _ _ (pt [6,7] [.slice none 0 0,.bool false] ⟨⟨none,0,0⟩,cr,(pz (dr [1,0,0] hs))⟩)
  refine tb 0 20 (df hc) (fj j13 s12 (xs fun _ s31=>(cf (xexit (tx (tx (iH ?_)))))))
  obtain rfl:=of_some h
  exact exq_n (nn0 _ _ ⟨z4,rfl,(hs.conv rfl),eg⟩)
 clear hs h hy
 rintro a w ⟨y5,rfl,hs,g11,rfl⟩
 have h:=hk0
 refine T s7 (xs fun _ s32=>(xn 3 fun _ j33=>(nq 0 [(43,.slice s2_A s2_n s2_c),(6,.slice s2_A s2_n s2_c),(7,.bool true)] (fj j33 s32 (xret ?_)))))
 obtain ⟨rfl,rfl⟩:=os2 h
 exact qq _ _ (pt [6,7] [.slice s2_A s2_n s2_c,.bool true] ⟨⟨s2_A,s2_n,s2_c⟩,cr,(pz hs)⟩)
theorem kq_Squeeze.ok {K:Nat}{a0:Arr 256}{a1:Int}{r0:Arr 256}(h:kq_Squeeze.f K a0 a1=some r0) (w0:World):Ret Tryz.prog 68 #[ag .i32 a0,I8 a1] w0 (ag .i32 r0):=by
 refine calls_k Tryz.func68 rfl fun Q qq=>?_
 have hs:=St.start w0
 refine wc (a':=(fu 30 [ag .i32 a0,I8 a1])) (xs fun _ s1=>(xn 2 fun _ j2=>(so 0 (oBe 2 70 .i32 a0 hs fun b1 w gw hs=>(so 1 (oNe 4 70 .i32 (zeroA 256) hs fun b2 w gw hs=>?_))))))
 refine fj j2 s1 (xs fun _ s3=>(xs fun _ s4=>(xn 6 fun _ j5=>(qo 0 7 (I8 a1) ?_))))
 obtain ⟨hc,h⟩|⟨hc,h⟩:=of_if h
 refine tb 1 8 (dt hc) ?_
 refine nq 2 [(9,.bool true),(10,undef),(11,undef),(12,.bool true)] (fj j5 s4 (ct (xs fun _ s6=>(xn 2 fun _ j7=>(qo 0 13 (ag .i32 (zeroA 256)) (so 1 (oWe 70 .i32 (zeroA 256) hs 0 fun w kp hs=>(fj j7 s6 (xret (tr ?_))))))))))
 obtain rfl:=of_some h
 exact qq _ _ (pr (rr [.cell 4 70] [ag .i32 (zeroA 256)] (.cons (rcN 256 hs 0 rfl (enc_len _ _)) .nil)) ⟨cr,hs.none⟩)
 refine tb 1 8 (df hc) (nq 2 [(9,.bool false),(10,I8 a1)] ?_)
 obtain ⟨hc,h⟩|⟨hc,h⟩:=of_if h
 refine tb 4 11 (dt hc) ?_
 refine qo 5 12 (.bool true) (fj j5 s4 (ct (xs fun _ s8=>(xn 2 fun _ j9=>(qo 0 13 (ag .i32 (zeroA 256)) (so 1 (oWe 70 .i32 (zeroA 256) hs 0 fun w kp hs=>(fj j9 s8 (xret (tr ?_))))))))))
 obtain rfl:=of_some h
 exact qq _ _ (pr (rr [.cell 4 70] [ag .i32 (zeroA 256)] (.cons (rcN 256 hs 0 rfl (enc_len _ _)) .nil)) ⟨cr,hs.none⟩)
 refine tb 4 11 (df hc) (qo 5 12 (.bool false) (fj j5 s4 (cf (xk (T s3 (xs fun _ s10=>(xs fun _ s11=>(xn 2 fun _ j12=>(tkt 0 14 _ (yWe 70 hs 1 .grow) (qo 1 15 (I8 0) ?_))))))))))
 refine fj j12 s11 (?_)
 obtain ⟨y5,hy,hk0⟩:=ob h
 refine wp_exq (N:=fun a w=>St w0 [] [.blk b2 (enc .i32 (zeroA 256)) 70,.blk b1 (enc .i32 y5) 70] [] w∧∃ g14,a=fr g14 32 [(2,[P0 b1]),(4,[P0 b2])]) (fun N0 nn0=>?_) ?_
 clear hk0
 refine xb ?_
 refine wp_loop_k (fun n a w=>∃ z3 z4,kq_Squeeze.l0 K n a0 a1 z3 z4=some y5∧St w0 [] [.blk b2 (enc .i32 (zeroA 256)) 70,.blk b1 (enc .i32 z4) 70] [] w∧∃ g13,a=fr g13 32 [(1,[I8 a1,P0 b1]),(4,[P0 b2]),(14,[ag .i32 a0,I8 z3])]) K ⟨0,a0,hy,hs.conv rfl,eg⟩ ?_
 clear hs h hy
 rintro n a w ⟨z3,z4,h,hs,g13,rfl⟩ KL0 kl0
 cases n with
 | zero=>exact nomatch (show none=some _ from h)
 | succ n=>
  refine xs fun _ s15=>(xn 1 fun _ j16=>?_)
  obtain ⟨hc,h⟩|⟨hc,h⟩:=of_if h
  refine tb 0 16 (dt hc) ?_
  refine fj j16 s15 (xs fun _ s17=>(ct (xk (T s17 (xs fun _ s18=>(xb (xs fun _ s19=>(xn 4 fun _ j20=>(qo 0 17 (I8 z3) ?_)))))))))
  obtain ⟨h0,h1,h⟩:=oc2 h
  refine tkf 1 18 (I4 (rd a0 z3)) (yt 70 21 .i64 h0 h1) (qo 2 5 (I8 z3) ?_)
  obtain ⟨x6,hx,h⟩:=ob h
  refine tkf 3 6 (I4 x6) (yn hx) (fj j20 s19 (?_))
  refine rg [11] (fun k=>True) 12 fun _ j21=>?_
  have hs:=hs.drawn1
  refine gq 0 19 (I8 z3) (gq 1 20 (I4 x6) (gq 2 21 (I8 a1) ?_))
  obtain ⟨h0,h⟩:=oc h
  refine tgf 3 22 (I4 (ishl .i32 x6 a1)) (ysl 21 .i64 h0) (gq 4 23 (I4 (iadd .i32 (ishl .i32 x6 a1) 1664)) (gq 5 24 (I4 (iquo .i32 (iadd .i32 (ishl .i32 x6 a1) 1664) 3329)) (gq 6 25 (I8 a1) ?_)))
  obtain ⟨h0,h⟩:=oc h
  refine tgf 7 26 (I4 (ishl .i32 1 a1)) (ysl 21 .i64 h0) (gq 8 27 (I4 (isub .i32 (ishl .i32 1 a1) 1)) (gq 9 28 (I4 (iand .i32 (iquo .i32 (iadd .i32 (ishl .i32 x6 a1) 1664) 3329) (isub .i32 (ishl .i32 1 a1) 1))) ?_))
  obtain ⟨i0_22,i1_22,h⟩:=oc2 h
  refine tgf 10 29 (P1 b1 z3) (yi 70 21 256 1 .i64 z3 i0_22 i1_22) ?_
  obtain ⟨x7,hx,h⟩:=ob h
  refine go 11 (oA 21 x7 z3 hs 1 rfl (by cases hx; kernel_rfl) i0_22 i1_22 fun w kp hs=>⟨⟨fun hf=>absurd hf (by decide),.all _ _⟩,?_⟩)
  refine gf (j21 _ _ ?_)
  refine iN (T s18 (xn 2 fun _ j23=>?_))
  refine nq 0 [(30,I8 (iadd .i64 z3 1)),(15,I8 (iadd .i64 z3 1))] (fin (j23 _ _ ?_))
  exact tn (kl0 _ _ ⟨n,ls n,(iadd .i64 z3 1),(wr z4 z3 x7),h,(hs.conv rfl),eg⟩)
  refine tb 0 16 (df hc) (fj j16 s15 (xs fun _ s24=>(cf (xexit (tx (tx (iH ?_)))))))
  obtain rfl:=of_some h
  exact exq_n (nn0 _ _ ⟨(hs.conv rfl),eg⟩)
 clear hs h hy
 rintro a w ⟨hs,g14,rfl⟩
 have h:=hk0
 refine T s10 (xs fun _ s25=>(xn 2 fun _ j26=>(tkt 0 31 _ (yWe 70 hs 1 .grow) (so 1 (oWe 70 .i32 y5 hs 0 fun w kp hs=>(fj j26 s25 (xret ?_)))))))
 obtain rfl:=of_some h
 exact qq _ _ (pr (rr [.cell 4 70] [ag .i32 y5] (.cons (rcN 256 hs 0 rfl (enc_len _ _)) .nil)) ⟨cr,hs.none⟩)
theorem kq_Back.ok {K:Nat}{a0 r0:Arr 256}(h:kq_Back.f K a0=some r0) (w0:World):Ret Tryz.prog 69 #[ag .i32 a0] w0 (ag .i32 r0):=by
 refine calls_k Tryz.func69 rfl fun Q qq=>?_
 have hs:=St.start w0
 refine wc (a':=(fu 74 [ag .i32 a0])) (xs fun _ s1=>(xn 2 fun _ j2=>(so 0 (oBe 1 70 .i32 a0 hs fun b1 w gw hs=>(so 1 (oNe 2 70 .i32 (zeroA 256) hs fun b2 w gw hs=>?_))))))
 refine fj j2 s1 (xs fun _ s3=>(xn 2 fun _ j4=>?_))
 obtain ⟨r3,hg,h⟩:=ob h
 refine so 0 (oCB 10 hs (kq_roots.ok hg _) fun b4 w gw hs=>?_)
 refine qo 1 3 (P0 b4) (fj j4 s3 (xs fun _ s5=>(xn 1 fun _ j6=>(qo 0 4 (I8 128) (fj j6 s5 (xs fun _ s7=>(xs fun _ s8=>(xn 1 fun _ j9=>(qo 0 5 (I8 2) ?_)))))))))
 refine fj j9 s8 (?_)
 obtain ⟨y8,hy,hk0⟩:=ob h
 refine wp_exq (N:=fun a w=>St w0 [] [.blk b4 (enc .i32 r3) 138,.blk b2 (enc .i32 (zeroA 256)) 70,.blk b1 (enc .i32 y8) 70] [] w∧∃ g11,a=fr g11 75 [(1,[P0 b1,P0 b2])]) (fun N0 nn0=>?_) ?_
 clear hk0
 refine xb ?_
 refine wp_loop_k (fun n a w=>∃ z5 z6 z7,kq_Back.l0 K n r3 z5 z6 z7=some y8∧St w0 [] [.blk b4 (enc .i32 r3) 138,.blk b2 (enc .i32 (zeroA 256)) 70,.blk b1 (enc .i32 z7) 70] [] w∧∃ g10,a=fr g10 75 [(1,[P0 b1,P0 b2,P0 b4,I8 z5,I8 z6])]) K ⟨128,2,a0,hy,hs.conv rfl,eg⟩ ?_
 clear hs h hy
 rintro n a w ⟨z5,z6,z7,h,hs,g10,rfl⟩ KL0 kl0
 cases n with
 | zero=>exact nomatch (show none=some _ from h)
 | succ n=>
  refine xs fun _ s12=>(xs fun _ s13=>(xn 2 fun _ j14=>(qo 0 11 (I8 z6) ?_)))
  obtain ⟨hc,h⟩|⟨hc,h⟩:=of_if h
  refine tb 1 12 (dt hc) ?_
  refine fj j14 s13 (ct (xk (T s12 (xs fun _ s15=>(xb (xs fun _ s16=>(xn 1 fun _ j17=>(qo 0 6 (I8 0) (fj j17 s16 (?_))))))))))
  obtain ⟨⟨y12,y13⟩,hy,hk1⟩:=ob h
  refine wp_exq (N:=fun a w=>St w0 [] [.blk b4 (enc .i32 r3) 138,.blk b2 (enc .i32 (zeroA 256)) 70,.blk b1 (enc .i32 y13) 70] [] w∧∃ g19,a=fr g19 75 [(1,[P0 b1,P0 b2,P0 b4,I8 y12,I8 z6])]) (fun N1 nn1=>?_) ?_
  clear hk1
  refine xb ?_
  refine wp_loop_k (fun n a w=>∃ z9 z10 z11,kq_Back.l1 K n r3 z6 z9 z10 z11=some (y12,y13)∧St w0 [] [.blk b4 (enc .i32 r3) 138,.blk b2 (enc .i32 (zeroA 256)) 70,.blk b1 (enc .i32 z11) 70] [] w∧∃ g18,a=fr g18 75 [(1,[P0 b1,P0 b2,P0 b4,I8 z9,I8 z6,I8 z10])]) K ⟨z5,0,z7,hy,hs.conv rfl,eg⟩ ?_
  clear hs h hy
  rintro n a w ⟨z9,z10,z11,h,hs,g18,rfl⟩ KL1 kl1
  cases n with
  | zero=>exact nomatch (show none=some _ from h)
  | succ n=>
   refine xs fun _ s20=>(xs fun _ s21=>(xn 2 fun _ j22=>(qo 0 15 (I8 z10) ?_)))
   obtain ⟨hc,h⟩|⟨hc,h⟩:=of_if h
   refine tb 1 16 (dt hc) ?_
   refine fj j22 s21 (ct (xk (T s20 (xs fun _ s23=>(xb (xs fun _ s24=>(xn 3 fun _ j25=>(nq 0 [(21,I8 z9),(22,I8 (isub .i64 z9 1))] ?_))))))))
   obtain ⟨x14,hx,h⟩:=ob h
   refine tkf 2 4 (I8 x14) (yn hx) (fj j25 s24 (xs fun _ s26=>(xn 2 fun _ j27=>(nq 0 [(23,I8 z10),(7,I8 z10)] (fj j27 s26 (?_))))))
   obtain ⟨y17,hy,hk2⟩:=ob h
   refine wp_exq (N:=fun a w=>St w0 [] [.blk b4 (enc .i32 r3) 138,.blk b2 (enc .i32 (zeroA 256)) 70,.blk b1 (enc .i32 y17) 70] [] w∧∃ g29,a=fr g29 75 [(1,[P0 b1,P0 b2,P0 b4,I8 x14,I8 z6,I8 z10])]) (fun N2 nn2=>?_) ?_
   clear hk2
   refine xb ?_
   refine wp_loop_k (fun n a w=>∃ z15 z16,kq_Back.l2 K n r3 z6 z10 x14 z15 z16=some y17∧St w0 [] [.blk b4 (enc .i32 r3) 138,.blk b2 (enc .i32 (zeroA 256)) 70,.blk b1 (enc .i32 z16) 70] [] w∧∃ g28,a=fr g28 75 [(1,[P0 b1,P0 b2,P0 b4,I8 x14,I8 z6,I8 z10,I8 z15])]) K ⟨z10,z11,hy,hs.conv rfl,eg⟩ ?_
   clear hs h hy
   rintro n a w ⟨z15,z16,h,hs,g28,rfl⟩ KL2 kl2
   cases n with
   | zero=>exact nomatch (show none=some _ from h)
   | succ n=>
    refine xs fun _ s30=>(xs fun _ s31=>(xn 5 fun _ j32=>(nq 0 [(24,I8 z15),(25,I8 z10),(26,I8 z6),(27,I8 (iadd .i64 z10 z6))] ?_)))
    obtain ⟨hc,h⟩|⟨hc,h⟩:=of_if h
    refine tb 4 28 (dt hc) ?_
    refine fj j32 s31 (ct (xk (T s30 (xs fun _ s33=>(xb (xs fun _ s34=>(xn 4 fun _ j35=>(qo 0 31 (I8 z15) ?_))))))))
    obtain ⟨i0_36,i1_36,h⟩:=oc2 h
    refine tkf 1 32 (P1 b1 z15) (yi 70 21 256 1 .i64 z15 i0_36 i1_36) (tkt 2 33 _ (yA hs 2 21 z15 rfl i0_36 i1_36 .grow) ?_)
    obtain ⟨x18,hx,h⟩:=ob h
    refine tkf 3 8 (I4 x18) (yn hx) (fj j35 s34 (xs fun _ s37=>(xn 11 fun _ j38=>(nq 0 [(34,I8 z15),(35,I4 x18),(36,I8 z15),(37,I8 z6),(38,I8 (iadd .i64 z15 z6))] ?_))))
    obtain ⟨x19,hx,h⟩:=ob h
    have hx:=of_some hx
    subst hx
    obtain ⟨i0_39,i1_39,h⟩:=oc2 h
    refine tkf 5 39 (P1 b1 (iadd .i64 z15 z6)) (yi 70 21 256 1 .i64 (iadd .i64 z15 z6) i0_39 i1_39) (tkt 6 40 _ (yA hs 2 21 (iadd .i64 z15 z6) rfl i0_39 i1_39 .grow) (nq 7 [(41,I4 (iadd .i32 x18 (rd z16 (iadd .i64 z15 z6)))),(42,I4 (irem .i32 (iadd .i32 x18 (rd z16 (iadd .i64 z15 z6))) 3329))] ?_))
    obtain ⟨i0_40,i1_40,h⟩:=oc2 h
    refine tkf 9 43 (P1 b1 z15) (yi 70 21 256 1 .i64 z15 i0_40 i1_40) ?_
    obtain ⟨x20,hx,h⟩:=ob h
    refine so 10 (oA 21 x20 z15 hs 2 rfl (by cases hx; kernel_rfl) i0_40 i1_40 fun w kp hs=>?_)
    refine fj j38 s37 (?_)
    refine rg [19] (fun k=>True) 20 fun _ j41=>?_
    have hs:=hs.drawn1
    refine gq 0 44 (I8 z15) (gq 1 45 (I8 z6) (gq 2 46 (I8 (iadd .i64 z15 z6)) (gq 3 47 (P0 b4) (gq 4 48 (I8 x14) ?_))))
    refine gq 5 49 (P0 b4) ?_
    obtain ⟨i0_42,i1_42,h⟩:=oc2 h
    refine tgf 6 50 (P1 b4 x14) (yi 138 21 128 1 .i64 x14 i0_42 i1_42) (tgt 7 51 _ (yA hs 0 21 x14 rfl i0_42 i1_42 .grow) (gq 8 52 (I8 z15) (gq 9 53 (I8 z6) (gq 10 54 (I8 (iadd .i64 z15 z6)) ?_))))
    obtain ⟨x21,hx,h⟩:=ob h
    have hx:=of_some hx
    subst hx
    obtain ⟨i0_43,i1_43,h⟩:=oc2 h
    refine tgf 11 55 (P1 b1 (iadd .i64 z15 z6)) (yi 70 21 256 1 .i64 (iadd .i64 z15 z6) i0_43 i1_43) (tgt 12 56 _ (yA hs 2 21 (iadd .i64 z15 z6) rfl i0_43 i1_43 .grow) (gq 13 57 (I4 x18) (gq 14 58 (I4 (isub .i32 (rd (wr z16 z15 x20) (iadd .i64 z15 z6)) x18)) (gq 15 59 (I4 (iadd .i32 (isub .i32 (rd (wr z16 z15 x20) (iadd .i64 z15 z6)) x18) 3329)) ?_))))
    refine gq 16 60 (I4 (imul .i32 (rd r3 x14) (iadd .i32 (isub .i32 (rd (wr z16 z15 x20) (iadd .i64 z15 z6)) x18) 3329))) (gq 17 61 (I4 (irem .i32 (imul .i32 (rd r3 x14) (iadd .i32 (isub .i32 (rd (wr z16 z15 x20) (iadd .i64 z15 z6)) x18) 3329)) 3329)) ?_)
    obtain ⟨x22,hx,h⟩:=ob h
    have hx:=of_some hx
    subst hx
    obtain ⟨i0_44,i1_44,h⟩:=oc2 h
    refine tgf 18 62 (P1 b1 (iadd .i64 z15 z6)) (yi 70 21 256 1 .i64 (iadd .i64 z15 z6) i0_44 i1_44) ?_
    obtain ⟨x23,hx,h⟩:=ob h
    refine go 19 (oA 21 x23 (iadd .i64 z15 z6) hs 2 rfl (by cases hx; kernel_rfl) i0_44 i1_44 fun w kp hs=>⟨⟨fun hf=>absurd hf (by decide),.all _ _⟩,?_⟩)
    refine gf (j41 _ _ ?_)
    refine iN (T s33 (xn 3 fun _ j45=>?_))
    refine nq 0 [(29,I8 z15),(30,I8 (iadd .i64 z15 1))] ?_
    obtain ⟨x24,hx,h⟩:=ob h
    refine tkf 2 7 (I8 x24) (yn hx) (fin (j45 _ _ ?_))
    exact tn (kl2 _ _ ⟨n,ls n,x24,(wr (wr z16 z15 x20) (iadd .i64 z15 z6) x23),h,(hs.conv rfl),eg⟩)
    refine tb 4 28 (df hc) (fj j32 s31 (cf (xexit (tx (tx (iH ?_))))))
    obtain rfl:=of_some h
    exact exq_n (nn2 _ _ ⟨(hs.conv rfl),eg⟩)
   clear hs h hy
   rintro a w ⟨hs,g29,rfl⟩
   have h:=hk2
   refine iN (T s23 (xn 5 fun _ j46=>?_))
   refine nq 0 [(17,I8 z10),(18,I8 z6),(19,I8 (imul .i64 2 z6)),(20,I8 (iadd .i64 z10 (imul .i64 2 z6)))] ?_
   obtain ⟨x25,hx,h⟩:=ob h
   refine tkf 4 6 (I8 x25) (yn hx) (fin (j46 _ _ ?_))
   exact tn (kl1 _ _ ⟨n,ls n,x14,x25,y17,h,(hs.conv rfl),eg⟩)
   refine tb 1 16 (df hc) (fj j22 s21 (cf (xexit (tx (tx (iH ?_))))))
   obtain ⟨rfl,rfl⟩:=os2 h
   exact exq_n (nn1 _ _ ⟨(hs.conv rfl),eg⟩)
  clear hs h hy
  rintro a w ⟨hs,g19,rfl⟩
  have h:=hk1
  refine iN (T s15 (xn 3 fun _ j47=>?_))
  refine nq 0 [(13,I8 z6),(14,I8 (imul .i64 z6 2))] ?_
  obtain ⟨x26,hx,h⟩:=ob h
  refine tkf 2 5 (I8 x26) (yn hx) (fin (j47 _ _ ?_))
  exact tn (kl0 _ _ ⟨n,ls n,y12,x26,y13,h,(hs.conv rfl),eg⟩)
  refine tb 1 12 (df hc) (fj j14 s13 (cf (xexit (tx (tx (iH ?_))))))
  obtain rfl:=of_some h
  exact exq_n (nn0 _ _ ⟨(hs.conv rfl),eg⟩)
 clear hs h hy
 rintro a w ⟨hs,g11,rfl⟩
 have h:=hk0
 refine T s7 (xs fun _ s48=>(xs fun _ s49=>(xn 1 fun _ j50=>(qo 0 63 (I8 0) (fj j50 s49 (?_))))))
 obtain ⟨y29,hy,hk3⟩:=ob h
 refine wp_exq (N:=fun a w=>St w0 [] [.blk b4 (enc .i32 r3) 138,.blk b2 (enc .i32 (zeroA 256)) 70,.blk b1 (enc .i32 y29) 70] [] w∧∃ g52,a=fr g52 75 [(1,[P0 b1,P0 b2])]) (fun N3 nn3=>?_) ?_
 clear hk3
 refine xb ?_
 refine wp_loop_k (fun n a w=>∃ z27 z28,kq_Back.l3 K n z27 z28=some y29∧St w0 [] [.blk b4 (enc .i32 r3) 138,.blk b2 (enc .i32 (zeroA 256)) 70,.blk b1 (enc .i32 z28) 70] [] w∧∃ g51,a=fr g51 75 [(1,[P0 b1,P0 b2]),(63,[I8 z27])]) K ⟨0,y8,hy,hs.conv rfl,eg⟩ ?_
 clear hs h hy
 rintro n a w ⟨z27,z28,h,hs,g51,rfl⟩ KL3 kl3
 cases n with
 | zero=>exact nomatch (show none=some _ from h)
 | succ n=>
  refine xs fun _ s53=>(xn 1 fun _ j54=>?_)
  obtain ⟨hc,h⟩|⟨hc,h⟩:=of_if h
  refine tb 0 64 (dt hc) ?_
  refine fj j54 s53 (xs fun _ s55=>(ct (xk (T s55 (xs fun _ s56=>(xb (xs fun _ s57=>(xn 2 fun _ j58=>(nq 0 [(65,I8 z27),(9,I8 z27)] (fj j58 s57 (xn 8 fun _ j59=>(nq 0 [(66,I8 z27),(67,I8 z27)] ?_))))))))))))
  obtain ⟨i0_60,i1_60,h⟩:=oc2 h
  refine tkf 2 68 (P1 b1 z27) (yi 70 21 256 1 .i64 z27 i0_60 i1_60) (tkt 3 69 _ (yA hs 2 21 z27 rfl i0_60 i1_60 .grow) (nq 4 [(70,I4 (imul .i32 (rd z28 z27) 3303)),(71,I4 (irem .i32 (imul .i32 (rd z28 z27) 3303) 3329))] ?_))
  obtain ⟨i0_61,i1_61,h⟩:=oc2 h
  refine tkf 6 72 (P1 b1 z27) (yi 70 21 256 1 .i64 z27 i0_61 i1_61) ?_
  obtain ⟨x30,hx,h⟩:=ob h
  refine so 7 (oA 21 x30 z27 hs 2 rfl (by cases hx; kernel_rfl) i0_61 i1_61 fun w kp hs=>?_)
  refine fin (j59 _ _ (iN (T s56 (xn 2 fun _ j62=>(nq 0 [(73,I8 (iadd .i64 z27 1)),(63,I8 (iadd .i64 z27 1))] (fin (j62 _ _ ?_)))))))
  exact tn (kl3 _ _ ⟨n,ls n,(iadd .i64 z27 1),(wr z28 z27 x30),h,(hs.conv rfl),eg⟩)
  refine tb 0 64 (df hc) (fj j54 s53 (xs fun _ s63=>(cf (xexit (tx (tx (iH ?_)))))))
  obtain rfl:=of_some h
  exact exq_n (nn3 _ _ ⟨(hs.conv rfl),eg⟩)
 clear hs h hy
 rintro a w ⟨hs,g52,rfl⟩
 have h:=hk3
 refine T s48 (xs fun _ s64=>(xn 2 fun _ j65=>(tkt 0 74 _ (yWe 70 hs 2 .grow) (so 1 (oWe 70 .i32 y29 hs 1 fun w kp hs=>(fj j65 s64 (xret ?_)))))))
 obtain rfl:=of_some h
 exact qq _ _ (pr (rr [.cell 2 70] [ag .i32 y29] (.cons (rcN 256 hs 1 rfl (enc_len _ _)) .nil)) ⟨cr,hs.none⟩)
theorem kq_Widen.ok {K:Nat}{a0:Arr 256}{a1:Int}{r0:Arr 256}(h:kq_Widen.f K a0 a1=some r0) (w0:World):Ret Tryz.prog 73 #[ag .i32 a0,I8 a1] w0 (ag .i32 r0):=by
 refine calls_k Tryz.func73 rfl fun Q qq=>?_
 have hs:=St.start w0
 refine wc (a':=(fu 36 [ag .i32 a0,I8 a1])) (xs fun _ s1=>(xn 2 fun _ j2=>(so 0 (oBe 2 70 .i32 a0 hs fun b1 w gw hs=>(so 1 (oNe 4 70 .i32 (zeroA 256) hs fun b2 w gw hs=>?_))))))
 refine fj j2 s1 (xs fun _ s3=>(xs fun _ s4=>?_))
 refine rg [] (fun k=>True) 13 fun _ j5=>?_
 have hs:=hs.drawn1
 refine gq 0 7 (I8 a1) ?_
 obtain ⟨hc,h⟩|⟨hc,h⟩:=of_if h
 refine gb 1 8 (dt hc) ?_
 refine gq 2 9 (.bool true) (gq 3 10 undef (gq 4 11 undef (gq 5 12 (.bool true) (gq 6 13 (.bool true) ?_))))
 refine gq 7 14 undef (gq 8 15 undef (gq 9 16 undef (gq 10 17 undef (gq 11 18 undef ?_))))
 refine gq 12 19 (.bool true) (gf (j5 _ _ (T s4 (ct (xs fun _ s6=>(xn 2 fun _ j7=>(qo 0 20 (ag .i32 (zeroA 256)) (so 1 (oWe 70 .i32 (zeroA 256) hs 0 fun w kp hs=>?_)))))))))
 refine fj j7 s6 (xret (tr ?_))
 obtain rfl:=of_some h
 exact qq _ _ (pr (rr [.cell 4 70] [ag .i32 (zeroA 256)] (.cons (rcN 256 hs 0 rfl (enc_len _ _)) .nil)) ⟨cr,hs.none⟩)
 refine gb 1 8 (df hc) (gq 2 9 (.bool false) (gq 3 10 (I8 a1) ?_))
 obtain ⟨hc,h⟩|⟨hc,h⟩:=of_if h
 refine gb 4 11 (dt hc) ?_
 refine gq 5 12 (.bool true) (gq 6 13 (.bool true) (gq 7 14 undef (gq 8 15 undef (gq 9 16 undef ?_))))
 refine gq 10 17 undef (gq 11 18 undef (gq 12 19 (.bool true) (gf (j5 _ _ (T s4 (ct (xs fun _ s8=>(xn 2 fun _ j9=>?_))))))))
 refine qo 0 20 (ag .i32 (zeroA 256)) (so 1 (oWe 70 .i32 (zeroA 256) hs 0 fun w kp hs=>(fj j9 s8 (xret (tr ?_)))))
 obtain rfl:=of_some h
 exact qq _ _ (pr (rr [.cell 4 70] [ag .i32 (zeroA 256)] (.cons (rcN 256 hs 0 rfl (enc_len _ _)) .nil)) ⟨cr,hs.none⟩)
 refine gb 4 11 (df hc) (gq 5 12 (.bool false) (gq 6 13 (.bool false) (tgt 7 14 _ (yWe 70 hs 1 .grow) (gq 8 15 (I8 a1) ?_))))
 obtain ⟨h0,h⟩:=oc h
 refine tgf 9 16 (I4 (ishl .i32 1 a1)) (ysl 21 .i64 h0) ?_
 obtain ⟨r3,hg,h⟩:=ob h
 cases r3 with
 | true=>
  have h:=of_if_t h
  refine go 10 (oC 17 hs (kq_below.ok hg _) fun w gw hs=>⟨.of gw,?_⟩)
  refine gq 11 18 (.bool false) (gq 12 19 (.bool false) (gf (j5 _ _ (T s4 (cf (xk (T s3 (xs fun _ s10=>(xs fun _ s11=>(xn 2 fun _ j12=>(tkt 0 21 _ (yWe 70 hs 1 .grow) ?_)))))))))))
  refine qo 1 22 (I8 0) (fj j12 s11 (?_))
  obtain ⟨y6,hy,hk0⟩:=ob h
  refine wp_exq (N:=fun a w=>St w0 [] [.blk b2 (enc .i32 (zeroA 256)) 70,.blk b1 (enc .i32 y6) 70] [] w∧∃ g14,a=fr g14 38 [(2,[P0 b1]),(4,[P0 b2])]) (fun N0 nn0=>?_) ?_
  clear hk0
  refine xb ?_
  refine wp_loop_k (fun n a w=>∃ z4 z5,kq_Widen.l0 K n a0 a1 z4 z5=some y6∧St w0 [] [.blk b2 (enc .i32 (zeroA 256)) 70,.blk b1 (enc .i32 z5) 70] [] w∧∃ g13,a=fr g13 38 [(1,[I8 a1,P0 b1]),(4,[P0 b2]),(21,[ag .i32 a0,I8 z4])]) K ⟨0,a0,hy,hs.conv rfl,eg⟩ ?_
  clear hs h hy
  rintro n a w ⟨z4,z5,h,hs,g13,rfl⟩ KL0 kl0
  cases n with
  | zero=>exact nomatch (show none=some _ from h)
  | succ n=>
   refine xs fun _ s15=>(xn 1 fun _ j16=>?_)
   obtain ⟨hc,h⟩|⟨hc,h⟩:=of_if h
   refine tb 0 23 (dt hc) ?_
   refine fj j16 s15 (xs fun _ s17=>(ct (xk (T s17 (xs fun _ s18=>(xb (xs fun _ s19=>(xn 4 fun _ j20=>(qo 0 24 (I8 z4) ?_)))))))))
   obtain ⟨h0,h1,h⟩:=oc2 h
   refine tkf 1 25 (I4 (rd a0 z4)) (yt 70 21 .i64 h0 h1) (qo 2 5 (I8 z4) ?_)
   obtain ⟨x7,hx,h⟩:=ob h
   refine tkf 3 6 (I4 x7) (yn hx) (fj j20 s19 (xn 11 fun _ j21=>(nq 0 [(26,I8 z4),(27,I4 x7),(28,I4 (imul .i32 x7 3329)),(29,I8 a1),(30,I8 (isub .i64 a1 1))] ?_)))
   obtain ⟨h0,h⟩:=oc h
   refine tkf 5 31 (I4 (ishl .i32 1 (isub .i64 a1 1))) (ysl 21 .i64 h0) (nq 6 [(32,I4 (iadd .i32 (imul .i32 x7 3329) (ishl .i32 1 (isub .i64 a1 1)))),(33,I8 a1)] ?_)
   obtain ⟨h0,h⟩:=oc h
   refine tkf 8 34 (I4 (ishr .i32 (iadd .i32 (imul .i32 x7 3329) (ishl .i32 1 (isub .i64 a1 1))) a1)) (ysr 21 .i64 h0) ?_
   obtain ⟨i0_22,i1_22,h⟩:=oc2 h
   refine tkf 9 35 (P1 b1 z4) (yi 70 21 256 1 .i64 z4 i0_22 i1_22) ?_
   obtain ⟨x8,hx,h⟩:=ob h
   refine so 10 (oA 21 x8 z4 hs 1 rfl (by cases hx; kernel_rfl) i0_22 i1_22 fun w kp hs=>?_)
   refine fin (j21 _ _ (iN (T s18 (xn 2 fun _ j23=>(nq 0 [(36,I8 (iadd .i64 z4 1)),(22,I8 (iadd .i64 z4 1))] (fin (j23 _ _ ?_)))))))
   exact tn (kl0 _ _ ⟨n,ls n,(iadd .i64 z4 1),(wr z5 z4 x8),h,(hs.conv rfl),eg⟩)
   refine tb 0 23 (df hc) (fj j16 s15 (xs fun _ s24=>(cf (xexit (tx (tx (iH ?_)))))))
   obtain rfl:=of_some h
   exact exq_n (nn0 _ _ ⟨(hs.conv rfl),eg⟩)
  clear hs h hy
  rintro a w ⟨hs,g14,rfl⟩
  have h:=hk0
  refine T s10 (xs fun _ s25=>(xn 2 fun _ j26=>(tkt 0 37 _ (yWe 70 hs 1 .grow) (so 1 (oWe 70 .i32 y6 hs 0 fun w kp hs=>(fj j26 s25 (xret ?_)))))))
  obtain rfl:=of_some h
  exact qq _ _ (pr (rr [.cell 4 70] [ag .i32 y6] (.cons (rcN 256 hs 0 rfl (enc_len _ _)) .nil)) ⟨cr,hs.none⟩)
 | false=>
  have h:=of_if_f h
  refine go 10 (oC 17 hs (kq_below.ok hg _) fun w gw hs=>⟨.of gw,?_⟩)
  refine gq 11 18 (.bool true) (gq 12 19 (.bool true) (gf (j5 _ _ (T s4 (ct (xs fun _ s27=>(xn 2 fun _ j28=>(qo 0 20 (ag .i32 (zeroA 256)) ?_))))))))
  refine so 1 (oWe 70 .i32 (zeroA 256) hs 0 fun w kp hs=>?_)
  refine fj j28 s27 (xret (tr ?_))
  obtain rfl:=of_some h
  exact qq _ _ (pr (rr [.cell 4 70] [ag .i32 (zeroA 256)] (.cons (rcN 256 hs 0 rfl (enc_len _ _)) .nil)) ⟨cr,hs.none⟩)
theorem kpke_spread.ok {K:Nat}{a0:List Int}{r0:Arr 256}{a0_A:Option Addr}{a0_n a0_c:Nat}(h:kpke_spread.f K a0=some r0) (w0:World) (hp0:RowL CB w0 a0_A a0_n a0_c a0):Ret Tryz.prog 71 #[.slice a0_A a0_n a0_c] w0 (ag .i32 r0):=by
 refine calls_k Tryz.func71 rfl fun Q qq=>?_
 have hs:=St.startR (all_cons (RowP.ent hp0) all_nil)
 refine wc (a':=(fu 11 [.slice a0_A a0_n a0_c])) (xs fun _ s1=>(xn 1 fun _ j2=>(so 0 (oNe 2 70 .i32 (zeroA 256) hs fun b1 w gw hs=>(fj j2 s1 (xs fun _ s3=>(xn 8 fun _ j4=>?_)))))))
 refine qo 0 6 (.slice a0_A a0_n a0_c) ?_
 obtain ⟨⟨r2,r3⟩,hg,h⟩:=ob h
 refine so 1 (oC 7 hs (kq_Unpack.ok hg _ (rR 0 hs)) fun w gw hs=>?_)
 refine nq 2 [(5,.tuple #[ag .i32 r2,.bool r3]),(8,ag .i32 r2),(9,.bool r3)] (so 5 (oNe 3 70 .i32 (zeroA 256) hs fun b4 w gw hs=>(so 6 (oWe 70 .i32 r2 hs 0 fun w kp hs=>(qo 7 4 (.bool r3) (fj j4 s3 (xs fun _ s5=>(xn 3 fun _ j6=>?_))))))))
 refine tkt 0 10 _ (yWe 70 hs 0 .grow) ?_
 obtain ⟨r5,hg,h⟩:=ob h
 refine so 1 (oC 11 hs (kq_Widen.ok hg _) fun w gw hs=>?_)
 refine so 2 (oWe 70 .i32 r5 hs 1 fun w kp hs=>?_)
 refine fj j6 s5 (xret ?_)
 obtain rfl:=of_some h
 exact qq _ _ (pr (rr [.cell 2 70] [ag .i32 r5] (.cons (rcN 256 hs 1 rfl (enc_len _ _)) .nil)) ⟨cr,hs.none⟩)
end Go.Proofs.YtemdbgmldljbpaaGreatDoor

/- own -/
set_option linter.unusedVariables false
set_option linter.unusedSimpArgs false
set_option maxRecDepth 100000
set_option maxHeartbeats 4000000
namespace Go.Proofs.YtemdbgmldljbpaaGreatDoor
open Go.Mx
attribute [local irreducible] wpOp
theorem kpke_expanded_s.ok {K:Nat}{ca0 ca1 ca2 ca3 ca4:Int}{ca5:List Int}{y1:List (List (Arr 256))}{y2:Int}{ca5_A:Option Addr}{ca5_n ca5_c:Nat}(h:kpke_expanded_s.f K ca0 ca1 ca2 ca3 ca4 ca5=some (y1,y2)){w0 w:World}{X:List Nat}{Lt Rt:List Ent}(hs:St w0 X Lt (.rowL CB ca5_A ca5_n ca5_c ca5::.rowL CW (some ⟨0,0,none⟩) 1 1 ([tab_0])::.rowL CV (some ⟨1,0,none⟩) 1 1 ([tab_1])::.rowL CV (some ⟨2,0,none⟩) 1 1 ([tab_2])::Rt) w):Calls Tryz.prog 60 #[.agg #[I8 ca0,I8 ca1,I8 ca2,I8 ca3,I8 ca4],.slice ca5_A ca5_n ca5_c,.bool true] w fun e w'=>∃ (y1_A:Option Addr) (y1_n:Nat) (y1_c:Nat) (y1_H:List HS),e = .returned (.tuple #[.slice y1_A y1_n y1_c,I8 y2])∧St w0 X (.ownL CS y1_A y1_n y1_c y1_H 97::Lt) (.inn CZ y1_H y1::.rowL CB ca5_A ca5_n ca5_c ca5::.rowL CW (some ⟨0,0,none⟩) 1 1 ([tab_0])::.rowL CV (some ⟨1,0,none⟩) 1 1 ([tab_1])::.rowL CV (some ⟨2,0,none⟩) 1 1 ([tab_2])::Rt) w':=by
 refine calls_k Tryz.func60 rfl fun Q qq=>?_
 refine wc (a':=(fu 55 [.agg #[I8 ca0,I8 ca1,I8 ca2,I8 ca3,I8 ca4],.slice ca5_A ca5_n ca5_c,.bool true])) (xs fun _ s1=>(xn 3 fun _ j2=>(so 0 (oBa 3 23 hs [I8 ca0,I8 ca1,I8 ca2,I8 ca3,I8 ca4] fun b3 w gw hs=>(nq 1 [(6,.slice none 0 0),(7,I8 0)] ?_)))))
 refine fj j2 s1 (xs fun _ s3=>(xn 4 fun _ j4=>(qo 0 15 (P0 b3) (tkt 1 16 _ (yv hs 0 0 3 rfl (by rfl) .grow) ?_))))
 obtain ⟨h0,h1,h⟩:=oc2 h
 refine so 2 (oMk (C:=CS) 17 94 97 24 5864062014805 .i64 .i64 ca0 hs h0 h1 (by decide) (by decide) fun s4_A s4_n s4_c w gw hs=>?_)
 have hs:=hs.addInns0 CZ 70 (ca0:Int).toNat
 refine qo 3 8 (.slice s4_A s4_n s4_c) (fj j4 s3 (xs fun _ s5=>(xs fun _ s6=>(xn 3 fun _ j7=>(qo 0 18 (.slice s4_A s4_n s4_c) (tkf 1 19 (I8 ((List.replicate (ca0:Int).toNat ([]:List (Arr 256))).length:Int)) (ylNN (⟨hs.rowL 1 rfl,hs.innsLen 0 rfl⟩ : NNP _ _ _ _ _ _)) (qo 2 20 (I8 0) ?_)))))))
 refine fj j7 s6 (?_)
 obtain ⟨t0,hy,hk0⟩:=ob h
 refine wp_exq (N:=fun a w=>∃ y7,∃ (y7_H:List HS),t0 = .inl y7∧St w0 X (.inns CZ 70 y7_H y7::.ownL CS s4_A s4_n s4_c y7_H 97::.blk b3 ([I8 ca0,I8 ca1,I8 ca2,I8 ca3,I8 ca4]) 23::Lt) (.rowL CB ca5_A ca5_n ca5_c ca5::.rowL CW (some ⟨0,0,none⟩) 1 1 ([tab_0])::.rowL CV (some ⟨1,0,none⟩) 1 1 ([tab_1])::.rowL CV (some ⟨2,0,none⟩) 1 1 ([tab_2])::Rt) w∧∃ g9,a=fr g9 58 [(8,[.slice s4_A s4_n s4_c])]) (fun N0 nn0=>?_) ?_
 refine xb ?_
 refine wp_loop_k (fun n a w=>∃ z5 z6,∃ (z6_H:List HS),kpke_expanded_s.l0 K n ca0 ca5 z5 z6=some t0∧St w0 X (.inns CZ 70 z6_H z6::.ownL CS s4_A s4_n s4_c z6_H 97::.blk b3 ([I8 ca0,I8 ca1,I8 ca2,I8 ca3,I8 ca4]) 23::Lt) (.rowL CB ca5_A ca5_n ca5_c ca5::.rowL CW (some ⟨0,0,none⟩) 1 1 ([tab_0])::.rowL CV (some ⟨1,0,none⟩) 1 1 ([tab_1])::.rowL CV (some ⟨2,0,none⟩) 1 1 ([tab_2])::Rt) w∧∃ g8,a=fr g8 58 [(1,[.slice ca5_A ca5_n ca5_c,.bool true,P0 b3]),(8,[.slice s4_A s4_n s4_c]),(19,[I8 ((List.replicate (ca0:Int).toNat ([]:List (Arr 256))).length:Int),I8 z5])]) K ⟨0,(List.replicate (ca0:Int).toNat ([]:List (Arr 256))),(List.replicate (ca0:Int).toNat (Cod.zero CS)),hy,hs.conv rfl,eg⟩ ?_
 clear hs h hy
 rintro n a w ⟨z5,z6,z6_H,h,hs,g8,rfl⟩ KL0 kl0
 cases n with
 | zero=>exact nomatch (show none=some _ from h)
 | succ n=>
  refine xs fun _ s10=>(xn 1 fun _ j11=>?_)
  obtain ⟨hc,h⟩|⟨hc,h⟩:=of_if h
  refine tb 0 21 (dt hc) ?_
  refine fj j11 s10 (xs fun _ s12=>(ct (xk (T s12 (xs fun _ s13=>(xb (xs fun _ s14=>(xn 2 fun _ j15=>(nq 0 [(22,I8 z5),(9,I8 z5)] (fj j15 s14 (xs fun _ s16=>(xn 3 fun _ j17=>(qo 0 23 (P0 b3) (tkt 1 24 _ (yv hs 2 0 3 rfl (by rfl) .grow) ?_))))))))))))))
  refine qo 2 25 (I8 0) (fj j17 s16 (?_))
  obtain ⟨t1,hy,hk1⟩:=ob h
  refine wp_exq (N:=fun a w=>∃ y10,∃ (y10_H:List HS),t1 = .inl y10∧St w0 X (.inns CZ 70 y10_H y10::.ownL CS s4_A s4_n s4_c y10_H 97::.blk b3 ([I8 ca0,I8 ca1,I8 ca2,I8 ca3,I8 ca4]) 23::Lt) (.rowL CB ca5_A ca5_n ca5_c ca5::.rowL CW (some ⟨0,0,none⟩) 1 1 ([tab_0])::.rowL CV (some ⟨1,0,none⟩) 1 1 ([tab_1])::.rowL CV (some ⟨2,0,none⟩) 1 1 ([tab_2])::Rt) w∧∃ g19,a=fr g19 58 [(1,[.slice ca5_A ca5_n ca5_c,.bool true,P0 b3]),(8,[.slice s4_A s4_n s4_c]),(19,[I8 ((List.replicate (ca0:Int).toNat ([]:List (Arr 256))).length:Int),I8 z5])]) (fun N1 nn1=>?_) ?_
  refine xb ?_
  refine wp_loop_k (fun n a w=>∃ z8 z9,∃ (z9_H:List HS),kpke_expanded_s.l1 K n ca0 ca5 z5 z8 z9=some t1∧St w0 X (.inns CZ 70 z9_H z9::.ownL CS s4_A s4_n s4_c z9_H 97::.blk b3 ([I8 ca0,I8 ca1,I8 ca2,I8 ca3,I8 ca4]) 23::Lt) (.rowL CB ca5_A ca5_n ca5_c ca5::.rowL CW (some ⟨0,0,none⟩) 1 1 ([tab_0])::.rowL CV (some ⟨1,0,none⟩) 1 1 ([tab_1])::.rowL CV (some ⟨2,0,none⟩) 1 1 ([tab_2])::Rt) w∧∃ g18,a=fr g18 58 [(1,[.slice ca5_A ca5_n ca5_c,.bool true,P0 b3]),(8,[.slice s4_A s4_n s4_c,I8 z5]),(19,[I8 ((List.replicate (ca0:Int).toNat ([]:List (Arr 256))).length:Int),I8 z5]),(24,[I8 ca0,I8 z8])]) K ⟨0,z6,z6_H,hy,hs.conv rfl,eg⟩ ?_
  clear hs h hy
  rintro n a w ⟨z8,z9,z9_H,h,hs,g18,rfl⟩ KL1 kl1
  cases n with
  | zero=>exact nomatch (show none=some _ from h)
  | succ n=>
   refine xs fun _ s20=>(xn 1 fun _ j21=>?_)
   obtain ⟨hc,h⟩|⟨hc,h⟩:=of_if h
   refine tb 0 26 (dt hc) ?_
   refine fj j21 s20 (xs fun _ s22=>(ct (xk (T s22 (xs fun _ s23=>(xb (xs fun _ s24=>(xn 2 fun _ j25=>(nq 0 [(27,I8 z8),(10,I8 z8)] (fj j25 s24 (xs fun _ s26=>(xn 6 fun _ j27=>(nq 0 [(28,I8 z5),(29,U1 (iconv .u8 z5)),(30,I8 z8),(31,U1 (iconv .u8 z8))] ?_)))))))))))))
   obtain ⟨x11,hx,h⟩:=ob h
   refine tkf 4 11 (U1 x11) (yn hx) ?_
   obtain ⟨x12,hx,h⟩:=ob h
   refine tkf 5 12 (U1 x12) (yn hx) (fj j27 s26 (xs fun _ s28=>(xs fun _ s29=>(xn 1 fun _ j30=>(qo 0 32 (.bool true) (fj j30 s29 (ct (xn 4 fun _ j31=>(nq 0 [(33,U1 x12),(34,U1 x11),(11,U1 x12),(12,U1 x11)] ?_)))))))))
   refine fj j31 s28 (xs fun _ s32=>(xn 10 fun _ j33=>(nq 0 [(36,.slice ca5_A ca5_n ca5_c),(37,U1 x12),(38,U1 x11)] ?_)))
   obtain ⟨⟨r13,r14⟩,hg,h⟩:=ob h
   refine so 3 (oC 39 hs (kpke_Parts.ok hg _ (rR 0 hs) (rR 1 hs) (rR 2 hs) (rR 3 hs)) fun w gw hs=>?_)
   refine nq 4 [(35,.tuple #[ag .i32 r13,I8 r14]),(40,ag .i32 r13),(41,I8 r14)] (so 7 (oNe 13 70 .i32 (zeroA 256) hs fun b15 w gw hs=>(so 8 (oWe 70 .i32 r13 hs 0 fun w kp hs=>(qo 9 14 (I8 r14) (fj j33 s32 (xs fun _ s34=>(xs fun _ s35=>(xn 2 fun _ j36=>?_)))))))))
   refine qo 0 42 (I8 r14) ?_
   obtain ⟨hc,h⟩|⟨hc,h⟩:=of_if h
   refine tb 1 43 (nf hc) ?_
   refine fj j36 s35 (cf (xk (T s34 (?_))))
   refine rg [8,10] (fun k=>True) 11 fun _ j37=>?_
   have hs:=hs.drawn1
   refine gq 0 45 (.slice s4_A s4_n s4_c) (gq 1 46 (I8 z5) (gq 2 47 (.slice s4_A s4_n s4_c) (gq 3 48 (I8 z5) ?_)))
   obtain ⟨h0,h1,h⟩:=oc2 h
   have i0_38:=h0
   have i1_38:=h1
   refine tgf 4 49 (PA CS s4_A z5) (yiNN 94 97 .i64 z5 (⟨hs.rowL 2 rfl,hs.innsLen 1 rfl⟩ : NNP _ _ _ _ _ _) h0 h1) ?_
   obtain ⟨s16_A,hA⟩ : ∃ A,A=(rdL CS z9_H z5).1:=⟨_,rfl⟩
   obtain ⟨s16_n,hn⟩ : ∃ n,n=(rdL CS z9_H z5).2.1:=⟨_,rfl⟩
   obtain ⟨s16_c,hc⟩ : ∃ c,c=(rdL CS z9_H z5).2.2:=⟨_,rfl⟩
   refine tgt 5 50 (.slice s16_A s16_n s16_c) (by subst hA hn hc; exact yld_loadNN (e:=97) (x:=z5) (⟨hs.rowL 2 rfl,hs.innsLen 1 rfl⟩ : NNP _ _ _ _ _ _) (by kernel_rfl) (by kernel_rfl) i0_38 i1_38) ?_
   have hs:=hs.front 1 rfl
   try dsimp only [List.eraseIdx] at hs
   obtain ⟨hl39,hs⟩:=hs.openI i0_38 i1_38 hA hn hc
   refine wpG.take [6,7,8,9,10] 6 true (some 51) (ag .i32 r13) (by kernel_rfl) (by kernel_rfl) (yWe 70 hs 2 .grow) ?_
   refine go 7 (oLL (C:=CZ) 52 97 70 1 (ag .i32 (zeroA 256)) #[(0,ag .i32 r13)] [r13] hs rfl rfl (by decide) (by decide) fun s17_A s17_n s17_c w gw hs=>⟨.of gw,?_⟩)
   obtain ⟨h0,h⟩:=oc h
   refine go 8 (oAp (C:=CZ) 53 97 97 70 1024 137438953472 hs 1 rfl (rL 0 hs) h0 (by decide) (by decide) fun s18_A s18_n s18_c w hs=>⟨⟨fun hf=>absurd hf (by decide),.all _ _⟩,?_⟩)
   obtain ⟨h0,h1,h⟩:=oc2 h
   have i0_40:=h0
   have i1_40:=h1
   refine tgf 9 54 (PA CS s4_A z5) (yiNN 94 97 .i64 z5 (⟨hs.rowL 4 rfl,hl39⟩ : NNP _ _ _ _ _ _) h0 h1) (go 10 (oL (C:=CS) 97 z5 ((s18_A,s18_n,s18_c):HS) hs 4 rfl i0_40 (by rw [hl39]; exact i1_40) fun w hs=>⟨⟨fun hf=>absurd hf (by decide),.all _ _⟩,?_⟩))
   have hs:=hs.front 2 rfl
   have hs:=hs.front 2 rfl
   try dsimp only [List.eraseIdx] at hs
   have hs:=hs.closeI (x:=z5) hl39 i0_38 i1_38
   refine gf (j37 _ _ ?_)
   refine iN (T s23 (xn 2 fun _ j41=>?_))
   refine nq 0 [(55,I8 (iadd .i64 z8 1)),(25,I8 (iadd .i64 z8 1))] (fin (j41 _ _ ?_))
   exact tn (kl1 _ _ ⟨n,ls n,(iadd .i64 z8 1),(wrL z9 z5 ((rdLL z9 z5)++([r13]:List (Arr 256)))),(wrL z9_H z5 ((s18_A,s18_n,s18_c):HS)),h,(dr [1,0,0,1,1] hs),eg⟩)
   refine tb 1 43 (nt hc) (fj j36 s35 (ct (xs fun _ s42=>(xn 3 fun _ j43=>(nq 0 [(44,I8 r14),(6,.slice none 0 0),(7,I8 r14)] (fj j43 s42 (xret (tr (iR (tr (tr (iR (exq_r (iR (tr (tr (iR (exq_r (tr ?_)))))))))))))))))))
   obtain rfl:=of_some h
   have q0:=of_some hk1
   subst q0
   obtain ⟨q0,qr0⟩:=Prod.mk.inj (of_some hk0)
   have q1:=qr0
   subst q0
   subst q1
   have hs:=hs.front 1 rfl
   try dsimp only [List.eraseIdx] at hs
   have hs:=hs.innsInn
   have hs:=(hs.addNilL CS 97).addInn0 CZ
   exact qq _ _ (pt [6,7] [.slice none 0 0,I8 r14] ⟨none,0,0,[],rfl,((dr [1,0,0,0] hs).pickR (pick_cons 0 rfl (pick_cons 2 rfl (pick_cons 3 rfl (pick_cons 4 rfl (pick_cons 5 rfl (fun _ he=>.tail _ (.tail _ (.tail _ (.tail _ (.tail _ (.tail _ he))))))))))))⟩)
   refine tb 0 26 (df hc) (fj j21 s20 (xs fun _ s44=>(cf (xexit (tx (tx (iH ?_)))))))
   obtain rfl:=of_some h
   exact exq_n (nn1 _ _ ⟨z9,z9_H,rfl,(hs.conv rfl),eg⟩)
  clear hs h hy
  rintro a w ⟨y10,y10_H,rfl,hs,g19,rfl⟩
  have h:=hk1
  refine iN (T s13 (xn 2 fun _ j45=>?_))
  refine nq 0 [(56,I8 (iadd .i64 z5 1)),(20,I8 (iadd .i64 z5 1))] (fin (j45 _ _ ?_))
  exact tn (kl0 _ _ ⟨n,ls n,(iadd .i64 z5 1),y10,y10_H,h,(hs.conv rfl),eg⟩)
  refine tb 0 21 (df hc) (fj j11 s10 (xs fun _ s46=>(cf (xexit (tx (tx (iH ?_)))))))
  obtain rfl:=of_some h
  exact exq_n (nn0 _ _ ⟨z6,z6_H,rfl,(hs.conv rfl),eg⟩)
 clear hs h hy
 rintro a w ⟨y7,y7_H,rfl,hs,g9,rfl⟩
 have h:=hk0
 refine T s5 (xs fun _ s47=>(xn 3 fun _ j48=>(nq 0 [(57,.slice s4_A s4_n s4_c),(6,.slice s4_A s4_n s4_c),(7,I8 0)] (fj j48 s47 (xret ?_)))))
 obtain ⟨rfl,rfl⟩:=os2 h
 have hs:=hs.innsInn
 exact qq _ _ (pt [6,7] [.slice s4_A s4_n s4_c,I8 0] ⟨s4_A,s4_n,s4_c,y7_H,rfl,(dr [1,0] hs)⟩)
theorem kpke_Encrypt.ok {K:Nat}{a0_0 a0_1 a0_2 a0_3 a0_4:Int}{a1 a2 a3 r0:List Int}{r1:Int}{a1_A:Option Addr}{a1_n a1_c:Nat}{a2_A:Option Addr}{a2_n a2_c:Nat}{a3_A:Option Addr}{a3_n a3_c:Nat}(h:kpke_Encrypt.f K a0_0 a0_1 a0_2 a0_3 a0_4 a1 a2 a3=some (r0,r1)) (w0:World) (hp1:RowL CB w0 a1_A a1_n a1_c a1) (hp2:RowL CB w0 a2_A a2_n a2_c a2) (hp3:RowL CB w0 a3_A a3_n a3_c a3) (hg0:RowL CW w0 (some ⟨0,0,none⟩) 1 1 [tab_0]) (hg1:RowL CV w0 (some ⟨1,0,none⟩) 1 1 [tab_1]) (hg2:RowL CV w0 (some ⟨2,0,none⟩) 1 1 [tab_2]):Calls Tryz.prog 36 #[.agg #[I8 a0_0,I8 a0_1,I8 a0_2,I8 a0_3,I8 a0_4],.slice a1_A a1_n a1_c,.slice a2_A a2_n a2_c,.slice a3_A a3_n a3_c] w0 fun e w'=>∃ h:(Option Addr × Nat × Nat),e = .returned (.tuple #[.slice h.1 h.2.1 h.2.2,I8 r1])∧St w0 [] [.ownL CB h.1 h.2.1 h.2.2 r0 5] [] w':=by
 refine calls_k Tryz.func36 rfl fun Q qq=>?_
 have hs:=St.startR (all_cons (RowP.ent hp1) (all_cons (RowP.ent hp2) (all_cons (RowP.ent hp3) (all_cons (RowP.ent hg0) (all_cons (RowP.ent hg1) (all_cons (RowP.ent hg2) all_nil))))))
 refine wc (a':=(fu 131 [.agg #[I8 a0_0,I8 a0_1,I8 a0_2,I8 a0_3,I8 a0_4],.slice a1_A a1_n a1_c,.slice a2_A a2_n a2_c,.slice a3_A a3_n a3_c])) (xs fun _ s1=>(xn 3 fun _ j2=>(so 0 (oBa 4 23 hs [I8 a0_0,I8 a0_1,I8 a0_2,I8 a0_3,I8 a0_4] fun b1 w gw hs=>(nq 1 [(8,.slice none 0 0),(9,I8 0)] ?_)))))
 refine fj j2 s1 (xs fun _ s3=>(xn 9 fun _ j4=>(tkt 0 23 _ (yWs 5 23 hs 0 .grow) ?_)))
 obtain ⟨⟨r2,r3,r4⟩,hg,h⟩:=ob h
 refine so 1 (oC 24 hs (kpke_Sizes.ok hg _) fun w gw hs=>?_)
 refine nq 2 [(22,.tuple #[I8 r2,I8 r3,I8 r4]),(25,I8 r2),(26,I8 r3),(27,I8 r4),(10,I8 r2),(11,I8 r3),(12,I8 r4)] (fj j4 s3 (xs fun _ s5=>(xb (xs fun _ s6=>(xn 3 fun _ j7=>(qo 0 29 (I8 r2) ?_))))))
 obtain ⟨hc,h⟩|⟨hc,h⟩:=of_if h
 refine tb 1 30 (et hc) ?_
 refine qo 2 28 (.bool true) (fj j7 s6 (ct (xs fun _ s8=>(xn 2 fun _ j9=>(nq 0 [(8,.slice none 0 0),(9,I8 9)] (fj j9 s8 (xret (iR (tr ?_)))))))))
 obtain ⟨rfl,rfl⟩:=os2 h
 have hs:=hs.addNilL CB 5
 exact qq _ _ (pt [8,9] [.slice none 0 0,I8 9] ⟨⟨none,0,0⟩,cr,(pz (dr [1,0] hs))⟩)
 refine tb 1 30 (ef hc) (qo 2 28 (.bool false) (fj j7 s6 (cf (xs fun _ s10=>(xn 5 fun _ j11=>(qo 0 32 (.slice a1_A a1_n a1_c) (tkf 1 33 (I8 (a1.length:Int)) (yl (rR 0 hs)) ?_)))))))
 refine qo 2 34 (I8 r2) ?_
 obtain ⟨hc,h⟩|⟨hc,h⟩:=of_if h
 refine tb 3 35 (nf hc) ?_
 refine qo 4 31 (.bool false) (fj j11 s10 (cf (xk (iN (T s5 (xs fun _ s12=>(xn 9 fun _ j13=>(nq 0 [(37,.slice a1_A a1_n a1_c),(38,P0 b1)] (tkt 2 39 _ (yv hs 0 0 3 rfl (by rfl) .grow) ?_)))))))))
 obtain ⟨⟨r5,r6⟩,hg,h⟩:=ob h
 refine wpS.only 3 (oH 40 hs (kpke_read.ok hg _ (rR 0 hs)) ?_)
 rintro ⟨r5_A,r5_n,r5_c⟩ w gw hs
 have hs:=hs.conv (L':=[.ownL CZ r5_A r5_n r5_c r5 70,.blk b1 ([I8 a0_0,I8 a0_1,I8 a0_2,I8 a0_3,I8 a0_4]) 23]) rfl
 refine ⟨fun _=>trivial,?_⟩
 refine nq 4 [(36,.tuple #[.slice r5_A r5_n r5_c,.bool r6]),(41,.slice r5_A r5_n r5_c)] ?_
 cases r6 with
 | true=>
  have h:=of_if_t h
  refine nq 6 [(42,.bool true),(13,.slice r5_A r5_n r5_c),(14,.bool true)] (fj j13 s12 (xs fun _ s14=>(xb (xs fun _ s15=>(xn 3 fun _ j16=>(nq 0 [(44,.bool true),(45,.bool false),(43,.bool false)] (fj j16 s15 (cf (xs fun _ s17=>(xn 9 fun _ j18=>(qo 0 47 (.slice a2_A a2_n a2_c) ?_)))))))))))
  refine tkf 1 48 (I8 (a2.length:Int)) (yl (rR 1 hs)) ?_
  obtain ⟨hc,h⟩|⟨hc,h⟩:=of_if h
  refine tb 2 49 (nf hc) ?_
  refine nq 3 [(50,.bool false),(51,.slice a3_A a3_n a3_c)] (tkf 5 52 (I8 (a3.length:Int)) (yl (rR 2 hs)) ?_)
  obtain ⟨hc,h⟩|⟨hc,h⟩:=of_if h
  refine tb 6 53 (nf hc) ?_
  refine nq 7 [(54,.bool false),(46,.bool false)] (fj j18 s17 (cf (xk (iN (T s14 (xs fun _ s19=>?_))))))
  refine rg [5] (fun k=>True) 11 fun _ j20=>?_
  have hs:=hs.drawn1
  refine tgt 0 56 _ (yWs 5 23 hs 1 .grow) (gq 1 57 (.slice a1_A a1_n a1_c) (gq 2 58 (I8 r2) (gq 3 59 (I8 (isub .i64 r2 32)) ?_)))
  obtain ⟨h0,h1,h⟩:=oc2 h
  obtain ⟨h2,h⟩:=oc h
  obtain ⟨s7_A,hA⟩ : ∃ A,A=if a1_c=((isub .i64 r2 32):Int).toNat then a1_A else adr a1_A (((isub .i64 r2 32):Int).toNat*Cod.size CB):=⟨_,rfl⟩
  obtain ⟨s7_n,hn⟩ : ∃ n,n=((a1.length:Int):Int).toNat-((isub .i64 r2 32):Int).toNat:=⟨_,rfl⟩
  obtain ⟨s7_c,hc⟩ : ∃ c,c=a1_c-((isub .i64 r2 32):Int).toNat:=⟨_,rfl⟩
  refine tgf 4 60 (.slice s7_A s7_n s7_c) (ysb (C:=CB) 24 5 (some (I8 (isub .i64 r2 32))) none (isub .i64 r2 32) (a1.length:Int) (rR 0 hs) (.inr ⟨_,rfl⟩) (.inl ⟨rfl,rfl⟩) h0 h1 h2 hA hn hc) ?_
  have hs:=hs.addSub (C:=CB) 0 rfl h0 h1 h2 hA hn hc
  have hs:=hs.pickR (pick_cons 0 rfl (pick_cons 4 rfl (pick_cons 5 rfl (pick_cons 6 rfl (pick_cons 1 rfl (pick_cons 2 rfl (pick_cons 3 rfl pick_nil)))))))
  obtain ⟨⟨r8,r9⟩,hg,h⟩:=ob h
  refine wpG.only 5 (by kernel_rfl) (wpOp_call (d:=(some 61)) (by kernel_rfl) (fun _=>by kernel_rfl) (kpke_expanded_s.ok hg hs) ?_)
  rintro e w ⟨y10_A,y10_n,y10_c,y10_H,rfl,hs⟩
  refine ⟨_,rfl,?_⟩
  refine ⟨⟨fun hf=>absurd hf (by decide),.all _ _⟩,?_⟩
  refine gq 6 55 (.tuple #[.slice y10_A y10_n y10_c,I8 r9]) (gq 7 62 (.slice y10_A y10_n y10_c) (gq 8 63 (I8 r9) (gq 9 15 (.slice y10_A y10_n y10_c) (gq 10 16 (I8 r9) ?_))))
  refine gf (j20 _ _ (T s19 (xs fun _ s21=>(xs fun _ s22=>(xn 2 fun _ j23=>(qo 0 64 (I8 r9) ?_))))))
  obtain ⟨hc,h⟩|⟨hc,h⟩:=of_if h
  refine tb 1 65 (nf hc) ?_
  refine fj j23 s22 (cf (xk (T s21 (xs fun _ s24=>(xn 8 fun _ j25=>(qo 0 67 (P0 b1) (tkt 1 68 _ (yv hs 2 0 3 rfl (by rfl) .grow) (qo 2 69 (.pointer (some ⟨b1,1,none⟩)) (tkt 3 70 _ (yv hs 2 1 3 rfl (by rfl) .grow) ?_)))))))))
  refine qo 4 71 (.slice a3_A a3_n a3_c) ?_
  obtain ⟨r14,hg,h⟩:=ob h
  refine wpS.only 5 (oH 72 hs (kpke_noises.ok hg _ (rR 7 hs) (rR 2 hs) (rR 3 hs) (rR 4 hs)) ?_)
  rintro ⟨r14_A,r14_n,r14_c⟩ w gw hs
  have hs:=hs.conv (L':=[.ownL CZ r14_A r14_n r14_c r14 70,.ownL CS y10_A y10_n y10_c y10_H 97,.ownL CZ r5_A r5_n r5_c r5 70,.blk b1 ([I8 a0_0,I8 a0_1,I8 a0_2,I8 a0_3,I8 a0_4]) 23]) rfl
  refine ⟨fun _=>trivial,?_⟩
  obtain ⟨r15,hg,h⟩:=ob h
  refine wpS.only 6 (oH 73 hs (kpke_vector_parts.ok hg _ (rL 0 hs)) ?_)
  rintro ⟨r15_A,r15_n,r15_c⟩ w gw hs
  have hs:=hs.conv (L':=[.ownL CZ r15_A r15_n r15_c r15 70,.ownL CZ r14_A r14_n r14_c r14 70,.ownL CS y10_A y10_n y10_c y10_H 97,.ownL CZ r5_A r5_n r5_c r5 70,.blk b1 ([I8 a0_0,I8 a0_1,I8 a0_2,I8 a0_3,I8 a0_4]) 23]) rfl
  refine ⟨fun _=>trivial,?_⟩
  refine qo 7 17 (.slice r15_A r15_n r15_c) (fj j25 s24 (xs fun _ s26=>(xn 9 fun _ j27=>(qo 0 74 (P0 b1) (tkt 1 75 _ (yv hs 4 0 3 rfl (by rfl) .grow) (qo 2 76 (.pointer (some ⟨b1,2,none⟩)) ?_))))))
  refine tkt 3 77 _ (yv hs 4 2 3 rfl (by rfl) .grow) (nq 4 [(78,.slice a3_A a3_n a3_c),(79,P0 b1)] (tkt 6 80 _ (yv hs 4 0 3 rfl (by rfl) .grow) ?_))
  obtain ⟨r16,hg,h⟩:=ob h
  refine wpS.only 7 (oH 81 hs (kpke_noises.ok hg _ (rR 7 hs) (rR 2 hs) (rR 3 hs) (rR 4 hs)) ?_)
  rintro ⟨r16_A,r16_n,r16_c⟩ w gw hs
  have hs:=hs.conv (L':=[.ownL CZ r16_A r16_n r16_c r16 70,.ownL CZ r15_A r15_n r15_c r15 70,.ownL CZ r14_A r14_n r14_c r14 70,.ownL CS y10_A y10_n y10_c y10_H 97,.ownL CZ r5_A r5_n r5_c r5 70,.blk b1 ([I8 a0_0,I8 a0_1,I8 a0_2,I8 a0_3,I8 a0_4]) 23]) rfl
  refine ⟨fun _=>trivial,?_⟩
  refine qo 8 18 (.slice r16_A r16_n r16_c) (fj j27 s26 (xs fun _ s28=>(xs fun _ s29=>(xn 3 fun _ j30=>(qo 0 82 (.slice y10_A y10_n y10_c) (tkf 1 83 (I8 (r8.length:Int)) (ylLL (LLP.mk (rL 3 hs) (hs.innR 0 rfl))) (qo 2 84 (I8 0) ?_)))))))
  refine fj j30 s29 (?_)
  obtain ⟨y19,hy,hk0⟩:=ob h
  refine wp_exq (N:=fun a w=>St w0 [] [.ownL CZ r16_A r16_n r16_c y19 70,.ownL CZ r15_A r15_n r15_c r15 70,.ownL CZ r14_A r14_n r14_c r14 70,.ownL CS y10_A y10_n y10_c y10_H 97,.ownL CZ r5_A r5_n r5_c r5 70,.blk b1 ([I8 a0_0,I8 a0_1,I8 a0_2,I8 a0_3,I8 a0_4]) 23] [.inn CZ y10_H r8,.rowL CB s7_A s7_n s7_c (subL a1 (isub .i64 r2 32) (a1.length:Int)),.rowL CW (some ⟨0,0,none⟩) 1 1 ([tab_0]),.rowL CV (some ⟨1,0,none⟩) 1 1 ([tab_1]),.rowL CV (some ⟨2,0,none⟩) 1 1 ([tab_2]),.rowL CB a1_A a1_n a1_c a1,.rowL CB a2_A a2_n a2_c a2,.rowL CB a3_A a3_n a3_c a3] w∧∃ g32,a=fr g32 135 [(2,[.slice a2_A a2_n a2_c,.slice a3_A a3_n a3_c,P0 b1]),(8,[.slice none 0 0,I8 0]),(13,[.slice r5_A r5_n r5_c]),(17,[.slice r15_A r15_n r15_c,.slice r16_A r16_n r16_c])]) (fun N0 nn0=>?_) ?_
  clear hk0
  refine xb ?_
  refine wp_loop_k (fun n a w=>∃ z17 z18,kpke_Encrypt.l0 K n a0_3 r8 r15 z17 z18=some y19∧St w0 [] [.ownL CZ r16_A r16_n r16_c z18 70,.ownL CZ r15_A r15_n r15_c r15 70,.ownL CZ r14_A r14_n r14_c r14 70,.ownL CS y10_A y10_n y10_c y10_H 97,.ownL CZ r5_A r5_n r5_c r5 70,.blk b1 ([I8 a0_0,I8 a0_1,I8 a0_2,I8 a0_3,I8 a0_4]) 23] [.inn CZ y10_H r8,.rowL CB s7_A s7_n s7_c (subL a1 (isub .i64 r2 32) (a1.length:Int)),.rowL CW (some ⟨0,0,none⟩) 1 1 ([tab_0]),.rowL CV (some ⟨1,0,none⟩) 1 1 ([tab_1]),.rowL CV (some ⟨2,0,none⟩) 1 1 ([tab_2]),.rowL CB a1_A a1_n a1_c a1,.rowL CB a2_A a2_n a2_c a2,.rowL CB a3_A a3_n a3_c a3] w∧∃ g31,a=fr g31 135 [(2,[.slice a2_A a2_n a2_c,.slice a3_A a3_n a3_c,P0 b1]),(8,[.slice none 0 0,I8 0]),(13,[.slice r5_A r5_n r5_c]),(17,[.slice r15_A r15_n r15_c,.slice r16_A r16_n r16_c]),(82,[.slice y10_A y10_n y10_c,I8 (r8.length:Int),I8 z17])]) K ⟨0,r16,hy,hs.conv rfl,eg⟩ ?_
  clear hs h hy
  rintro n a w ⟨z17,z18,h,hs,g31,rfl⟩ KL0 kl0
  cases n with
  | zero=>exact nomatch (show none=some _ from h)
  | succ n=>
   refine xs fun _ s33=>(xn 1 fun _ j34=>?_)
   obtain ⟨hc,h⟩|⟨hc,h⟩:=of_if h
   refine tb 0 85 (dt hc) ?_
   refine fj j34 s33 (xs fun _ s35=>(ct (xk (T s35 (xs fun _ s36=>(xb (xs fun _ s37=>(xn 5 fun _ j38=>(qo 0 86 (I8 z17) ?_)))))))))
   obtain ⟨h0,h1,h⟩:=oc2 h
   have i0_39:=h0
   have i1_39:=h1
   refine tkf 1 87 (PA CS y10_A z17) (yiLL (C:=CZ) 94 97 .i64 z17 (LLP.mk (rL 3 hs) (hs.innR 0 rfl)) h0 h1) ?_
   obtain ⟨s20_A,hA⟩ : ∃ A,A=(rdL CS y10_H z17).1:=⟨_,rfl⟩
   obtain ⟨s20_n,hn⟩ : ∃ n,n=(rdL CS y10_H z17).2.1:=⟨_,rfl⟩
   obtain ⟨s20_c,hc⟩ : ∃ c,c=(rdL CS y10_H z17).2.2:=⟨_,rfl⟩
   refine tkt 2 88 (.slice s20_A s20_n s20_c) (by subst hA hn hc; exact yLL (C:=CZ) 97 z17 (LLP.mk (rL 3 hs) (hs.innR 0 rfl)) i0_39 i1_39) ?_
   have hs:=hs.addInnI (C:=CZ) 0 rfl i0_39 i1_39 hA hn hc
   refine nq 3 [(19,I8 z17),(20,.slice s20_A s20_n s20_c)] (fj j38 s37 (?_))
   refine rg [15] (fun k=>True) 16 fun _ j40=>?_
   have hs:=hs.drawn1
   refine gq 0 89 (.slice r16_A r16_n r16_c) (gq 1 90 (I8 z17) (gq 2 91 (.slice r16_A r16_n r16_c) (gq 3 92 (I8 z17) ?_)))
   obtain ⟨h0,h1,h⟩:=oc2 h
   have i0_41:=h0
   have i1_41:=h1
   refine tgf 4 93 (PA CZ r16_A z17) (yiL (C:=CZ) 97 70 .i64 z17 (rL 0 hs) h0 h1) (tgt 5 94 _ (yLA (C:=CZ) 70 z17 (rL 0 hs) rfl i0_41 i1_41) (gq 6 95 (.slice s20_A s20_n s20_c) (gq 7 96 (.slice r15_A r15_n r15_c) (gq 11 100 (.pointer (some ⟨b1,3,none⟩)) ?_))))
   refine tgt 12 101 _ (yv hs 5 3 3 rfl (by rfl) .grow) ?_
   obtain ⟨r21,hg,h⟩:=ob h
   refine go 8 (oC 97 hs (kpke_vector_dot.ok hg _ (rR 0 hs) (rL 1 hs)) fun w gw hs=>⟨.of gw,?_⟩)
   obtain ⟨r22,hg,h⟩:=ob h
   refine go 9 (oC 98 hs (kq_Back.ok hg _) fun w gw hs=>⟨.of gw,?_⟩)
   obtain ⟨r23,hg,h⟩:=ob h
   refine go 10 (oC 99 hs (kq_Add.ok hg _) fun w gw hs=>⟨.of gw,?_⟩)
   obtain ⟨r24,hg,h⟩:=ob h
   refine go 13 (oC 102 hs (kq_Squeeze.ok hg _) fun w gw hs=>⟨.of gw,?_⟩)
   obtain ⟨h0,h1,h⟩:=oc2 h
   have i0_42:=h0
   have i1_42:=h1
   refine tgf 14 103 (PA CZ r16_A z17) (yiL (C:=CZ) 97 70 .i64 z17 (rL 0 hs) h0 h1) (go 15 (oL (C:=CZ) 70 z17 r24 hs 0 rfl i0_42 i1_42 fun w hs=>⟨⟨fun hf=>absurd hf (by decide),.all _ _⟩,(gf (j40 _ _ ?_))⟩))
   refine iN (T s36 (xn 2 fun _ j43=>?_))
   refine nq 0 [(104,I8 (iadd .i64 z17 1)),(84,I8 (iadd .i64 z17 1))] (fin (j43 _ _ ?_))
   exact tn (kl0 _ _ ⟨n,ls n,(iadd .i64 z17 1),(wrL z18 z17 r24),h,(pk [1,2,3,4,5,6,7,8] hs),eg⟩)
   refine tb 0 85 (df hc) (fj j34 s33 (xs fun _ s44=>(cf (xexit (tx (tx (iH ?_)))))))
   obtain rfl:=of_some h
   exact exq_n (nn0 _ _ ⟨(hs.conv rfl),eg⟩)
  clear hs h hy
  rintro a w ⟨hs,g32,rfl⟩
  have h:=hk0
  refine T s28 (xs fun _ s45=>?_)
  obtain ⟨y26,hj,h⟩:=ob h
  refine wp_join (N:=fun a w=>∃ b25,St w0 [] [.blk b25 (enc .i32 y26) 70,.ownL CZ r16_A r16_n r16_c y19 70,.ownL CZ r15_A r15_n r15_c r15 70,.ownL CZ r14_A r14_n r14_c r14 70,.ownL CS y10_A y10_n y10_c y10_H 97,.ownL CZ r5_A r5_n r5_c r5 70,.blk b1 ([I8 a0_0,I8 a0_1,I8 a0_2,I8 a0_3,I8 a0_4]) 23] [.inn CZ y10_H r8,.rowL CB s7_A s7_n s7_c (subL a1 (isub .i64 r2 32) (a1.length:Int)),.rowL CW (some ⟨0,0,none⟩) 1 1 ([tab_0]),.rowL CV (some ⟨1,0,none⟩) 1 1 ([tab_1]),.rowL CV (some ⟨2,0,none⟩) 1 1 ([tab_2]),.rowL CB a1_A a1_n a1_c a1,.rowL CB a2_A a2_n a2_c a2,.rowL CB a3_A a3_n a3_c a3] w∧∃ g46,a=fr g46 135 [(2,[.slice a2_A a2_n a2_c]),(4,[P0 b1]),(8,[.slice none 0 0,I8 0]),(18,[.slice r16_A r16_n r16_c]),(21,[P0 b25])]) (fun N nj=>?_) ?_
  clear h
  have h:=hj
  refine rg [14] (fun k=>True) 15 fun _ j47=>?_
  have hs:=hs.drawn1
  refine gq 0 105 (.slice r5_A r5_n r5_c) (gq 1 106 (.slice r15_A r15_n r15_c) (gq 4 109 (.pointer (some ⟨b1,2,none⟩)) (tgt 5 110 _ (yv hs 5 2 3 rfl (by rfl) .grow) (gq 6 111 (.slice a3_A a3_n a3_c) ?_))))
  refine gq 7 112 (P0 b1) (tgt 8 113 _ (yv hs 5 0 3 rfl (by rfl) .grow) (gq 9 114 (I8 (imul .i64 2 a0_0)) (gq 10 115 (U1 (iconv .u8 (imul .i64 2 a0_0))) ?_)))
  refine wpG.many [2,13] (by kernel_rfl) (by decide) (forall_cons ?_ (forall_cons ?_ forall_nil))
  obtain ⟨r27,hg,h⟩:=ob h
  refine (oC 107 hs (kpke_vector_dot.ok hg _ (rL 4 hs) (rL 1 hs)) ?_)
  intro w gw hs
  refine ⟨.of gw,?_⟩
  refine wpG.many [3,13] (by kernel_rfl) (by decide) (forall_cons ?_ (forall_cons ?_ forall_nil))
  obtain ⟨r28,hg,h⟩:=ob h
  refine (oC 108 hs (kq_Back.ok hg _) ?_)
  intro w gw hs
  refine ⟨.of gw,?_⟩
  refine wpG.many [11,13] (by kernel_rfl) (by decide) (forall_cons ?_ (forall_cons ?_ forall_nil))
  obtain ⟨r29,hg,h⟩:=ob h
  refine (oC 116 hs (kpke_Noise.ok hg _ (rR 7 hs) (rR 2 hs) (rR 3 hs) (rR 4 hs)) ?_)
  intro w gw hs
  refine ⟨.of gw,?_⟩
  refine wpG.many [12,13] (by kernel_rfl) (by decide) (forall_cons ?_ (forall_cons ?_ forall_nil))
  obtain ⟨r30,hg,h⟩:=ob h
  refine (oC 117 hs (kq_Add.ok hg _) ?_)
  intro w gw hs
  refine ⟨.of gw,?_⟩
  refine go 13 (oNe 21 70 .i32 (zeroA 256) hs fun b31 w gw hs=>⟨.of gw,?_⟩)
  refine go 14 (oWe 70 .i32 r30 hs 0 fun w kp hs=>⟨⟨fun hf=>absurd hf (by decide),.all _ _⟩,?_⟩)
  refine gf (j47 _ _ ?_)
  obtain rfl:=of_some h
  exact nj _ _ ⟨b31,(hs.conv rfl),eg⟩
  refine (oN 21 70 hs (enc .i32 (zeroA 256)) (ag .i32 (zeroA 256)) ?_)
  intro b32 w gw hs
  refine ⟨.of gw,?_⟩
  obtain ⟨r33,hg,h⟩:=ob h
  refine go 12 (oC 117 hs (kq_Add.ok hg _) fun w gw hs=>⟨.of gw,?_⟩)
  refine go 14 (oWe 70 .i32 r33 hs 0 fun w kp hs=>⟨⟨fun hf=>absurd hf (by decide),.all _ _⟩,?_⟩)
  refine gf (j47 _ _ ?_)
  obtain rfl:=of_some h
  exact nj _ _ ⟨b32,(hs.conv rfl),eg⟩
  refine (oN 21 70 hs (enc .i32 (zeroA 256)) (ag .i32 (zeroA 256)) ?_)
  intro b34 w gw hs
  refine ⟨.of gw,?_⟩
  obtain ⟨r35,hg,h⟩:=ob h
  refine go 11 (oC 116 hs (kpke_Noise.ok hg _ (rR 7 hs) (rR 2 hs) (rR 3 hs) (rR 4 hs)) fun w gw hs=>⟨.of gw,?_⟩)
  obtain ⟨r36,hg,h⟩:=ob h
  refine go 12 (oC 117 hs (kq_Add.ok hg _) fun w gw hs=>⟨.of gw,?_⟩)
  refine go 14 (oWe 70 .i32 r36 hs 0 fun w kp hs=>⟨⟨fun hf=>absurd hf (by decide),.all _ _⟩,?_⟩)
  refine gf (j47 _ _ ?_)
  obtain rfl:=of_some h
  exact nj _ _ ⟨b34,(hs.conv rfl),eg⟩
  refine (oN 21 70 hs (enc .i32 (zeroA 256)) (ag .i32 (zeroA 256)) ?_)
  intro b37 w gw hs
  refine ⟨.of gw,?_⟩
  obtain ⟨r38,hg,h⟩:=ob h
  refine go 3 (oC 108 hs (kq_Back.ok hg _) fun w gw hs=>⟨.of gw,?_⟩)
  obtain ⟨r39,hg,h⟩:=ob h
  refine go 11 (oC 116 hs (kpke_Noise.ok hg _ (rR 7 hs) (rR 2 hs) (rR 3 hs) (rR 4 hs)) fun w gw hs=>⟨.of gw,?_⟩)
  obtain ⟨r40,hg,h⟩:=ob h
  refine go 12 (oC 117 hs (kq_Add.ok hg _) fun w gw hs=>⟨.of gw,?_⟩)
  refine go 14 (oWe 70 .i32 r40 hs 0 fun w kp hs=>⟨⟨fun hf=>absurd hf (by decide),.all _ _⟩,?_⟩)
  refine gf (j47 _ _ ?_)
  obtain rfl:=of_some h
  exact nj _ _ ⟨b37,(hs.conv rfl),eg⟩
  refine (oN 21 70 hs (enc .i32 (zeroA 256)) (ag .i32 (zeroA 256)) ?_)
  intro b41 w gw hs
  refine ⟨.of gw,?_⟩
  obtain ⟨r42,hg,h⟩:=ob h
  refine go 2 (oC 107 hs (kpke_vector_dot.ok hg _ (rL 5 hs) (rL 2 hs)) fun w gw hs=>⟨.of gw,?_⟩)
  obtain ⟨r43,hg,h⟩:=ob h
  refine go 3 (oC 108 hs (kq_Back.ok hg _) fun w gw hs=>⟨.of gw,?_⟩)
  obtain ⟨r44,hg,h⟩:=ob h
  refine go 11 (oC 116 hs (kpke_Noise.ok hg _ (rR 7 hs) (rR 2 hs) (rR 3 hs) (rR 4 hs)) fun w gw hs=>⟨.of gw,?_⟩)
  obtain ⟨r45,hg,h⟩:=ob h
  refine go 12 (oC 117 hs (kq_Add.ok hg _) fun w gw hs=>⟨.of gw,?_⟩)
  refine go 14 (oWe 70 .i32 r45 hs 0 fun w kp hs=>⟨⟨fun hf=>absurd hf (by decide),.all _ _⟩,?_⟩)
  refine gf (j47 _ _ ?_)
  obtain rfl:=of_some h
  exact nj _ _ ⟨b41,(hs.conv rfl),eg⟩
  clear hj hs
  rintro a w ⟨b25,hs,g46,rfl⟩
  refine T s45 (xs fun _ s48=>?_)
  refine rg [7] (fun k=>True) 8 fun _ j49=>?_
  have hs:=hs.drawn1
  refine tgt 0 118 _ (yWe 70 hs 0 .grow) (gq 1 119 (.slice a2_A a2_n a2_c) (gq 4 122 (.pointer (some ⟨b1,4,none⟩)) (tgt 5 123 _ (yv hs 6 4 3 rfl (by rfl) .grow) ?_)))
  obtain ⟨r46,hg,h⟩:=ob h
  refine go 2 (oC 120 hs (kpke_spread.ok hg _ (rR 6 hs)) fun w gw hs=>⟨.of gw,?_⟩)
  obtain ⟨r47,hg,h⟩:=ob h
  refine go 3 (oC 121 hs (kq_Add.ok hg _) fun w gw hs=>⟨.of gw,?_⟩)
  obtain ⟨r48,hg,h⟩:=ob h
  refine go 6 (oC 124 hs (kq_Squeeze.ok hg _) fun w gw hs=>⟨.of gw,?_⟩)
  refine go 7 (oWe 70 .i32 r48 hs 0 fun w kp hs=>⟨⟨fun hf=>absurd hf (by decide),.all _ _⟩,?_⟩)
  refine gf (j49 _ _ (T s48 (xs fun _ s50=>?_)))
  refine rg [] (fun k=>True) 12 fun _ j51=>?_
  have hs:=hs.drawn1
  refine gq 0 125 (.slice r16_A r16_n r16_c) (gq 1 126 (.pointer (some ⟨b1,3,none⟩)) (tgt 2 127 _ (yv hs 6 3 3 rfl (by rfl) .grow) (tgt 4 129 _ (yWe 70 hs 0 .grow) (gq 5 130 (.pointer (some ⟨b1,4,none⟩)) ?_))))
  refine tgt 6 131 _ (yv hs 6 4 3 rfl (by rfl) .grow) ?_
  obtain ⟨r49,hg,h⟩:=ob h
  refine wpG.only 3 (by kernel_rfl) (oH 128 hs (kpke_vector_packed.ok hg _ (rL 1 hs)) ?_)
  rintro ⟨r49_A,r49_n,r49_c⟩ w gw hs
  have hs:=hs.conv (L':=[.ownL CB r49_A r49_n r49_c r49 5,.blk b25 (enc .i32 r48) 70,.ownL CZ r16_A r16_n r16_c y19 70,.ownL CZ r15_A r15_n r15_c r15 70,.ownL CZ r14_A r14_n r14_c r14 70,.ownL CS y10_A y10_n y10_c y10_H 97,.ownL CZ r5_A r5_n r5_c r5 70,.blk b1 ([I8 a0_0,I8 a0_1,I8 a0_2,I8 a0_3,I8 a0_4]) 23]) rfl
  refine ⟨.of gw,?_⟩
  obtain ⟨r50,hg,h⟩:=ob h
  refine wpG.only 7 (by kernel_rfl) (oH 132 hs (kq_Pack.ok hg _) ?_)
  rintro ⟨r50_A,r50_n,r50_c⟩ w gw hs
  have hs:=hs.conv (L':=[.ownL CB r50_A r50_n r50_c r50 5,.ownL CB r49_A r49_n r49_c r49 5,.blk b25 (enc .i32 r48) 70,.ownL CZ r16_A r16_n r16_c y19 70,.ownL CZ r15_A r15_n r15_c r15 70,.ownL CZ r14_A r14_n r14_c r14 70,.ownL CS y10_A y10_n y10_c y10_H 97,.ownL CZ r5_A r5_n r5_c r5 70,.blk b1 ([I8 a0_0,I8 a0_1,I8 a0_2,I8 a0_3,I8 a0_4]) 23]) rfl
  refine ⟨.of gw,?_⟩
  refine go 8 (oLt (C:=CS) 133 57 24 2 (.slice none 0 0) #[(0,.slice r49_A r49_n r49_c),(1,.slice r50_A r50_n r50_c)] ([(r49_A,r49_n,r49_c),(r50_A,r50_n,r50_c)]:List HS) hs rfl (by decide) (by decide) fun s51_A s51_n s51_c w gw hs=>⟨.of gw,?_⟩)
  obtain ⟨r52,hg,h⟩:=ob h
  refine wpG.only 9 (by kernel_rfl) (oH 134 hs (bits_Join.ok hg _ (LLP.mk (rL 0 hs) (inn_cons (rL 2 hs) (inn_cons (rL 1 hs) inn_nil)))) ?_)
  rintro ⟨r52_A,r52_n,r52_c⟩ w gw hs
  have hs:=hs.conv (L':=[.ownL CB r52_A r52_n r52_c r52 5,.ownL CS s51_A s51_n s51_c ([(r49_A,r49_n,r49_c),(r50_A,r50_n,r50_c)]:List HS) 24,.ownL CB r50_A r50_n r50_c r50 5,.ownL CB r49_A r49_n r49_c r49 5,.blk b25 (enc .i32 r48) 70,.ownL CZ r16_A r16_n r16_c y19 70,.ownL CZ r15_A r15_n r15_c r15 70,.ownL CZ r14_A r14_n r14_c r14 70,.ownL CS y10_A y10_n y10_c y10_H 97,.ownL CZ r5_A r5_n r5_c r5 70,.blk b1 ([I8 a0_0,I8 a0_1,I8 a0_2,I8 a0_3,I8 a0_4]) 23]) rfl
  refine ⟨.of gw,?_⟩
  refine gq 10 8 (.slice r52_A r52_n r52_c) (gq 11 9 (I8 0) (gf (j51 _ _ (T s50 (xret ?_)))))
  obtain ⟨rfl,rfl⟩:=os2 h
  exact qq _ _ (pt [8,9] [.slice r52_A r52_n r52_c,I8 0] ⟨⟨r52_A,r52_n,r52_c⟩,cr,(pz (dr [1,0,0,0,0,0,0,0,0,0,0] hs))⟩)
  refine tb 1 65 (nt hc) (fj j23 s22 (ct (xs fun _ s52=>(xn 3 fun _ j53=>(nq 0 [(66,I8 r9),(8,.slice none 0 0),(9,I8 r9)] (fj j53 s52 (xret (tr ?_))))))))
  obtain ⟨rfl,rfl⟩:=os2 h
  have hs:=hs.addNilL CB 5
  exact qq _ _ (pt [8,9] [.slice none 0 0,I8 r9] ⟨⟨none,0,0⟩,cr,(pz (dr [1,0,0,0] hs))⟩)
  refine tb 6 53 (nt hc) (nq 7 [(54,.bool true),(46,.bool true)] (fj j18 s17 (ct (xs fun _ s54=>(xn 2 fun _ j55=>(nq 0 [(8,.slice none 0 0),(9,I8 14)] (fj j55 s54 (xret (iR (tr ?_))))))))))
  obtain ⟨rfl,rfl⟩:=os2 h
  have hs:=hs.addNilL CB 5
  exact qq _ _ (pt [8,9] [.slice none 0 0,I8 14] ⟨⟨none,0,0⟩,cr,(pz (dr [1,0,0] hs))⟩)
  refine tb 2 49 (nt hc) (nq 3 [(50,.bool true),(51,undef),(52,undef),(53,undef),(54,.bool true),(46,.bool true)] (fj j18 s17 (ct (xs fun _ s56=>(xn 2 fun _ j57=>(nq 0 [(8,.slice none 0 0),(9,I8 14)] (fj j57 s56 (xret (iR (tr ?_))))))))))
  obtain ⟨rfl,rfl⟩:=os2 h
  have hs:=hs.addNilL CB 5
  exact qq _ _ (pt [8,9] [.slice none 0 0,I8 14] ⟨⟨none,0,0⟩,cr,(pz (dr [1,0,0] hs))⟩)
 | false=>
  have h:=of_if_f h
  refine nq 6 [(42,.bool false),(13,.slice r5_A r5_n r5_c),(14,.bool false)] (fj j13 s12 (xs fun _ s58=>(xb (xs fun _ s59=>(xn 3 fun _ j60=>(nq 0 [(44,.bool false),(45,.bool true),(43,.bool true)] (fj j60 s59 (ct (xs fun _ s61=>(xn 2 fun _ j62=>(nq 0 [(8,.slice none 0 0),(9,I8 10)] ?_)))))))))))
  refine fj j62 s61 (xret (iR (tr ?_)))
  obtain ⟨rfl,rfl⟩:=os2 h
  have hs:=hs.addNilL CB 5
  exact qq _ _ (pt [8,9] [.slice none 0 0,I8 10] ⟨⟨none,0,0⟩,cr,(pz (dr [1,0,0] hs))⟩)
 refine tb 3 35 (nt hc) (qo 4 31 (.bool true) (fj j11 s10 (ct (xs fun _ s63=>(xn 2 fun _ j64=>(nq 0 [(8,.slice none 0 0),(9,I8 10)] (fj j64 s63 (xret (iR (tr ?_))))))))))
 obtain ⟨rfl,rfl⟩:=os2 h
 have hs:=hs.addNilL CB 5
 exact qq _ _ (pt [8,9] [.slice none 0 0,I8 10] ⟨⟨none,0,0⟩,cr,(pz (dr [1,0] hs))⟩)
theorem kem_good.ok {K:Nat}{a0_0 a0_1 a0_2 a0_3 a0_4:Int}{a1:List Int}{r0:Bool}{a1_A:Option Addr}{a1_n a1_c:Nat}(h:kem_good.f K a0_0 a0_1 a0_2 a0_3 a0_4 a1=some r0) (w0:World) (hp1:RowL CB w0 a1_A a1_n a1_c a1) (hg0:RowL CW w0 (some ⟨0,0,none⟩) 1 1 [tab_0]) (hg1:RowL CV w0 (some ⟨1,0,none⟩) 1 1 [tab_1]) (hg2:RowL CV w0 (some ⟨2,0,none⟩) 1 1 [tab_2]):Ret Tryz.prog 34 #[.agg #[I8 a0_0,I8 a0_1,I8 a0_2,I8 a0_3,I8 a0_4],.slice a1_A a1_n a1_c] w0 (.bool r0):=by
 refine calls_k Tryz.func34 rfl fun Q qq=>?_
 have hs:=St.startR (all_cons (RowP.ent hp1) (all_cons (RowP.ent hg0) (all_cons (RowP.ent hg1) (all_cons (RowP.ent hg2) all_nil))))
 refine wc (a':=(fu 13 [.agg #[I8 a0_0,I8 a0_1,I8 a0_2,I8 a0_3,I8 a0_4],.slice a1_A a1_n a1_c])) (xs fun _ s1=>(xn 2 fun _ j2=>(so 0 (oBa 2 23 hs [I8 a0_0,I8 a0_1,I8 a0_2,I8 a0_3,I8 a0_4] fun b1 w gw hs=>(qo 1 4 (.bool false) ?_)))))
 refine fj j2 s1 (xs fun _ s3=>(xn 8 fun _ j4=>(tkt 0 8 _ (yWs 5 23 hs 0 .grow) (qo 1 9 (.slice a1_A a1_n a1_c) ?_))))
 obtain ⟨⟨r2,r3⟩,hg,h⟩:=ob h
 refine wpS.only 2 (oH 10 hs (kpke_Encrypt.ok hg _ (rR 0 hs) (RowL.nil _) (RowL.nil _) (rR 1 hs) (rR 2 hs) (rR 3 hs)) ?_)
 rintro ⟨r2_A,r2_n,r2_c⟩ w gw hs
 have hs:=hs.conv (L':=[.ownL CB r2_A r2_n r2_c r2 5,.blk b1 ([I8 a0_0,I8 a0_1,I8 a0_2,I8 a0_3,I8 a0_4]) 23]) rfl
 refine ⟨fun _=>trivial,?_⟩
 refine nq 3 [(7,.tuple #[.slice r2_A r2_n r2_c,I8 r3]),(11,.slice r2_A r2_n r2_c),(12,I8 r3),(5,.slice r2_A r2_n r2_c),(6,I8 r3)] (fj j4 s3 (xs fun _ s5=>(xn 3 fun _ j6=>(nq 0 [(13,I8 r3),(14,.bool (r3 == 14)),(4,.bool (r3 == 14))] (fj j6 s5 (xret ?_))))))
 obtain rfl:=of_some h
 exact qq _ _ (pt [4] [.bool (r3 == 14)] ⟨cr,hs.none⟩)
theorem kq_Sub.ok {K:Nat}{a0 a1 r0:Arr 256}(h:kq_Sub.f K a0 a1=some r0) (w0:World):Ret Tryz.prog 75 #[ag .i32 a0,ag .i32 a1] w0 (ag .i32 r0):=by
 refine calls_k Tryz.func75 rfl fun Q qq=>?_
 have hs:=St.start w0
 refine wc (a':=(fu 26 [ag .i32 a0,ag .i32 a1])) (xs fun _ s1=>(xn 3 fun _ j2=>(so 0 (oBe 2 70 .i32 a0 hs fun b1 w gw hs=>(so 1 (oBe 3 70 .i32 a1 hs fun b2 w gw hs=>?_))))))
 refine so 2 (oNe 4 70 .i32 (zeroA 256) hs fun b3 w gw hs=>?_)
 refine fj j2 s1 (xs fun _ s3=>(xs fun _ s4=>(xn 1 fun _ j5=>(qo 0 6 (I8 0) (fj j5 s4 (?_))))))
 obtain ⟨y6,hy,hk0⟩:=ob h
 refine wp_exq (N:=fun a w=>St w0 [] [.blk b3 (enc .i32 (zeroA 256)) 70,.blk b2 (enc .i32 a1) 70,.blk b1 (enc .i32 y6) 70] [] w∧∃ g7,a=fr g7 28 [(2,[P0 b1]),(4,[P0 b3])]) (fun N0 nn0=>?_) ?_
 clear hk0
 refine xb ?_
 refine wp_loop_k (fun n a w=>∃ z4 z5,kq_Sub.l0 K n a1 z4 z5=some y6∧St w0 [] [.blk b3 (enc .i32 (zeroA 256)) 70,.blk b2 (enc .i32 a1) 70,.blk b1 (enc .i32 z5) 70] [] w∧∃ g6,a=fr g6 28 [(2,[P0 b1,P0 b2,P0 b3]),(6,[I8 z4])]) K ⟨0,a0,hy,hs.conv rfl,eg⟩ ?_
 clear hs h hy
 rintro n a w ⟨z4,z5,h,hs,g6,rfl⟩ KL0 kl0
 cases n with
 | zero=>exact nomatch (show none=some _ from h)
 | succ n=>
  refine xs fun _ s8=>(xn 1 fun _ j9=>?_)
  obtain ⟨hc,h⟩|⟨hc,h⟩:=of_if h
  refine tb 0 7 (dt hc) ?_
  refine fj j9 s8 (xs fun _ s10=>(ct (xk (T s10 (?_)))))
  obtain ⟨y7,hj,h⟩:=ob h
  refine xs fun _ s12=>wp_join (N:=fun a w=>St w0 [] [.blk b3 (enc .i32 (zeroA 256)) 70,.blk b2 (enc .i32 a1) 70,.blk b1 (enc .i32 y7) 70] [] w∧∃ g11,a=fr g11 28 [(2,[P0 b1,P0 b2,P0 b3]),(6,[I8 z4])]) (fun N nj=>?_) ?_
  clear h
  have h:=hj
  refine xb (xs fun _ s13=>(xn 2 fun _ j14=>(nq 0 [(8,I8 z4),(5,I8 z4)] (fj j14 s13 (xs fun _ s15=>?_)))))
  refine rg [8] (fun k=>True) 9 fun _ j16=>?_
  have hs:=hs.drawn1
  refine gq 0 9 (I8 z4) ?_
  obtain ⟨i0_17,i1_17,h⟩:=oc2 h
  refine tgf 1 10 (P1 b1 z4) (yi 70 21 256 1 .i64 z4 i0_17 i1_17) (tgt 2 11 _ (yA hs 2 21 z4 rfl i0_17 i1_17 .grow) (gq 3 12 (I8 z4) ?_))
  obtain ⟨i0_18,i1_18,h⟩:=oc2 h
  refine tgf 4 13 (P1 b2 z4) (yi 70 21 256 1 .i64 z4 i0_18 i1_18) (tgt 5 14 _ (yA hs 1 21 z4 rfl i0_18 i1_18 .grow) (gq 6 15 (I4 (isub .i32 (rd z5 z4) (rd a1 z4))) ?_))
  obtain ⟨i0_19,i1_19,h⟩:=oc2 h
  refine tgf 7 16 (P1 b1 z4) (yi 70 21 256 1 .i64 z4 i0_19 i1_19) ?_
  obtain ⟨x8,hx,h⟩:=ob h
  refine go 8 (oA 21 x8 z4 hs 2 rfl (by cases hx; kernel_rfl) i0_19 i1_19 fun w kp hs=>⟨⟨fun hf=>absurd hf (by decide),.all _ _⟩,?_⟩)
  refine gf (j16 _ _ (T s15 (xs fun _ s20=>(xn 4 fun _ j21=>(qo 0 17 (I8 z4) ?_)))))
  obtain ⟨i0_22,i1_22,h⟩:=oc2 h
  refine tkf 1 18 (P1 b1 z4) (yi 70 21 256 1 .i64 z4 i0_22 i1_22) (tkt 2 19 _ (yA hs 2 21 z4 rfl i0_22 i1_22 .grow) ?_)
  obtain ⟨hc,h⟩|⟨hc,h⟩:=of_if h
  refine tb 3 20 (dt hc) ?_
  refine fj j21 s20 (ct (xn 6 fun _ j23=>(qo 0 21 (I8 z4) ?_)))
  obtain ⟨i0_24,i1_24,h⟩:=oc2 h
  refine tkf 1 22 (P1 b1 z4) (yi 70 21 256 1 .i64 z4 i0_24 i1_24) (tkt 2 23 _ (yA hs 2 21 z4 rfl i0_24 i1_24 .grow) (qo 3 24 (I4 (iadd .i32 (rd (wr z5 z4 x8) z4) 3329)) ?_))
  obtain ⟨i0_25,i1_25,h⟩:=oc2 h
  refine tkf 4 25 (P1 b1 z4) (yi 70 21 256 1 .i64 z4 i0_25 i1_25) ?_
  obtain ⟨x9,hx,h⟩:=ob h
  refine so 5 (oA 21 x9 z4 hs 2 rfl (by cases hx; kernel_rfl) i0_25 i1_25 fun w kp hs=>?_)
  refine fin (j23 _ _ (iN ?_))
  obtain rfl:=of_some h
  exact nj _ _ ⟨(hs.conv rfl),eg⟩
  refine tb 3 20 (df hc) (fj j21 s20 (cf (xk (iN ?_))))
  obtain rfl:=of_some h
  exact nj _ _ ⟨(hs.conv rfl),eg⟩
  clear hj hs
  rintro a w ⟨hs,g11,rfl⟩
  refine T s12 (xn 2 fun _ j26=>(nq 0 [(26,I8 (iadd .i64 z4 1)),(6,I8 (iadd .i64 z4 1))] (fin (j26 _ _ ?_))))
  exact tn (kl0 _ _ ⟨n,ls n,(iadd .i64 z4 1),y7,h,(hs.conv rfl),eg⟩)
  refine tb 0 7 (df hc) (fj j9 s8 (xs fun _ s27=>(cf (xexit (tx (tx (iH ?_)))))))
  obtain rfl:=of_some h
  exact exq_n (nn0 _ _ ⟨(hs.conv rfl),eg⟩)
 clear hs h hy
 rintro a w ⟨hs,g7,rfl⟩
 have h:=hk0
 refine T s3 (xs fun _ s28=>(xn 2 fun _ j29=>(tkt 0 27 _ (yWe 70 hs 2 .grow) (so 1 (oWe 70 .i32 y6 hs 0 fun w kp hs=>(fj j29 s28 (xret ?_)))))))
 obtain rfl:=of_some h
 exact qq _ _ (pr (rr [.cell 4 70] [ag .i32 y6] (.cons (rcN 256 hs 0 rfl (enc_len _ _)) .nil)) ⟨cr,hs.none⟩)
end Go.Proofs.YtemdbgmldljbpaaGreatDoor
