/- own -/
import Derived.Test.YtemdbgmldljbpaaDoorMh
import Derived.Test.YtemdbgmldljbpaaDoorProg
import Derived.Test.YtemdbgmldljbpaaDoorYF0
import Derived.Test.YtemdbgmldljbpaaDoorYX0
import Derived.Test.YtemdbgmldljbpaaDoorYX1
set_option linter.unusedVariables false
set_option linter.unusedSimpArgs false
set_option maxRecDepth 100000
set_option maxHeartbeats 4000000
namespace Go.Proofs.YtemdbgmldljbpaaDoor
open Go.Mx
attribute [local irreducible] wpOp
theorem kq_Unpack.ok {K:Nat}{a0:List Int}{a1:Int}{r0:Arr 256}{r1:Bool}{a0_A:Option Addr}{a0_n a0_c:Nat}(h:kq_Unpack.f K a0 a1=some (r0,r1)) (w0:World) (hp0:RowL CB w0 a0_A a0_n a0_c a0):Ret Tryd.prog 65 #[.slice a0_A a0_n a0_c,I8 a1] w0 (.tuple #[ag .i32 r0,.bool r1]):=by
 refine calls_k Tryd.func65 rfl fun Q qq=>?_
 have hs:=St.startR (all_cons (RowP.ent hp0) all_nil)
 refine wc (a':=(fu 42 [.slice a0_A a0_n a0_c,I8 a1])) ?_
 refine xs fun _ s1=>?_
 refine xn 2 fun _ j2=>?_
 refine so 0 (oNe 4 32 .i32 (zeroA 256) hs fun b1 w gw hs=>?_)
 refine qo 1 5 (.bool false) ?_
 refine fj j2 s1 (xs fun _ s3=>(xs fun _ s4=>(xn 13 fun _ j5=>?_)))
 refine qo 0 9 (I8 a1) ?_
 obtain ⟨hc,h⟩|⟨hc,h⟩:=of_if h
 refine tb 1 10 (dt hc) ?_
 refine nq 2 [(11,.bool true),(12,undef),(13,undef),(14,.bool true),(15,.bool true),(16,undef),(17,undef),(18,undef),(19,undef),(20,undef),(21,.bool true)] ?_
 refine fj j5 s4 (ct (xs fun _ s6=>(xn 3 fun _ j7=>?_)))
 refine qo 0 22 (ag .i32 (zeroA 256)) ?_
 refine so 1 (oWe 32 .i32 (zeroA 256) hs 0 fun w kp hs=>?_)
 refine qo 2 5 (.bool false) ?_
 refine fj j7 s6 (xret (tr ?_))
 obtain ⟨rfl,rfl⟩:=os2 h
 exact qq _ _ (pr (rr [.cell 4 32,.tmp 5] [ag .i32 (zeroA 256),.bool false] (.cons (rcN 256 hs 0 rfl (enc_len _ _)) (.cons rt .nil))) ⟨cr,hs.none⟩)
 refine tb 1 10 (df hc) ?_
 refine nq 2 [(11,.bool false),(12,I8 a1)] ?_
 obtain ⟨hc,h⟩|⟨hc,h⟩:=of_if h
 refine tb 4 13 (dt hc) ?_
 refine nq 5 [(14,.bool true),(15,.bool true),(16,undef),(17,undef),(18,undef),(19,undef),(20,undef),(21,.bool true)] ?_
 refine fj j5 s4 (ct (xs fun _ s8=>(xn 3 fun _ j9=>?_)))
 refine qo 0 22 (ag .i32 (zeroA 256)) ?_
 refine so 1 (oWe 32 .i32 (zeroA 256) hs 0 fun w kp hs=>?_)
 refine qo 2 5 (.bool false) ?_
 refine fj j9 s8 (xret (tr ?_))
 obtain ⟨rfl,rfl⟩:=os2 h
 exact qq _ _ (pr (rr [.cell 4 32,.tmp 5] [ag .i32 (zeroA 256),.bool false] (.cons (rcN 256 hs 0 rfl (enc_len _ _)) (.cons rt .nil))) ⟨cr,hs.none⟩)
 refine tb 4 13 (df hc) ?_
 refine nq 5 [(14,.bool false),(15,.bool false),(16,.slice a0_A a0_n a0_c)] ?_
 refine tkf 8 17 (I8 (a0.length:Int)) (yl (rR 0 hs)) ?_
 refine nq 9 [(18,I8 a1),(19,I8 (imul .i64 32 a1))] ?_
 obtain ⟨hc,h⟩|⟨hc,h⟩:=of_if h
 refine tb 11 20 (nf hc) ?_
 refine qo 12 21 (.bool false) ?_
 refine fj j5 s4 (cf (xk (T s3 (xs fun _ s10=>(xn 1 fun _ j11=>?_)))))
 refine so 0 (oNe 6 32 .i32 (zeroA 256) hs fun b2 w gw hs=>?_)
 refine fj j11 s10 (xs fun _ s12=>(xs fun _ s13=>(xn 5 fun _ j14=>?_)))
 refine nq 0 [(23,.slice a0_A a0_n a0_c),(24,I8 a1)] ?_
 obtain ⟨r3,hg,h⟩:=ob h
 refine wpS.only 2 (oH 25 hs (bits_Unpack.ok hg _ (rR 0 hs)) ?_)
 rintro ⟨r3_A,r3_n,r3_c⟩ w gw hs
 have hs:=hs.conv (L':=[.ownL (CI .u32) r3_A r3_n r3_c r3 70,.blk b2 (enc .i32 (zeroA 256)) 32,.blk b1 (enc .i32 (zeroA 256)) 32]) rfl
 refine ⟨fun _=>trivial,?_⟩
 refine tkf 3 26 (I8 (r3.length:Int)) (yl (rL 0 hs)) ?_
 refine qo 4 27 (I8 0) ?_
 refine fj j14 s13 (?_)
 obtain ⟨y6,hy,hk0⟩:=ob h
 refine wp_exq (N:=fun a w=>St w0 [] [.ownL (CI .u32) r3_A r3_n r3_c r3 70,.blk b2 (enc .i32 y6) 32,.blk b1 (enc .i32 (zeroA 256)) 32] [.rowL CB a0_A a0_n a0_c a0] w∧∃ g16,a=fr g16 44 [(1,[I8 a1]),(4,[P0 b1,.bool false,P0 b2])]) (fun N0 nn0=>?_) ?_
 clear hk0
 refine xb ?_
 refine wp_loop_k (fun n a w=>∃ z4 z5,kq_Unpack.l0 K n r3 z4 z5=some y6∧St w0 [] [.ownL (CI .u32) r3_A r3_n r3_c r3 70,.blk b2 (enc .i32 z5) 32,.blk b1 (enc .i32 (zeroA 256)) 32] [.rowL CB a0_A a0_n a0_c a0] w∧∃ g15,a=fr g15 44 [(1,[I8 a1]),(4,[P0 b1,.bool false,P0 b2]),(25,[.slice r3_A r3_n r3_c,I8 (r3.length:Int),I8 z4])]) K ⟨0,(zeroA 256),hy,hs.conv rfl,eg⟩ ?_
 clear hs h hy
 rintro n a w ⟨z4,z5,h,hs,g15,rfl⟩ KL0 kl0
 cases n with
 | zero=>exact nomatch (show none=some _ from h)
 | succ n=>
  refine xs fun _ s17=>?_
  refine xn 1 fun _ j18=>?_
  obtain ⟨hc,h⟩|⟨hc,h⟩:=of_if h
  refine tb 0 28 (dt hc) ?_
  refine fj j18 s17 (xs fun _ s19=>(ct (xk (T s19 (xs fun _ s20=>(xb (xs fun _ s21=>(xn 5 fun _ j22=>?_))))))))
  refine qo 0 29 (I8 z4) ?_
  obtain ⟨h0,h1,h⟩:=oc2 h
  have i0_23:=h0
  have i1_23:=h1
  refine tkf 1 30 (PA (CI .u32) r3_A z4) (yiL (C:=(CI .u32)) 68 70 .i64 z4 (rL 0 hs) h0 h1) ?_
  refine tkt 2 31 _ (yL (C:=(CI .u32)) 70 z4 (rL 0 hs) rfl i0_23 i1_23) ?_
  refine qo 3 7 (I8 z4) ?_
  obtain ⟨x7,hx,h⟩:=ob h
  refine tkf 4 8 (U4 x7) (yn hx) ?_
  refine fj j22 s21 (xn 5 fun _ j24=>?_)
  refine nq 0 [(32,I8 z4),(33,U4 x7),(34,I4 (iconv .i32 x7))] ?_
  obtain ⟨i0_25,i1_25,h⟩:=oc2 h
  refine tkf 3 35 (P1 b2 z4) (yi 32 21 256 1 .i64 z4 i0_25 i1_25) ?_
  obtain ⟨x8,hx,h⟩:=ob h
  refine so 4 (oA 21 x8 z4 hs 1 rfl (by cases hx; kernel_rfl) i0_25 i1_25 fun w kp hs=>?_)
  refine fin (j24 _ _ (iN (T s20 (xn 2 fun _ j26=>?_))))
  refine nq 0 [(36,I8 (iadd .i64 z4 1)),(27,I8 (iadd .i64 z4 1))] ?_
  refine fin (j26 _ _ ?_)
  exact tn (kl0 _ _ ⟨n,ls n,(iadd .i64 z4 1),(wr z5 z4 x8),h,(hs.conv rfl),eg⟩)
  refine tb 0 28 (df hc) ?_
  refine fj j18 s17 (xs fun _ s27=>(cf (xexit (tx (tx (iH ?_))))))
  obtain rfl:=of_some h
  exact exq_n (nn0 _ _ ⟨(hs.conv rfl),eg⟩)
 clear hs h hy
 rintro a w ⟨hs,g16,rfl⟩
 have h:=hk0
 refine T s12 (xs fun _ s28=>(xs fun _ s29=>?_))
 refine rg [] (fun k=>True) 5 fun _ j30=>?_
 have hs:=hs.drawn1
 refine tgt 0 37 _ (yWe 32 hs 1 .grow) ?_
 refine gq 1 38 (I8 a1) ?_
 obtain ⟨r9,hg,h⟩:=ob h
 refine go 2 (oC 39 hs (kq_bound.ok hg _) fun w gw hs=>⟨.of gw,?_⟩)
 obtain ⟨r10,hg,h⟩:=ob h
 cases r10 with
 | true=>
  have h:=of_if_t h
  refine go 3 (oC 40 hs (kq_below.ok hg _) fun w gw hs=>⟨.of gw,?_⟩)
  refine gq 4 41 (.bool false) ?_
  refine gf (j30 _ _ ?_)
  refine T s29 (cf (xk (T s28 (xs fun _ s31=>(xn 3 fun _ j32=>?_)))))
  refine tkt 0 43 _ (yWe 32 hs 1 .grow) ?_
  refine so 1 (oWe 32 .i32 y6 hs 2 fun w kp hs=>?_)
  refine qo 2 5 (.bool true) ?_
  refine fj j32 s31 (xret ?_)
  obtain ⟨rfl,rfl⟩:=os2 h
  exact qq _ _ (pr (rr [.cell 4 32,.tmp 5] [ag .i32 y6,.bool true] (.cons (rcN 256 hs 2 rfl (enc_len _ _)) (.cons rt .nil))) ⟨cr,hs.none⟩)
 | false=>
  have h:=of_if_f h
  refine go 3 (oC 40 hs (kq_below.ok hg _) fun w gw hs=>⟨.of gw,?_⟩)
  refine gq 4 41 (.bool true) ?_
  refine gf (j30 _ _ ?_)
  refine T s29 (ct (xs fun _ s33=>(xn 3 fun _ j34=>?_)))
  refine qo 0 42 (ag .i32 (zeroA 256)) ?_
  refine so 1 (oWe 32 .i32 (zeroA 256) hs 2 fun w kp hs=>?_)
  refine qo 2 5 (.bool false) ?_
  refine fj j34 s33 (xret (tr ?_))
  obtain ⟨rfl,rfl⟩:=os2 h
  exact qq _ _ (pr (rr [.cell 4 32,.tmp 5] [ag .i32 (zeroA 256),.bool false] (.cons (rcN 256 hs 2 rfl (enc_len _ _)) (.cons rt .nil))) ⟨cr,hs.none⟩)
 refine tb 11 20 (nt hc) ?_
 refine qo 12 21 (.bool true) ?_
 refine fj j5 s4 (ct (xs fun _ s35=>(xn 3 fun _ j36=>?_)))
 refine qo 0 22 (ag .i32 (zeroA 256)) ?_
 refine so 1 (oWe 32 .i32 (zeroA 256) hs 0 fun w kp hs=>?_)
 refine qo 2 5 (.bool false) ?_
 refine fj j36 s35 (xret (tr ?_))
 obtain ⟨rfl,rfl⟩:=os2 h
 exact qq _ _ (pr (rr [.cell 4 32,.tmp 5] [ag .i32 (zeroA 256),.bool false] (.cons (rcN 256 hs 0 rfl (enc_len _ _)) (.cons rt .nil))) ⟨cr,hs.none⟩)
theorem kpke_read.ok {K:Nat}{a0:List Int}{a1 a2:Int}{r0:List (Arr 256)}{r1:Bool}{a0_A:Option Addr}{a0_n a0_c:Nat}(h:kpke_read.f K a0 a1 a2=some (r0,r1)) (w0:World) (hp0:RowL CB w0 a0_A a0_n a0_c a0):Calls Tryd.prog 55 #[.slice a0_A a0_n a0_c,I8 a1,I8 a2] w0 fun e w'=>∃ h:(Option Addr × Nat × Nat),e = .returned (.tuple #[.slice h.1 h.2.1 h.2.2,.bool r1])∧St w0 [] [.ownL CZ h.1 h.2.1 h.2.2 r0 32] [] w':=by
 refine calls_k Tryd.func55 rfl fun Q qq=>?_
 have hs:=St.startR (all_cons (RowP.ent hp0) all_nil)
 refine wc (a':=(fu 41 [.slice a0_A a0_n a0_c,I8 a1,I8 a2])) ?_
 refine xs fun _ s1=>?_
 refine xn 2 fun _ j2=>?_
 refine nq 0 [(6,.slice none 0 0),(7,.bool false)] ?_
 refine fj j2 s1 (xs fun _ s3=>(xn 3 fun _ j4=>?_))
 refine nq 0 [(13,I8 a2),(14,I8 (imul .i64 32 a2))] ?_
 obtain ⟨x1,hx,h⟩:=ob h
 refine tkf 2 8 (I8 x1) (yn hx) ?_
 refine fj j4 s3 (xs fun _ s5=>(xn 3 fun _ j6=>?_))
 refine qo 0 15 (I8 a1) ?_
 obtain ⟨h0,h1,h⟩:=oc2 h
 refine so 1 (oMk (C:=CZ) 16 78 32 1024 137438953472 .i64 .i64 a1 hs h0 h1 (by decide) (by decide) fun s2_A s2_n s2_c w gw hs=>?_)
 refine qo 2 9 (.slice s2_A s2_n s2_c) ?_
 refine fj j6 s5 (xs fun _ s7=>(xs fun _ s8=>(xn 3 fun _ j9=>?_)))
 refine qo 0 17 (.slice s2_A s2_n s2_c) ?_
 refine tkf 1 18 (I8 ((List.replicate (a1:Int).toNat (Cod.zero CZ)).length:Int)) (yl (rL 0 hs)) ?_
 refine qo 2 19 (I8 0) ?_
 refine fj j9 s8 (?_)
 obtain ⟨t0,hy,hk0⟩:=ob h
 refine wp_exq (N:=fun a w=>∃ y5,t0 = .inl y5∧St w0 [] [.ownL CZ s2_A s2_n s2_c y5 32] [.rowL CB a0_A a0_n a0_c a0] w∧∃ g11,a=fr g11 44 [(9,[.slice s2_A s2_n s2_c])]) (fun N0 nn0=>?_) ?_
 refine xb ?_
 refine wp_loop_k (fun n a w=>∃ z3 z4,kpke_read.l0 K n a0 a1 a2 x1 z3 z4=some t0∧St w0 [] [.ownL CZ s2_A s2_n s2_c z4 32] [.rowL CB a0_A a0_n a0_c a0] w∧∃ g10,a=fr g10 44 [(0,[.slice a0_A a0_n a0_c]),(2,[I8 a2]),(8,[I8 x1,.slice s2_A s2_n s2_c]),(18,[I8 ((List.replicate (a1:Int).toNat (Cod.zero CZ)).length:Int),I8 z3])]) K ⟨0,(List.replicate (a1:Int).toNat (Cod.zero CZ)),hy,hs.conv rfl,eg⟩ ?_
 clear hs h hy
 rintro n a w ⟨z3,z4,h,hs,g10,rfl⟩ KL0 kl0
 cases n with
 | zero=>exact nomatch (show none=some _ from h)
 | succ n=>
  refine xs fun _ s12=>?_
  refine xn 1 fun _ j13=>?_
  obtain ⟨hc,h⟩|⟨hc,h⟩:=of_if h
  refine tb 0 20 (dt hc) ?_
  refine fj j13 s12 (xs fun _ s14=>(ct (xk (T s14 (xs fun _ s15=>(xb (xs fun _ s16=>(xn 2 fun _ j17=>?_))))))))
  refine nq 0 [(21,I8 z3),(10,I8 z3)] ?_
  refine fj j17 s16 (xs fun _ s18=>(xn 17 fun _ j19=>?_))
  refine nq 0 [(23,.slice a0_A a0_n a0_c),(24,I8 z3),(25,I8 x1),(26,I8 (imul .i64 z3 x1)),(27,I8 z3),(28,I8 (iadd .i64 z3 1)),(29,I8 x1),(30,I8 (imul .i64 (iadd .i64 z3 1) x1))] ?_
  obtain ⟨h0,h1,h⟩:=oc2 h
  obtain ⟨h2,h⟩:=oc h
  obtain ⟨s6_A,hA⟩ : ∃ A,A=if a0_c=((imul .i64 z3 x1):Int).toNat then a0_A else adr a0_A (((imul .i64 z3 x1):Int).toNat*Cod.size CB):=⟨_,rfl⟩
  obtain ⟨s6_n,hn⟩ : ∃ n,n=((imul .i64 (iadd .i64 z3 1) x1):Int).toNat-((imul .i64 z3 x1):Int).toNat:=⟨_,rfl⟩
  obtain ⟨s6_c,hc⟩ : ∃ c,c=a0_c-((imul .i64 z3 x1):Int).toNat:=⟨_,rfl⟩
  refine tkf 8 31 (.slice s6_A s6_n s6_c) (ysb (C:=CB) 24 5 (some (I8 (imul .i64 z3 x1))) (some (I8 (imul .i64 (iadd .i64 z3 1) x1))) (imul .i64 z3 x1) (imul .i64 (iadd .i64 z3 1) x1) (rR 0 hs) (.inr ⟨_,rfl⟩) (.inr ⟨_,rfl⟩) h0 h1 h2 hA hn hc) ?_
  have hs:=hs.addSub (C:=CB) 0 rfl h0 h1 h2 hA hn hc
  refine qo 9 32 (I8 a2) ?_
  obtain ⟨⟨r7,r8⟩,hg,h⟩:=ob h
  refine so 10 (oC 33 hs (kq_Unpack.ok hg _ (rR 0 hs)) fun w gw hs=>?_)
  refine nq 11 [(22,.tuple #[ag .i32 r7,.bool r8]),(34,ag .i32 r7)] ?_
  cases r8 with
  | true=>
   have h:=of_if_t h
   refine qo 13 35 (.bool true) ?_
   refine so 14 (oNe 11 32 .i32 (zeroA 256) hs fun b9 w gw hs=>?_)
   refine so 15 (oWe 32 .i32 r7 hs 0 fun w kp hs=>?_)
   refine qo 16 12 (.bool true) ?_
   refine fj j19 s18 (xs fun _ s20=>(xs fun _ s21=>(xn 2 fun _ j22=>?_)))
   refine nq 0 [(36,.bool true),(37,.bool false)] ?_
   refine fj j22 s21 (cf (xk (T s20 (xn 5 fun _ j23=>?_))))
   refine nq 0 [(38,.slice s2_A s2_n s2_c),(39,I8 z3)] ?_
   refine tkt 2 40 _ (yWe 32 hs 0 .grow) ?_
   obtain ⟨h0,h1,h⟩:=oc2 h
   have i0_24:=h0
   have i1_24:=h1
   refine tkf 3 41 (PA CZ s2_A z3) (yiL (C:=CZ) 78 32 .i64 z3 (rL 1 hs) h0 h1) ?_
   refine so 4 (oL (C:=CZ) 32 z3 r7 hs 1 rfl i0_24 i1_24 fun w hs=>?_)
   refine fin (j23 _ _ (iN (T s15 (xn 2 fun _ j25=>?_))))
   refine nq 0 [(42,I8 (iadd .i64 z3 1)),(19,I8 (iadd .i64 z3 1))] ?_
   refine fin (j25 _ _ ?_)
   exact tn (kl0 _ _ ⟨n,ls n,(iadd .i64 z3 1),(wrL z4 z3 r7),h,(pk [1] (dr [0,1] hs)),eg⟩)
  | false=>
   have h:=of_if_f h
   refine qo 13 35 (.bool false) ?_
   refine so 14 (oNe 11 32 .i32 (zeroA 256) hs fun b10 w gw hs=>?_)
   refine so 15 (oWe 32 .i32 r7 hs 0 fun w kp hs=>?_)
   refine qo 16 12 (.bool false) ?_
   refine fj j19 s18 (xs fun _ s26=>(xs fun _ s27=>(xn 2 fun _ j28=>?_)))
   refine nq 0 [(36,.bool false),(37,.bool true)] ?_
   refine fj j28 s27 (ct (xs fun _ s29=>(xn 2 fun _ j30=>?_)))
   refine nq 0 [(6,.slice none 0 0),(7,.bool false)] ?_
   refine fj j30 s29 (xret (tr (iR (tr (tr (iR (exq_r (tr ?_))))))))
   obtain rfl:=of_some h
   obtain ⟨q0,qr0⟩:=Prod.mk.inj (of_some hk0)
   have q1:=qr0
   subst q0
   subst q1
   have hs:=hs.addNilL CZ 32
   exact qq _ _ (pt [6,7] [.slice none 0 0,.bool false] ⟨⟨none,0,0⟩,cr,(pz (dr [1,0,0] hs))⟩)
  refine tb 0 20 (df hc) ?_
  refine fj j13 s12 (xs fun _ s31=>(cf (xexit (tx (tx (iH ?_))))))
  obtain rfl:=of_some h
  exact exq_n (nn0 _ _ ⟨z4,rfl,(hs.conv rfl),eg⟩)
 clear hs h hy
 rintro a w ⟨y5,rfl,hs,g11,rfl⟩
 have h:=hk0
 refine T s7 (xs fun _ s32=>(xn 3 fun _ j33=>?_))
 refine nq 0 [(43,.slice s2_A s2_n s2_c),(6,.slice s2_A s2_n s2_c),(7,.bool true)] ?_
 refine fj j33 s32 (xret ?_)
 obtain ⟨rfl,rfl⟩:=os2 h
 exact qq _ _ (pt [6,7] [.slice s2_A s2_n s2_c,.bool true] ⟨⟨s2_A,s2_n,s2_c⟩,cr,(pz hs)⟩)
theorem kq_Squeeze.ok {K:Nat}{a0:Arr 256}{a1:Int}{r0:Arr 256}(h:kq_Squeeze.f K a0 a1=some r0) (w0:World):Ret Tryd.prog 56 #[ag .i32 a0,I8 a1] w0 (ag .i32 r0):=by
 refine calls_k Tryd.func56 rfl fun Q qq=>?_
 have hs:=St.start w0
 refine wc (a':=(fu 30 [ag .i32 a0,I8 a1])) ?_
 refine xs fun _ s1=>?_
 refine xn 2 fun _ j2=>?_
 refine so 0 (oBe 2 32 .i32 a0 hs fun b1 w gw hs=>?_)
 refine so 1 (oNe 4 32 .i32 (zeroA 256) hs fun b2 w gw hs=>?_)
 refine fj j2 s1 (xs fun _ s3=>(xs fun _ s4=>(xn 6 fun _ j5=>?_)))
 refine qo 0 7 (I8 a1) ?_
 obtain ⟨hc,h⟩|⟨hc,h⟩:=of_if h
 refine tb 1 8 (dt hc) ?_
 refine nq 2 [(9,.bool true),(10,undef),(11,undef),(12,.bool true)] ?_
 refine fj j5 s4 (ct (xs fun _ s6=>(xn 2 fun _ j7=>?_)))
 refine qo 0 13 (ag .i32 (zeroA 256)) ?_
 refine so 1 (oWe 32 .i32 (zeroA 256) hs 0 fun w kp hs=>?_)
 refine fj j7 s6 (xret (tr ?_))
 obtain rfl:=of_some h
 exact qq _ _ (pr (rr [.cell 4 32] [ag .i32 (zeroA 256)] (.cons (rcN 256 hs 0 rfl (enc_len _ _)) .nil)) ⟨cr,hs.none⟩)
 refine tb 1 8 (df hc) ?_
 refine nq 2 [(9,.bool false),(10,I8 a1)] ?_
 obtain ⟨hc,h⟩|⟨hc,h⟩:=of_if h
 refine tb 4 11 (dt hc) ?_
 refine qo 5 12 (.bool true) ?_
 refine fj j5 s4 (ct (xs fun _ s8=>(xn 2 fun _ j9=>?_)))
 refine qo 0 13 (ag .i32 (zeroA 256)) ?_
 refine so 1 (oWe 32 .i32 (zeroA 256) hs 0 fun w kp hs=>?_)
 refine fj j9 s8 (xret (tr ?_))
 obtain rfl:=of_some h
 exact qq _ _ (pr (rr [.cell 4 32] [ag .i32 (zeroA 256)] (.cons (rcN 256 hs 0 rfl (enc_len _ _)) .nil)) ⟨cr,hs.none⟩)
 refine tb 4 11 (df hc) ?_
 refine qo 5 12 (.bool false) ?_
 refine fj j5 s4 (cf (xk (T s3 (xs fun _ s10=>(xs fun _ s11=>(xn 2 fun _ j12=>?_))))))
 refine tkt 0 14 _ (yWe 32 hs 1 .grow) ?_
 refine qo 1 15 (I8 0) ?_
 refine fj j12 s11 (?_)
 obtain ⟨y5,hy,hk0⟩:=ob h
 refine wp_exq (N:=fun a w=>St w0 [] [.blk b2 (enc .i32 (zeroA 256)) 32,.blk b1 (enc .i32 y5) 32] [] w∧∃ g14,a=fr g14 32 [(2,[P0 b1]),(4,[P0 b2])]) (fun N0 nn0=>?_) ?_
 clear hk0
 refine xb ?_
 refine wp_loop_k (fun n a w=>∃ z3 z4,kq_Squeeze.l0 K n a0 a1 z3 z4=some y5∧St w0 [] [.blk b2 (enc .i32 (zeroA 256)) 32,.blk b1 (enc .i32 z4) 32] [] w∧∃ g13,a=fr g13 32 [(1,[I8 a1,P0 b1]),(4,[P0 b2]),(14,[ag .i32 a0,I8 z3])]) K ⟨0,a0,hy,hs.conv rfl,eg⟩ ?_
 clear hs h hy
 rintro n a w ⟨z3,z4,h,hs,g13,rfl⟩ KL0 kl0
 cases n with
 | zero=>exact nomatch (show none=some _ from h)
 | succ n=>
  refine xs fun _ s15=>?_
  refine xn 1 fun _ j16=>?_
  obtain ⟨hc,h⟩|⟨hc,h⟩:=of_if h
  refine tb 0 16 (dt hc) ?_
  refine fj j16 s15 (xs fun _ s17=>(ct (xk (T s17 (xs fun _ s18=>(xb (xs fun _ s19=>(xn 4 fun _ j20=>?_))))))))
  refine qo 0 17 (I8 z3) ?_
  obtain ⟨h0,h1,h⟩:=oc2 h
  refine tkf 1 18 (I4 (rd a0 z3)) (yt 32 21 .i64 h0 h1) ?_
  refine qo 2 5 (I8 z3) ?_
  obtain ⟨x6,hx,h⟩:=ob h
  refine tkf 3 6 (I4 x6) (yn hx) ?_
  refine fj j20 s19 (?_)
  refine rg [11] (fun k=>True) 12 fun _ j21=>?_
  have hs:=hs.drawn1
  refine gq 0 19 (I8 z3) ?_
  refine gq 1 20 (I4 x6) ?_
  refine gq 2 21 (I8 a1) ?_
  obtain ⟨h0,h⟩:=oc h
  refine tgf 3 22 (I4 (ishl .i32 x6 a1)) (ysl 21 .i64 h0) ?_
  refine gq 4 23 (I4 (iadd .i32 (ishl .i32 x6 a1) 1664)) ?_
  refine gq 5 24 (I4 (iquo .i32 (iadd .i32 (ishl .i32 x6 a1) 1664) 3329)) ?_
  refine gq 6 25 (I8 a1) ?_
  obtain ⟨h0,h⟩:=oc h
  refine tgf 7 26 (I4 (ishl .i32 1 a1)) (ysl 21 .i64 h0) ?_
  refine gq 8 27 (I4 (isub .i32 (ishl .i32 1 a1) 1)) ?_
  refine gq 9 28 (I4 (iand .i32 (iquo .i32 (iadd .i32 (ishl .i32 x6 a1) 1664) 3329) (isub .i32 (ishl .i32 1 a1) 1))) ?_
  obtain ⟨i0_22,i1_22,h⟩:=oc2 h
  refine tgf 10 29 (P1 b1 z3) (yi 32 21 256 1 .i64 z3 i0_22 i1_22) ?_
  obtain ⟨x7,hx,h⟩:=ob h
  refine go 11 (oA 21 x7 z3 hs 1 rfl (by cases hx; kernel_rfl) i0_22 i1_22 fun w kp hs=>⟨⟨fun hf=>absurd hf (by decide),.all _ _⟩,?_⟩)
  refine gf (j21 _ _ ?_)
  refine iN (T s18 (xn 2 fun _ j23=>?_))
  refine nq 0 [(30,I8 (iadd .i64 z3 1)),(15,I8 (iadd .i64 z3 1))] ?_
  refine fin (j23 _ _ ?_)
  exact tn (kl0 _ _ ⟨n,ls n,(iadd .i64 z3 1),(wr z4 z3 x7),h,(hs.conv rfl),eg⟩)
  refine tb 0 16 (df hc) ?_
  refine fj j16 s15 (xs fun _ s24=>(cf (xexit (tx (tx (iH ?_))))))
  obtain rfl:=of_some h
  exact exq_n (nn0 _ _ ⟨(hs.conv rfl),eg⟩)
 clear hs h hy
 rintro a w ⟨hs,g14,rfl⟩
 have h:=hk0
 refine T s10 (xs fun _ s25=>(xn 2 fun _ j26=>?_))
 refine tkt 0 31 _ (yWe 32 hs 1 .grow) ?_
 refine so 1 (oWe 32 .i32 y5 hs 0 fun w kp hs=>?_)
 refine fj j26 s25 (xret ?_)
 obtain rfl:=of_some h
 exact qq _ _ (pr (rr [.cell 4 32] [ag .i32 y5] (.cons (rcN 256 hs 0 rfl (enc_len _ _)) .nil)) ⟨cr,hs.none⟩)
theorem kq_Back.ok {K:Nat}{a0 r0:Arr 256}(h:kq_Back.f K a0=some r0) (w0:World):Ret Tryd.prog 57 #[ag .i32 a0] w0 (ag .i32 r0):=by
 refine calls_k Tryd.func57 rfl fun Q qq=>?_
 have hs:=St.start w0
 refine wc (a':=(fu 74 [ag .i32 a0])) ?_
 refine xs fun _ s1=>?_
 refine xn 2 fun _ j2=>?_
 refine so 0 (oBe 1 32 .i32 a0 hs fun b1 w gw hs=>?_)
 refine so 1 (oNe 2 32 .i32 (zeroA 256) hs fun b2 w gw hs=>?_)
 refine fj j2 s1 (xs fun _ s3=>(xn 2 fun _ j4=>?_))
 obtain ⟨r3,hg,h⟩:=ob h
 refine so 0 (oCB 10 hs (kq_roots.ok hg _) fun b4 w gw hs=>?_)
 refine qo 1 3 (P0 b4) ?_
 refine fj j4 s3 (xs fun _ s5=>(xn 1 fun _ j6=>?_))
 refine qo 0 4 (I8 128) ?_
 refine fj j6 s5 (xs fun _ s7=>(xs fun _ s8=>(xn 1 fun _ j9=>?_)))
 refine qo 0 5 (I8 2) ?_
 refine fj j9 s8 (?_)
 obtain ⟨y8,hy,hk0⟩:=ob h
 refine wp_exq (N:=fun a w=>St w0 [] [.blk b4 (enc .i32 r3) 142,.blk b2 (enc .i32 (zeroA 256)) 32,.blk b1 (enc .i32 y8) 32] [] w∧∃ g11,a=fr g11 75 [(1,[P0 b1,P0 b2])]) (fun N0 nn0=>?_) ?_
 clear hk0
 refine xb ?_
 refine wp_loop_k (fun n a w=>∃ z5 z6 z7,kq_Back.l0 K n r3 z5 z6 z7=some y8∧St w0 [] [.blk b4 (enc .i32 r3) 142,.blk b2 (enc .i32 (zeroA 256)) 32,.blk b1 (enc .i32 z7) 32] [] w∧∃ g10,a=fr g10 75 [(1,[P0 b1,P0 b2,P0 b4,I8 z5,I8 z6])]) K ⟨128,2,a0,hy,hs.conv rfl,eg⟩ ?_
 clear hs h hy
 rintro n a w ⟨z5,z6,z7,h,hs,g10,rfl⟩ KL0 kl0
 cases n with
 | zero=>exact nomatch (show none=some _ from h)
 | succ n=>
  refine xs fun _ s12=>?_
  refine xs fun _ s13=>?_
  refine xn 2 fun _ j14=>?_
  refine qo 0 11 (I8 z6) ?_
  obtain ⟨hc,h⟩|⟨hc,h⟩:=of_if h
  refine tb 1 12 (dt hc) ?_
  refine fj j14 s13 (ct (xk (T s12 (xs fun _ s15=>(xb (xs fun _ s16=>(xn 1 fun _ j17=>?_)))))))
  refine qo 0 6 (I8 0) ?_
  refine fj j17 s16 (?_)
  obtain ⟨⟨y12,y13⟩,hy,hk1⟩:=ob h
  refine wp_exq (N:=fun a w=>St w0 [] [.blk b4 (enc .i32 r3) 142,.blk b2 (enc .i32 (zeroA 256)) 32,.blk b1 (enc .i32 y13) 32] [] w∧∃ g19,a=fr g19 75 [(1,[P0 b1,P0 b2,P0 b4,I8 y12,I8 z6])]) (fun N1 nn1=>?_) ?_
  clear hk1
  refine xb ?_
  refine wp_loop_k (fun n a w=>∃ z9 z10 z11,kq_Back.l1 K n r3 z6 z9 z10 z11=some (y12,y13)∧St w0 [] [.blk b4 (enc .i32 r3) 142,.blk b2 (enc .i32 (zeroA 256)) 32,.blk b1 (enc .i32 z11) 32] [] w∧∃ g18,a=fr g18 75 [(1,[P0 b1,P0 b2,P0 b4,I8 z9,I8 z6,I8 z10])]) K ⟨z5,0,z7,hy,hs.conv rfl,eg⟩ ?_
  clear hs h hy
  rintro n a w ⟨z9,z10,z11,h,hs,g18,rfl⟩ KL1 kl1
  cases n with
  | zero=>exact nomatch (show none=some _ from h)
  | succ n=>
   refine xs fun _ s20=>?_
   refine xs fun _ s21=>?_
   refine xn 2 fun _ j22=>?_
   refine qo 0 15 (I8 z10) ?_
   obtain ⟨hc,h⟩|⟨hc,h⟩:=of_if h
   refine tb 1 16 (dt hc) ?_
   refine fj j22 s21 (ct (xk (T s20 (xs fun _ s23=>(xb (xs fun _ s24=>(xn 3 fun _ j25=>?_)))))))
   refine nq 0 [(21,I8 z9),(22,I8 (isub .i64 z9 1))] ?_
   obtain ⟨x14,hx,h⟩:=ob h
   refine tkf 2 4 (I8 x14) (yn hx) ?_
   refine fj j25 s24 (xs fun _ s26=>(xn 2 fun _ j27=>?_))
   refine nq 0 [(23,I8 z10),(7,I8 z10)] ?_
   refine fj j27 s26 (?_)
   obtain ⟨y17,hy,hk2⟩:=ob h
   refine wp_exq (N:=fun a w=>St w0 [] [.blk b4 (enc .i32 r3) 142,.blk b2 (enc .i32 (zeroA 256)) 32,.blk b1 (enc .i32 y17) 32] [] w∧∃ g29,a=fr g29 75 [(1,[P0 b1,P0 b2,P0 b4,I8 x14,I8 z6,I8 z10])]) (fun N2 nn2=>?_) ?_
   clear hk2
   refine xb ?_
   refine wp_loop_k (fun n a w=>∃ z15 z16,kq_Back.l2 K n r3 z6 z10 x14 z15 z16=some y17∧St w0 [] [.blk b4 (enc .i32 r3) 142,.blk b2 (enc .i32 (zeroA 256)) 32,.blk b1 (enc .i32 z16) 32] [] w∧∃ g28,a=fr g28 75 [(1,[P0 b1,P0 b2,P0 b4,I8 x14,I8 z6,I8 z10,I8 z15])]) K ⟨z10,z11,hy,hs.conv rfl,eg⟩ ?_
   clear hs h hy
   rintro n a w ⟨z15,z16,h,hs,g28,rfl⟩ KL2 kl2
   cases n with
   | zero=>exact nomatch (show none=some _ from h)
   | succ n=>
    refine xs fun _ s30=>?_
    refine xs fun _ s31=>?_
    refine xn 5 fun _ j32=>?_
    refine nq 0 [(24,I8 z15),(25,I8 z10),(26,I8 z6),(27,I8 (iadd .i64 z10 z6))] ?_
    obtain ⟨hc,h⟩|⟨hc,h⟩:=of_if h
    refine tb 4 28 (dt hc) ?_
    refine fj j32 s31 (ct (xk (T s30 (xs fun _ s33=>(xb (xs fun _ s34=>(xn 4 fun _ j35=>?_)))))))
    refine qo 0 31 (I8 z15) ?_
    obtain ⟨i0_36,i1_36,h⟩:=oc2 h
    refine tkf 1 32 (P1 b1 z15) (yi 32 21 256 1 .i64 z15 i0_36 i1_36) ?_
    refine tkt 2 33 _ (yA hs 2 21 z15 rfl i0_36 i1_36 .grow) ?_
    obtain ⟨x18,hx,h⟩:=ob h
    refine tkf 3 8 (I4 x18) (yn hx) ?_
    refine fj j35 s34 (xs fun _ s37=>(xn 11 fun _ j38=>?_))
    refine nq 0 [(34,I8 z15),(35,I4 x18),(36,I8 z15),(37,I8 z6),(38,I8 (iadd .i64 z15 z6))] ?_
    obtain ⟨x19,hx,h⟩:=ob h
    have hx:=of_some hx
    subst hx
    obtain ⟨i0_39,i1_39,h⟩:=oc2 h
    refine tkf 5 39 (P1 b1 (iadd .i64 z15 z6)) (yi 32 21 256 1 .i64 (iadd .i64 z15 z6) i0_39 i1_39) ?_
    refine tkt 6 40 _ (yA hs 2 21 (iadd .i64 z15 z6) rfl i0_39 i1_39 .grow) ?_
    refine nq 7 [(41,I4 (iadd .i32 x18 (rd z16 (iadd .i64 z15 z6)))),(42,I4 (irem .i32 (iadd .i32 x18 (rd z16 (iadd .i64 z15 z6))) 3329))] ?_
    obtain ⟨i0_40,i1_40,h⟩:=oc2 h
    refine tkf 9 43 (P1 b1 z15) (yi 32 21 256 1 .i64 z15 i0_40 i1_40) ?_
    obtain ⟨x20,hx,h⟩:=ob h
    refine so 10 (oA 21 x20 z15 hs 2 rfl (by cases hx; kernel_rfl) i0_40 i1_40 fun w kp hs=>?_)
    refine fj j38 s37 (?_)
    refine rg [19] (fun k=>True) 20 fun _ j41=>?_
    have hs:=hs.drawn1
    refine gq 0 44 (I8 z15) ?_
    refine gq 1 45 (I8 z6) ?_
    refine gq 2 46 (I8 (iadd .i64 z15 z6)) ?_
    refine gq 3 47 (P0 b4) ?_
    refine gq 4 48 (I8 x14) ?_
    refine gq 5 49 (P0 b4) ?_
    obtain ⟨i0_42,i1_42,h⟩:=oc2 h
    refine tgf 6 50 (P1 b4 x14) (yi 142 21 128 1 .i64 x14 i0_42 i1_42) ?_
    refine tgt 7 51 _ (yA hs 0 21 x14 rfl i0_42 i1_42 .grow) ?_
    refine gq 8 52 (I8 z15) ?_
    refine gq 9 53 (I8 z6) ?_
    refine gq 10 54 (I8 (iadd .i64 z15 z6)) ?_
    obtain ⟨x21,hx,h⟩:=ob h
    have hx:=of_some hx
    subst hx
    obtain ⟨i0_43,i1_43,h⟩:=oc2 h
    refine tgf 11 55 (P1 b1 (iadd .i64 z15 z6)) (yi 32 21 256 1 .i64 (iadd .i64 z15 z6) i0_43 i1_43) ?_
    refine tgt 12 56 _ (yA hs 2 21 (iadd .i64 z15 z6) rfl i0_43 i1_43 .grow) ?_
    refine gq 13 57 (I4 x18) ?_
    refine gq 14 58 (I4 (isub .i32 (rd (wr z16 z15 x20) (iadd .i64 z15 z6)) x18)) ?_
    refine gq 15 59 (I4 (iadd .i32 (isub .i32 (rd (wr z16 z15 x20) (iadd .i64 z15 z6)) x18) 3329)) ?_
    refine gq 16 60 (I4 (imul .i32 (rd r3 x14) (iadd .i32 (isub .i32 (rd (wr z16 z15 x20) (iadd .i64 z15 z6)) x18) 3329))) ?_
    refine gq 17 61 (I4 (irem .i32 (imul .i32 (rd r3 x14) (iadd .i32 (isub .i32 (rd (wr z16 z15 x20) (iadd .i64 z15 z6)) x18) 3329)) 3329)) ?_
    obtain ⟨x22,hx,h⟩:=ob h
    have hx:=of_some hx
    subst hx
    obtain ⟨i0_44,i1_44,h⟩:=oc2 h
    refine tgf 18 62 (P1 b1 (iadd .i64 z15 z6)) (yi 32 21 256 1 .i64 (iadd .i64 z15 z6) i0_44 i1_44) ?_
    obtain ⟨x23,hx,h⟩:=ob h
    refine go 19 (oA 21 x23 (iadd .i64 z15 z6) hs 2 rfl (by cases hx; kernel_rfl) i0_44 i1_44 fun w kp hs=>⟨⟨fun hf=>absurd hf (by decide),.all _ _⟩,?_⟩)
    refine gf (j41 _ _ ?_)
    refine iN (T s33 (xn 3 fun _ j45=>?_))
    refine nq 0 [(29,I8 z15),(30,I8 (iadd .i64 z15 1))] ?_
    obtain ⟨x24,hx,h⟩:=ob h
    refine tkf 2 7 (I8 x24) (yn hx) ?_
    refine fin (j45 _ _ ?_)
    exact tn (kl2 _ _ ⟨n,ls n,x24,(wr (wr z16 z15 x20) (iadd .i64 z15 z6) x23),h,(hs.conv rfl),eg⟩)
    refine tb 4 28 (df hc) ?_
    refine fj j32 s31 (cf (xexit (tx (tx (iH ?_)))))
    obtain rfl:=of_some h
    exact exq_n (nn2 _ _ ⟨(hs.conv rfl),eg⟩)
   clear hs h hy
   rintro a w ⟨hs,g29,rfl⟩
   have h:=hk2
   refine iN (T s23 (xn 5 fun _ j46=>?_))
   refine nq 0 [(17,I8 z10),(18,I8 z6),(19,I8 (imul .i64 2 z6)),(20,I8 (iadd .i64 z10 (imul .i64 2 z6)))] ?_
   obtain ⟨x25,hx,h⟩:=ob h
   refine tkf 4 6 (I8 x25) (yn hx) ?_
   refine fin (j46 _ _ ?_)
   exact tn (kl1 _ _ ⟨n,ls n,x14,x25,y17,h,(hs.conv rfl),eg⟩)
   refine tb 1 16 (df hc) ?_
   refine fj j22 s21 (cf (xexit (tx (tx (iH ?_)))))
   obtain ⟨rfl,rfl⟩:=os2 h
   exact exq_n (nn1 _ _ ⟨(hs.conv rfl),eg⟩)
  clear hs h hy
  rintro a w ⟨hs,g19,rfl⟩
  have h:=hk1
  refine iN (T s15 (xn 3 fun _ j47=>?_))
  refine nq 0 [(13,I8 z6),(14,I8 (imul .i64 z6 2))] ?_
  obtain ⟨x26,hx,h⟩:=ob h
  refine tkf 2 5 (I8 x26) (yn hx) ?_
  refine fin (j47 _ _ ?_)
  exact tn (kl0 _ _ ⟨n,ls n,y12,x26,y13,h,(hs.conv rfl),eg⟩)
  refine tb 1 12 (df hc) ?_
  refine fj j14 s13 (cf (xexit (tx (tx (iH ?_)))))
  obtain rfl:=of_some h
  exact exq_n (nn0 _ _ ⟨(hs.conv rfl),eg⟩)
 clear hs h hy
 rintro a w ⟨hs,g11,rfl⟩
 have h:=hk0
 refine T s7 (xs fun _ s48=>(xs fun _ s49=>(xn 1 fun _ j50=>?_)))
 refine qo 0 63 (I8 0) ?_
 refine fj j50 s49 (?_)
 obtain ⟨y29,hy,hk3⟩:=ob h
 refine wp_exq (N:=fun a w=>St w0 [] [.blk b4 (enc .i32 r3) 142,.blk b2 (enc .i32 (zeroA 256)) 32,.blk b1 (enc .i32 y29) 32] [] w∧∃ g52,a=fr g52 75 [(1,[P0 b1,P0 b2])]) (fun N3 nn3=>?_) ?_
 clear hk3
 refine xb ?_
 refine wp_loop_k (fun n a w=>∃ z27 z28,kq_Back.l3 K n z27 z28=some y29∧St w0 [] [.blk b4 (enc .i32 r3) 142,.blk b2 (enc .i32 (zeroA 256)) 32,.blk b1 (enc .i32 z28) 32] [] w∧∃ g51,a=fr g51 75 [(1,[P0 b1,P0 b2]),(63,[I8 z27])]) K ⟨0,y8,hy,hs.conv rfl,eg⟩ ?_
 clear hs h hy
 rintro n a w ⟨z27,z28,h,hs,g51,rfl⟩ KL3 kl3
 cases n with
 | zero=>exact nomatch (show none=some _ from h)
 | succ n=>
  refine xs fun _ s53=>?_
  refine xn 1 fun _ j54=>?_
  obtain ⟨hc,h⟩|⟨hc,h⟩:=of_if h
  refine tb 0 64 (dt hc) ?_
  refine fj j54 s53 (xs fun _ s55=>(ct (xk (T s55 (xs fun _ s56=>(xb (xs fun _ s57=>(xn 2 fun _ j58=>?_))))))))
  refine nq 0 [(65,I8 z27),(9,I8 z27)] ?_
  refine fj j58 s57 (xn 8 fun _ j59=>?_)
  refine nq 0 [(66,I8 z27),(67,I8 z27)] ?_
  obtain ⟨i0_60,i1_60,h⟩:=oc2 h
  refine tkf 2 68 (P1 b1 z27) (yi 32 21 256 1 .i64 z27 i0_60 i1_60) ?_
  refine tkt 3 69 _ (yA hs 2 21 z27 rfl i0_60 i1_60 .grow) ?_
  refine nq 4 [(70,I4 (imul .i32 (rd z28 z27) 3303)),(71,I4 (irem .i32 (imul .i32 (rd z28 z27) 3303) 3329))] ?_
  obtain ⟨i0_61,i1_61,h⟩:=oc2 h
  refine tkf 6 72 (P1 b1 z27) (yi 32 21 256 1 .i64 z27 i0_61 i1_61) ?_
  obtain ⟨x30,hx,h⟩:=ob h
  refine so 7 (oA 21 x30 z27 hs 2 rfl (by cases hx; kernel_rfl) i0_61 i1_61 fun w kp hs=>?_)
  refine fin (j59 _ _ (iN (T s56 (xn 2 fun _ j62=>?_))))
  refine nq 0 [(73,I8 (iadd .i64 z27 1)),(63,I8 (iadd .i64 z27 1))] ?_
  refine fin (j62 _ _ ?_)
  exact tn (kl3 _ _ ⟨n,ls n,(iadd .i64 z27 1),(wr z28 z27 x30),h,(hs.conv rfl),eg⟩)
  refine tb 0 64 (df hc) ?_
  refine fj j54 s53 (xs fun _ s63=>(cf (xexit (tx (tx (iH ?_))))))
  obtain rfl:=of_some h
  exact exq_n (nn3 _ _ ⟨(hs.conv rfl),eg⟩)
 clear hs h hy
 rintro a w ⟨hs,g52,rfl⟩
 have h:=hk3
 refine T s48 (xs fun _ s64=>(xn 2 fun _ j65=>?_))
 refine tkt 0 74 _ (yWe 32 hs 2 .grow) ?_
 refine so 1 (oWe 32 .i32 y29 hs 1 fun w kp hs=>?_)
 refine fj j65 s64 (xret ?_)
 obtain rfl:=of_some h
 exact qq _ _ (pr (rr [.cell 2 32] [ag .i32 y29] (.cons (rcN 256 hs 1 rfl (enc_len _ _)) .nil)) ⟨cr,hs.none⟩)
theorem bits_Pack.ok {K:Nat}{a0:List Int}{a1:Int}{r0:List Int}{a0_A:Option Addr}{a0_n a0_c:Nat}(h:bits_Pack.f K a0 a1=some r0) (w0:World) (hp0:RowL (CI .u32) w0 a0_A a0_n a0_c a0):Calls Tryd.prog 95 #[.slice a0_A a0_n a0_c,I8 a1] w0 fun e w'=>∃ h:(Option Addr × Nat × Nat),e = .returned (.slice h.1 h.2.1 h.2.2)∧St w0 [] [.ownL CB h.1 h.2.1 h.2.2 r0 5] [] w':=by
 refine calls_k Tryd.func95 rfl fun Q qq=>?_
 have hs:=St.startR (all_cons (RowP.ent hp0) all_nil)
 refine wc (a':=(fu 60 [.slice a0_A a0_n a0_c,I8 a1])) ?_
 refine xs fun _ s1=>?_
 refine xn 1 fun _ j2=>?_
 refine qo 0 4 (.slice none 0 0) ?_
 refine fj j2 s1 (xs fun _ s3=>(xs fun _ s4=>(xn 6 fun _ j5=>?_)))
 refine qo 0 10 (I8 a1) ?_
 obtain ⟨hc,h⟩|⟨hc,h⟩:=of_if h
 refine tb 1 11 (dt hc) ?_
 refine nq 2 [(12,.bool true),(13,undef),(14,undef),(15,.bool true)] ?_
 refine fj j5 s4 (ct (xs fun _ s6=>(xn 1 fun _ j7=>?_)))
 refine qo 0 4 (.slice none 0 0) ?_
 refine fj j7 s6 (xret (tr ?_))
 obtain rfl:=of_some h
 have hs:=hs.addNilL CB 5
 exact qq _ _ (pt [4] [.slice none 0 0] ⟨⟨none,0,0⟩,cr,(pz hs)⟩)
 refine tb 1 11 (df hc) ?_
 refine nq 2 [(12,.bool false),(13,I8 a1)] ?_
 obtain ⟨hc,h⟩|⟨hc,h⟩:=of_if h
 refine tb 4 14 (dt hc) ?_
 refine qo 5 15 (.bool true) ?_
 refine fj j5 s4 (ct (xs fun _ s8=>(xn 1 fun _ j9=>?_)))
 refine qo 0 4 (.slice none 0 0) ?_
 refine fj j9 s8 (xret (tr ?_))
 obtain rfl:=of_some h
 have hs:=hs.addNilL CB 5
 exact qq _ _ (pt [4] [.slice none 0 0] ⟨⟨none,0,0⟩,cr,(pz hs)⟩)
 refine tb 4 14 (df hc) ?_
 refine qo 5 15 (.bool false) ?_
 refine fj j5 s4 (cf (xk (T s3 (xs fun _ s10=>(xn 8 fun _ j11=>?_)))))
 refine qo 0 16 (.slice a0_A a0_n a0_c) ?_
 refine tkf 1 17 (I8 (a0.length:Int)) (yl (rR 0 hs)) ?_
 refine nq 2 [(18,I8 a1),(19,I8 (imul .i64 (a0.length:Int) a1)),(20,I8 (iadd .i64 (imul .i64 (a0.length:Int) a1) 7)),(21,I8 (iquo .i64 (iadd .i64 (imul .i64 (a0.length:Int) a1) 7) 8))] ?_
 obtain ⟨h0,h1,h⟩:=oc2 h
 refine so 6 (oMk0 (C:=CB) 22 24 5 1 140737488355328 .i64 .i64 (iquo .i64 (iadd .i64 (imul .i64 (a0.length:Int) a1) 7) 8) hs h0 h1 (by decide) (by decide) fun s1_A s1_n s1_c w gw hs=>?_)
 refine qo 7 5 (.slice s1_A s1_n s1_c) ?_
 refine fj j11 s10 (xs fun _ s12=>(xn 2 fun _ j13=>?_))
 refine nq 0 [(6,U8 0),(7,I8 0)] ?_
 refine fj j13 s12 (xs fun _ s14=>(xs fun _ s15=>(xn 3 fun _ j16=>?_)))
 refine qo 0 23 (.slice a0_A a0_n a0_c) ?_
 refine tkf 1 24 (I8 (a0.length:Int)) (yl (rR 0 hs)) ?_
 refine qo 2 25 (I8 0) ?_
 refine fj j16 s15 (?_)
 obtain ⟨⟨y6,y7,y8⟩,hy,hk0⟩:=ob h
 refine wp_exq (N:=fun a w=>∃ y8_A y8_n y8_c,St w0 [] [.ownL CB y8_A y8_n y8_c y8 5] [.rowL (CI .u32) a0_A a0_n a0_c a0] w∧∃ g18,a=fr g18 62 [(4,[.slice none 0 0,.slice y8_A y8_n y8_c,U8 y6,I8 y7])]) (fun N0 nn0=>?_) ?_
 clear hk0
 refine xb ?_
 refine wp_loop_k (fun n a w=>∃ z2 z3 z4 z5,∃ z5_A z5_n z5_c,bits_Pack.l0 K n a0 a1 z2 z3 z4 z5=some (y6,y7,y8)∧St w0 [] [.ownL CB z5_A z5_n z5_c z5 5] [.rowL (CI .u32) a0_A a0_n a0_c a0] w∧∃ g17,a=fr g17 62 [(1,[I8 a1]),(4,[.slice none 0 0,.slice z5_A z5_n z5_c,U8 z2,I8 z3]),(23,[.slice a0_A a0_n a0_c,I8 (a0.length:Int),I8 z4])]) K ⟨0,0,0,([]:List Int),s1_A,s1_n,s1_c,hy,hs.conv rfl,eg⟩ ?_
 clear hs h hy
 rintro n a w ⟨z2,z3,z4,z5,z5_A,z5_n,z5_c,h,hs,g17,rfl⟩ KL0 kl0
 cases n with
 | zero=>exact nomatch (show none=some _ from h)
 | succ n=>
  refine xs fun _ s19=>?_
  refine xn 1 fun _ j20=>?_
  obtain ⟨hc,h⟩|⟨hc,h⟩:=of_if h
  refine tb 0 26 (dt hc) ?_
  refine fj j20 s19 (xs fun _ s21=>(ct (xk (T s21 (xs fun _ s22=>(xb (xs fun _ s23=>(xn 3 fun _ j24=>?_))))))))
  obtain ⟨h0,h1,h⟩:=oc2 h
  have i0_25:=h0
  have i1_25:=h1
  refine tkf 0 27 (PA (CI .u32) a0_A z4) (yiL (C:=(CI .u32)) 68 70 .i64 z4 (rR 0 hs) h0 h1) ?_
  refine tkt 1 28 _ (yL (C:=(CI .u32)) 70 z4 (rR 0 hs) rfl i0_25 i1_25) ?_
  obtain ⟨x9,hx,h⟩:=ob h
  refine tkf 2 9 (U4 x9) (yn hx) ?_
  refine fj j24 s23 (xs fun _ s26=>(xn 11 fun _ j27=>?_))
  refine nq 0 [(29,U8 z2),(30,U4 x9),(31,I8 a1)] ?_
  obtain ⟨h0,h⟩:=oc h
  refine tkf 3 32 (U4 (ishl .u32 1 a1)) (ysl 70 .i64 h0) ?_
  refine nq 4 [(33,U4 (isub .u32 (ishl .u32 1 a1) 1)),(34,U4 (iand .u32 x9 (isub .u32 (ishl .u32 1 a1) 1))),(35,U8 (iconv .u64 (iand .u32 x9 (isub .u32 (ishl .u32 1 a1) 1)))),(36,I8 z3)] ?_
  obtain ⟨h0,h⟩:=oc h
  refine tkf 8 37 (U8 (ishl .u64 (iconv .u64 (iand .u32 x9 (isub .u32 (ishl .u32 1 a1) 1))) z3)) (ysl 112 .i64 h0) ?_
  refine qo 9 38 (U8 (ior .u64 z2 (ishl .u64 (iconv .u64 (iand .u32 x9 (isub .u32 (ishl .u32 1 a1) 1))) z3))) ?_
  obtain ⟨x10,hx,h⟩:=ob h
  refine tkf 10 6 (U8 x10) (yn hx) ?_
  refine fj j27 s26 (xs fun _ s28=>(xn 4 fun _ j29=>?_))
  refine nq 0 [(39,I8 z3),(40,I8 a1),(41,I8 (iadd .i64 z3 a1))] ?_
  obtain ⟨x11,hx,h⟩:=ob h
  refine tkf 3 7 (I8 x11) (yn hx) ?_
  refine fj j29 s28 (?_)
  obtain ⟨⟨y15,y16,y17⟩,hy,hk1⟩:=ob h
  refine wp_exq (N:=fun a w=>∃ y17_A y17_n y17_c,St w0 [] [.ownL CB y17_A y17_n y17_c y17 5] [.rowL (CI .u32) a0_A a0_n a0_c a0] w∧∃ g31,a=fr g31 62 [(1,[I8 a1]),(4,[.slice none 0 0,.slice y17_A y17_n y17_c,U8 y15,I8 y16]),(23,[.slice a0_A a0_n a0_c,I8 (a0.length:Int),I8 z4])]) (fun N1 nn1=>?_) ?_
  clear hk1
  refine xb ?_
  refine wp_loop_k (fun n a w=>∃ z12 z13 z14,∃ z14_A z14_n z14_c,bits_Pack.l1 K n z12 z13 z14=some (y15,y16,y17)∧St w0 [] [.ownL CB z14_A z14_n z14_c z14 5] [.rowL (CI .u32) a0_A a0_n a0_c a0] w∧∃ g30,a=fr g30 62 [(1,[I8 a1]),(4,[.slice none 0 0,.slice z14_A z14_n z14_c,U8 z12,I8 z13]),(23,[.slice a0_A a0_n a0_c,I8 (a0.length:Int),I8 z4])]) K ⟨x10,x11,z5,z5_A,z5_n,z5_c,hy,hs.conv rfl,eg⟩ ?_
  clear hs h hy
  rintro n a w ⟨z12,z13,z14,z14_A,z14_n,z14_c,h,hs,g30,rfl⟩ KL1 kl1
  cases n with
  | zero=>exact nomatch (show none=some _ from h)
  | succ n=>
   refine xs fun _ s32=>?_
   refine xs fun _ s33=>?_
   refine xn 2 fun _ j34=>?_
   refine qo 0 42 (I8 z13) ?_
   obtain ⟨hc,h⟩|⟨hc,h⟩:=of_if h
   refine tb 1 43 (dt hc) ?_
   refine fj j34 s33 (ct (xk (T s32 (xs fun _ s35=>(xb (xs fun _ s36=>(xn 6 fun _ j37=>?_)))))))
   refine nq 0 [(46,.slice z14_A z14_n z14_c),(47,U8 z12),(48,U1 (iconv .u8 z12))] ?_
   refine so 3 (oLt (C:=CB) 49 24 5 1 (U1 0) #[(0,U1 (iconv .u8 z12))] [(iconv .u8 z12)] hs rfl (by decide) (by decide) fun s18_A s18_n s18_c w gw hs=>?_)
   obtain ⟨h0,h⟩:=oc h
   refine so 4 (oAp (C:=CB) 50 24 24 5 1 140737488355328 hs 1 rfl (rL 0 hs) h0 (by decide) (by decide) fun s19_A s19_n s19_c w hs=>?_)
   refine qo 5 5 (.slice s19_A s19_n s19_c) ?_
   refine fj j37 s36 (xn 3 fun _ j38=>?_)
   refine nq 0 [(51,U8 z12),(52,U8 (ishr .u64 z12 8))] ?_
   obtain ⟨x20,hx,h⟩:=ob h
   refine tkf 2 6 (U8 x20) (yn hx) ?_
   refine fin (j38 _ _ (iN (T s35 (xn 3 fun _ j39=>?_))))
   refine nq 0 [(44,I8 z13),(45,I8 (isub .i64 z13 8))] ?_
   obtain ⟨x21,hx,h⟩:=ob h
   refine tkf 2 7 (I8 x21) (yn hx) ?_
   refine fin (j39 _ _ ?_)
   exact tn (kl1 _ _ ⟨n,ls n,x20,x21,(z14++([(iconv .u8 z12)]:List Int)),s19_A,s19_n,s19_c,h,(dr [0,1] hs),eg⟩)
   refine tb 1 43 (df hc) ?_
   refine fj j34 s33 (cf (xexit (tx (tx (iH ?_)))))
   obtain ⟨rfl,rfl,rfl⟩:=os3 h
   exact exq_n (nn1 _ _ ⟨z14_A,z14_n,z14_c,(hs.conv rfl),eg⟩)
  clear hs h hy
  rintro a w ⟨y17_A,y17_n,y17_c,hs,g31,rfl⟩
  have h:=hk1
  refine iN (T s22 (xn 2 fun _ j40=>?_))
  refine nq 0 [(53,I8 (iadd .i64 z4 1)),(25,I8 (iadd .i64 z4 1))] ?_
  refine fin (j40 _ _ ?_)
  exact tn (kl0 _ _ ⟨n,ls n,y15,y16,(iadd .i64 z4 1),y17,y17_A,y17_n,y17_c,h,(hs.conv rfl),eg⟩)
  refine tb 0 26 (df hc) ?_
  refine fj j20 s19 (xs fun _ s41=>(cf (xexit (tx (tx (iH ?_))))))
  obtain ⟨rfl,rfl,rfl⟩:=os3 h
  exact exq_n (nn0 _ _ ⟨z5_A,z5_n,z5_c,(hs.conv rfl),eg⟩)
 clear hs h hy
 rintro a w ⟨y8_A,y8_n,y8_c,hs,g18,rfl⟩
 have h:=hk0
 refine T s14 (?_)
 obtain ⟨y22,hj,h⟩:=ob h
 refine xs fun _ s43=>wp_join (N:=fun a w=>∃ y22_A y22_n y22_c,St w0 [] [.ownL CB y22_A y22_n y22_c y22 5] [.rowL (CI .u32) a0_A a0_n a0_c a0] w∧∃ g42,a=fr g42 62 [(4,[.slice none 0 0,.slice y22_A y22_n y22_c])]) (fun N nj=>?_) ?_
 clear h
 have h:=hj
 refine xs fun _ s44=>?_
 refine xn 2 fun _ j45=>?_
 refine qo 0 54 (I8 y7) ?_
 obtain ⟨hc,h⟩|⟨hc,h⟩:=of_if h
 refine tb 1 55 (dt hc) ?_
 refine fj j45 s44 (ct (xn 6 fun _ j46=>?_))
 refine nq 0 [(56,.slice y8_A y8_n y8_c),(57,U8 y6),(58,U1 (iconv .u8 y6))] ?_
 refine so 3 (oLt (C:=CB) 59 24 5 1 (U1 0) #[(0,U1 (iconv .u8 y6))] [(iconv .u8 y6)] hs rfl (by decide) (by decide) fun s23_A s23_n s23_c w gw hs=>?_)
 obtain ⟨h0,h⟩:=oc h
 refine so 4 (oAp (C:=CB) 60 24 24 5 1 140737488355328 hs 1 rfl (rL 0 hs) h0 (by decide) (by decide) fun s24_A s24_n s24_c w hs=>?_)
 refine qo 5 5 (.slice s24_A s24_n s24_c) ?_
 refine fin (j46 _ _ ?_)
 obtain rfl:=of_some h
 exact nj _ _ ⟨s24_A,s24_n,s24_c,(dr [0,1] hs),eg⟩
 refine tb 1 55 (df hc) ?_
 refine fj j45 s44 (cf (xk ?_))
 obtain rfl:=of_some h
 exact nj _ _ ⟨y8_A,y8_n,y8_c,(hs.conv rfl),eg⟩
 clear hj hs
 rintro a w ⟨y22_A,y22_n,y22_c,hs,g42,rfl⟩
 refine T s43 (xs fun _ s47=>(xn 2 fun _ j48=>?_))
 refine nq 0 [(61,.slice y22_A y22_n y22_c),(4,.slice y22_A y22_n y22_c)] ?_
 refine fj j48 s47 (xret ?_)
 obtain rfl:=of_some h
 exact qq _ _ (pt [4] [.slice y22_A y22_n y22_c] ⟨⟨y22_A,y22_n,y22_c⟩,cr,(pz hs)⟩)
end Go.Proofs.YtemdbgmldljbpaaDoor
