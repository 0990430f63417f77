/- own -/
import Derived.Test.YtemdbgmldljbpaaGreatDoorMh
import Derived.Test.YtemdbgmldljbpaaGreatDoorProg
import Derived.Test.YtemdbgmldljbpaaGreatDoorBF0
import Derived.Test.YtemdbgmldljbpaaGreatDoorBX10
import Derived.Test.YtemdbgmldljbpaaGreatDoorBX13
set_option linter.unusedVariables false
set_option linter.unusedSimpArgs false
set_option maxRecDepth 100000
set_option maxHeartbeats 4000000
namespace Go.Proofs.YtemdbgmldljbpaaGreatDoor
open Go.Mx
attribute [local irreducible] wpOp
theorem ref26_drawn.ok {K:Nat}{a0:List Int}{a1:Int}{r0:Arr 256}{r1:Int}{a0_A:Option Addr}{a0_n a0_c:Nat}(h:ref26_drawn.f K a0 a1=some (r0,r1)) (w0:World) (hp0:RowL CB w0 a0_A a0_n a0_c a0):Ret Tryz.prog 105 #[.slice a0_A a0_n a0_c,I8 a1] w0 (.tuple #[ag .i32 r0,I8 r1]):=by
 refine calls_k Tryz.func105 rfl fun Q qq=>?_
 have hs:=St.startR (all_cons (RowP.ent hp0) all_nil)
 refine wc (a':=(fu 47 [.slice a0_A a0_n a0_c,I8 a1])) (xs fun _ s1=>(xn 2 fun _ j2=>(so 0 (oNe 4 70 .i32 (zeroA 256) hs fun b1 w gw hs=>(qo 1 5 (I8 0) ?_)))))
 refine fj j2 s1 (xs fun _ s3=>(xn 8 fun _ j4=>(nq 0 [(13,.slice a0_A a0_n a0_c),(14,I8 a1)] ?_)))
 obtain ⟨⟨r2,r3⟩,hg,h⟩:=ob h
 refine wpS.only 2 (oH 15 hs (ref08_Sum.ok hg _ (rR 0 hs)) ?_)
 rintro ⟨r2_A,r2_n,r2_c⟩ w gw hs
 have hs:=hs.conv (L':=[.ownL CB r2_A r2_n r2_c r2 5,.blk b1 (enc .i32 (zeroA 256)) 70]) rfl
 refine ⟨fun _=>trivial,?_⟩
 refine nq 3 [(12,.tuple #[.slice r2_A r2_n r2_c,I8 r3]),(16,.slice r2_A r2_n r2_c),(17,I8 r3),(6,.slice r2_A r2_n r2_c),(7,I8 r3)] (fj j4 s3 (xs fun _ s5=>(xn 6 fun _ j6=>(nq 0 [(18,.slice r2_A r2_n r2_c),(19,I8 a1),(20,I8 (imul .i64 a1 2)),(21,I8 (iquo .i64 (imul .i64 a1 2) 3))] ?_))))
 obtain ⟨r4,hg,h⟩:=ob h
 refine wpS.only 4 (oH 22 hs (ref01_Unpack.ok hg _ (rL 0 hs)) ?_)
 rintro ⟨r4_A,r4_n,r4_c⟩ w gw hs
 have hs:=hs.conv (L':=[.ownL (CI .u32) r4_A r4_n r4_c r4 112,.ownL CB r2_A r2_n r2_c r2 5,.blk b1 (enc .i32 (zeroA 256)) 70]) rfl
 refine ⟨fun _=>trivial,?_⟩
 refine qo 5 8 (.slice r4_A r4_n r4_c) (fj j6 s5 (xs fun _ s7=>(xn 1 fun _ j8=>(so 0 (oNe 9 70 .i32 (zeroA 256) hs fun b5 w gw hs=>(fj j8 s7 (xs fun _ s9=>(xn 1 fun _ j10=>(qo 0 10 (I8 0) ?_)))))))))
 refine fj j10 s9 (xs fun _ s11=>(xs fun _ s12=>(xn 1 fun _ j13=>(qo 0 11 (I8 0) (fj j13 s12 (?_))))))
 obtain ⟨⟨y9,y10⟩,hy,hk0⟩:=ob h
 refine wp_exq (N:=fun a w=>St w0 [] [.blk b5 (enc .i32 y10) 70,.ownL (CI .u32) r4_A r4_n r4_c r4 112,.ownL CB r2_A r2_n r2_c r2 5,.blk b1 (enc .i32 (zeroA 256)) 70] [.rowL CB a0_A a0_n a0_c a0] w∧∃ g15,a=fr g15 49 [(4,[P0 b1,I8 0]),(9,[P0 b5,I8 y9])]) (fun N0 nn0=>?_) ?_
 clear hk0
 refine xb ?_
 refine wp_loop_k (fun n a w=>∃ z6 z7 z8,ref26_drawn.l0 K n r4 z6 z7 z8=some (y9,y10)∧St w0 [] [.blk b5 (enc .i32 z8) 70,.ownL (CI .u32) r4_A r4_n r4_c r4 112,.ownL CB r2_A r2_n r2_c r2 5,.blk b1 (enc .i32 (zeroA 256)) 70] [.rowL CB a0_A a0_n a0_c a0] w∧∃ g14,a=fr g14 49 [(4,[P0 b1,I8 0]),(8,[.slice r4_A r4_n r4_c,P0 b5,I8 z6,I8 z7])]) K ⟨0,0,(zeroA 256),hy,hs.conv rfl,eg⟩ ?_
 clear hs h hy
 rintro n a w ⟨z6,z7,z8,h,hs,g14,rfl⟩ KL0 kl0
 cases n with
 | zero=>exact nomatch (show none=some _ from h)
 | succ n=>
  refine xs fun _ s16=>(xs fun _ s17=>(xn 8 fun _ j18=>(nq 0 [(23,I8 z7),(24,.slice r4_A r4_n r4_c)] (tkf 2 25 (I8 (r4.length:Int)) (yl (rL 1 hs)) ?_))))
  obtain ⟨hc,h⟩|⟨hc,h⟩:=of_if h
  refine tb 3 26 (dt hc) ?_
  refine nq 4 [(27,.bool true),(28,I8 z6)] ?_
  obtain ⟨hc,h⟩|⟨hc,h⟩:=of_if h
  refine tb 6 29 (dt hc) ?_
  refine qo 7 30 (.bool true) (fj j18 s17 (ct (xk (T s16 (?_)))))
  obtain ⟨⟨y11,y12⟩,hj,h⟩:=ob h
  refine xs fun _ s20=>wp_join (N:=fun a w=>St w0 [] [.blk b5 (enc .i32 y12) 70,.ownL (CI .u32) r4_A r4_n r4_c r4 112,.ownL CB r2_A r2_n r2_c r2 5,.blk b1 (enc .i32 (zeroA 256)) 70] [.rowL CB a0_A a0_n a0_c a0] w∧∃ g19,a=fr g19 49 [(4,[P0 b1,I8 0]),(8,[.slice r4_A r4_n r4_c,P0 b5,I8 y11,I8 z7]),(28,[I8 z6,.bool true])]) (fun N nj=>?_) ?_
  clear h
  have h:=hj
  refine xb (xs fun _ s21=>(xn 5 fun _ j22=>(nq 0 [(33,.slice r4_A r4_n r4_c),(34,I8 z7)] ?_)))
  obtain ⟨h0,h1,h⟩:=oc2 h
  have i0_23:=h0
  have i1_23:=h1
  refine tkf 2 35 (PA (CI .u32) r4_A z7) (yiL (C:=(CI .u32)) 110 112 .i64 z7 (rL 1 hs) h0 h1) (tkt 3 36 _ (yL (C:=(CI .u32)) 112 z7 (rL 1 hs) rfl i0_23 i1_23) ?_)
  obtain ⟨hc,h⟩|⟨hc,h⟩:=of_if h
  refine tb 4 37 (dt hc) ?_
  refine fj j22 s21 (ct (xs fun _ s24=>(xn 8 fun _ j25=>(nq 0 [(38,I8 z6),(39,.slice r4_A r4_n r4_c),(40,I8 z7)] ?_))))
  obtain ⟨h0,h1,h⟩:=oc2 h
  have i0_26:=h0
  have i1_26:=h1
  refine tkf 3 41 (PA (CI .u32) r4_A z7) (yiL (C:=(CI .u32)) 110 112 .i64 z7 (rL 1 hs) h0 h1) (tkt 4 42 _ (yL (C:=(CI .u32)) 112 z7 (rL 1 hs) rfl i0_26 i1_26) (qo 5 43 (I4 (iconv .i32 (rdL (CI .u32) r4 z7))) ?_))
  obtain ⟨i0_27,i1_27,h⟩:=oc2 h
  refine tkf 6 44 (P1 b5 z6) (yi 70 21 256 1 .i64 z6 i0_27 i1_27) ?_
  obtain ⟨x13,hx,h⟩:=ob h
  refine so 7 (oA 21 x13 z6 hs 0 rfl (by cases hx; kernel_rfl) i0_27 i1_27 fun w kp hs=>?_)
  refine fj j25 s24 (xn 3 fun _ j28=>(nq 0 [(45,I8 z6),(46,I8 (iadd .i64 z6 1))] ?_))
  obtain ⟨x14,hx,h⟩:=ob h
  refine tkf 2 10 (I8 x14) (yn hx) (fin (j28 _ _ (iN ?_)))
  obtain ⟨rfl,rfl⟩:=os2 h
  exact nj _ _ ⟨(hs.conv rfl),eg⟩
  refine tb 4 37 (df hc) (fj j22 s21 (cf (xk (iN ?_))))
  obtain ⟨rfl,rfl⟩:=os2 h
  exact nj _ _ ⟨(hs.conv rfl),eg⟩
  clear hj hs
  rintro a w ⟨hs,g19,rfl⟩
  refine T s20 (xn 3 fun _ j29=>(nq 0 [(31,I8 z7),(32,I8 (iadd .i64 z7 1))] ?_))
  obtain ⟨x15,hx,h⟩:=ob h
  refine tkf 2 11 (I8 x15) (yn hx) (fin (j29 _ _ ?_))
  exact tn (kl0 _ _ ⟨n,ls n,y11,x15,y12,h,(hs.conv rfl),eg⟩)
  refine tb 6 29 (df hc) (qo 7 30 (.bool false) (fj j18 s17 (cf (xexit (tx (tx (iH ?_)))))))
  obtain ⟨rfl,rfl⟩:=os2 h
  exact exq_n (nn0 _ _ ⟨(hs.conv rfl),eg⟩)
  refine tb 3 26 (df hc) (nq 4 [(27,.bool false),(28,undef),(29,undef),(30,.bool false)] (fj j18 s17 (cf (xexit (tx (tx (iH ?_)))))))
  obtain ⟨rfl,rfl⟩:=os2 h
  exact exq_n (nn0 _ _ ⟨(hs.conv rfl),eg⟩)
 clear hs h hy
 rintro a w ⟨hs,g15,rfl⟩
 have h:=hk0
 refine T s11 (xs fun _ s30=>(xn 4 fun _ j31=>(tkt 0 47 _ (yWe 70 hs 0 .grow) (qo 1 48 (I8 y9) (so 2 (oWe 70 .i32 y10 hs 3 fun w kp hs=>(qo 3 5 (I8 y9) ?_)))))))
 refine fj j31 s30 (xret ?_)
 obtain ⟨rfl,rfl⟩:=os2 h
 exact qq _ _ (pr (rr [.cell 4 70,.tmp 5] [ag .i32 y10,I8 y9] (.cons (rcN 256 hs 3 rfl (enc_len _ _)) (.cons rt .nil))) ⟨cr,hs.none⟩)
theorem ref26_Parts.ok {K:Nat}{a0:List Int}{a1 a2:Int}{r0:Arr 256}{r1:Int}{a0_A:Option Addr}{a0_n a0_c:Nat}(h:ref26_Parts.f K a0 a1 a2=some (r0,r1)) (w0:World) (hp0:RowL CB w0 a0_A a0_n a0_c a0):Ret Tryz.prog 86 #[.slice a0_A a0_n a0_c,U1 a1,U1 a2] w0 (.tuple #[ag .i32 r0,I8 r1]):=by
 refine calls_k Tryz.func86 rfl fun Q qq=>?_
 have hs:=St.startR (all_cons (RowP.ent hp0) all_nil)
 refine wc (a':=(fu 30 [.slice a0_A a0_n a0_c,U1 a1,U1 a2])) (xs fun _ s1=>(xn 2 fun _ j2=>(so 0 (oNe 6 70 .i32 (zeroA 256) hs fun b1 w gw hs=>(qo 1 7 (I8 0) ?_)))))
 refine fj j2 s1 (xs fun _ s3=>(xn 7 fun _ j4=>(nq 0 [(11,.slice a0_A a0_n a0_c),(12,U1 a2),(13,U1 a1)] (so 3 (oLt (C:=CB) 14 24 5 2 (U1 0) #[(0,U1 a2),(1,U1 a1)] [a2,a1] hs rfl (by decide) (by decide) fun s2_A s2_n s2_c w gw hs=>(so 4 (oLt (C:=CS) 15 57 24 2 (.slice none 0 0) #[(0,.slice a0_A a0_n a0_c),(1,.slice s2_A s2_n s2_c)] ([(a0_A,a0_n,a0_c),(s2_A,s2_n,s2_c)]:List HS) hs rfl (by decide) (by decide) fun s3_A s3_n s3_c w gw hs=>?_)))))))
 obtain ⟨r4,hg,h⟩:=ob h
 refine wpS.only 5 (oH 16 hs (ref01_Join.ok hg _ (LLP.mk (rL 0 hs) (inn_cons (rR 0 hs) (inn_cons (rL 1 hs) inn_nil)))) ?_)
 rintro ⟨r4_A,r4_n,r4_c⟩ w gw hs
 have hs:=hs.conv (L':=[.ownL CB r4_A r4_n r4_c r4 5,.ownL CS s3_A s3_n s3_c ([(a0_A,a0_n,a0_c),(s2_A,s2_n,s2_c)]:List HS) 24,.ownL CB s2_A s2_n s2_c ([a2,a1]:List Int) 5,.blk b1 (enc .i32 (zeroA 256)) 70]) rfl
 refine ⟨fun _=>trivial,?_⟩
 refine qo 6 8 (.slice r4_A r4_n r4_c) (fj j4 s3 (xs fun _ s5=>(xn 8 fun _ j6=>(qo 0 18 (.slice r4_A r4_n r4_c) ?_))))
 obtain ⟨⟨r5,r6⟩,hg,h⟩:=ob h
 refine so 1 (oC 19 hs (ref26_drawn.ok hg _ (rL 0 hs)) fun w gw hs=>?_)
 refine nq 2 [(17,.tuple #[ag .i32 r5,I8 r6]),(20,ag .i32 r5),(21,I8 r6)] (so 5 (oNe 9 70 .i32 (zeroA 256) hs fun b7 w gw hs=>(so 6 (oWe 70 .i32 r5 hs 0 fun w kp hs=>(qo 7 10 (I8 r6) (fj j6 s5 (?_)))))))
 obtain ⟨⟨y8,y9⟩,hj,h⟩:=ob h
 refine xs fun _ s8=>wp_join (N:=fun a w=>St w0 [] [.blk b7 (enc .i32 y9) 70,.ownL CB r4_A r4_n r4_c r4 5,.ownL CS s3_A s3_n s3_c ([(a0_A,a0_n,a0_c),(s2_A,s2_n,s2_c)]:List HS) 24,.ownL CB s2_A s2_n s2_c ([a2,a1]:List Int) 5,.blk b1 (enc .i32 (zeroA 256)) 70] [.rowL CB a0_A a0_n a0_c a0] w∧∃ g7,a=fr g7 33 [(6,[P0 b1,I8 0]),(9,[P0 b7,I8 y8])]) (fun N nj=>?_) ?_
 clear h
 have h:=hj
 refine xs fun _ s9=>(xn 2 fun _ j10=>(qo 0 22 (I8 r6) ?_))
 obtain ⟨hc,h⟩|⟨hc,h⟩:=of_if h
 refine tb 1 23 (dt hc) ?_
 refine fj j10 s9 (ct (xn 7 fun _ j11=>(qo 0 25 (.slice r4_A r4_n r4_c) ?_)))
 obtain ⟨⟨r10,r11⟩,hg,h⟩:=ob h
 refine so 1 (oC 26 hs (ref26_drawn.ok hg _ (rL 1 hs)) fun w gw hs=>?_)
 refine nq 2 [(24,.tuple #[ag .i32 r10,I8 r11]),(27,ag .i32 r10),(28,I8 r11)] (so 5 (oWe 70 .i32 r10 hs 0 fun w kp hs=>(qo 6 10 (I8 r11) (fin (j11 _ _ ?_)))))
 obtain ⟨rfl,rfl⟩:=os2 h
 exact nj _ _ ⟨(hs.conv rfl),eg⟩
 refine tb 1 23 (df hc) (fj j10 s9 (cf (xk ?_)))
 obtain ⟨rfl,rfl⟩:=os2 h
 exact nj _ _ ⟨(hs.conv rfl),eg⟩
 clear hj hs
 rintro a w ⟨hs,g7,rfl⟩
 refine T s8 (xs fun _ s12=>(xs fun _ s13=>(xn 2 fun _ j14=>(qo 0 29 (I8 y8) ?_))))
 obtain ⟨hc,h⟩|⟨hc,h⟩:=of_if h
 refine tb 1 30 (dt hc) ?_
 refine fj j14 s13 (ct (xs fun _ s15=>(xn 3 fun _ j16=>(qo 0 31 (ag .i32 (zeroA 256)) (so 1 (oWe 70 .i32 (zeroA 256) hs 4 fun w kp hs=>(qo 2 7 (I8 12) (fj j16 s15 (xret (tr ?_))))))))))
 obtain ⟨rfl,rfl⟩:=os2 h
 exact qq _ _ (pr (rr [.cell 6 70,.tmp 7] [ag .i32 (zeroA 256),I8 12] (.cons (rcN 256 hs 4 rfl (enc_len _ _)) (.cons rt .nil))) ⟨cr,hs.none⟩)
 refine tb 1 30 (df hc) (fj j14 s13 (cf (xk (T s12 (xs fun _ s17=>(xn 3 fun _ j18=>(tkt 0 32 _ (yWe 70 hs 0 .grow) (so 1 (oWe 70 .i32 y9 hs 4 fun w kp hs=>(qo 2 7 (I8 0) ?_))))))))))
 refine fj j18 s17 (xret ?_)
 obtain ⟨rfl,rfl⟩:=os2 h
 exact qq _ _ (pr (rr [.cell 6 70,.tmp 7] [ag .i32 y9,I8 0] (.cons (rcN 256 hs 4 rfl (enc_len _ _)) (.cons rt .nil))) ⟨cr,hs.none⟩)
theorem ref25_Ntt.ok {K:Nat}{a0 r0:Arr 256}(h:ref25_Ntt.f K a0=some r0) (w0:World):Ret Tryz.prog 42 #[ag .i32 a0] w0 (ag .i32 r0):=by
 refine calls_k Tryz.func42 rfl fun Q qq=>?_
 have hs:=St.start w0
 refine wc (a':=(fu 58 [ag .i32 a0])) (xs fun _ s1=>(xn 2 fun _ j2=>(so 0 (oBe 1 70 .i32 a0 hs fun b1 w gw hs=>(so 1 (oNe 2 70 .i32 (zeroA 256) hs fun b2 w gw hs=>?_))))))
 refine fj j2 s1 (xs fun _ s3=>(xn 3 fun _ j4=>?_))
 obtain ⟨r3,hg,h⟩:=ob h
 refine so 0 (oC 11 hs (ref25_powers.ok hg _) fun w gw hs=>?_)
 refine so 1 (oNe 3 69 .i32 (zeroA 256) hs fun b4 w gw hs=>?_)
 refine so 2 (oWe 69 .i32 r3 hs 0 fun w kp hs=>?_)
 refine fj j4 s3 (xs fun _ s5=>(xn 1 fun _ j6=>(so 0 (oNe 4 70 .i32 (zeroA 256) hs fun b5 w gw hs=>(fj j6 s5 (xs fun _ s7=>(xs fun _ s8=>(xn 1 fun _ j9=>(qo 0 5 (I8 0) (fj j9 s8 (?_)))))))))))
 obtain ⟨y8,hy,hk0⟩:=ob h
 refine wp_exq (N:=fun a w=>St w0 [] [.blk b5 (enc .i32 y8) 70,.blk b4 (enc .i32 r3) 69,.blk b2 (enc .i32 (zeroA 256)) 70,.blk b1 (enc .i32 a0) 70] [] w∧∃ g11,a=fr g11 59 [(2,[P0 b2]),(4,[P0 b5])]) (fun N0 nn0=>?_) ?_
 clear hk0
 refine xb ?_
 refine wp_loop_k (fun n a w=>∃ z6 z7,ref25_Ntt.l0 K n a0 r3 z6 z7=some y8∧St w0 [] [.blk b5 (enc .i32 z7) 70,.blk b4 (enc .i32 r3) 69,.blk b2 (enc .i32 (zeroA 256)) 70,.blk b1 (enc .i32 a0) 70] [] w∧∃ g10,a=fr g10 59 [(1,[P0 b1,P0 b2,P0 b4,P0 b5,I8 z6])]) K ⟨0,(zeroA 256),hy,hs.conv rfl,eg⟩ ?_
 clear hs h hy
 rintro n a w ⟨z6,z7,h,hs,g10,rfl⟩ KL0 kl0
 cases n with
 | zero=>exact nomatch (show none=some _ from h)
 | succ n=>
  refine xs fun _ s12=>(xs fun _ s13=>(xn 2 fun _ j14=>(qo 0 12 (I8 z6) ?_)))
  obtain ⟨hc,h⟩|⟨hc,h⟩:=of_if h
  refine tb 1 13 (dt hc) ?_
  refine fj j14 s13 (ct (xk (T s12 (xs fun _ s15=>(xb (xs fun _ s16=>(xn 5 fun _ j17=>(qo 0 16 (I8 z6) ?_))))))))
  obtain ⟨r9,hg,h⟩:=ob h
  refine so 1 (oC 17 hs (ref25_turned.ok hg _) fun w gw hs=>?_)
  refine nq 2 [(18,I8 (imul .i64 2 r9)),(19,I8 (iadd .i64 (imul .i64 2 r9) 1))] ?_
  obtain ⟨x10,hx,h⟩:=ob h
  refine tkf 4 6 (I8 x10) (yn hx) (fj j17 s16 (xs fun _ s18=>(xn 1 fun _ j19=>(qo 0 7 (I4 0) (fj j19 s18 (xs fun _ s20=>(xn 1 fun _ j21=>(qo 0 8 (I4 0) ?_))))))))
  refine fj j21 s20 (xs fun _ s22=>(xs fun _ s23=>(xn 1 fun _ j24=>(qo 0 9 (I8 0) (fj j24 s23 (?_))))))
  obtain ⟨⟨y14,y15⟩,hy,hk1⟩:=ob h
  refine wp_exq (N:=fun a w=>St w0 [] [.blk b5 (enc .i32 z7) 70,.blk b4 (enc .i32 r3) 69,.blk b2 (enc .i32 (zeroA 256)) 70,.blk b1 (enc .i32 a0) 70] [] w∧∃ g26,a=fr g26 59 [(1,[P0 b1,P0 b2,P0 b4,P0 b5,I8 z6]),(7,[I4 y14,I4 y15])]) (fun N1 nn1=>?_) ?_
  clear hk1
  refine xb ?_
  refine wp_loop_k (fun n a w=>∃ z11 z12 z13,ref25_Ntt.l1 K n a0 r3 x10 z11 z12 z13=some (y14,y15)∧St w0 [] [.blk b5 (enc .i32 z7) 70,.blk b4 (enc .i32 r3) 69,.blk b2 (enc .i32 (zeroA 256)) 70,.blk b1 (enc .i32 a0) 70] [] w∧∃ g25,a=fr g25 59 [(1,[P0 b1,P0 b2,P0 b4,P0 b5,I8 z6,I8 x10,I4 z11,I4 z12,I8 z13])]) K ⟨0,0,0,hy,hs.conv rfl,eg⟩ ?_
  clear hs h hy
  rintro n a w ⟨z11,z12,z13,h,hs,g25,rfl⟩ KL1 kl1
  cases n with
  | zero=>exact nomatch (show none=some _ from h)
  | succ n=>
   refine xs fun _ s27=>(xs fun _ s28=>(xn 2 fun _ j29=>(qo 0 20 (I8 z13) ?_)))
   obtain ⟨hc,h⟩|⟨hc,h⟩:=of_if h
   refine tb 1 21 (dt hc) ?_
   refine fj j29 s28 (ct (xk (T s27 (xs fun _ s30=>(xb (xs fun _ s31=>(xn 7 fun _ j32=>(nq 0 [(24,I8 x10),(25,I8 z13),(26,I8 (imul .i64 x10 z13)),(27,I8 (irem .i64 (imul .i64 x10 z13) 256))] ?_))))))))
   obtain ⟨x16,hx,h⟩:=ob h
   have hx:=of_some hx
   subst hx
   obtain ⟨i0_33,i1_33,h⟩:=oc2 h
   refine tkf 4 28 (.pointer (some ⟨b4,0+((irem .i64 (imul .i64 x10 z13) 256):Int).toNat*1,none⟩)) (yi 69 21 256 1 .i64 (irem .i64 (imul .i64 x10 z13) 256) i0_33 i1_33) (tkt 5 29 _ (yA hs 1 21 (irem .i64 (imul .i64 x10 z13) 256) rfl i0_33 i1_33 .grow) ?_)
   obtain ⟨x17,hx,h⟩:=ob h
   refine tkf 6 10 (I4 x17) (yn hx) (fj j32 s31 (xs fun _ s34=>(xn 10 fun _ j35=>(nq 0 [(30,I4 z11),(31,I8 z13),(32,I8 (imul .i64 2 z13))] ?_))))
   obtain ⟨x18,hx,h⟩:=ob h
   have hx:=of_some hx
   subst hx
   obtain ⟨i0_36,i1_36,h⟩:=oc2 h
   refine tkf 3 33 (P1 b1 (imul .i64 2 z13)) (yi 70 21 256 1 .i64 (imul .i64 2 z13) i0_36 i1_36) (tkt 4 34 _ (yA hs 3 21 (imul .i64 2 z13) rfl i0_36 i1_36 .grow) (nq 5 [(35,I4 x17),(36,I4 (imul .i32 (rd a0 (imul .i64 2 z13)) x17)),(37,I4 (iadd .i32 z11 (imul .i32 (rd a0 (imul .i64 2 z13)) x17))),(38,I4 (irem .i32 (iadd .i32 z11 (imul .i32 (rd a0 (imul .i64 2 z13)) x17)) 3329))] ?_))
   obtain ⟨x19,hx,h⟩:=ob h
   refine tkf 9 7 (I4 x19) (yn hx) (fj j35 s34 (xn 11 fun _ j37=>(nq 0 [(39,I4 z12),(40,I8 z13),(41,I8 (imul .i64 2 z13)),(42,I8 (iadd .i64 (imul .i64 2 z13) 1))] ?_)))
   obtain ⟨x20,hx,h⟩:=ob h
   have hx:=of_some hx
   subst hx
   obtain ⟨i0_38,i1_38,h⟩:=oc2 h
   refine tkf 4 43 (.pointer (some ⟨b1,0+((iadd .i64 (imul .i64 2 z13) 1):Int).toNat*1,none⟩)) (yi 70 21 256 1 .i64 (iadd .i64 (imul .i64 2 z13) 1) i0_38 i1_38) (tkt 5 44 _ (yA hs 3 21 (iadd .i64 (imul .i64 2 z13) 1) rfl i0_38 i1_38 .grow) (nq 6 [(45,I4 x17),(46,I4 (imul .i32 (rd a0 (iadd .i64 (imul .i64 2 z13) 1)) x17)),(47,I4 (iadd .i32 z12 (imul .i32 (rd a0 (iadd .i64 (imul .i64 2 z13) 1)) x17))),(48,I4 (irem .i32 (iadd .i32 z12 (imul .i32 (rd a0 (iadd .i64 (imul .i64 2 z13) 1)) x17)) 3329))] ?_))
   obtain ⟨x21,hx,h⟩:=ob h
   refine tkf 10 8 (I4 x21) (yn hx) (fin (j37 _ _ (iN (T s30 (xn 3 fun _ j39=>(nq 0 [(22,I8 z13),(23,I8 (iadd .i64 z13 1))] ?_))))))
   obtain ⟨x22,hx,h⟩:=ob h
   refine tkf 2 9 (I8 x22) (yn hx) (fin (j39 _ _ ?_))
   exact tn (kl1 _ _ ⟨n,ls n,x19,x21,x22,h,(hs.conv rfl),eg⟩)
   refine tb 1 21 (df hc) (fj j29 s28 (cf (xexit (tx (tx (iH ?_))))))
   obtain ⟨rfl,rfl⟩:=os2 h
   exact exq_n (nn1 _ _ ⟨(hs.conv rfl),eg⟩)
  clear hs h hy
  rintro a w ⟨hs,g26,rfl⟩
  have h:=hk1
  refine T s22 (xs fun _ s40=>(xn 5 fun _ j41=>(nq 0 [(49,I8 z6),(50,I8 (imul .i64 2 z6)),(51,I4 y14)] ?_)))
  obtain ⟨x23,hx,h⟩:=ob h
  have hx:=of_some hx
  subst hx
  obtain ⟨i0_42,i1_42,h⟩:=oc2 h
  refine tkf 3 52 (P1 b5 (imul .i64 2 z6)) (yi 70 21 256 1 .i64 (imul .i64 2 z6) i0_42 i1_42) (so 4 (oA 21 y14 (imul .i64 2 z6) hs 0 rfl (by kernel_rfl) i0_42 i1_42 fun w kp hs=>(fj j41 s40 (xn 6 fun _ j43=>(nq 0 [(53,I8 z6),(54,I8 (imul .i64 2 z6)),(55,I8 (iadd .i64 (imul .i64 2 z6) 1)),(56,I4 y15)] ?_)))))
  obtain ⟨x24,hx,h⟩:=ob h
  have hx:=of_some hx
  subst hx
  obtain ⟨i0_44,i1_44,h⟩:=oc2 h
  refine tkf 4 57 (.pointer (some ⟨b5,0+((iadd .i64 (imul .i64 2 z6) 1):Int).toNat*1,none⟩)) (yi 70 21 256 1 .i64 (iadd .i64 (imul .i64 2 z6) 1) i0_44 i1_44) (so 5 (oA 21 y15 (iadd .i64 (imul .i64 2 z6) 1) hs 0 rfl (by kernel_rfl) i0_44 i1_44 fun w kp hs=>(fin (j43 _ _ (iN (T s15 (xn 3 fun _ j45=>(nq 0 [(14,I8 z6),(15,I8 (iadd .i64 z6 1))] ?_))))))))
  obtain ⟨x25,hx,h⟩:=ob h
  refine tkf 2 5 (I8 x25) (yn hx) (fin (j45 _ _ ?_))
  exact tn (kl0 _ _ ⟨n,ls n,x25,(wr (wr z7 (imul .i64 2 z6) y14) (iadd .i64 (imul .i64 2 z6) 1) y15),h,(hs.conv rfl),eg⟩)
  refine tb 1 13 (df hc) (fj j14 s13 (cf (xexit (tx (tx (iH ?_))))))
  obtain rfl:=of_some h
  exact exq_n (nn0 _ _ ⟨(hs.conv rfl),eg⟩)
 clear hs h hy
 rintro a w ⟨hs,g11,rfl⟩
 have h:=hk0
 refine T s7 (xs fun _ s46=>(xn 2 fun _ j47=>(tkt 0 58 _ (yWe 70 hs 0 .grow) (so 1 (oWe 70 .i32 y8 hs 2 fun w kp hs=>(fj j47 s46 (xret ?_)))))))
 obtain rfl:=of_some h
 exact qq _ _ (pr (rr [.cell 2 70] [ag .i32 y8] (.cons (rcN 256 hs 2 rfl (enc_len _ _)) .nil)) ⟨cr,hs.none⟩)
theorem ref26_ntt.ok {K:Nat}{a0 r0:List (Arr 256)}{a0_A:Option Addr}{a0_n a0_c:Nat}(h:ref26_ntt.f K a0=some r0) (w0:World) (hp0:RowL CZ w0 a0_A a0_n a0_c a0):Calls Tryz.prog 51 #[.slice a0_A a0_n a0_c] w0 fun e w'=>∃ h:(Option Addr × Nat × Nat),e = .returned (.slice h.1 h.2.1 h.2.2)∧St w0 [] [.ownL CZ h.1 h.2.1 h.2.2 r0 70] [] w':=by
 refine calls_k Tryz.func51 rfl fun Q qq=>?_
 have hs:=St.startR (all_cons (RowP.ent hp0) all_nil)
 refine wc (a':=(fu 19 [.slice a0_A a0_n a0_c])) (xs fun _ s1=>(xn 1 fun _ j2=>(qo 0 2 (.slice none 0 0) (fj j2 s1 (xs fun _ s3=>(xn 1 fun _ j4=>?_))))))
 refine qo 0 3 (.slice none 0 0) (fj j4 s3 (xs fun _ s5=>(xs fun _ s6=>(xn 1 fun _ j7=>(qo 0 4 (I8 0) (fj j7 s6 (?_)))))))
 have hs:=hs.addNilL CZ 70
 obtain ⟨y3,hy,hk0⟩:=ob h
 refine wp_exq (N:=fun a w=>∃ y3_A y3_n y3_c,St w0 [] [.ownL CZ y3_A y3_n y3_c y3 70] [.rowL CZ a0_A a0_n a0_c a0] w∧∃ g9,a=fr g9 20 [(2,[.slice none 0 0,.slice y3_A y3_n y3_c])]) (fun N0 nn0=>?_) ?_
 clear hk0
 refine xb ?_
 refine wp_loop_k (fun n a w=>∃ z1 z2,∃ z2_A z2_n z2_c,ref26_ntt.l0 K n a0 z1 z2=some y3∧St w0 [] [.ownL CZ z2_A z2_n z2_c z2 70] [.rowL CZ a0_A a0_n a0_c a0] w∧∃ g8,a=fr g8 20 [(0,[.slice a0_A a0_n a0_c]),(2,[.slice none 0 0,.slice z2_A z2_n z2_c,I8 z1])]) K ⟨0,([]:List (Arr 256)),none,0,0,hy,hs.conv rfl,eg⟩ ?_
 clear hs h hy
 rintro n a w ⟨z1,z2,z2_A,z2_n,z2_c,h,hs,g8,rfl⟩ KL0 kl0
 cases n with
 | zero=>exact nomatch (show none=some _ from h)
 | succ n=>
  refine xs fun _ s10=>(xs fun _ s11=>(xn 4 fun _ j12=>(nq 0 [(5,I8 z1),(6,.slice a0_A a0_n a0_c)] (tkf 2 7 (I8 (a0.length:Int)) (yl (rR 0 hs)) ?_))))
  obtain ⟨hc,h⟩|⟨hc,h⟩:=of_if h
  refine tb 3 8 (dt hc) ?_
  refine fj j12 s11 (ct (xk (T s10 (xs fun _ s13=>(xb (xn 9 fun _ j14=>(nq 0 [(11,.slice z2_A z2_n z2_c),(12,.slice a0_A a0_n a0_c),(13,I8 z1)] ?_)))))))
  obtain ⟨h0,h1,h⟩:=oc2 h
  have i0_15:=h0
  have i1_15:=h1
  refine tkf 3 14 (PA CZ a0_A z1) (yiL (C:=CZ) 66 70 .i64 z1 (rR 0 hs) h0 h1) (tkt 4 15 _ (yLA (C:=CZ) 70 z1 (rR 0 hs) rfl i0_15 i1_15) ?_)
  obtain ⟨r4,hg,h⟩:=ob h
  refine so 5 (oC 16 hs (ref25_Ntt.ok hg _) fun w gw hs=>?_)
  refine so 6 (oLL (C:=CZ) 17 66 70 1 (ag .i32 (zeroA 256)) #[(0,ag .i32 r4)] [r4] hs rfl rfl (by decide) (by decide) fun s5_A s5_n s5_c w gw hs=>?_)
  obtain ⟨h0,h⟩:=oc h
  refine so 7 (oAp (C:=CZ) 18 66 66 70 1024 137438953472 hs 1 rfl (rL 0 hs) h0 (by decide) (by decide) fun s6_A s6_n s6_c w hs=>?_)
  refine qo 8 3 (.slice s6_A s6_n s6_c) (fin (j14 _ _ (iN (T s13 (xn 3 fun _ j16=>(nq 0 [(9,I8 z1),(10,I8 (iadd .i64 z1 1))] ?_))))))
  obtain ⟨x7,hx,h⟩:=ob h
  refine tkf 2 4 (I8 x7) (yn hx) (fin (j16 _ _ ?_))
  exact tn (kl0 _ _ ⟨n,ls n,x7,(z2++([r4]:List (Arr 256))),s6_A,s6_n,s6_c,h,(dr [0,1] hs),eg⟩)
  refine tb 3 8 (df hc) (fj j12 s11 (cf (xexit (tx (tx (iH ?_))))))
  obtain rfl:=of_some h
  exact exq_n (nn0 _ _ ⟨z2_A,z2_n,z2_c,(hs.conv rfl),eg⟩)
 clear hs h hy
 rintro a w ⟨y3_A,y3_n,y3_c,hs,g9,rfl⟩
 have h:=hk0
 refine T s5 (xs fun _ s17=>(xn 2 fun _ j18=>(nq 0 [(19,.slice y3_A y3_n y3_c),(2,.slice y3_A y3_n y3_c)] (fj j18 s17 (xret ?_)))))
 obtain rfl:=of_some h
 exact qq _ _ (pt [2] [.slice y3_A y3_n y3_c] ⟨⟨y3_A,y3_n,y3_c⟩,cr,(pz hs)⟩)
theorem ref26_bit.ok {K:Nat}{a0:List Int}{a1 r0:Int}{a0_A:Option Addr}{a0_n a0_c:Nat}(h:ref26_bit.f K a0 a1=some r0) (w0:World) (hp0:RowL CB w0 a0_A a0_n a0_c a0):Ret Tryz.prog 54 #[.slice a0_A a0_n a0_c,I8 a1] w0 (I4 r0):=by
 refine calls_k Tryz.func54 rfl fun Q qq=>?_
 have hs:=St.startR (all_cons (RowP.ent hp0) all_nil)
 refine wc (a':=(fu 13 [.slice a0_A a0_n a0_c,I8 a1])) (xs fun _ s1=>(xn 1 fun _ j2=>(qo 0 4 (I4 0) (fj j2 s1 (xs fun _ s3=>(xn 11 fun _ j4=>?_))))))
 refine nq 0 [(5,.slice a0_A a0_n a0_c),(6,I8 a1),(7,I8 (iquo .i64 a1 8))] ?_
 obtain ⟨x1,hx,h⟩:=ob h
 have hx:=of_some hx
 subst hx
 obtain ⟨h0,h1,h⟩:=oc2 h
 have i0_5:=h0
 have i1_5:=h1
 refine tkf 3 8 (PA CB a0_A (iquo .i64 a1 8)) (yiL (C:=CB) 24 5 .i64 (iquo .i64 a1 8) (rR 0 hs) h0 h1) (tkt 4 9 _ (yL (C:=CB) 5 (iquo .i64 a1 8) (rR 0 hs) rfl i0_5 i1_5) (nq 5 [(10,I8 a1),(11,I8 (irem .i64 a1 8))] ?_))
 obtain ⟨h0,h⟩:=oc h
 refine tkf 7 12 (U1 (ishr .u8 (rdL CB a0 (iquo .i64 a1 8)) (irem .i64 a1 8))) (ysr 5 .i64 h0) (nq 8 [(13,U1 (iand .u8 (ishr .u8 (rdL CB a0 (iquo .i64 a1 8)) (irem .i64 a1 8)) 1)),(14,I4 (iconv .i32 (iand .u8 (ishr .u8 (rdL CB a0 (iquo .i64 a1 8)) (irem .i64 a1 8)) 1)))] ?_)
 obtain ⟨x2,hx,h⟩:=ob h
 refine tkf 10 4 (I4 x2) (yn hx) (fj j4 s3 (xret ?_))
 obtain rfl:=of_some h
 exact qq _ _ (pt [4] [I4 x2] ⟨cr,hs.none⟩)
theorem ref26_Noise.ok {K:Nat}{a0:Int}{a1:List Int}{a2:Int}{r0:Arr 256}{a1_A:Option Addr}{a1_n a1_c:Nat}(h:ref26_Noise.f K a0 a1 a2=some r0) (w0:World) (hp1:RowL CB w0 a1_A a1_n a1_c a1):Ret Tryz.prog 55 #[I8 a0,.slice a1_A a1_n a1_c,U1 a2] w0 (ag .i32 r0):=by
 refine calls_k Tryz.func55 rfl fun Q qq=>?_
 have hs:=St.startR (all_cons (RowP.ent hp1) all_nil)
 refine wc (a':=(fu 64 [I8 a0,.slice a1_A a1_n a1_c,U1 a2])) (xs fun _ s1=>(xn 1 fun _ j2=>(so 0 (oNe 6 70 .i32 (zeroA 256) hs fun b1 w gw hs=>(fj j2 s1 (xs fun _ s3=>(xn 1 fun _ j4=>?_)))))))
 refine so 0 (oNe 7 70 .i32 (zeroA 256) hs fun b2 w gw hs=>?_)
 refine fj j4 s3 (?_)
 obtain ⟨tv6,hj,hk_6⟩:=ob h
 refine xs fun _ s6=>wp_exj (N:=fun a w=>∃ y3,tv6 = .inl y3∧St w0 [] [.blk b2 (enc .i32 (zeroA 256)) 70,.blk b1 (enc .i32 y3) 70] [.rowL CB a1_A a1_n a1_c a1] w∧∃ g5,a=fr g5 67 [(0,[I8 a0,.slice a1_A a1_n a1_c,U1 a2]),(6,[P0 b1,P0 b2])]) (fun N nj=>?_) ?_
 clear h
 have h:=hj
 refine xs fun _ s7=>(xn 6 fun _ j8=>(qo 0 13 (I8 a0) ?_))
 obtain ⟨hc,h⟩|⟨hc,h⟩:=of_if h
 refine tb 1 14 (nf hc) ?_
 refine nq 2 [(15,.bool false),(16,undef),(17,undef),(18,.bool false)] (fj j8 s7 (cf (xk ?_)))
 obtain rfl:=of_some h
 exact exj_n (nj _ _ ⟨(zeroA 256),rfl,(hs.conv rfl),eg⟩)
 refine tb 1 14 (nt hc) (nq 2 [(15,.bool true),(16,I8 a0)] ?_)
 obtain ⟨hc,h⟩|⟨hc,h⟩:=of_if h
 refine tb 4 17 (nf hc) ?_
 refine qo 5 18 (.bool false) (fj j8 s7 (cf (xk ?_)))
 obtain rfl:=of_some h
 exact exj_n (nj _ _ ⟨(zeroA 256),rfl,(hs.conv rfl),eg⟩)
 refine tb 4 17 (nt hc) (qo 5 18 (.bool true) (fj j8 s7 (ct (xs fun _ s9=>(xn 2 fun _ j10=>(tkt 0 19 _ (yWe 70 hs 0 .grow) (so 1 (oWe 70 .i32 (zeroA 256) hs 1 fun w kp hs=>?_))))))))
 refine fj j10 s9 (xret ?_)
 obtain rfl:=of_some h
 have h:=hk_6
 refine exj_r ?_
 refine tr ?_
 obtain rfl:=of_some h
 exact qq _ _ (pr (rr [.cell 6 70] [ag .i32 (zeroA 256)] (.cons (rcN 256 hs 1 rfl (enc_len _ _)) .nil)) ⟨cr,hs.none⟩)
 clear hj hs
 rintro a w ⟨y3,rfl,hs,g5,rfl⟩
 have h:=hk_6
 refine T s6 (xs fun _ s11=>(xn 13 fun _ j12=>(nq 0 [(21,.slice a1_A a1_n a1_c),(22,U1 a2)] (so 2 (oLt (C:=CB) 23 24 5 1 (U1 0) #[(0,U1 a2)] [a2] hs rfl (by decide) (by decide) fun s4_A s4_n s4_c w gw hs=>(so 3 (oLt (C:=CS) 24 57 24 2 (.slice none 0 0) #[(0,.slice a1_A a1_n a1_c),(1,.slice s4_A s4_n s4_c)] ([(a1_A,a1_n,a1_c),(s4_A,s4_n,s4_c)]:List HS) hs rfl (by decide) (by decide) fun s5_A s5_n s5_c w gw hs=>?_)))))))
 obtain ⟨r6,hg,h⟩:=ob h
 refine wpS.only 4 (oH 25 hs (ref01_Join.ok hg _ (LLP.mk (rL 0 hs) (inn_cons (rR 0 hs) (inn_cons (rL 1 hs) inn_nil)))) ?_)
 rintro ⟨r6_A,r6_n,r6_c⟩ w gw hs
 have hs:=hs.conv (L':=[.ownL CB r6_A r6_n r6_c r6 5,.ownL CS s5_A s5_n s5_c ([(a1_A,a1_n,a1_c),(s4_A,s4_n,s4_c)]:List HS) 24,.ownL CB s4_A s4_n s4_c ([a2]:List Int) 5,.blk b2 (enc .i32 (zeroA 256)) 70,.blk b1 (enc .i32 y3) 70]) rfl
 refine ⟨fun _=>trivial,?_⟩
 refine nq 5 [(26,I8 a0),(27,I8 (imul .i64 64 a0))] ?_
 obtain ⟨⟨r7,r8⟩,hg,h⟩:=ob h
 refine wpS.only 7 (oH 28 hs (ref08_Sum.ok hg _ (rL 0 hs)) ?_)
 rintro ⟨r7_A,r7_n,r7_c⟩ w gw hs
 have hs:=hs.conv (L':=[.ownL CB r7_A r7_n r7_c r7 5,.ownL CB r6_A r6_n r6_c r6 5,.ownL CS s5_A s5_n s5_c ([(a1_A,a1_n,a1_c),(s4_A,s4_n,s4_c)]:List HS) 24,.ownL CB s4_A s4_n s4_c ([a2]:List Int) 5,.blk b2 (enc .i32 (zeroA 256)) 70,.blk b1 (enc .i32 y3) 70]) rfl
 refine ⟨fun _=>trivial,?_⟩
 refine nq 8 [(20,.tuple #[.slice r7_A r7_n r7_c,I8 r8]),(29,.slice r7_A r7_n r7_c),(30,I8 r8),(8,.slice r7_A r7_n r7_c),(9,I8 r8)] (fj j12 s11 (xs fun _ s13=>(xs fun _ s14=>(xn 1 fun _ j15=>(qo 0 10 (I8 0) (fj j15 s14 (?_)))))))
 obtain ⟨y11,hy,hk0⟩:=ob h
 refine wp_exq (N:=fun a w=>St w0 [] [.ownL CB r7_A r7_n r7_c r7 5,.ownL CB r6_A r6_n r6_c r6 5,.ownL CS s5_A s5_n s5_c ([(a1_A,a1_n,a1_c),(s4_A,s4_n,s4_c)]:List HS) 24,.ownL CB s4_A s4_n s4_c ([a2]:List Int) 5,.blk b2 (enc .i32 y11) 70,.blk b1 (enc .i32 y3) 70] [.rowL CB a1_A a1_n a1_c a1] w∧∃ g17,a=fr g17 67 [(6,[P0 b1,P0 b2])]) (fun N0 nn0=>?_) ?_
 clear hk0
 refine xb ?_
 refine wp_loop_k (fun n a w=>∃ z9 z10,ref26_Noise.l0 K n a0 r7 z9 z10=some y11∧St w0 [] [.ownL CB r7_A r7_n r7_c r7 5,.ownL CB r6_A r6_n r6_c r6 5,.ownL CS s5_A s5_n s5_c ([(a1_A,a1_n,a1_c),(s4_A,s4_n,s4_c)]:List HS) 24,.ownL CB s4_A s4_n s4_c ([a2]:List Int) 5,.blk b2 (enc .i32 z10) 70,.blk b1 (enc .i32 y3) 70] [.rowL CB a1_A a1_n a1_c a1] w∧∃ g16,a=fr g16 67 [(0,[I8 a0]),(6,[P0 b1,P0 b2,.slice r7_A r7_n r7_c]),(10,[I8 z9])]) K ⟨0,(zeroA 256),hy,hs.conv rfl,eg⟩ ?_
 clear hs h hy
 rintro n a w ⟨z9,z10,h,hs,g16,rfl⟩ KL0 kl0
 cases n with
 | zero=>exact nomatch (show none=some _ from h)
 | succ n=>
  refine xs fun _ s18=>(xs fun _ s19=>(xn 2 fun _ j20=>(qo 0 31 (I8 z9) ?_)))
  obtain ⟨hc,h⟩|⟨hc,h⟩:=of_if h
  refine tb 1 32 (dt hc) ?_
  refine fj j20 s19 (ct (xk (T s18 (xs fun _ s21=>(xb (xs fun _ s22=>(xn 1 fun _ j23=>(qo 0 11 (I4 0) (fj j23 s22 (xs fun _ s24=>(xs fun _ s25=>(xn 1 fun _ j26=>(qo 0 12 (I8 0) (fj j26 s25 (?_)))))))))))))))
  obtain ⟨y14,hy,hk1⟩:=ob h
  refine wp_exq (N:=fun a w=>St w0 [] [.ownL CB r7_A r7_n r7_c r7 5,.ownL CB r6_A r6_n r6_c r6 5,.ownL CS s5_A s5_n s5_c ([(a1_A,a1_n,a1_c),(s4_A,s4_n,s4_c)]:List HS) 24,.ownL CB s4_A s4_n s4_c ([a2]:List Int) 5,.blk b2 (enc .i32 z10) 70,.blk b1 (enc .i32 y3) 70] [.rowL CB a1_A a1_n a1_c a1] w∧∃ g28,a=fr g28 67 [(0,[I8 a0]),(6,[P0 b1,P0 b2,.slice r7_A r7_n r7_c]),(10,[I8 z9,I4 y14])]) (fun N1 nn1=>?_) ?_
  clear hk1
  refine xb ?_
  refine wp_loop_k (fun n a w=>∃ z12 z13,ref26_Noise.l1 K n a0 r7 z9 z12 z13=some y14∧St w0 [] [.ownL CB r7_A r7_n r7_c r7 5,.ownL CB r6_A r6_n r6_c r6 5,.ownL CS s5_A s5_n s5_c ([(a1_A,a1_n,a1_c),(s4_A,s4_n,s4_c)]:List HS) 24,.ownL CB s4_A s4_n s4_c ([a2]:List Int) 5,.blk b2 (enc .i32 z10) 70,.blk b1 (enc .i32 y3) 70] [.rowL CB a1_A a1_n a1_c a1] w∧∃ g27,a=fr g27 67 [(0,[I8 a0]),(6,[P0 b1,P0 b2,.slice r7_A r7_n r7_c]),(10,[I8 z9,I4 z12,I8 z13])]) K ⟨0,0,hy,hs.conv rfl,eg⟩ ?_
  clear hs h hy
  rintro n a w ⟨z12,z13,h,hs,g27,rfl⟩ KL1 kl1
  cases n with
  | zero=>exact nomatch (show none=some _ from h)
  | succ n=>
   refine xs fun _ s29=>(xs fun _ s30=>(xn 3 fun _ j31=>(nq 0 [(35,I8 z13),(36,I8 a0)] ?_)))
   obtain ⟨hc,h⟩|⟨hc,h⟩:=of_if h
   refine tb 2 37 (dt hc) ?_
   refine fj j31 s30 (ct (xk (T s29 (xs fun _ s32=>(xb (xn 22 fun _ j33=>(nq 0 [(40,I4 z12),(41,.slice r7_A r7_n r7_c),(42,I8 z9),(43,I8 (imul .i64 2 z9)),(44,I8 a0),(45,I8 (imul .i64 (imul .i64 2 z9) a0)),(46,I8 z13),(47,I8 (iadd .i64 (imul .i64 (imul .i64 2 z9) a0) z13))] ?_)))))))
   obtain ⟨r15,hg,h⟩:=ob h
   refine so 8 (oC 48 hs (ref26_bit.ok hg _ (rL 0 hs)) fun w gw hs=>?_)
   refine nq 9 [(49,I4 (iadd .i32 z12 r15)),(50,.slice r7_A r7_n r7_c),(51,I8 z9),(52,I8 (imul .i64 2 z9)),(53,I8 a0),(54,I8 (imul .i64 (imul .i64 2 z9) a0)),(55,I8 a0),(56,I8 (iadd .i64 (imul .i64 (imul .i64 2 z9) a0) a0)),(57,I8 z13),(58,I8 (iadd .i64 (iadd .i64 (imul .i64 (imul .i64 2 z9) a0) a0) z13))] ?_
   obtain ⟨r16,hg,h⟩:=ob h
   refine so 19 (oC 59 hs (ref26_bit.ok hg _ (rL 0 hs)) fun w gw hs=>?_)
   refine qo 20 60 (I4 (isub .i32 (iadd .i32 z12 r15) r16)) ?_
   obtain ⟨x17,hx,h⟩:=ob h
   refine tkf 21 11 (I4 x17) (yn hx) (fin (j33 _ _ (iN (T s32 (xn 3 fun _ j34=>(nq 0 [(38,I8 z13),(39,I8 (iadd .i64 z13 1))] ?_))))))
   obtain ⟨x18,hx,h⟩:=ob h
   refine tkf 2 12 (I8 x18) (yn hx) (fin (j34 _ _ ?_))
   exact tn (kl1 _ _ ⟨n,ls n,x17,x18,h,(hs.conv rfl),eg⟩)
   refine tb 2 37 (df hc) (fj j31 s30 (cf (xexit (tx (tx (iH ?_))))))
   obtain rfl:=of_some h
   exact exq_n (nn1 _ _ ⟨(hs.conv rfl),eg⟩)
  clear hs h hy
  rintro a w ⟨hs,g28,rfl⟩
  have h:=hk1
  refine T s24 (xn 6 fun _ j35=>(nq 0 [(61,I8 z9),(62,I4 y14),(63,I4 (iadd .i32 y14 3329)),(64,I4 (irem .i32 (iadd .i32 y14 3329) 3329))] ?_))
  obtain ⟨i0_36,i1_36,h⟩:=oc2 h
  refine tkf 4 65 (P1 b2 z9) (yi 70 21 256 1 .i64 z9 i0_36 i1_36) ?_
  obtain ⟨x19,hx,h⟩:=ob h
  refine so 5 (oA 21 x19 z9 hs 4 rfl (by cases hx; kernel_rfl) i0_36 i1_36 fun w kp hs=>?_)
  refine fin (j35 _ _ (iN (T s21 (xn 3 fun _ j37=>(nq 0 [(33,I8 z9),(34,I8 (iadd .i64 z9 1))] ?_)))))
  obtain ⟨x20,hx,h⟩:=ob h
  refine tkf 2 10 (I8 x20) (yn hx) (fin (j37 _ _ ?_))
  exact tn (kl0 _ _ ⟨n,ls n,x20,(wr z10 z9 x19),h,(hs.conv rfl),eg⟩)
  refine tb 1 32 (df hc) (fj j20 s19 (cf (xexit (tx (tx (iH ?_))))))
  obtain rfl:=of_some h
  exact exq_n (nn0 _ _ ⟨(hs.conv rfl),eg⟩)
 clear hs h hy
 rintro a w ⟨hs,g17,rfl⟩
 have h:=hk0
 refine T s13 (xs fun _ s38=>(xn 2 fun _ j39=>(tkt 0 66 _ (yWe 70 hs 4 .grow) (so 1 (oWe 70 .i32 y11 hs 5 fun w kp hs=>(fj j39 s38 (xret ?_)))))))
 obtain rfl:=of_some h
 exact qq _ _ (pr (rr [.cell 6 70] [ag .i32 y11] (.cons (rcN 256 hs 5 rfl (enc_len _ _)) .nil)) ⟨cr,hs.none⟩)
theorem ref26_row.ok {K:Nat}{a0 a1:Int}{a2:List Int}{a3:Int}{r0:List (Arr 256)}{a2_A:Option Addr}{a2_n a2_c:Nat}(h:ref26_row.f K a0 a1 a2 a3=some r0) (w0:World) (hp2:RowL CB w0 a2_A a2_n a2_c a2):Calls Tryz.prog 52 #[I8 a0,I8 a1,.slice a2_A a2_n a2_c,I8 a3] w0 fun e w'=>∃ h:(Option Addr × Nat × Nat),e = .returned (.slice h.1 h.2.1 h.2.2)∧St w0 [] [.ownL CZ h.1 h.2.1 h.2.2 r0 70] [] w':=by
 refine calls_k Tryz.func52 rfl fun Q qq=>?_
 have hs:=St.startR (all_cons (RowP.ent hp2) all_nil)
 refine wc (a':=(fu 23 [I8 a0,I8 a1,.slice a2_A a2_n a2_c,I8 a3])) (xs fun _ s1=>(xn 1 fun _ j2=>(qo 0 8 (.slice none 0 0) (fj j2 s1 (xs fun _ s3=>(xn 1 fun _ j4=>?_))))))
 refine qo 0 9 (.slice none 0 0) (fj j4 s3 (xs fun _ s5=>(xs fun _ s6=>(xn 1 fun _ j7=>(qo 0 10 (I8 0) (fj j7 s6 (?_)))))))
 have hs:=hs.addNilL CZ 70
 obtain ⟨y3,hy,hk0⟩:=ob h
 refine wp_exq (N:=fun a w=>∃ y3_A y3_n y3_c,St w0 [] [.ownL CZ y3_A y3_n y3_c y3 70] [.rowL CB a2_A a2_n a2_c a2] w∧∃ g9,a=fr g9 27 [(8,[.slice none 0 0,.slice y3_A y3_n y3_c])]) (fun N0 nn0=>?_) ?_
 clear hk0
 refine xb ?_
 refine wp_loop_k (fun n a w=>∃ z1 z2,∃ z2_A z2_n z2_c,ref26_row.l0 K n a0 a1 a2 a3 z1 z2=some y3∧St w0 [] [.ownL CZ z2_A z2_n z2_c z2 70] [.rowL CB a2_A a2_n a2_c a2] w∧∃ g8,a=fr g8 27 [(0,[I8 a0,I8 a1,.slice a2_A a2_n a2_c,I8 a3]),(8,[.slice none 0 0,.slice z2_A z2_n z2_c,I8 z1])]) K ⟨0,([]:List (Arr 256)),none,0,0,hy,hs.conv rfl,eg⟩ ?_
 clear hs h hy
 rintro n a w ⟨z1,z2,z2_A,z2_n,z2_c,h,hs,g8,rfl⟩ KL0 kl0
 cases n with
 | zero=>exact nomatch (show none=some _ from h)
 | succ n=>
  refine xs fun _ s10=>(xs fun _ s11=>(xn 3 fun _ j12=>(nq 0 [(11,I8 z1),(12,I8 a0)] ?_)))
  obtain ⟨hc,h⟩|⟨hc,h⟩:=of_if h
  refine tb 2 13 (dt hc) ?_
  refine fj j12 s11 (ct (xk (T s10 (xs fun _ s13=>(xb (xn 11 fun _ j14=>(nq 0 [(16,.slice z2_A z2_n z2_c),(17,I8 a1),(18,.slice a2_A a2_n a2_c),(19,I8 a3),(20,I8 z1),(21,I8 (iadd .i64 a3 z1)),(22,U1 (iconv .u8 (iadd .i64 a3 z1)))] ?_)))))))
  obtain ⟨r4,hg,h⟩:=ob h
  refine so 7 (oC 23 hs (ref26_Noise.ok hg _ (rR 0 hs)) fun w gw hs=>?_)
  refine so 8 (oLL (C:=CZ) 24 66 70 1 (ag .i32 (zeroA 256)) #[(0,ag .i32 r4)] [r4] hs rfl rfl (by decide) (by decide) fun s5_A s5_n s5_c w gw hs=>?_)
  obtain ⟨h0,h⟩:=oc h
  refine so 9 (oAp (C:=CZ) 25 66 66 70 1024 137438953472 hs 1 rfl (rL 0 hs) h0 (by decide) (by decide) fun s6_A s6_n s6_c w hs=>?_)
  refine qo 10 9 (.slice s6_A s6_n s6_c) (fin (j14 _ _ (iN (T s13 (xn 3 fun _ j15=>(nq 0 [(14,I8 z1),(15,I8 (iadd .i64 z1 1))] ?_))))))
  obtain ⟨x7,hx,h⟩:=ob h
  refine tkf 2 10 (I8 x7) (yn hx) (fin (j15 _ _ ?_))
  exact tn (kl0 _ _ ⟨n,ls n,x7,(z2++([r4]:List (Arr 256))),s6_A,s6_n,s6_c,h,(dr [0,1] hs),eg⟩)
  refine tb 2 13 (df hc) (fj j12 s11 (cf (xexit (tx (tx (iH ?_))))))
  obtain rfl:=of_some h
  exact exq_n (nn0 _ _ ⟨z2_A,z2_n,z2_c,(hs.conv rfl),eg⟩)
 clear hs h hy
 rintro a w ⟨y3_A,y3_n,y3_c,hs,g9,rfl⟩
 have h:=hk0
 refine T s5 (xs fun _ s16=>(xn 2 fun _ j17=>(nq 0 [(26,.slice y3_A y3_n y3_c),(8,.slice y3_A y3_n y3_c)] (fj j17 s16 (xret ?_)))))
 obtain rfl:=of_some h
 exact qq _ _ (pt [8] [.slice y3_A y3_n y3_c] ⟨⟨y3_A,y3_n,y3_c⟩,cr,(pz hs)⟩)
theorem ref26_matrix_s.ok {K:Nat}{ca0 ca1 ca2 ca3 ca4:Int}{ca5:List Int}{y1:List (List (Arr 256))}{y2:Int}{ca5_A:Option Addr}{ca5_n ca5_c:Nat}(h:ref26_matrix_s.f K ca0 ca1 ca2 ca3 ca4 ca5=some (y1,y2)){w0 w:World}{X:List Nat}{Lt Rt:List Ent}(hs:St w0 X Lt (.rowL CB ca5_A ca5_n ca5_c ca5::Rt) w):Calls Tryz.prog 50 #[.agg #[I8 ca0,I8 ca1,I8 ca2,I8 ca3,I8 ca4],.slice ca5_A ca5_n ca5_c] w fun e w'=>∃ (y1_A:Option Addr) (y1_n:Nat) (y1_c:Nat) (y1_H:List HS),e = .returned (.tuple #[.slice y1_A y1_n y1_c,I8 y2])∧St w0 X (.ownL CS y1_A y1_n y1_c y1_H 66::Lt) (.inn CZ y1_H y1::.rowL CB ca5_A ca5_n ca5_c ca5::Rt) w':=by
 refine calls_k Tryz.func50 rfl fun Q qq=>?_
 refine wc (a':=(fu 43 [.agg #[I8 ca0,I8 ca1,I8 ca2,I8 ca3,I8 ca4],.slice ca5_A ca5_n ca5_c])) (xs fun _ s1=>(xn 3 fun _ j2=>(so 0 (oBa 2 23 hs [I8 ca0,I8 ca1,I8 ca2,I8 ca3,I8 ca4] fun b3 w gw hs=>(nq 1 [(4,.slice none 0 0),(5,I8 0)] ?_)))))
 refine fj j2 s1 (xs fun _ s3=>(xn 1 fun _ j4=>(qo 0 6 (.slice none 0 0) (fj j4 s3 (xs fun _ s5=>(xs fun _ s6=>(xn 1 fun _ j7=>(qo 0 7 (I8 0) (fj j7 s6 (?_))))))))))
 have hs:=(hs.addNilL CS 66).addInn0 CZ
 obtain ⟨t0,hy,hk0⟩:=ob h
 refine wp_exq (N:=fun a w=>∃ y6,∃ (y6_A:Option Addr) (y6_n:Nat) (y6_c:Nat) (y6_H:List HS),t0 = .inl y6∧St w0 X (.ownL CS y6_A y6_n y6_c y6_H 66::.blk b3 ([I8 ca0,I8 ca1,I8 ca2,I8 ca3,I8 ca4]) 23::Lt) (.inn CZ y6_H y6::.rowL CB ca5_A ca5_n ca5_c ca5::Rt) w∧∃ g9,a=fr g9 45 [(6,[.slice y6_A y6_n y6_c])]) (fun N0 nn0=>?_) ?_
 refine xb ?_
 refine wp_loop_k (fun n a w=>∃ z4 z5,∃ (z5_A:Option Addr) (z5_n:Nat) (z5_c:Nat) (z5_H:List HS),ref26_matrix_s.l0 K n ca0 ca5 z4 z5=some t0∧St w0 X (.ownL CS z5_A z5_n z5_c z5_H 66::.blk b3 ([I8 ca0,I8 ca1,I8 ca2,I8 ca3,I8 ca4]) 23::Lt) (.inn CZ z5_H z5::.rowL CB ca5_A ca5_n ca5_c ca5::Rt) w∧∃ g8,a=fr g8 45 [(1,[.slice ca5_A ca5_n ca5_c,P0 b3]),(6,[.slice z5_A z5_n z5_c,I8 z4])]) K ⟨0,([]:List (List (Arr 256))),none,0,0,[],hy,hs.conv rfl,eg⟩ ?_
 clear hs h hy
 rintro n a w ⟨z4,z5,z5_A,z5_n,z5_c,z5_H,h,hs,g8,rfl⟩ KL0 kl0
 cases n with
 | zero=>exact nomatch (show none=some _ from h)
 | succ n=>
  refine xs fun _ s10=>(xs fun _ s11=>(xn 4 fun _ j12=>(nq 0 [(12,I8 z4),(13,P0 b3)] (tkt 2 14 _ (yv hs 1 0 3 rfl (by rfl) .grow) ?_))))
  obtain ⟨hc,h⟩|⟨hc,h⟩:=of_if h
  refine tb 3 15 (dt hc) ?_
  refine fj j12 s11 (ct (xk (T s10 (xs fun _ s13=>(xb (xs fun _ s14=>(xn 1 fun _ j15=>(qo 0 8 (.slice none 0 0) (fj j15 s14 (xs fun _ s16=>(xs fun _ s17=>(xn 1 fun _ j18=>(qo 0 9 (I8 0) (fj j18 s17 (?_)))))))))))))))
  have hs:=hs.addNilL CZ 70
  obtain ⟨t1,hy,hk1⟩:=ob h
  refine wp_exq (N:=fun a w=>∃ y9,∃ y9_A y9_n y9_c,t1 = .inl y9∧St w0 X (.ownL CZ y9_A y9_n y9_c y9 70::.ownL CS z5_A z5_n z5_c z5_H 66::.blk b3 ([I8 ca0,I8 ca1,I8 ca2,I8 ca3,I8 ca4]) 23::Lt) (.inn CZ z5_H z5::.rowL CB ca5_A ca5_n ca5_c ca5::Rt) w∧∃ g20,a=fr g20 45 [(1,[.slice ca5_A ca5_n ca5_c,P0 b3]),(6,[.slice z5_A z5_n z5_c,I8 z4,.slice y9_A y9_n y9_c])]) (fun N1 nn1=>?_) ?_
  refine xb ?_
  refine wp_loop_k (fun n a w=>∃ z7 z8,∃ z8_A z8_n z8_c,ref26_matrix_s.l1 K n ca0 ca5 z4 z7 z8=some t1∧St w0 X (.ownL CZ z8_A z8_n z8_c z8 70::.ownL CS z5_A z5_n z5_c z5_H 66::.blk b3 ([I8 ca0,I8 ca1,I8 ca2,I8 ca3,I8 ca4]) 23::Lt) (.inn CZ z5_H z5::.rowL CB ca5_A ca5_n ca5_c ca5::Rt) w∧∃ g19,a=fr g19 45 [(1,[.slice ca5_A ca5_n ca5_c,P0 b3]),(6,[.slice z5_A z5_n z5_c,I8 z4,.slice z8_A z8_n z8_c,I8 z7])]) K ⟨0,([]:List (Arr 256)),none,0,0,hy,hs.conv rfl,eg⟩ ?_
  clear hs h hy
  rintro n a w ⟨z7,z8,z8_A,z8_n,z8_c,h,hs,g19,rfl⟩ KL1 kl1
  cases n with
  | zero=>exact nomatch (show none=some _ from h)
  | succ n=>
   refine xs fun _ s21=>(xs fun _ s22=>(xn 4 fun _ j23=>(nq 0 [(18,I8 z7),(19,P0 b3)] (tkt 2 20 _ (yv hs 2 0 3 rfl (by rfl) .grow) ?_))))
   obtain ⟨hc,h⟩|⟨hc,h⟩:=of_if h
   refine tb 3 21 (dt hc) ?_
   refine fj j23 s22 (ct (xk (T s21 (xs fun _ s24=>(xb (xs fun _ s25=>(xn 12 fun _ j26=>(nq 0 [(25,.slice ca5_A ca5_n ca5_c),(26,I8 z4),(27,U1 (iconv .u8 z4)),(28,I8 z7),(29,U1 (iconv .u8 z7))] ?_))))))))
   obtain ⟨⟨r10,r11⟩,hg,h⟩:=ob h
   refine so 5 (oC 30 hs (ref26_Parts.ok hg _ (rR 1 hs)) fun w gw hs=>?_)
   refine nq 6 [(24,.tuple #[ag .i32 r10,I8 r11]),(31,ag .i32 r10),(32,I8 r11)] (so 9 (oNe 10 70 .i32 (zeroA 256) hs fun b12 w gw hs=>(so 10 (oWe 70 .i32 r10 hs 0 fun w kp hs=>(qo 11 11 (I8 r11) (fj j26 s25 (xs fun _ s27=>(xs fun _ s28=>(xn 2 fun _ j29=>?_)))))))))
   refine qo 0 33 (I8 r11) ?_
   obtain ⟨hc,h⟩|⟨hc,h⟩:=of_if h
   refine tb 1 34 (nf hc) ?_
   refine fj j29 s28 (cf (xk (T s27 (xn 5 fun _ j30=>(qo 0 36 (.slice z8_A z8_n z8_c) (tkt 1 37 _ (yWe 70 hs 0 .grow) (so 2 (oLL (C:=CZ) 38 66 70 1 (ag .i32 (zeroA 256)) #[(0,ag .i32 r10)] [r10] hs rfl rfl (by decide) (by decide) fun s13_A s13_n s13_c w gw hs=>?_))))))))
   obtain ⟨h0,h⟩:=oc h
   refine so 3 (oAp (C:=CZ) 39 66 66 70 1024 137438953472 hs 2 rfl (rL 0 hs) h0 (by decide) (by decide) fun s14_A s14_n s14_c w hs=>?_)
   refine qo 4 8 (.slice s14_A s14_n s14_c) (fin (j30 _ _ (iN (T s24 (xn 3 fun _ j31=>(nq 0 [(22,I8 z7),(23,I8 (iadd .i64 z7 1))] ?_))))))
   obtain ⟨x15,hx,h⟩:=ob h
   refine tkf 2 9 (I8 x15) (yn hx) (fin (j31 _ _ ?_))
   exact tn (kl1 _ _ ⟨n,ls n,x15,(z8++([r10]:List (Arr 256))),s14_A,s14_n,s14_c,h,(dr [0,0,1,1,1] hs),eg⟩)
   refine tb 1 34 (nt hc) (fj j29 s28 (ct (xs fun _ s32=>(xn 3 fun _ j33=>(nq 0 [(35,I8 r11),(4,.slice none 0 0),(5,I8 r11)] (fj j33 s32 (xret (tr (iR (tr (tr (iR (exq_r (tr (iR (tr (tr (iR (exq_r (tr ?_))))))))))))))))))))
   obtain rfl:=of_some h
   have q0:=of_some hk1
   subst q0
   obtain ⟨q0,qr0⟩:=Prod.mk.inj (of_some hk0)
   have q1:=qr0
   subst q0
   subst q1
   have hs:=(hs.addNilL CS 66).addInn0 CZ
   exact qq _ _ (pt [4,5] [.slice none 0 0,I8 r11] ⟨none,0,0,[],rfl,((dr [1,0,0,0,0] hs).pickR (pick_cons 0 rfl (pick_cons 2 rfl (fun _ he=>.tail _ (.tail _ (.tail _ he))))))⟩)
   refine tb 3 21 (df hc) (fj j23 s22 (cf (xexit (tx (tx (iH ?_))))))
   obtain rfl:=of_some h
   exact exq_n (nn1 _ _ ⟨z8,z8_A,z8_n,z8_c,rfl,(hs.conv rfl),eg⟩)
  clear hs h hy
  rintro a w ⟨y9,y9_A,y9_n,y9_c,rfl,hs,g20,rfl⟩
  have h:=hk1
  refine T s16 (xn 5 fun _ j34=>(nq 0 [(40,.slice z5_A z5_n z5_c),(41,.slice y9_A y9_n y9_c)] (so 2 (oLt (C:=CS) 42 78 66 1 (.slice none 0 0) #[(0,.slice y9_A y9_n y9_c)] ([(y9_A,y9_n,y9_c)]:List HS) hs rfl (by decide) (by decide) fun s16_A s16_n s16_c w gw hs=>?_))))
  have hs:=hs.freeze 1 rfl
  obtain ⟨h0,h⟩:=oc h
  refine wpS.only 3 (oAp (C:=CS) 43 78 78 66 24 5864062014805 hs 1 rfl (rL 0 hs) (by rw [(hs.innR 1 rfl).length]; exact h0) (by decide) (by decide) ?_)
  intro s17_A s17_n s17_c w hs
  have hs:=hs.innApp 1 0 rfl rfl
  refine ⟨fun _=>trivial,?_⟩
  refine qo 4 6 (.slice s17_A s17_n s17_c) (fin (j34 _ _ (iN (T s13 (xn 3 fun _ j35=>(nq 0 [(16,I8 z4),(17,I8 (iadd .i64 z4 1))] ?_))))))
  obtain ⟨x18,hx,h⟩:=ob h
  refine tkf 2 7 (I8 x18) (yn hx) (fin (j35 _ _ ?_))
  exact tn (kl0 _ _ ⟨n,ls n,x18,(z5++[y9]),s17_A,s17_n,s17_c,(z5_H++[(y9_A,y9_n,y9_c)]),h,((dr [0,1,1] hs).pickR (pick_cons 1 rfl (pick_cons 2 rfl (fun _ he=>.tail _ (.tail _ (.tail _ he)))))),eg⟩)
  refine tb 3 15 (df hc) (fj j12 s11 (cf (xexit (tx (tx (iH ?_))))))
  obtain rfl:=of_some h
  exact exq_n (nn0 _ _ ⟨z5,z5_A,z5_n,z5_c,z5_H,rfl,(hs.conv rfl),eg⟩)
 clear hs h hy
 rintro a w ⟨y6,y6_A,y6_n,y6_c,y6_H,rfl,hs,g9,rfl⟩
 have h:=hk0
 refine T s5 (xs fun _ s36=>(xn 3 fun _ j37=>(nq 0 [(44,.slice y6_A y6_n y6_c),(4,.slice y6_A y6_n y6_c),(5,I8 0)] (fj j37 s36 (xret ?_)))))
 obtain ⟨rfl,rfl⟩:=os2 h
 exact qq _ _ (pt [4,5] [.slice y6_A y6_n y6_c,I8 0] ⟨y6_A,y6_n,y6_c,y6_H,rfl,(dr [1,0] hs)⟩)
end Go.Proofs.YtemdbgmldljbpaaGreatDoor

/- own -/
set_option linter.unusedVariables false
set_option linter.unusedSimpArgs false
set_option maxRecDepth 100000
set_option maxHeartbeats 4000000
namespace Go.Proofs.YtemdbgmldljbpaaGreatDoor
open Go.Mx
attribute [local irreducible] wpOp
theorem ref25_Unpack.ok {K:Nat}{a0:List Int}{a1:Int}{r0:Arr 256}{r1:Bool}{a0_A:Option Addr}{a0_n a0_c:Nat}(h:ref25_Unpack.f K a0 a1=some (r0,r1)) (w0:World) (hp0:RowL CB w0 a0_A a0_n a0_c a0):Ret Tryz.prog 44 #[.slice a0_A a0_n a0_c,I8 a1] w0 (.tuple #[ag .i32 r0,.bool r1]):=by
 refine calls_k Tryz.func44 rfl fun Q qq=>?_
 have hs:=St.startR (all_cons (RowP.ent hp0) all_nil)
 refine wc (a':=(fu 42 [.slice a0_A a0_n a0_c,I8 a1])) (xs fun _ s1=>(xn 2 fun _ j2=>(so 0 (oNe 4 70 .i32 (zeroA 256) hs fun b1 w gw hs=>(qo 1 5 (.bool false) ?_)))))
 refine fj j2 s1 (xs fun _ s3=>(xs fun _ s4=>(xn 13 fun _ j5=>(qo 0 9 (I8 a1) ?_))))
 obtain ⟨hc,h⟩|⟨hc,h⟩:=of_if h
 refine tb 1 10 (dt hc) ?_
 refine nq 2 [(11,.bool true),(12,undef),(13,undef),(14,.bool true),(15,.bool true),(16,undef),(17,undef),(18,undef),(19,undef),(20,undef),(21,.bool true)] (fj j5 s4 (ct (xs fun _ s6=>(xn 3 fun _ j7=>(qo 0 22 (ag .i32 (zeroA 256)) (so 1 (oWe 70 .i32 (zeroA 256) hs 0 fun w kp hs=>(qo 2 5 (.bool false) ?_))))))))
 refine fj j7 s6 (xret (tr ?_))
 obtain ⟨rfl,rfl⟩:=os2 h
 exact qq _ _ (pr (rr [.cell 4 70,.tmp 5] [ag .i32 (zeroA 256),.bool false] (.cons (rcN 256 hs 0 rfl (enc_len _ _)) (.cons rt .nil))) ⟨cr,hs.none⟩)
 refine tb 1 10 (df hc) (nq 2 [(11,.bool false),(12,I8 a1)] ?_)
 obtain ⟨hc,h⟩|⟨hc,h⟩:=of_if h
 refine tb 4 13 (dt hc) ?_
 refine nq 5 [(14,.bool true),(15,.bool true),(16,undef),(17,undef),(18,undef),(19,undef),(20,undef),(21,.bool true)] (fj j5 s4 (ct (xs fun _ s8=>(xn 3 fun _ j9=>(qo 0 22 (ag .i32 (zeroA 256)) (so 1 (oWe 70 .i32 (zeroA 256) hs 0 fun w kp hs=>(qo 2 5 (.bool false) ?_))))))))
 refine fj j9 s8 (xret (tr ?_))
 obtain ⟨rfl,rfl⟩:=os2 h
 exact qq _ _ (pr (rr [.cell 4 70,.tmp 5] [ag .i32 (zeroA 256),.bool false] (.cons (rcN 256 hs 0 rfl (enc_len _ _)) (.cons rt .nil))) ⟨cr,hs.none⟩)
 refine tb 4 13 (df hc) (nq 5 [(14,.bool false),(15,.bool false),(16,.slice a0_A a0_n a0_c)] (tkf 8 17 (I8 (a0.length:Int)) (yl (rR 0 hs)) (nq 9 [(18,I8 a1),(19,I8 (imul .i64 32 a1))] ?_)))
 obtain ⟨hc,h⟩|⟨hc,h⟩:=of_if h
 refine tb 11 20 (nf hc) ?_
 refine qo 12 21 (.bool false) (fj j5 s4 (cf (xk (T s3 (xs fun _ s10=>(xn 4 fun _ j11=>(nq 0 [(23,.slice a0_A a0_n a0_c),(24,I8 a1)] ?_)))))))
 obtain ⟨r2,hg,h⟩:=ob h
 refine wpS.only 2 (oH 25 hs (ref01_Unpack.ok hg _ (rR 0 hs)) ?_)
 rintro ⟨r2_A,r2_n,r2_c⟩ w gw hs
 have hs:=hs.conv (L':=[.ownL (CI .u32) r2_A r2_n r2_c r2 112,.blk b1 (enc .i32 (zeroA 256)) 70]) rfl
 refine ⟨fun _=>trivial,?_⟩
 refine qo 3 6 (.slice r2_A r2_n r2_c) (fj j11 s10 (xs fun _ s12=>(xn 1 fun _ j13=>(so 0 (oNe 7 70 .i32 (zeroA 256) hs fun b3 w gw hs=>(fj j13 s12 (xs fun _ s14=>(xs fun _ s15=>(xn 1 fun _ j16=>(qo 0 8 (I8 0) ?_))))))))))
 refine fj j16 s15 (?_)
 obtain ⟨y6,hy,hk0⟩:=ob h
 refine wp_exq (N:=fun a w=>St w0 [] [.blk b3 (enc .i32 y6) 70,.ownL (CI .u32) r2_A r2_n r2_c r2 112,.blk b1 (enc .i32 (zeroA 256)) 70] [.rowL CB a0_A a0_n a0_c a0] w∧∃ g18,a=fr g18 44 [(1,[I8 a1]),(4,[P0 b1,.bool false]),(7,[P0 b3])]) (fun N0 nn0=>?_) ?_
 clear hk0
 refine xb ?_
 refine wp_loop_k (fun n a w=>∃ z4 z5,ref25_Unpack.l0 K n r2 z4 z5=some y6∧St w0 [] [.blk b3 (enc .i32 z5) 70,.ownL (CI .u32) r2_A r2_n r2_c r2 112,.blk b1 (enc .i32 (zeroA 256)) 70] [.rowL CB a0_A a0_n a0_c a0] w∧∃ g17,a=fr g17 44 [(1,[I8 a1]),(4,[P0 b1,.bool false,.slice r2_A r2_n r2_c,P0 b3,I8 z4])]) K ⟨0,(zeroA 256),hy,hs.conv rfl,eg⟩ ?_
 clear hs h hy
 rintro n a w ⟨z4,z5,h,hs,g17,rfl⟩ KL0 kl0
 cases n with
 | zero=>exact nomatch (show none=some _ from h)
 | succ n=>
  refine xs fun _ s19=>(xs fun _ s20=>(xn 2 fun _ j21=>(qo 0 26 (I8 z4) ?_)))
  obtain ⟨hc,h⟩|⟨hc,h⟩:=of_if h
  refine tb 1 27 (dt hc) ?_
  refine fj j21 s20 (ct (xk (T s19 (xs fun _ s22=>(xb (xn 8 fun _ j23=>(nq 0 [(30,I8 z4),(31,.slice r2_A r2_n r2_c),(32,I8 z4)] ?_)))))))
  obtain ⟨h0,h1,h⟩:=oc2 h
  have i0_24:=h0
  have i1_24:=h1
  refine tkf 3 33 (PA (CI .u32) r2_A z4) (yiL (C:=(CI .u32)) 110 112 .i64 z4 (rL 1 hs) h0 h1) (tkt 4 34 _ (yL (C:=(CI .u32)) 112 z4 (rL 1 hs) rfl i0_24 i1_24) (qo 5 35 (I4 (iconv .i32 (rdL (CI .u32) r2 z4))) ?_))
  obtain ⟨i0_25,i1_25,h⟩:=oc2 h
  refine tkf 6 36 (P1 b3 z4) (yi 70 21 256 1 .i64 z4 i0_25 i1_25) ?_
  obtain ⟨x7,hx,h⟩:=ob h
  refine so 7 (oA 21 x7 z4 hs 0 rfl (by cases hx; kernel_rfl) i0_25 i1_25 fun w kp hs=>?_)
  refine fin (j23 _ _ (iN (T s22 (xn 3 fun _ j26=>(nq 0 [(28,I8 z4),(29,I8 (iadd .i64 z4 1))] ?_)))))
  obtain ⟨x8,hx,h⟩:=ob h
  refine tkf 2 8 (I8 x8) (yn hx) (fin (j26 _ _ ?_))
  exact tn (kl0 _ _ ⟨n,ls n,x8,(wr z5 z4 x7),h,(hs.conv rfl),eg⟩)
  refine tb 1 27 (df hc) (fj j21 s20 (cf (xexit (tx (tx (iH ?_))))))
  obtain rfl:=of_some h
  exact exq_n (nn0 _ _ ⟨(hs.conv rfl),eg⟩)
 clear hs h hy
 rintro a w ⟨hs,g18,rfl⟩
 have h:=hk0
 refine T s14 (xs fun _ s27=>(xs fun _ s28=>?_))
 refine rg [] (fun k=>True) 5 fun _ j29=>?_
 have hs:=hs.drawn1
 refine tgt 0 37 _ (yWe 70 hs 0 .grow) (gq 1 38 (I8 a1) ?_)
 obtain ⟨r9,hg,h⟩:=ob h
 refine go 2 (oC 39 hs (ref25_bound.ok hg _) fun w gw hs=>⟨.of gw,?_⟩)
 obtain ⟨r10,hg,h⟩:=ob h
 cases r10 with
 | true=>
  have h:=of_if_t h
  refine go 3 (oC 40 hs (ref25_Below.ok hg _) fun w gw hs=>⟨.of gw,?_⟩)
  refine gq 4 41 (.bool false) (gf (j29 _ _ (T s28 (cf (xk (T s27 (xs fun _ s30=>(xn 3 fun _ j31=>(tkt 0 43 _ (yWe 70 hs 0 .grow) (so 1 (oWe 70 .i32 y6 hs 2 fun w kp hs=>?_)))))))))))
  refine qo 2 5 (.bool true) (fj j31 s30 (xret ?_))
  obtain ⟨rfl,rfl⟩:=os2 h
  exact qq _ _ (pr (rr [.cell 4 70,.tmp 5] [ag .i32 y6,.bool true] (.cons (rcN 256 hs 2 rfl (enc_len _ _)) (.cons rt .nil))) ⟨cr,hs.none⟩)
 | false=>
  have h:=of_if_f h
  refine go 3 (oC 40 hs (ref25_Below.ok hg _) fun w gw hs=>⟨.of gw,?_⟩)
  refine gq 4 41 (.bool true) (gf (j29 _ _ (T s28 (ct (xs fun _ s32=>(xn 3 fun _ j33=>(qo 0 42 (ag .i32 (zeroA 256)) (so 1 (oWe 70 .i32 (zeroA 256) hs 2 fun w kp hs=>?_)))))))))
  refine qo 2 5 (.bool false) (fj j33 s32 (xret (tr ?_)))
  obtain ⟨rfl,rfl⟩:=os2 h
  exact qq _ _ (pr (rr [.cell 4 70,.tmp 5] [ag .i32 (zeroA 256),.bool false] (.cons (rcN 256 hs 2 rfl (enc_len _ _)) (.cons rt .nil))) ⟨cr,hs.none⟩)
 refine tb 11 20 (nt hc) (qo 12 21 (.bool true) (fj j5 s4 (ct (xs fun _ s34=>(xn 3 fun _ j35=>(qo 0 22 (ag .i32 (zeroA 256)) (so 1 (oWe 70 .i32 (zeroA 256) hs 0 fun w kp hs=>?_))))))))
 refine qo 2 5 (.bool false) (fj j35 s34 (xret (tr ?_)))
 obtain ⟨rfl,rfl⟩:=os2 h
 exact qq _ _ (pr (rr [.cell 4 70,.tmp 5] [ag .i32 (zeroA 256),.bool false] (.cons (rcN 256 hs 0 rfl (enc_len _ _)) (.cons rt .nil))) ⟨cr,hs.none⟩)
theorem ref26_read.ok {K:Nat}{a0:List Int}{a1 a2:Int}{r0:List (Arr 256)}{r1:Bool}{a0_A:Option Addr}{a0_n a0_c:Nat}(h:ref26_read.f K a0 a1 a2=some (r0,r1)) (w0:World) (hp0:RowL CB w0 a0_A a0_n a0_c a0):Calls Tryz.prog 41 #[.slice a0_A a0_n a0_c,I8 a1,I8 a2] w0 fun e w'=>∃ h:(Option Addr × Nat × Nat),e = .returned (.tuple #[.slice h.1 h.2.1 h.2.2,.bool r1])∧St w0 [] [.ownL CZ h.1 h.2.1 h.2.2 r0 70] [] w':=by
 refine calls_k Tryz.func41 rfl fun Q qq=>?_
 have hs:=St.startR (all_cons (RowP.ent hp0) all_nil)
 refine wc (a':=(fu 37 [.slice a0_A a0_n a0_c,I8 a1,I8 a2])) (xs fun _ s1=>(xn 2 fun _ j2=>(nq 0 [(6,.slice none 0 0),(7,.bool false)] (fj j2 s1 (xs fun _ s3=>(xn 1 fun _ j4=>?_))))))
 refine qo 0 8 (.slice none 0 0) (fj j4 s3 (xs fun _ s5=>(xs fun _ s6=>(xn 1 fun _ j7=>(qo 0 9 (I8 0) (fj j7 s6 (?_)))))))
 have hs:=hs.addNilL CZ 70
 obtain ⟨t0,hy,hk0⟩:=ob h
 refine wp_exq (N:=fun a w=>∃ y3,∃ y3_A y3_n y3_c,t0 = .inl y3∧St w0 [] [.ownL CZ y3_A y3_n y3_c y3 70] [.rowL CB a0_A a0_n a0_c a0] w∧∃ g9,a=fr g9 40 [(8,[.slice y3_A y3_n y3_c])]) (fun N0 nn0=>?_) ?_
 refine xb ?_
 refine wp_loop_k (fun n a w=>∃ z1 z2,∃ z2_A z2_n z2_c,ref26_read.l0 K n a0 a1 a2 z1 z2=some t0∧St w0 [] [.ownL CZ z2_A z2_n z2_c z2 70] [.rowL CB a0_A a0_n a0_c a0] w∧∃ g8,a=fr g8 40 [(0,[.slice a0_A a0_n a0_c,I8 a1,I8 a2]),(8,[.slice z2_A z2_n z2_c,I8 z1])]) K ⟨0,([]:List (Arr 256)),none,0,0,hy,hs.conv rfl,eg⟩ ?_
 clear hs h hy
 rintro n a w ⟨z1,z2,z2_A,z2_n,z2_c,h,hs,g8,rfl⟩ KL0 kl0
 cases n with
 | zero=>exact nomatch (show none=some _ from h)
 | succ n=>
  refine xs fun _ s10=>(xs fun _ s11=>(xn 3 fun _ j12=>(nq 0 [(12,I8 z1),(13,I8 a1)] ?_)))
  obtain ⟨hc,h⟩|⟨hc,h⟩:=of_if h
  refine tb 2 14 (dt hc) ?_
  refine fj j12 s11 (ct (xk (T s10 (xs fun _ s13=>(xb (xs fun _ s14=>(xn 19 fun _ j15=>(nq 0 [(18,.slice a0_A a0_n a0_c),(19,I8 a2),(20,I8 (imul .i64 32 a2)),(21,I8 z1),(22,I8 (imul .i64 (imul .i64 32 a2) z1)),(23,I8 a2),(24,I8 (imul .i64 32 a2)),(25,I8 z1),(26,I8 (iadd .i64 z1 1)),(27,I8 (imul .i64 (imul .i64 32 a2) (iadd .i64 z1 1)))] ?_))))))))
  obtain ⟨h0,h1,h⟩:=oc2 h
  obtain ⟨h2,h⟩:=oc h
  obtain ⟨s4_A,hA⟩ : ∃ A,A=if a0_c=((imul .i64 (imul .i64 32 a2) z1):Int).toNat then a0_A else adr a0_A (((imul .i64 (imul .i64 32 a2) z1):Int).toNat*Cod.size CB):=⟨_,rfl⟩
  obtain ⟨s4_n,hn⟩ : ∃ n,n=((imul .i64 (imul .i64 32 a2) (iadd .i64 z1 1)):Int).toNat-((imul .i64 (imul .i64 32 a2) z1):Int).toNat:=⟨_,rfl⟩
  obtain ⟨s4_c,hc⟩ : ∃ c,c=a0_c-((imul .i64 (imul .i64 32 a2) z1):Int).toNat:=⟨_,rfl⟩
  refine tkf 10 28 (.slice s4_A s4_n s4_c) (ysb (C:=CB) 24 5 (some (I8 (imul .i64 (imul .i64 32 a2) z1))) (some (I8 (imul .i64 (imul .i64 32 a2) (iadd .i64 z1 1)))) (imul .i64 (imul .i64 32 a2) z1) (imul .i64 (imul .i64 32 a2) (iadd .i64 z1 1)) (rR 0 hs) (.inr ⟨_,rfl⟩) (.inr ⟨_,rfl⟩) h0 h1 h2 hA hn hc) ?_
  have hs:=hs.addSub (C:=CB) 0 rfl h0 h1 h2 hA hn hc
  refine qo 11 29 (I8 a2) ?_
  obtain ⟨⟨r5,r6⟩,hg,h⟩:=ob h
  refine so 12 (oC 30 hs (ref25_Unpack.ok hg _ (rR 0 hs)) fun w gw hs=>?_)
  refine nq 13 [(17,.tuple #[ag .i32 r5,.bool r6]),(31,ag .i32 r5)] ?_
  cases r6 with
  | true=>
   have h:=of_if_t h
   refine qo 15 32 (.bool true) (so 16 (oNe 10 70 .i32 (zeroA 256) hs fun b7 w gw hs=>(so 17 (oWe 70 .i32 r5 hs 0 fun w kp hs=>(qo 18 11 (.bool true) (fj j15 s14 (xs fun _ s16=>(xs fun _ s17=>(xn 2 fun _ j18=>?_)))))))))
   refine nq 0 [(33,.bool true),(34,.bool false)] (fj j18 s17 (cf (xk (T s16 (xn 5 fun _ j19=>(qo 0 35 (.slice z2_A z2_n z2_c) (tkt 1 36 _ (yWe 70 hs 0 .grow) (so 2 (oLL (C:=CZ) 37 66 70 1 (ag .i32 (zeroA 256)) #[(0,ag .i32 r5)] [r5] hs rfl rfl (by decide) (by decide) fun s8_A s8_n s8_c w gw hs=>?_)))))))))
   obtain ⟨h0,h⟩:=oc h
   refine so 3 (oAp (C:=CZ) 38 66 66 70 1024 137438953472 hs 2 rfl (rL 0 hs) h0 (by decide) (by decide) fun s9_A s9_n s9_c w hs=>?_)
   refine qo 4 8 (.slice s9_A s9_n s9_c) (fin (j19 _ _ (iN (T s13 (xn 3 fun _ j20=>(nq 0 [(15,I8 z1),(16,I8 (iadd .i64 z1 1))] ?_))))))
   obtain ⟨x10,hx,h⟩:=ob h
   refine tkf 2 9 (I8 x10) (yn hx) (fin (j20 _ _ ?_))
   exact tn (kl0 _ _ ⟨n,ls n,x10,(z2++([r5]:List (Arr 256))),s9_A,s9_n,s9_c,h,(pk [1] (dr [0,0,1] hs)),eg⟩)
  | false=>
   have h:=of_if_f h
   refine qo 15 32 (.bool false) (so 16 (oNe 10 70 .i32 (zeroA 256) hs fun b11 w gw hs=>(so 17 (oWe 70 .i32 r5 hs 0 fun w kp hs=>(qo 18 11 (.bool false) (fj j15 s14 (xs fun _ s21=>(xs fun _ s22=>(xn 2 fun _ j23=>?_)))))))))
   refine nq 0 [(33,.bool false),(34,.bool true)] (fj j23 s22 (ct (xs fun _ s24=>(xn 2 fun _ j25=>(nq 0 [(6,.slice none 0 0),(7,.bool false)] (fj j25 s24 (xret (tr (iR (tr (tr (iR (exq_r (tr ?_))))))))))))))
   obtain rfl:=of_some h
   obtain ⟨q0,qr0⟩:=Prod.mk.inj (of_some hk0)
   have q1:=qr0
   subst q0
   subst q1
   have hs:=hs.addNilL CZ 70
   exact qq _ _ (pt [6,7] [.slice none 0 0,.bool false] ⟨⟨none,0,0⟩,cr,(pz (dr [1,0,0] hs))⟩)
  refine tb 2 14 (df hc) (fj j12 s11 (cf (xexit (tx (tx (iH ?_))))))
  obtain rfl:=of_some h
  exact exq_n (nn0 _ _ ⟨z2,z2_A,z2_n,z2_c,rfl,(hs.conv rfl),eg⟩)
 clear hs h hy
 rintro a w ⟨y3,y3_A,y3_n,y3_c,rfl,hs,g9,rfl⟩
 have h:=hk0
 refine T s5 (xs fun _ s26=>(xn 3 fun _ j27=>(nq 0 [(39,.slice y3_A y3_n y3_c),(6,.slice y3_A y3_n y3_c),(7,.bool true)] (fj j27 s26 (xret ?_)))))
 obtain ⟨rfl,rfl⟩:=os2 h
 exact qq _ _ (pt [6,7] [.slice y3_A y3_n y3_c,.bool true] ⟨⟨y3_A,y3_n,y3_c⟩,cr,(pz hs)⟩)
theorem ref25_Widen.ok {K:Nat}{a0:Arr 256}{a1:Int}{r0:Arr 256}(h:ref25_Widen.f K a0 a1=some r0) (w0:World):Ret Tryz.prog 43 #[ag .i32 a0,I8 a1] w0 (ag .i32 r0):=by
 refine calls_k Tryz.func43 rfl fun Q qq=>?_
 have hs:=St.start w0
 refine wc (a':=(fu 36 [ag .i32 a0,I8 a1])) (xs fun _ s1=>(xn 2 fun _ j2=>(so 0 (oBe 2 70 .i32 a0 hs fun b1 w gw hs=>(so 1 (oNe 4 70 .i32 (zeroA 256) hs fun b2 w gw hs=>?_))))))
 refine fj j2 s1 (xs fun _ s3=>(xs fun _ s4=>?_))
 refine rg [] (fun k=>True) 13 fun _ j5=>?_
 have hs:=hs.drawn1
 refine gq 0 6 (I8 a1) ?_
 obtain ⟨hc,h⟩|⟨hc,h⟩:=of_if h
 refine gb 1 7 (dt hc) ?_
 refine gq 2 8 (.bool true) (gq 3 9 undef (gq 4 10 undef (gq 5 11 (.bool true) (gq 6 12 (.bool true) ?_))))
 refine gq 7 13 undef (gq 8 14 undef (gq 9 15 undef (gq 10 16 undef (gq 11 17 undef ?_))))
 refine gq 12 18 (.bool true) (gf (j5 _ _ (T s4 (ct (xs fun _ s6=>(xn 2 fun _ j7=>(qo 0 19 (ag .i32 (zeroA 256)) (so 1 (oWe 70 .i32 (zeroA 256) hs 0 fun w kp hs=>?_)))))))))
 refine fj j7 s6 (xret (tr ?_))
 obtain rfl:=of_some h
 exact qq _ _ (pr (rr [.cell 4 70] [ag .i32 (zeroA 256)] (.cons (rcN 256 hs 0 rfl (enc_len _ _)) .nil)) ⟨cr,hs.none⟩)
 refine gb 1 7 (df hc) (gq 2 8 (.bool false) (gq 3 9 (I8 a1) ?_))
 obtain ⟨hc,h⟩|⟨hc,h⟩:=of_if h
 refine gb 4 10 (dt hc) ?_
 refine gq 5 11 (.bool true) (gq 6 12 (.bool true) (gq 7 13 undef (gq 8 14 undef (gq 9 15 undef ?_))))
 refine gq 10 16 undef (gq 11 17 undef (gq 12 18 (.bool true) (gf (j5 _ _ (T s4 (ct (xs fun _ s8=>(xn 2 fun _ j9=>?_))))))))
 refine qo 0 19 (ag .i32 (zeroA 256)) (so 1 (oWe 70 .i32 (zeroA 256) hs 0 fun w kp hs=>(fj j9 s8 (xret (tr ?_)))))
 obtain rfl:=of_some h
 exact qq _ _ (pr (rr [.cell 4 70] [ag .i32 (zeroA 256)] (.cons (rcN 256 hs 0 rfl (enc_len _ _)) .nil)) ⟨cr,hs.none⟩)
 refine gb 4 10 (df hc) (gq 5 11 (.bool false) (gq 6 12 (.bool false) (tgt 7 13 _ (yWe 70 hs 1 .grow) (gq 8 14 (I8 a1) ?_))))
 obtain ⟨h0,h⟩:=oc h
 refine tgf 9 15 (I4 (ishl .i32 1 a1)) (ysl 21 .i64 h0) ?_
 obtain ⟨r3,hg,h⟩:=ob h
 cases r3 with
 | true=>
  have h:=of_if_t h
  refine go 10 (oC 16 hs (ref25_Below.ok hg _) fun w gw hs=>⟨.of gw,?_⟩)
  refine gq 11 17 (.bool false) (gq 12 18 (.bool false) (gf (j5 _ _ (T s4 (cf (xk (T s3 (xs fun _ s10=>(xs fun _ s11=>(xn 1 fun _ j12=>(qo 0 5 (I8 0) ?_)))))))))))
  refine fj j12 s11 (?_)
  obtain ⟨y6,hy,hk0⟩:=ob h
  refine wp_exq (N:=fun a w=>St w0 [] [.blk b2 (enc .i32 (zeroA 256)) 70,.blk b1 (enc .i32 y6) 70] [] w∧∃ g14,a=fr g14 38 [(2,[P0 b1]),(4,[P0 b2])]) (fun N0 nn0=>?_) ?_
  clear hk0
  refine xb ?_
  refine wp_loop_k (fun n a w=>∃ z4 z5,ref25_Widen.l0 K n a1 z4 z5=some y6∧St w0 [] [.blk b2 (enc .i32 (zeroA 256)) 70,.blk b1 (enc .i32 z5) 70] [] w∧∃ g13,a=fr g13 38 [(1,[I8 a1,P0 b1]),(4,[P0 b2,I8 z4])]) K ⟨0,a0,hy,hs.conv rfl,eg⟩ ?_
  clear hs h hy
  rintro n a w ⟨z4,z5,h,hs,g13,rfl⟩ KL0 kl0
  cases n with
  | zero=>exact nomatch (show none=some _ from h)
  | succ n=>
   refine xs fun _ s15=>(xs fun _ s16=>(xn 2 fun _ j17=>(qo 0 20 (I8 z4) ?_)))
   obtain ⟨hc,h⟩|⟨hc,h⟩:=of_if h
   refine tb 1 21 (dt hc) ?_
   refine fj j17 s16 (ct (xk (T s15 (xs fun _ s18=>(xb ?_)))))
   refine rg [13] (fun k=>True) 14 fun _ j19=>?_
   have hs:=hs.drawn1
   refine gq 0 24 (I8 z4) (gq 1 25 (I8 z4) ?_)
   obtain ⟨i0_20,i1_20,h⟩:=oc2 h
   refine tgf 2 26 (P1 b1 z4) (yi 70 21 256 1 .i64 z4 i0_20 i1_20) (tgt 3 27 _ (yA hs 1 21 z4 rfl i0_20 i1_20 .grow) (gq 4 28 (I4 (imul .i32 2 (rd z5 z4))) (gq 5 29 (I4 (imul .i32 (imul .i32 2 (rd z5 z4)) 3329)) (gq 6 30 (I8 a1) ?_))))
   obtain ⟨h0,h⟩:=oc h
   refine tgf 7 31 (I4 (ishl .i32 1 a1)) (ysl 21 .i64 h0) (gq 8 32 (I4 (iadd .i32 (imul .i32 (imul .i32 2 (rd z5 z4)) 3329) (ishl .i32 1 a1))) (gq 9 33 (I8 a1) ?_))
   obtain ⟨h0,h⟩:=oc h
   refine tgf 10 34 (I4 (ishl .i32 2 a1)) (ysl 21 .i64 h0) ?_
   obtain ⟨h0,h⟩:=oc h
   refine tgf 11 35 (I4 (iquo .i32 (iadd .i32 (imul .i32 (imul .i32 2 (rd z5 z4)) 3329) (ishl .i32 1 a1)) (ishl .i32 2 a1))) (yq 21 h0) ?_
   obtain ⟨i0_21,i1_21,h⟩:=oc2 h
   refine tgf 12 36 (P1 b1 z4) (yi 70 21 256 1 .i64 z4 i0_21 i1_21) ?_
   obtain ⟨x7,hx,h⟩:=ob h
   refine go 13 (oA 21 x7 z4 hs 1 rfl (by cases hx; kernel_rfl) i0_21 i1_21 fun w kp hs=>⟨⟨fun hf=>absurd hf (by decide),.all _ _⟩,?_⟩)
   refine gf (j19 _ _ ?_)
   refine iN (T s18 (xn 3 fun _ j22=>?_))
   refine nq 0 [(22,I8 z4),(23,I8 (iadd .i64 z4 1))] ?_
   obtain ⟨x8,hx,h⟩:=ob h
   refine tkf 2 5 (I8 x8) (yn hx) (fin (j22 _ _ ?_))
   exact tn (kl0 _ _ ⟨n,ls n,x8,(wr z5 z4 x7),h,(hs.conv rfl),eg⟩)
   refine tb 1 21 (df hc) (fj j17 s16 (cf (xexit (tx (tx (iH ?_))))))
   obtain rfl:=of_some h
   exact exq_n (nn0 _ _ ⟨(hs.conv rfl),eg⟩)
  clear hs h hy
  rintro a w ⟨hs,g14,rfl⟩
  have h:=hk0
  refine T s10 (xs fun _ s23=>(xn 2 fun _ j24=>(tkt 0 37 _ (yWe 70 hs 1 .grow) (so 1 (oWe 70 .i32 y6 hs 0 fun w kp hs=>(fj j24 s23 (xret ?_)))))))
  obtain rfl:=of_some h
  exact qq _ _ (pr (rr [.cell 4 70] [ag .i32 y6] (.cons (rcN 256 hs 0 rfl (enc_len _ _)) .nil)) ⟨cr,hs.none⟩)
 | false=>
  have h:=of_if_f h
  refine go 10 (oC 16 hs (ref25_Below.ok hg _) fun w gw hs=>⟨.of gw,?_⟩)
  refine gq 11 17 (.bool true) (gq 12 18 (.bool true) (gf (j5 _ _ (T s4 (ct (xs fun _ s25=>(xn 2 fun _ j26=>(qo 0 19 (ag .i32 (zeroA 256)) ?_))))))))
  refine so 1 (oWe 70 .i32 (zeroA 256) hs 0 fun w kp hs=>?_)
  refine fj j26 s25 (xret (tr ?_))
  obtain rfl:=of_some h
  exact qq _ _ (pr (rr [.cell 4 70] [ag .i32 (zeroA 256)] (.cons (rcN 256 hs 0 rfl (enc_len _ _)) .nil)) ⟨cr,hs.none⟩)
theorem ref25_Back.ok {K:Nat}{a0 r0:Arr 256}(h:ref25_Back.f K a0=some r0) (w0:World):Ret Tryz.prog 46 #[ag .i32 a0] w0 (ag .i32 r0):=by
 refine calls_k Tryz.func46 rfl fun Q qq=>?_
 have hs:=St.start w0
 refine wc (a':=(fu 62 [ag .i32 a0])) (xs fun _ s1=>(xn 2 fun _ j2=>(so 0 (oBe 1 70 .i32 a0 hs fun b1 w gw hs=>(so 1 (oNe 2 70 .i32 (zeroA 256) hs fun b2 w gw hs=>?_))))))
 refine fj j2 s1 (xs fun _ s3=>(xn 3 fun _ j4=>?_))
 obtain ⟨r3,hg,h⟩:=ob h
 refine so 0 (oC 10 hs (ref25_powers.ok hg _) fun w gw hs=>?_)
 refine so 1 (oNe 3 69 .i32 (zeroA 256) hs fun b4 w gw hs=>?_)
 refine so 2 (oWe 69 .i32 r3 hs 0 fun w kp hs=>?_)
 refine fj j4 s3 (xs fun _ s5=>(xn 1 fun _ j6=>(so 0 (oNe 4 70 .i32 (zeroA 256) hs fun b5 w gw hs=>(fj j6 s5 (xs fun _ s7=>(xs fun _ s8=>(xn 1 fun _ j9=>(qo 0 5 (I8 0) (fj j9 s8 (?_)))))))))))
 obtain ⟨y8,hy,hk0⟩:=ob h
 refine wp_exq (N:=fun a w=>St w0 [] [.blk b5 (enc .i32 y8) 70,.blk b4 (enc .i32 r3) 69,.blk b2 (enc .i32 (zeroA 256)) 70,.blk b1 (enc .i32 a0) 70] [] w∧∃ g11,a=fr g11 63 [(2,[P0 b2]),(4,[P0 b5])]) (fun N0 nn0=>?_) ?_
 clear hk0
 refine xb ?_
 refine wp_loop_k (fun n a w=>∃ z6 z7,ref25_Back.l0 K n a0 r3 z6 z7=some y8∧St w0 [] [.blk b5 (enc .i32 z7) 70,.blk b4 (enc .i32 r3) 69,.blk b2 (enc .i32 (zeroA 256)) 70,.blk b1 (enc .i32 a0) 70] [] w∧∃ g10,a=fr g10 63 [(1,[P0 b1,P0 b2,P0 b4,P0 b5,I8 z6])]) K ⟨0,(zeroA 256),hy,hs.conv rfl,eg⟩ ?_
 clear hs h hy
 rintro n a w ⟨z6,z7,h,hs,g10,rfl⟩ KL0 kl0
 cases n with
 | zero=>exact nomatch (show none=some _ from h)
 | succ n=>
  refine xs fun _ s12=>(xs fun _ s13=>(xn 2 fun _ j14=>(qo 0 11 (I8 z6) ?_)))
  obtain ⟨hc,h⟩|⟨hc,h⟩:=of_if h
  refine tb 1 12 (dt hc) ?_
  refine fj j14 s13 (ct (xk (T s12 (xs fun _ s15=>(xb (xs fun _ s16=>(xn 1 fun _ j17=>(qo 0 6 (I4 0) (fj j17 s16 (xs fun _ s18=>(xn 1 fun _ j19=>(qo 0 7 (I4 0) (fj j19 s18 (xs fun _ s20=>(xs fun _ s21=>(xn 1 fun _ j22=>?_))))))))))))))))
  refine qo 0 8 (I8 0) (fj j22 s21 (?_))
  obtain ⟨⟨y12,y13⟩,hy,hk1⟩:=ob h
  refine wp_exq (N:=fun a w=>St w0 [] [.blk b5 (enc .i32 z7) 70,.blk b4 (enc .i32 r3) 69,.blk b2 (enc .i32 (zeroA 256)) 70,.blk b1 (enc .i32 a0) 70] [] w∧∃ g24,a=fr g24 63 [(1,[P0 b1,P0 b2,P0 b4,P0 b5,I8 z6,I4 y12,I4 y13])]) (fun N1 nn1=>?_) ?_
  clear hk1
  refine xb ?_
  refine wp_loop_k (fun n a w=>∃ z9 z10 z11,ref25_Back.l1 K n a0 r3 z6 z9 z10 z11=some (y12,y13)∧St w0 [] [.blk b5 (enc .i32 z7) 70,.blk b4 (enc .i32 r3) 69,.blk b2 (enc .i32 (zeroA 256)) 70,.blk b1 (enc .i32 a0) 70] [] w∧∃ g23,a=fr g23 63 [(1,[P0 b1,P0 b2,P0 b4,P0 b5,I8 z6,I4 z9,I4 z10,I8 z11])]) K ⟨0,0,0,hy,hs.conv rfl,eg⟩ ?_
  clear hs h hy
  rintro n a w ⟨z9,z10,z11,h,hs,g23,rfl⟩ KL1 kl1
  cases n with
  | zero=>exact nomatch (show none=some _ from h)
  | succ n=>
   refine xs fun _ s25=>(xs fun _ s26=>(xn 2 fun _ j27=>(qo 0 15 (I8 z11) ?_)))
   obtain ⟨hc,h⟩|⟨hc,h⟩:=of_if h
   refine tb 1 16 (dt hc) ?_
   refine fj j27 s26 (ct (xk (T s25 (xs fun _ s28=>(xb (xs fun _ s29=>(xn 12 fun _ j30=>(qo 0 19 (I8 z11) ?_))))))))
   obtain ⟨r14,hg,h⟩:=ob h
   refine so 1 (oC 20 hs (ref25_turned.ok hg _) fun w gw hs=>?_)
   refine nq 2 [(21,I8 (imul .i64 2 r14)),(22,I8 (iadd .i64 (imul .i64 2 r14) 1)),(23,I8 z6),(24,I8 (imul .i64 (iadd .i64 (imul .i64 2 r14) 1) z6)),(25,I8 (irem .i64 (imul .i64 (iadd .i64 (imul .i64 2 r14) 1) z6) 256)),(26,I8 (isub .i64 256 (irem .i64 (imul .i64 (iadd .i64 (imul .i64 2 r14) 1) z6) 256))),(27,I8 (irem .i64 (isub .i64 256 (irem .i64 (imul .i64 (iadd .i64 (imul .i64 2 r14) 1) z6) 256)) 256))] ?_
   obtain ⟨x15,hx,h⟩:=ob h
   have hx:=of_some hx
   subst hx
   obtain ⟨i0_31,i1_31,h⟩:=oc2 h
   refine tkf 9 28 (.pointer (some ⟨b4,0+((irem .i64 (isub .i64 256 (irem .i64 (imul .i64 (iadd .i64 (imul .i64 2 r14) 1) z6) 256)) 256):Int).toNat*1,none⟩)) (yi 69 21 256 1 .i64 (irem .i64 (isub .i64 256 (irem .i64 (imul .i64 (iadd .i64 (imul .i64 2 r14) 1) z6) 256)) 256) i0_31 i1_31) (tkt 10 29 _ (yA hs 1 21 (irem .i64 (isub .i64 256 (irem .i64 (imul .i64 (iadd .i64 (imul .i64 2 r14) 1) z6) 256)) 256) rfl i0_31 i1_31 .grow) ?_)
   obtain ⟨x16,hx,h⟩:=ob h
   refine tkf 11 9 (I4 x16) (yn hx) (fj j30 s29 (xs fun _ s32=>(xn 10 fun _ j33=>(nq 0 [(30,I4 z9),(31,I8 z11),(32,I8 (imul .i64 2 z11))] ?_))))
   obtain ⟨x17,hx,h⟩:=ob h
   have hx:=of_some hx
   subst hx
   obtain ⟨i0_34,i1_34,h⟩:=oc2 h
   refine tkf 3 33 (P1 b1 (imul .i64 2 z11)) (yi 70 21 256 1 .i64 (imul .i64 2 z11) i0_34 i1_34) (tkt 4 34 _ (yA hs 3 21 (imul .i64 2 z11) rfl i0_34 i1_34 .grow) (nq 5 [(35,I4 x16),(36,I4 (imul .i32 (rd a0 (imul .i64 2 z11)) x16)),(37,I4 (iadd .i32 z9 (imul .i32 (rd a0 (imul .i64 2 z11)) x16))),(38,I4 (irem .i32 (iadd .i32 z9 (imul .i32 (rd a0 (imul .i64 2 z11)) x16)) 3329))] ?_))
   obtain ⟨x18,hx,h⟩:=ob h
   refine tkf 9 6 (I4 x18) (yn hx) (fj j33 s32 (xn 11 fun _ j35=>(nq 0 [(39,I4 z10),(40,I8 z11),(41,I8 (imul .i64 2 z11)),(42,I8 (iadd .i64 (imul .i64 2 z11) 1))] ?_)))
   obtain ⟨x19,hx,h⟩:=ob h
   have hx:=of_some hx
   subst hx
   obtain ⟨i0_36,i1_36,h⟩:=oc2 h
   refine tkf 4 43 (.pointer (some ⟨b1,0+((iadd .i64 (imul .i64 2 z11) 1):Int).toNat*1,none⟩)) (yi 70 21 256 1 .i64 (iadd .i64 (imul .i64 2 z11) 1) i0_36 i1_36) (tkt 5 44 _ (yA hs 3 21 (iadd .i64 (imul .i64 2 z11) 1) rfl i0_36 i1_36 .grow) (nq 6 [(45,I4 x16),(46,I4 (imul .i32 (rd a0 (iadd .i64 (imul .i64 2 z11) 1)) x16)),(47,I4 (iadd .i32 z10 (imul .i32 (rd a0 (iadd .i64 (imul .i64 2 z11) 1)) x16))),(48,I4 (irem .i32 (iadd .i32 z10 (imul .i32 (rd a0 (iadd .i64 (imul .i64 2 z11) 1)) x16)) 3329))] ?_))
   obtain ⟨x20,hx,h⟩:=ob h
   refine tkf 10 7 (I4 x20) (yn hx) (fin (j35 _ _ (iN (T s28 (xn 3 fun _ j37=>(nq 0 [(17,I8 z11),(18,I8 (iadd .i64 z11 1))] ?_))))))
   obtain ⟨x21,hx,h⟩:=ob h
   refine tkf 2 8 (I8 x21) (yn hx) (fin (j37 _ _ ?_))
   exact tn (kl1 _ _ ⟨n,ls n,x18,x20,x21,h,(hs.conv rfl),eg⟩)
   refine tb 1 16 (df hc) (fj j27 s26 (cf (xexit (tx (tx (iH ?_))))))
   obtain ⟨rfl,rfl⟩:=os2 h
   exact exq_n (nn1 _ _ ⟨(hs.conv rfl),eg⟩)
  clear hs h hy
  rintro a w ⟨hs,g24,rfl⟩
  have h:=hk1
  refine T s20 (xs fun _ s38=>(xn 7 fun _ j39=>(nq 0 [(49,I8 z6),(50,I8 (imul .i64 2 z6)),(51,I4 y12),(52,I4 (imul .i32 y12 3303)),(53,I4 (irem .i32 (imul .i32 y12 3303) 3329))] ?_)))
  obtain ⟨x22,hx,h⟩:=ob h
  have hx:=of_some hx
  subst hx
  obtain ⟨i0_40,i1_40,h⟩:=oc2 h
  refine tkf 5 54 (P1 b5 (imul .i64 2 z6)) (yi 70 21 256 1 .i64 (imul .i64 2 z6) i0_40 i1_40) ?_
  obtain ⟨x23,hx,h⟩:=ob h
  refine so 6 (oA 21 x23 (imul .i64 2 z6) hs 0 rfl (by cases hx; kernel_rfl) i0_40 i1_40 fun w kp hs=>?_)
  refine fj j39 s38 (xn 8 fun _ j41=>(nq 0 [(55,I8 z6),(56,I8 (imul .i64 2 z6)),(57,I8 (iadd .i64 (imul .i64 2 z6) 1)),(58,I4 y13),(59,I4 (imul .i32 y13 3303)),(60,I4 (irem .i32 (imul .i32 y13 3303) 3329))] ?_))
  obtain ⟨x24,hx,h⟩:=ob h
  have hx:=of_some hx
  subst hx
  obtain ⟨i0_42,i1_42,h⟩:=oc2 h
  refine tkf 6 61 (.pointer (some ⟨b5,0+((iadd .i64 (imul .i64 2 z6) 1):Int).toNat*1,none⟩)) (yi 70 21 256 1 .i64 (iadd .i64 (imul .i64 2 z6) 1) i0_42 i1_42) ?_
  obtain ⟨x25,hx,h⟩:=ob h
  refine so 7 (oA 21 x25 (iadd .i64 (imul .i64 2 z6) 1) hs 0 rfl (by cases hx; kernel_rfl) i0_42 i1_42 fun w kp hs=>?_)
  refine fin (j41 _ _ (iN (T s15 (xn 3 fun _ j43=>(nq 0 [(13,I8 z6),(14,I8 (iadd .i64 z6 1))] ?_)))))
  obtain ⟨x26,hx,h⟩:=ob h
  refine tkf 2 5 (I8 x26) (yn hx) (fin (j43 _ _ ?_))
  exact tn (kl0 _ _ ⟨n,ls n,x26,(wr (wr z7 (imul .i64 2 z6) x23) (iadd .i64 (imul .i64 2 z6) 1) x25),h,(hs.conv rfl),eg⟩)
  refine tb 1 12 (df hc) (fj j14 s13 (cf (xexit (tx (tx (iH ?_))))))
  obtain rfl:=of_some h
  exact exq_n (nn0 _ _ ⟨(hs.conv rfl),eg⟩)
 clear hs h hy
 rintro a w ⟨hs,g11,rfl⟩
 have h:=hk0
 refine T s7 (xs fun _ s44=>(xn 2 fun _ j45=>(tkt 0 62 _ (yWe 70 hs 0 .grow) (so 1 (oWe 70 .i32 y8 hs 2 fun w kp hs=>(fj j45 s44 (xret ?_)))))))
 obtain rfl:=of_some h
 exact qq _ _ (pr (rr [.cell 2 70] [ag .i32 y8] (.cons (rcN 256 hs 2 rfl (enc_len _ _)) .nil)) ⟨cr,hs.none⟩)
theorem ref25_Squeeze.ok {K:Nat}{a0:Arr 256}{a1:Int}{r0:Arr 256}(h:ref25_Squeeze.f K a0 a1=some r0) (w0:World):Ret Tryz.prog 49 #[ag .i32 a0,I8 a1] w0 (ag .i32 r0):=by
 refine calls_k Tryz.func49 rfl fun Q qq=>?_
 have hs:=St.start w0
 refine wc (a':=(fu 29 [ag .i32 a0,I8 a1])) (xs fun _ s1=>(xn 2 fun _ j2=>(so 0 (oBe 2 70 .i32 a0 hs fun b1 w gw hs=>(so 1 (oNe 4 70 .i32 (zeroA 256) hs fun b2 w gw hs=>?_))))))
 refine fj j2 s1 (xs fun _ s3=>(xs fun _ s4=>(xn 6 fun _ j5=>(qo 0 6 (I8 a1) ?_))))
 obtain ⟨hc,h⟩|⟨hc,h⟩:=of_if h
 refine tb 1 7 (dt hc) ?_
 refine nq 2 [(8,.bool true),(9,undef),(10,undef),(11,.bool true)] (fj j5 s4 (ct (xs fun _ s6=>(xn 2 fun _ j7=>(qo 0 12 (ag .i32 (zeroA 256)) (so 1 (oWe 70 .i32 (zeroA 256) hs 0 fun w kp hs=>(fj j7 s6 (xret (tr ?_))))))))))
 obtain rfl:=of_some h
 exact qq _ _ (pr (rr [.cell 4 70] [ag .i32 (zeroA 256)] (.cons (rcN 256 hs 0 rfl (enc_len _ _)) .nil)) ⟨cr,hs.none⟩)
 refine tb 1 7 (df hc) (nq 2 [(8,.bool false),(9,I8 a1)] ?_)
 obtain ⟨hc,h⟩|⟨hc,h⟩:=of_if h
 refine tb 4 10 (dt hc) ?_
 refine qo 5 11 (.bool true) (fj j5 s4 (ct (xs fun _ s8=>(xn 2 fun _ j9=>(qo 0 12 (ag .i32 (zeroA 256)) (so 1 (oWe 70 .i32 (zeroA 256) hs 0 fun w kp hs=>(fj j9 s8 (xret (tr ?_))))))))))
 obtain rfl:=of_some h
 exact qq _ _ (pr (rr [.cell 4 70] [ag .i32 (zeroA 256)] (.cons (rcN 256 hs 0 rfl (enc_len _ _)) .nil)) ⟨cr,hs.none⟩)
 refine tb 4 10 (df hc) (qo 5 11 (.bool false) (fj j5 s4 (cf (xk (T s3 (xs fun _ s10=>(xs fun _ s11=>(xn 1 fun _ j12=>(qo 0 5 (I8 0) (fj j12 s11 (?_)))))))))))
 obtain ⟨y5,hy,hk0⟩:=ob h
 refine wp_exq (N:=fun a w=>St w0 [] [.blk b2 (enc .i32 (zeroA 256)) 70,.blk b1 (enc .i32 y5) 70] [] w∧∃ g14,a=fr g14 31 [(2,[P0 b1]),(4,[P0 b2])]) (fun N0 nn0=>?_) ?_
 clear hk0
 refine xb ?_
 refine wp_loop_k (fun n a w=>∃ z3 z4,ref25_Squeeze.l0 K n a1 z3 z4=some y5∧St w0 [] [.blk b2 (enc .i32 (zeroA 256)) 70,.blk b1 (enc .i32 z4) 70] [] w∧∃ g13,a=fr g13 31 [(1,[I8 a1,P0 b1]),(4,[P0 b2,I8 z3])]) K ⟨0,a0,hy,hs.conv rfl,eg⟩ ?_
 clear hs h hy
 rintro n a w ⟨z3,z4,h,hs,g13,rfl⟩ KL0 kl0
 cases n with
 | zero=>exact nomatch (show none=some _ from h)
 | succ n=>
  refine xs fun _ s15=>(xs fun _ s16=>(xn 2 fun _ j17=>(qo 0 13 (I8 z3) ?_)))
  obtain ⟨hc,h⟩|⟨hc,h⟩:=of_if h
  refine tb 1 14 (dt hc) ?_
  refine fj j17 s16 (ct (xk (T s15 (xs fun _ s18=>(xb ?_)))))
  refine rg [13] (fun k=>True) 14 fun _ j19=>?_
  have hs:=hs.drawn1
  refine gq 0 17 (I8 z3) (gq 1 18 (I8 z3) ?_)
  obtain ⟨i0_20,i1_20,h⟩:=oc2 h
  refine tgf 2 19 (P1 b1 z3) (yi 70 21 256 1 .i64 z3 i0_20 i1_20) (tgt 3 20 _ (yA hs 1 21 z3 rfl i0_20 i1_20 .grow) (gq 4 21 (I4 (imul .i32 2 (rd z4 z3))) (gq 5 22 (I8 a1) ?_)))
  obtain ⟨h0,h⟩:=oc h
  refine tgf 6 23 (I4 (ishl .i32 (imul .i32 2 (rd z4 z3)) a1)) (ysl 21 .i64 h0) (gq 7 24 (I4 (iadd .i32 (ishl .i32 (imul .i32 2 (rd z4 z3)) a1) 3329)) (gq 8 25 (I4 (iquo .i32 (iadd .i32 (ishl .i32 (imul .i32 2 (rd z4 z3)) a1) 3329) 6658)) (gq 9 26 (I8 a1) ?_)))
  obtain ⟨h0,h⟩:=oc h
  refine tgf 10 27 (I4 (ishl .i32 1 a1)) (ysl 21 .i64 h0) ?_
  obtain ⟨h0,h⟩:=oc h
  refine tgf 11 28 (I4 (irem .i32 (iquo .i32 (iadd .i32 (ishl .i32 (imul .i32 2 (rd z4 z3)) a1) 3329) 6658) (ishl .i32 1 a1))) (yr 21 h0) ?_
  obtain ⟨i0_21,i1_21,h⟩:=oc2 h
  refine tgf 12 29 (P1 b1 z3) (yi 70 21 256 1 .i64 z3 i0_21 i1_21) ?_
  obtain ⟨x6,hx,h⟩:=ob h
  refine go 13 (oA 21 x6 z3 hs 1 rfl (by cases hx; kernel_rfl) i0_21 i1_21 fun w kp hs=>⟨⟨fun hf=>absurd hf (by decide),.all _ _⟩,?_⟩)
  refine gf (j19 _ _ ?_)
  refine iN (T s18 (xn 3 fun _ j22=>?_))
  refine nq 0 [(15,I8 z3),(16,I8 (iadd .i64 z3 1))] ?_
  obtain ⟨x7,hx,h⟩:=ob h
  refine tkf 2 5 (I8 x7) (yn hx) (fin (j22 _ _ ?_))
  exact tn (kl0 _ _ ⟨n,ls n,x7,(wr z4 z3 x6),h,(hs.conv rfl),eg⟩)
  refine tb 1 14 (df hc) (fj j17 s16 (cf (xexit (tx (tx (iH ?_))))))
  obtain rfl:=of_some h
  exact exq_n (nn0 _ _ ⟨(hs.conv rfl),eg⟩)
 clear hs h hy
 rintro a w ⟨hs,g14,rfl⟩
 have h:=hk0
 refine T s10 (xs fun _ s23=>(xn 2 fun _ j24=>(tkt 0 30 _ (yWe 70 hs 1 .grow) (so 1 (oWe 70 .i32 y5 hs 0 fun w kp hs=>(fj j24 s23 (xret ?_)))))))
 obtain rfl:=of_some h
 exact qq _ _ (pr (rr [.cell 4 70] [ag .i32 y5] (.cons (rcN 256 hs 0 rfl (enc_len _ _)) .nil)) ⟨cr,hs.none⟩)
end Go.Proofs.YtemdbgmldljbpaaGreatDoor
