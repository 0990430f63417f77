/- own -/
import Derived.Test.YtemdbgmldljbpaaDoorMh
import Derived.Test.YtemdbgmldljbpaaDoorProg
import Derived.Test.YtemdbgmldljbpaaDoorZFKpkeWorks
import Derived.Test.YtemdbgmldljbpaaDoorZX0
import Derived.Test.YtemdbgmldljbpaaDoorZX9
import Derived.Test.YtemdbgmldljbpaaDoorZX8
import Derived.Test.YtemdbgmldljbpaaDoorZX7
set_option linter.unusedVariables false
set_option linter.unusedSimpArgs false
set_option maxRecDepth 100000
set_option maxHeartbeats 4000000
namespace Go.Proofs.YtemdbgmldljbpaaDoor
open Go.Mx
attribute [local irreducible] wpOp
theorem ref26_Parts.ok {K:Nat}{a0:List Int}{a1 a2:Int}{r0:Arr 256}{r1:Int}{a0_A:Option Addr}{a0_n a0_c:Nat}(h:ref26_Parts.f K a0 a1 a2=some (r0,r1)) (w0:World) (hp0:RowL CB w0 a0_A a0_n a0_c a0):Ret Tryd.prog 15 #[.slice a0_A a0_n a0_c,U1 a1,U1 a2] w0 (.tuple #[ag .i32 r0,I8 r1]):=by
 refine calls_k Tryd.func15 rfl fun Q qq=>?_
 have hs:=St.startR (all_cons (RowP.ent hp0) all_nil)
 refine wc (a':=(fu 30 [.slice a0_A a0_n a0_c,U1 a1,U1 a2])) ?_
 refine xs fun _ s1=>?_
 refine xn 2 fun _ j2=>?_
 refine so 0 (oN 6 32 hs (enc .i32 (zeroA 256)) (ag .i32 (zeroA 256)) fun b1 w gw hs=>?_)
 refine qo 1 7 (I8 0) ?_
 refine fj j2 s1 (xs fun _ s3=>(xn 7 fun _ j4=>?_))
 refine nq 0 [(11,.slice a0_A a0_n a0_c),(12,U1 a2),(13,U1 a1)] ?_
 refine so 3 (oLt (C:=CB) 14 24 5 2 (U1 0) #[(0,U1 a2),(1,U1 a1)] [a2,a1] hs rfl (by decide) (by decide) fun s2_A s2_n s2_c w gw hs=>?_)
 refine so 4 (oLt (C:=CS) 15 59 24 2 (.slice none 0 0) #[(0,.slice a0_A a0_n a0_c),(1,.slice s2_A s2_n s2_c)] ([(a0_A,a0_n,a0_c),(s2_A,s2_n,s2_c)]:List HS) hs rfl (by decide) (by decide) fun s3_A s3_n s3_c w gw hs=>?_)
 obtain ⟨r4,hg,h⟩:=ob h
 refine wpS.only 5 (oH 16 hs (ref01_Join.ok hg _ (LLP.mk (hs.rowL 0 rfl) (inn_cons (hs.rowR 0 rfl) (inn_cons (hs.rowL 1 rfl) inn_nil)))) ?_)
 rintro ⟨r4_A,r4_n,r4_c⟩ w gw hs
 have hs:=hs.conv (L':=[.ownL CB r4_A r4_n r4_c r4 5,.ownL CS s3_A s3_n s3_c ([(a0_A,a0_n,a0_c),(s2_A,s2_n,s2_c)]:List HS) 24,.ownL CB s2_A s2_n s2_c ([a2,a1]:List Int) 5,.blk b1 (enc .i32 (zeroA 256)) 32]) rfl
 refine ⟨fun _=>trivial,?_⟩
 refine qo 6 8 (.slice r4_A r4_n r4_c) ?_
 refine fj j4 s3 (xs fun _ s5=>(xn 8 fun _ j6=>?_))
 refine qo 0 18 (.slice r4_A r4_n r4_c) ?_
 obtain ⟨⟨r5,r6⟩,hg,h⟩:=ob h
 refine so 1 (oC 19 hs (ref26_drawn.ok hg _ (hs.rowL 0 rfl)) fun w gw hs=>?_)
 refine nq 2 [(17,.tuple #[ag .i32 r5,I8 r6]),(20,ag .i32 r5),(21,I8 r6)] ?_
 refine so 5 (oN 9 32 hs (enc .i32 (zeroA 256)) (ag .i32 (zeroA 256)) fun b7 w gw hs=>?_)
 refine so 6 (oWe 32 .i32 r5 hs 0 fun w kp hs=>?_)
 refine qo 7 10 (I8 r6) ?_
 refine fj j6 s5 (?_)
 obtain ⟨⟨y8,y9⟩,hj,h⟩:=ob h
 refine xs fun _ s8=>wp_join (N:=fun a w=>St w0 [] [.blk b7 (enc .i32 y9) 32,.ownL CB r4_A r4_n r4_c r4 5,.ownL CS s3_A s3_n s3_c ([(a0_A,a0_n,a0_c),(s2_A,s2_n,s2_c)]:List HS) 24,.ownL CB s2_A s2_n s2_c ([a2,a1]:List Int) 5,.blk b1 (enc .i32 (zeroA 256)) 32] [.rowL CB a0_A a0_n a0_c a0] w∧∃ g7,a=fr g7 33 [(6,[P0 b1,I8 0]),(9,[P0 b7,I8 y8])]) (fun N nj=>?_) ?_
 clear h
 have h:=hj
 refine xs fun _ s9=>?_
 refine xn 2 fun _ j10=>?_
 refine qo 0 22 (I8 r6) ?_
 obtain ⟨hc,h⟩|⟨hc,h⟩:=of_if h
 refine tb 1 23 (dt hc) ?_
 refine fj j10 s9 (ct (xn 7 fun _ j11=>?_))
 refine qo 0 25 (.slice r4_A r4_n r4_c) ?_
 obtain ⟨⟨r10,r11⟩,hg,h⟩:=ob h
 refine so 1 (oC 26 hs (ref26_drawn.ok hg _ (hs.rowL 1 rfl)) fun w gw hs=>?_)
 refine nq 2 [(24,.tuple #[ag .i32 r10,I8 r11]),(27,ag .i32 r10),(28,I8 r11)] ?_
 refine so 5 (oWe 32 .i32 r10 hs 0 fun w kp hs=>?_)
 refine qo 6 10 (I8 r11) ?_
 refine fin (j11 _ _ ?_)
 obtain ⟨rfl,rfl⟩:=os2 h
 exact nj _ _ ⟨(hs.conv rfl),eg⟩
 refine tb 1 23 (df hc) ?_
 refine fj j10 s9 (cf (xk ?_))
 obtain ⟨rfl,rfl⟩:=os2 h
 exact nj _ _ ⟨(hs.conv rfl),eg⟩
 clear hj hs
 rintro a w ⟨hs,g7,rfl⟩
 refine T s8 (xs fun _ s12=>(xs fun _ s13=>(xn 2 fun _ j14=>?_)))
 refine qo 0 29 (I8 y8) ?_
 obtain ⟨hc,h⟩|⟨hc,h⟩:=of_if h
 refine tb 1 30 (dt hc) ?_
 refine fj j14 s13 (ct (xs fun _ s15=>(xn 3 fun _ j16=>?_)))
 refine qo 0 31 (ag .i32 (zeroA 256)) ?_
 refine so 1 (oWe 32 .i32 (zeroA 256) hs 4 fun w kp hs=>?_)
 refine qo 2 7 (I8 12) ?_
 refine fj j16 s15 (xret (tr ?_))
 obtain ⟨rfl,rfl⟩:=os2 h
 exact qq _ _ (pr (rr [.cell 6 32,.tmp 7] [ag .i32 (zeroA 256),I8 12] (.cons (rcN 256 hs 4 rfl (enc_len _ _)) (.cons rt .nil))) ⟨cr,hs.none⟩)
 refine tb 1 30 (df hc) ?_
 refine fj j14 s13 (cf (xk (T s12 (xs fun _ s17=>(xn 3 fun _ j18=>?_)))))
 refine tkt 0 32 (ag .i32 y9) (yWe 32 hs 0 .grow) ?_
 refine so 1 (oWe 32 .i32 y9 hs 4 fun w kp hs=>?_)
 refine qo 2 7 (I8 0) ?_
 refine fj j18 s17 (xret ?_)
 obtain ⟨rfl,rfl⟩:=os2 h
 exact qq _ _ (pr (rr [.cell 6 32,.tmp 7] [ag .i32 y9,I8 0] (.cons (rcN 256 hs 4 rfl (enc_len _ _)) (.cons rt .nil))) ⟨cr,hs.none⟩)
theorem ref25_powers.ok {K:Nat}{r0:Arr 256}(h:ref25_powers.f K=some r0) (w0:World):Ret Tryd.prog 96 #[] w0 (ag .i32 r0):=by
 refine calls_k Tryd.func96 rfl fun Q qq=>?_
 have hs:=St.start w0
 refine wc (a':=(fu 17 [])) ?_
 refine xs fun _ s1=>?_
 refine xn 1 fun _ j2=>?_
 refine so 0 (oN 0 31 hs (enc .i32 (zeroA 256)) (ag .i32 (zeroA 256)) fun b1 w gw hs=>?_)
 refine fj j2 s1 (xs fun _ s3=>(xn 1 fun _ j4=>?_))
 refine so 0 (oN 1 31 hs (enc .i32 (zeroA 256)) (ag .i32 (zeroA 256)) fun b2 w gw hs=>?_)
 refine fj j4 s3 (xs fun _ s5=>(xn 2 fun _ j6=>?_))
 refine tkf 0 3 (P1 b2 0) (yi 31 21 256 1 .i64 0 (by decide) (by decide)) ?_
 refine so 1 (oA 21 1 0 hs 0 rfl (by kernel_rfl) (by decide) (by decide) fun w kp hs=>?_)
 refine fj j6 s5 (xs fun _ s8=>(xs fun _ s9=>(xn 1 fun _ j10=>?_)))
 refine qo 0 2 (I8 1) ?_
 refine fj j10 s9 (?_)
 obtain ⟨y5,hy,hk0⟩:=ob h
 refine wp_exq (N:=fun a w=>St w0 [] [.blk b2 (enc .i32 y5) 31,.blk b1 (enc .i32 (zeroA 256)) 31] [] w∧∃ g12,a=fr g12 17 [(0,[P0 b1,P0 b2])]) (fun N0 nn0=>?_) ?_
 clear hk0
 refine xb ?_
 refine wp_loop_k (fun n a w=>∃ z3 z4,ref25_powers.l0 K n z3 z4=some y5∧St w0 [] [.blk b2 (enc .i32 z4) 31,.blk b1 (enc .i32 (zeroA 256)) 31] [] w∧∃ g11,a=fr g11 17 [(0,[P0 b1,P0 b2,I8 z3])]) K ⟨1,(wr (zeroA 256) 0 1),hy,hs.conv rfl,eg⟩ ?_
 clear hs h hy
 rintro n a w ⟨z3,z4,h,hs,g11,rfl⟩ KL0 kl0
 cases n with
 | zero=>exact nomatch (show none=some _ from h)
 | succ n=>
  refine xs fun _ s13=>?_
  refine xs fun _ s14=>?_
  refine xn 2 fun _ j15=>?_
  refine qo 0 4 (I8 z3) ?_
  obtain ⟨hc,h⟩|⟨hc,h⟩:=of_if h
  refine tb 1 5 (dt hc) ?_
  refine fj j15 s14 (ct (xk (T s13 (xs fun _ s16=>(xb (xn 9 fun _ j17=>?_))))))
  refine nq 0 [(8,I8 z3),(9,I8 z3),(10,I8 (isub .i64 z3 1))] ?_
  obtain ⟨x6,hx,h⟩:=ob h
  have hx:=of_some hx
  subst hx
  obtain ⟨i0_18,i1_18,h⟩:=oc2 h
  refine tkf 3 11 (P1 b2 (isub .i64 z3 1)) (yi 31 21 256 1 .i64 (isub .i64 z3 1) i0_18 i1_18) ?_
  refine tkt 4 12 (I4 (rd z4 (isub .i64 z3 1))) (yA hs 0 21 (isub .i64 z3 1) rfl i0_18 i1_18 .grow) ?_
  refine nq 5 [(13,I4 (imul .i32 (rd z4 (isub .i64 z3 1)) 17)),(14,I4 (irem .i32 (imul .i32 (rd z4 (isub .i64 z3 1)) 17) 3329))] ?_
  obtain ⟨i0_19,i1_19,h⟩:=oc2 h
  refine tkf 7 15 (P1 b2 z3) (yi 31 21 256 1 .i64 z3 i0_19 i1_19) ?_
  obtain ⟨x7,hx,h⟩:=ob h
  refine so 8 (oA 21 x7 z3 hs 0 rfl (by cases hx; kernel_rfl) i0_19 i1_19 fun w kp hs=>?_)
  refine fin (j17 _ _ (iN (T s16 (xn 3 fun _ j20=>?_))))
  refine nq 0 [(6,I8 z3),(7,I8 (iadd .i64 z3 1))] ?_
  obtain ⟨x8,hx,h⟩:=ob h
  refine tkf 2 2 (I8 x8) (yn hx) ?_
  refine fin (j20 _ _ ?_)
  exact tn (kl0 _ _ ⟨n,ls n,x8,(wr z4 z3 x7),h,(hs.conv rfl),eg⟩)
  refine tb 1 5 (df hc) ?_
  refine fj j15 s14 (cf (xexit (tx (tx (iH ?_)))))
  obtain rfl:=of_some h
  exact exq_n (nn0 _ _ ⟨(hs.conv rfl),eg⟩)
 clear hs h hy
 rintro a w ⟨hs,g12,rfl⟩
 have h:=hk0
 refine T s8 (xs fun _ s21=>(xn 2 fun _ j22=>?_))
 refine tkt 0 16 (ag .i32 y5) (yWe 31 hs 0 .grow) ?_
 refine so 1 (oWe 31 .i32 y5 hs 1 fun w kp hs=>?_)
 refine fj j22 s21 (xret ?_)
 obtain rfl:=of_some h
 exact qq _ _ (pr (rr [.cell 0 31] [ag .i32 y5] (.cons (rcN 256 hs 1 rfl (enc_len _ _)) .nil)) ⟨cr,hs.none⟩)
theorem ref25_turned.ok {K:Nat}{a0 r0:Int}(h:ref25_turned.f K a0=some r0) (w0:World):Ret Tryd.prog 97 #[I8 a0] w0 (I8 r0):=by
 refine calls_k Tryd.func97 rfl fun Q qq=>?_
 have hs:=St.start w0
 refine wc (a':=(fu 16 [I8 a0])) ?_
 refine xs fun _ s1=>?_
 refine xn 1 fun _ j2=>?_
 refine qo 0 2 (I8 0) ?_
 refine fj j2 s1 (xs fun _ s3=>(xn 1 fun _ j4=>?_))
 refine qo 0 3 (I8 0) ?_
 refine fj j4 s3 (xs fun _ s5=>(xs fun _ s6=>(xn 1 fun _ j7=>?_)))
 refine qo 0 4 (I8 0) ?_
 refine fj j7 s6 (?_)
 obtain ⟨y3,hy,hk0⟩:=ob h
 refine wp_exq (N:=fun a w=>St w0 [] [] [] w∧∃ g9,a=fr g9 17 [(2,[I8 0,I8 y3])]) (fun N0 nn0=>?_) ?_
 clear hk0
 refine xb ?_
 refine wp_loop_k (fun n a w=>∃ z1 z2,ref25_turned.l0 K n a0 z1 z2=some y3∧St w0 [] [] [] w∧∃ g8,a=fr g8 17 [(0,[I8 a0]),(2,[I8 0,I8 z1,I8 z2])]) K ⟨0,0,hy,hs.conv rfl,eg⟩ ?_
 clear hs h hy
 rintro n a w ⟨z1,z2,h,hs,g8,rfl⟩ KL0 kl0
 cases n with
 | zero=>exact nomatch (show none=some _ from h)
 | succ n=>
  refine xs fun _ s10=>?_
  refine xs fun _ s11=>?_
  refine xn 2 fun _ j12=>?_
  refine qo 0 5 (I8 z2) ?_
  obtain ⟨hc,h⟩|⟨hc,h⟩:=of_if h
  refine tb 1 6 (dt hc) ?_
  refine fj j12 s11 (ct (xk (T s10 (xs fun _ s13=>(xb (xn 8 fun _ j14=>?_))))))
  refine nq 0 [(9,I8 z1),(10,I8 (imul .i64 z1 2)),(11,I8 a0),(12,I8 z2)] ?_
  obtain ⟨h0,h⟩:=oc h
  refine tkf 4 13 (I8 (ishr .i64 a0 z2)) (ysr 3 .i64 h0) ?_
  refine nq 5 [(14,I8 (iand .i64 (ishr .i64 a0 z2) 1)),(15,I8 (iadd .i64 (imul .i64 z1 2) (iand .i64 (ishr .i64 a0 z2) 1)))] ?_
  obtain ⟨x4,hx,h⟩:=ob h
  refine tkf 7 3 (I8 x4) (yn hx) ?_
  refine fin (j14 _ _ (iN (T s13 (xn 3 fun _ j15=>?_))))
  refine nq 0 [(7,I8 z2),(8,I8 (iadd .i64 z2 1))] ?_
  obtain ⟨x5,hx,h⟩:=ob h
  refine tkf 2 4 (I8 x5) (yn hx) ?_
  refine fin (j15 _ _ ?_)
  exact tn (kl0 _ _ ⟨n,ls n,x4,x5,h,(hs.conv rfl),eg⟩)
  refine tb 1 6 (df hc) ?_
  refine fj j12 s11 (cf (xexit (tx (tx (iH ?_)))))
  obtain rfl:=of_some h
  exact exq_n (nn0 _ _ ⟨(hs.conv rfl),eg⟩)
 clear hs h hy
 rintro a w ⟨hs,g9,rfl⟩
 have h:=hk0
 refine T s5 (xs fun _ s16=>(xn 2 fun _ j17=>?_))
 refine nq 0 [(16,I8 y3),(2,I8 y3)] ?_
 refine fj j17 s16 (xret ?_)
 obtain rfl:=of_some h
 exact qq _ _ (pt [2] [I8 y3] ⟨cr,hs.none⟩)
theorem ref25_Ntt.ok {K:Nat}{a0 r0:Arr 256}(h:ref25_Ntt.f K a0=some r0) (w0:World):Ret Tryd.prog 67 #[ag .i32 a0] w0 (ag .i32 r0):=by
 refine calls_k Tryd.func67 rfl fun Q qq=>?_
 have hs:=St.start w0
 refine wc (a':=(fu 58 [ag .i32 a0])) ?_
 refine xs fun _ s1=>?_
 refine xn 2 fun _ j2=>?_
 refine so 0 (oB 1 32 (ag .i32 a0) hs (enc .i32 a0) fun b1 w gw hs=>?_)
 refine so 1 (oN 2 32 hs (enc .i32 (zeroA 256)) (ag .i32 (zeroA 256)) fun b2 w gw hs=>?_)
 refine fj j2 s1 (xs fun _ s3=>(xn 3 fun _ j4=>?_))
 obtain ⟨r3,hg,h⟩:=ob h
 refine so 0 (oC 11 hs (ref25_powers.ok hg _) fun w gw hs=>?_)
 refine so 1 (oN 3 31 hs (enc .i32 (zeroA 256)) (ag .i32 (zeroA 256)) fun b4 w gw hs=>?_)
 refine so 2 (oWe 31 .i32 r3 hs 0 fun w kp hs=>?_)
 refine fj j4 s3 (xs fun _ s5=>(xn 1 fun _ j6=>?_))
 refine so 0 (oN 4 32 hs (enc .i32 (zeroA 256)) (ag .i32 (zeroA 256)) fun b5 w gw hs=>?_)
 refine fj j6 s5 (xs fun _ s7=>(xs fun _ s8=>(xn 1 fun _ j9=>?_)))
 refine qo 0 5 (I8 0) ?_
 refine fj j9 s8 (?_)
 obtain ⟨y8,hy,hk0⟩:=ob h
 refine wp_exq (N:=fun a w=>St w0 [] [.blk b5 (enc .i32 y8) 32,.blk b4 (enc .i32 r3) 31,.blk b2 (enc .i32 (zeroA 256)) 32,.blk b1 (enc .i32 a0) 32] [] w∧∃ g11,a=fr g11 59 [(2,[P0 b2]),(4,[P0 b5])]) (fun N0 nn0=>?_) ?_
 clear hk0
 refine xb ?_
 refine wp_loop_k (fun n a w=>∃ z6 z7,ref25_Ntt.l0 K n a0 r3 z6 z7=some y8∧St w0 [] [.blk b5 (enc .i32 z7) 32,.blk b4 (enc .i32 r3) 31,.blk b2 (enc .i32 (zeroA 256)) 32,.blk b1 (enc .i32 a0) 32] [] w∧∃ g10,a=fr g10 59 [(1,[P0 b1,P0 b2,P0 b4,P0 b5,I8 z6])]) K ⟨0,(zeroA 256),hy,hs.conv rfl,eg⟩ ?_
 clear hs h hy
 rintro n a w ⟨z6,z7,h,hs,g10,rfl⟩ KL0 kl0
 cases n with
 | zero=>exact nomatch (show none=some _ from h)
 | succ n=>
  refine xs fun _ s12=>?_
  refine xs fun _ s13=>?_
  refine xn 2 fun _ j14=>?_
  refine qo 0 12 (I8 z6) ?_
  obtain ⟨hc,h⟩|⟨hc,h⟩:=of_if h
  refine tb 1 13 (dt hc) ?_
  refine fj j14 s13 (ct (xk (T s12 (xs fun _ s15=>(xb (xs fun _ s16=>(xn 5 fun _ j17=>?_)))))))
  refine qo 0 16 (I8 z6) ?_
  obtain ⟨r9,hg,h⟩:=ob h
  refine so 1 (oC 17 hs (ref25_turned.ok hg _) fun w gw hs=>?_)
  refine nq 2 [(18,I8 (imul .i64 2 r9)),(19,I8 (iadd .i64 (imul .i64 2 r9) 1))] ?_
  obtain ⟨x10,hx,h⟩:=ob h
  refine tkf 4 6 (I8 x10) (yn hx) ?_
  refine fj j17 s16 (xs fun _ s18=>(xn 1 fun _ j19=>?_))
  refine qo 0 7 (I4 0) ?_
  refine fj j19 s18 (xs fun _ s20=>(xn 1 fun _ j21=>?_))
  refine qo 0 8 (I4 0) ?_
  refine fj j21 s20 (xs fun _ s22=>(xs fun _ s23=>(xn 1 fun _ j24=>?_)))
  refine qo 0 9 (I8 0) ?_
  refine fj j24 s23 (?_)
  obtain ⟨⟨y14,y15⟩,hy,hk1⟩:=ob h
  refine wp_exq (N:=fun a w=>St w0 [] [.blk b5 (enc .i32 z7) 32,.blk b4 (enc .i32 r3) 31,.blk b2 (enc .i32 (zeroA 256)) 32,.blk b1 (enc .i32 a0) 32] [] w∧∃ g26,a=fr g26 59 [(1,[P0 b1,P0 b2,P0 b4,P0 b5,I8 z6]),(7,[I4 y14,I4 y15])]) (fun N1 nn1=>?_) ?_
  clear hk1
  refine xb ?_
  refine wp_loop_k (fun n a w=>∃ z11 z12 z13,ref25_Ntt.l1 K n a0 r3 x10 z11 z12 z13=some (y14,y15)∧St w0 [] [.blk b5 (enc .i32 z7) 32,.blk b4 (enc .i32 r3) 31,.blk b2 (enc .i32 (zeroA 256)) 32,.blk b1 (enc .i32 a0) 32] [] w∧∃ g25,a=fr g25 59 [(1,[P0 b1,P0 b2,P0 b4,P0 b5,I8 z6,I8 x10,I4 z11,I4 z12,I8 z13])]) K ⟨0,0,0,hy,hs.conv rfl,eg⟩ ?_
  clear hs h hy
  rintro n a w ⟨z11,z12,z13,h,hs,g25,rfl⟩ KL1 kl1
  cases n with
  | zero=>exact nomatch (show none=some _ from h)
  | succ n=>
   refine xs fun _ s27=>?_
   refine xs fun _ s28=>?_
   refine xn 2 fun _ j29=>?_
   refine qo 0 20 (I8 z13) ?_
   obtain ⟨hc,h⟩|⟨hc,h⟩:=of_if h
   refine tb 1 21 (dt hc) ?_
   refine fj j29 s28 (ct (xk (T s27 (xs fun _ s30=>(xb (xs fun _ s31=>(xn 7 fun _ j32=>?_)))))))
   refine nq 0 [(24,I8 x10),(25,I8 z13),(26,I8 (imul .i64 x10 z13)),(27,I8 (irem .i64 (imul .i64 x10 z13) 256))] ?_
   obtain ⟨x16,hx,h⟩:=ob h
   have hx:=of_some hx
   subst hx
   obtain ⟨i0_33,i1_33,h⟩:=oc2 h
   refine tkf 4 28 (.pointer (some ⟨b4,0+((irem .i64 (imul .i64 x10 z13) 256):Int).toNat*1,none⟩)) (yi 31 21 256 1 .i64 (irem .i64 (imul .i64 x10 z13) 256) i0_33 i1_33) ?_
   refine tkt 5 29 (I4 (rd r3 (irem .i64 (imul .i64 x10 z13) 256))) (yA hs 1 21 (irem .i64 (imul .i64 x10 z13) 256) rfl i0_33 i1_33 .grow) ?_
   obtain ⟨x17,hx,h⟩:=ob h
   refine tkf 6 10 (I4 x17) (yn hx) ?_
   refine fj j32 s31 (xs fun _ s34=>(xn 10 fun _ j35=>?_))
   refine nq 0 [(30,I4 z11),(31,I8 z13),(32,I8 (imul .i64 2 z13))] ?_
   obtain ⟨x18,hx,h⟩:=ob h
   have hx:=of_some hx
   subst hx
   obtain ⟨i0_36,i1_36,h⟩:=oc2 h
   refine tkf 3 33 (P1 b1 (imul .i64 2 z13)) (yi 32 21 256 1 .i64 (imul .i64 2 z13) i0_36 i1_36) ?_
   refine tkt 4 34 (I4 (rd a0 (imul .i64 2 z13))) (yA hs 3 21 (imul .i64 2 z13) rfl i0_36 i1_36 .grow) ?_
   refine nq 5 [(35,I4 x17),(36,I4 (imul .i32 (rd a0 (imul .i64 2 z13)) x17)),(37,I4 (iadd .i32 z11 (imul .i32 (rd a0 (imul .i64 2 z13)) x17))),(38,I4 (irem .i32 (iadd .i32 z11 (imul .i32 (rd a0 (imul .i64 2 z13)) x17)) 3329))] ?_
   obtain ⟨x19,hx,h⟩:=ob h
   refine tkf 9 7 (I4 x19) (yn hx) ?_
   refine fj j35 s34 (xn 11 fun _ j37=>?_)
   refine nq 0 [(39,I4 z12),(40,I8 z13),(41,I8 (imul .i64 2 z13)),(42,I8 (iadd .i64 (imul .i64 2 z13) 1))] ?_
   obtain ⟨x20,hx,h⟩:=ob h
   have hx:=of_some hx
   subst hx
   obtain ⟨i0_38,i1_38,h⟩:=oc2 h
   refine tkf 4 43 (.pointer (some ⟨b1,0+((iadd .i64 (imul .i64 2 z13) 1):Int).toNat*1,none⟩)) (yi 32 21 256 1 .i64 (iadd .i64 (imul .i64 2 z13) 1) i0_38 i1_38) ?_
   refine tkt 5 44 (I4 (rd a0 (iadd .i64 (imul .i64 2 z13) 1))) (yA hs 3 21 (iadd .i64 (imul .i64 2 z13) 1) rfl i0_38 i1_38 .grow) ?_
   refine nq 6 [(45,I4 x17),(46,I4 (imul .i32 (rd a0 (iadd .i64 (imul .i64 2 z13) 1)) x17)),(47,I4 (iadd .i32 z12 (imul .i32 (rd a0 (iadd .i64 (imul .i64 2 z13) 1)) x17))),(48,I4 (irem .i32 (iadd .i32 z12 (imul .i32 (rd a0 (iadd .i64 (imul .i64 2 z13) 1)) x17)) 3329))] ?_
   obtain ⟨x21,hx,h⟩:=ob h
   refine tkf 10 8 (I4 x21) (yn hx) ?_
   refine fin (j37 _ _ (iN (T s30 (xn 3 fun _ j39=>?_))))
   refine nq 0 [(22,I8 z13),(23,I8 (iadd .i64 z13 1))] ?_
   obtain ⟨x22,hx,h⟩:=ob h
   refine tkf 2 9 (I8 x22) (yn hx) ?_
   refine fin (j39 _ _ ?_)
   exact tn (kl1 _ _ ⟨n,ls n,x19,x21,x22,h,(hs.conv rfl),eg⟩)
   refine tb 1 21 (df hc) ?_
   refine fj j29 s28 (cf (xexit (tx (tx (iH ?_)))))
   obtain ⟨rfl,rfl⟩:=os2 h
   exact exq_n (nn1 _ _ ⟨(hs.conv rfl),eg⟩)
  clear hs h hy
  rintro a w ⟨hs,g26,rfl⟩
  have h:=hk1
  refine T s22 (xs fun _ s40=>(xn 5 fun _ j41=>?_))
  refine nq 0 [(49,I8 z6),(50,I8 (imul .i64 2 z6)),(51,I4 y14)] ?_
  obtain ⟨x23,hx,h⟩:=ob h
  have hx:=of_some hx
  subst hx
  obtain ⟨i0_42,i1_42,h⟩:=oc2 h
  refine tkf 3 52 (P1 b5 (imul .i64 2 z6)) (yi 32 21 256 1 .i64 (imul .i64 2 z6) i0_42 i1_42) ?_
  refine so 4 (oA 21 y14 (imul .i64 2 z6) hs 0 rfl (by kernel_rfl) i0_42 i1_42 fun w kp hs=>?_)
  refine fj j41 s40 (xn 6 fun _ j43=>?_)
  refine nq 0 [(53,I8 z6),(54,I8 (imul .i64 2 z6)),(55,I8 (iadd .i64 (imul .i64 2 z6) 1)),(56,I4 y15)] ?_
  obtain ⟨x24,hx,h⟩:=ob h
  have hx:=of_some hx
  subst hx
  obtain ⟨i0_44,i1_44,h⟩:=oc2 h
  refine tkf 4 57 (.pointer (some ⟨b5,0+((iadd .i64 (imul .i64 2 z6) 1):Int).toNat*1,none⟩)) (yi 32 21 256 1 .i64 (iadd .i64 (imul .i64 2 z6) 1) i0_44 i1_44) ?_
  refine so 5 (oA 21 y15 (iadd .i64 (imul .i64 2 z6) 1) hs 0 rfl (by kernel_rfl) i0_44 i1_44 fun w kp hs=>?_)
  refine fin (j43 _ _ (iN (T s15 (xn 3 fun _ j45=>?_))))
  refine nq 0 [(14,I8 z6),(15,I8 (iadd .i64 z6 1))] ?_
  obtain ⟨x25,hx,h⟩:=ob h
  refine tkf 2 5 (I8 x25) (yn hx) ?_
  refine fin (j45 _ _ ?_)
  exact tn (kl0 _ _ ⟨n,ls n,x25,(wr (wr z7 (imul .i64 2 z6) y14) (iadd .i64 (imul .i64 2 z6) 1) y15),h,(hs.conv rfl),eg⟩)
  refine tb 1 13 (df hc) ?_
  refine fj j14 s13 (cf (xexit (tx (tx (iH ?_)))))
  obtain rfl:=of_some h
  exact exq_n (nn0 _ _ ⟨(hs.conv rfl),eg⟩)
 clear hs h hy
 rintro a w ⟨hs,g11,rfl⟩
 have h:=hk0
 refine T s7 (xs fun _ s46=>(xn 2 fun _ j47=>?_))
 refine tkt 0 58 (ag .i32 y8) (yWe 32 hs 0 .grow) ?_
 refine so 1 (oWe 32 .i32 y8 hs 2 fun w kp hs=>?_)
 refine fj j47 s46 (xret ?_)
 obtain rfl:=of_some h
 exact qq _ _ (pr (rr [.cell 2 32] [ag .i32 y8] (.cons (rcN 256 hs 2 rfl (enc_len _ _)) .nil)) ⟨cr,hs.none⟩)
theorem ref26_ntt.ok {K:Nat}{a0 r0:List (Arr 256)}{a0_A:Option Addr}{a0_n a0_c:Nat}(h:ref26_ntt.f K a0=some r0) (w0:World) (hp0:RowL CZ w0 a0_A a0_n a0_c a0):Calls Tryd.prog 50 #[.slice a0_A a0_n a0_c] w0 fun e w'=>∃ h:(Option Addr × Nat × Nat),e = .returned (.slice h.1 h.2.1 h.2.2)∧St w0 [] [.ownL CZ h.1 h.2.1 h.2.2 r0 32] [] w':=by
 refine calls_k Tryd.func50 rfl fun Q qq=>?_
 have hs:=St.startR (all_cons (RowP.ent hp0) all_nil)
 refine wc (a':=(fu 19 [.slice a0_A a0_n a0_c])) ?_
 refine xs fun _ s1=>?_
 refine xn 1 fun _ j2=>?_
 refine qo 0 2 (.slice none 0 0) ?_
 refine fj j2 s1 (xs fun _ s3=>(xn 1 fun _ j4=>?_))
 refine qo 0 3 (.slice none 0 0) ?_
 refine fj j4 s3 (xs fun _ s5=>(xs fun _ s6=>(xn 1 fun _ j7=>?_)))
 refine qo 0 4 (I8 0) ?_
 refine fj j7 s6 (?_)
 have hs:=hs.addNilL CZ 32
 obtain ⟨y3,hy,hk0⟩:=ob h
 refine wp_exq (N:=fun a w=>∃ y3_A y3_n y3_c,St w0 [] [.ownL CZ y3_A y3_n y3_c y3 32] [.rowL CZ a0_A a0_n a0_c a0] w∧∃ g9,a=fr g9 20 [(2,[.slice none 0 0,.slice y3_A y3_n y3_c])]) (fun N0 nn0=>?_) ?_
 clear hk0
 refine xb ?_
 refine wp_loop_k (fun n a w=>∃ z1 z2,∃ z2_A z2_n z2_c,ref26_ntt.l0 K n a0 z1 z2=some y3∧St w0 [] [.ownL CZ z2_A z2_n z2_c z2 32] [.rowL CZ a0_A a0_n a0_c a0] w∧∃ g8,a=fr g8 20 [(0,[.slice a0_A a0_n a0_c]),(2,[.slice none 0 0,.slice z2_A z2_n z2_c,I8 z1])]) K ⟨0,([]:List (Arr 256)),none,0,0,hy,hs.conv rfl,eg⟩ ?_
 clear hs h hy
 rintro n a w ⟨z1,z2,z2_A,z2_n,z2_c,h,hs,g8,rfl⟩ KL0 kl0
 cases n with
 | zero=>exact nomatch (show none=some _ from h)
 | succ n=>
  refine xs fun _ s10=>?_
  refine xs fun _ s11=>?_
  refine xn 4 fun _ j12=>?_
  refine nq 0 [(5,I8 z1),(6,.slice a0_A a0_n a0_c)] ?_
  refine tkf 2 7 (I8 (a0.length:Int)) (yl (hs.rowR 0 rfl)) ?_
  obtain ⟨hc,h⟩|⟨hc,h⟩:=of_if h
  refine tb 3 8 (dt hc) ?_
  refine fj j12 s11 (ct (xk (T s10 (xs fun _ s13=>(xb (xn 9 fun _ j14=>?_))))))
  refine nq 0 [(11,.slice z2_A z2_n z2_c),(12,.slice a0_A a0_n a0_c),(13,I8 z1)] ?_
  obtain ⟨h0,h1,h⟩:=oc2 h
  have i0_15:=h0
  have i1_15:=h1
  refine tkf 3 14 (PA CZ a0_A z1) (yiL (C:=CZ) 77 32 .i64 z1 (hs.rowR 0 rfl) h0 h1) ?_
  refine tkt 4 15 (ag .i32 (rdL CZ a0 z1)) (yLA (C:=CZ) 32 z1 (hs.rowR 0 rfl) rfl i0_15 i1_15) ?_
  obtain ⟨r4,hg,h⟩:=ob h
  refine so 5 (oC 16 hs (ref25_Ntt.ok hg _) fun w gw hs=>?_)
  refine so 6 (oLL (C:=CZ) 17 77 32 1 (ag .i32 (zeroA 256)) #[(0,ag .i32 r4)] [r4] hs rfl rfl (by decide) (by decide) fun s5_A s5_n s5_c w gw hs=>?_)
  obtain ⟨h0,h⟩:=oc h
  refine so 7 (oAp (C:=CZ) 18 77 77 32 1024 137438953472 hs 1 rfl (hs.rowL 0 rfl) h0 (by decide) (by decide) fun s6_A s6_n s6_c w hs=>?_)
  refine qo 8 3 (.slice s6_A s6_n s6_c) ?_
  refine fin (j14 _ _ (iN (T s13 (xn 3 fun _ j16=>?_))))
  refine nq 0 [(9,I8 z1),(10,I8 (iadd .i64 z1 1))] ?_
  obtain ⟨x7,hx,h⟩:=ob h
  refine tkf 2 4 (I8 x7) (yn hx) ?_
  refine fin (j16 _ _ ?_)
  exact tn (kl0 _ _ ⟨n,ls n,x7,(z2++([r4]:List (Arr 256))),s6_A,s6_n,s6_c,h,(dr [0,1] hs),eg⟩)
  refine tb 3 8 (df hc) ?_
  refine fj j12 s11 (cf (xexit (tx (tx (iH ?_)))))
  obtain rfl:=of_some h
  exact exq_n (nn0 _ _ ⟨z2_A,z2_n,z2_c,(hs.conv rfl),eg⟩)
 clear hs h hy
 rintro a w ⟨y3_A,y3_n,y3_c,hs,g9,rfl⟩
 have h:=hk0
 refine T s5 (xs fun _ s17=>(xn 2 fun _ j18=>?_))
 refine nq 0 [(19,.slice y3_A y3_n y3_c),(2,.slice y3_A y3_n y3_c)] ?_
 refine fj j18 s17 (xret ?_)
 obtain rfl:=of_some h
 exact qq _ _ (pt [2] [.slice y3_A y3_n y3_c] ⟨⟨y3_A,y3_n,y3_c⟩,cr,(pz hs)⟩)
theorem ref26_bit.ok {K:Nat}{a0:List Int}{a1 r0:Int}{a0_A:Option Addr}{a0_n a0_c:Nat}(h:ref26_bit.f K a0 a1=some r0) (w0:World) (hp0:RowL CB w0 a0_A a0_n a0_c a0):Ret Tryd.prog 42 #[.slice a0_A a0_n a0_c,I8 a1] w0 (I4 r0):=by
 refine calls_k Tryd.func42 rfl fun Q qq=>?_
 have hs:=St.startR (all_cons (RowP.ent hp0) all_nil)
 refine wc (a':=(fu 13 [.slice a0_A a0_n a0_c,I8 a1])) ?_
 refine xs fun _ s1=>?_
 refine xn 1 fun _ j2=>?_
 refine qo 0 4 (I4 0) ?_
 refine fj j2 s1 (xs fun _ s3=>(xn 11 fun _ j4=>?_))
 refine nq 0 [(5,.slice a0_A a0_n a0_c),(6,I8 a1),(7,I8 (iquo .i64 a1 8))] ?_
 obtain ⟨x1,hx,h⟩:=ob h
 have hx:=of_some hx
 subst hx
 obtain ⟨h0,h1,h⟩:=oc2 h
 have i0_5:=h0
 have i1_5:=h1
 refine tkf 3 8 (PA CB a0_A (iquo .i64 a1 8)) (yiL (C:=CB) 24 5 .i64 (iquo .i64 a1 8) (hs.rowR 0 rfl) h0 h1) ?_
 refine tkt 4 9 (U1 (rdL CB a0 (iquo .i64 a1 8))) (yL (C:=CB) 5 (iquo .i64 a1 8) (hs.rowR 0 rfl) rfl i0_5 i1_5) ?_
 refine nq 5 [(10,I8 a1),(11,I8 (irem .i64 a1 8))] ?_
 obtain ⟨h0,h⟩:=oc h
 refine tkf 7 12 (U1 (ishr .u8 (rdL CB a0 (iquo .i64 a1 8)) (irem .i64 a1 8))) (ysr 5 .i64 h0) ?_
 refine nq 8 [(13,U1 (iand .u8 (ishr .u8 (rdL CB a0 (iquo .i64 a1 8)) (irem .i64 a1 8)) 1)),(14,I4 (iconv .i32 (iand .u8 (ishr .u8 (rdL CB a0 (iquo .i64 a1 8)) (irem .i64 a1 8)) 1)))] ?_
 obtain ⟨x2,hx,h⟩:=ob h
 refine tkf 10 4 (I4 x2) (yn hx) ?_
 refine fj j4 s3 (xret ?_)
 obtain rfl:=of_some h
 exact qq _ _ (pt [4] [I4 x2] ⟨cr,hs.none⟩)
theorem ref26_Noise.ok {K:Nat}{a0:Int}{a1:List Int}{a2:Int}{r0:Arr 256}{a1_A:Option Addr}{a1_n a1_c:Nat}(h:ref26_Noise.f K a0 a1 a2=some r0) (w0:World) (hp1:RowL CB w0 a1_A a1_n a1_c a1):Ret Tryd.prog 17 #[I8 a0,.slice a1_A a1_n a1_c,U1 a2] w0 (ag .i32 r0):=by
 refine calls_k Tryd.func17 rfl fun Q qq=>?_
 have hs:=St.startR (all_cons (RowP.ent hp1) all_nil)
 refine wc (a':=(fu 64 [I8 a0,.slice a1_A a1_n a1_c,U1 a2])) ?_
 refine xs fun _ s1=>?_
 refine xn 1 fun _ j2=>?_
 refine so 0 (oN 6 32 hs (enc .i32 (zeroA 256)) (ag .i32 (zeroA 256)) fun b1 w gw hs=>?_)
 refine fj j2 s1 (xs fun _ s3=>(xn 1 fun _ j4=>?_))
 refine so 0 (oN 7 32 hs (enc .i32 (zeroA 256)) (ag .i32 (zeroA 256)) fun b2 w gw hs=>?_)
 refine fj j4 s3 (?_)
 obtain ⟨tv6,hj,hk_6⟩:=ob h
 refine xs fun _ s6=>wp_exj (N:=fun a w=>∃ y3,tv6 = .inl y3∧St w0 [] [.blk b2 (enc .i32 (zeroA 256)) 32,.blk b1 (enc .i32 y3) 32] [.rowL CB a1_A a1_n a1_c a1] w∧∃ g5,a=fr g5 67 [(0,[I8 a0,.slice a1_A a1_n a1_c,U1 a2]),(6,[P0 b1,P0 b2])]) (fun N nj=>?_) ?_
 clear h
 have h:=hj
 refine xs fun _ s7=>?_
 refine xn 6 fun _ j8=>?_
 refine qo 0 13 (I8 a0) ?_
 obtain ⟨hc,h⟩|⟨hc,h⟩:=of_if h
 refine tb 1 14 (nf hc) ?_
 refine nq 2 [(15,.bool false),(16,undef),(17,undef),(18,.bool false)] ?_
 refine fj j8 s7 (cf (xk ?_))
 obtain rfl:=of_some h
 exact exj_n (nj _ _ ⟨(zeroA 256),rfl,(hs.conv rfl),eg⟩)
 refine tb 1 14 (nt hc) ?_
 refine nq 2 [(15,.bool true),(16,I8 a0)] ?_
 obtain ⟨hc,h⟩|⟨hc,h⟩:=of_if h
 refine tb 4 17 (nf hc) ?_
 refine qo 5 18 (.bool false) ?_
 refine fj j8 s7 (cf (xk ?_))
 obtain rfl:=of_some h
 exact exj_n (nj _ _ ⟨(zeroA 256),rfl,(hs.conv rfl),eg⟩)
 refine tb 4 17 (nt hc) ?_
 refine qo 5 18 (.bool true) ?_
 refine fj j8 s7 (ct (xs fun _ s9=>(xn 2 fun _ j10=>?_)))
 refine tkt 0 19 (ag .i32 (zeroA 256)) (yWe 32 hs 0 .grow) ?_
 refine so 1 (oWe 32 .i32 (zeroA 256) hs 1 fun w kp hs=>?_)
 refine fj j10 s9 (xret ?_)
 obtain rfl:=of_some h
 have h:=hk_6
 refine exj_r ?_
 refine tr ?_
 obtain rfl:=of_some h
 exact qq _ _ (pr (rr [.cell 6 32] [ag .i32 (zeroA 256)] (.cons (rcN 256 hs 1 rfl (enc_len _ _)) .nil)) ⟨cr,hs.none⟩)
 clear hj hs
 rintro a w ⟨y3,rfl,hs,g5,rfl⟩
 have h:=hk_6
 refine T s6 (xs fun _ s11=>(xn 13 fun _ j12=>?_))
 refine nq 0 [(21,.slice a1_A a1_n a1_c),(22,U1 a2)] ?_
 refine so 2 (oLt (C:=CB) 23 24 5 1 (U1 0) #[(0,U1 a2)] [a2] hs rfl (by decide) (by decide) fun s4_A s4_n s4_c w gw hs=>?_)
 refine so 3 (oLt (C:=CS) 24 59 24 2 (.slice none 0 0) #[(0,.slice a1_A a1_n a1_c),(1,.slice s4_A s4_n s4_c)] ([(a1_A,a1_n,a1_c),(s4_A,s4_n,s4_c)]:List HS) hs rfl (by decide) (by decide) fun s5_A s5_n s5_c w gw hs=>?_)
 obtain ⟨r6,hg,h⟩:=ob h
 refine wpS.only 4 (oH 25 hs (ref01_Join.ok hg _ (LLP.mk (hs.rowL 0 rfl) (inn_cons (hs.rowR 0 rfl) (inn_cons (hs.rowL 1 rfl) inn_nil)))) ?_)
 rintro ⟨r6_A,r6_n,r6_c⟩ w gw hs
 have hs:=hs.conv (L':=[.ownL CB r6_A r6_n r6_c r6 5,.ownL CS s5_A s5_n s5_c ([(a1_A,a1_n,a1_c),(s4_A,s4_n,s4_c)]:List HS) 24,.ownL CB s4_A s4_n s4_c ([a2]:List Int) 5,.blk b2 (enc .i32 (zeroA 256)) 32,.blk b1 (enc .i32 y3) 32]) rfl
 refine ⟨fun _=>trivial,?_⟩
 refine nq 5 [(26,I8 a0),(27,I8 (imul .i64 64 a0))] ?_
 obtain ⟨⟨r7,r8⟩,hg,h⟩:=ob h
 refine wpS.only 7 (oH 28 hs (ref08_Sum.ok hg _ (hs.rowL 0 rfl)) ?_)
 rintro ⟨r7_A,r7_n,r7_c⟩ w gw hs
 have hs:=hs.conv (L':=[.ownL CB r7_A r7_n r7_c r7 5,.ownL CB r6_A r6_n r6_c r6 5,.ownL CS s5_A s5_n s5_c ([(a1_A,a1_n,a1_c),(s4_A,s4_n,s4_c)]:List HS) 24,.ownL CB s4_A s4_n s4_c ([a2]:List Int) 5,.blk b2 (enc .i32 (zeroA 256)) 32,.blk b1 (enc .i32 y3) 32]) rfl
 refine ⟨fun _=>trivial,?_⟩
 refine nq 8 [(20,.tuple #[.slice r7_A r7_n r7_c,I8 r8]),(29,.slice r7_A r7_n r7_c),(30,I8 r8),(8,.slice r7_A r7_n r7_c),(9,I8 r8)] ?_
 refine fj j12 s11 (xs fun _ s13=>(xs fun _ s14=>(xn 1 fun _ j15=>?_)))
 refine qo 0 10 (I8 0) ?_
 refine fj j15 s14 (?_)
 obtain ⟨y11,hy,hk0⟩:=ob h
 refine wp_exq (N:=fun a w=>St w0 [] [.ownL CB r7_A r7_n r7_c r7 5,.ownL CB r6_A r6_n r6_c r6 5,.ownL CS s5_A s5_n s5_c ([(a1_A,a1_n,a1_c),(s4_A,s4_n,s4_c)]:List HS) 24,.ownL CB s4_A s4_n s4_c ([a2]:List Int) 5,.blk b2 (enc .i32 y11) 32,.blk b1 (enc .i32 y3) 32] [.rowL CB a1_A a1_n a1_c a1] w∧∃ g17,a=fr g17 67 [(6,[P0 b1,P0 b2])]) (fun N0 nn0=>?_) ?_
 clear hk0
 refine xb ?_
 refine wp_loop_k (fun n a w=>∃ z9 z10,ref26_Noise.l0 K n a0 r7 z9 z10=some y11∧St w0 [] [.ownL CB r7_A r7_n r7_c r7 5,.ownL CB r6_A r6_n r6_c r6 5,.ownL CS s5_A s5_n s5_c ([(a1_A,a1_n,a1_c),(s4_A,s4_n,s4_c)]:List HS) 24,.ownL CB s4_A s4_n s4_c ([a2]:List Int) 5,.blk b2 (enc .i32 z10) 32,.blk b1 (enc .i32 y3) 32] [.rowL CB a1_A a1_n a1_c a1] w∧∃ g16,a=fr g16 67 [(0,[I8 a0]),(6,[P0 b1,P0 b2,.slice r7_A r7_n r7_c]),(10,[I8 z9])]) K ⟨0,(zeroA 256),hy,hs.conv rfl,eg⟩ ?_
 clear hs h hy
 rintro n a w ⟨z9,z10,h,hs,g16,rfl⟩ KL0 kl0
 cases n with
 | zero=>exact nomatch (show none=some _ from h)
 | succ n=>
  refine xs fun _ s18=>?_
  refine xs fun _ s19=>?_
  refine xn 2 fun _ j20=>?_
  refine qo 0 31 (I8 z9) ?_
  obtain ⟨hc,h⟩|⟨hc,h⟩:=of_if h
  refine tb 1 32 (dt hc) ?_
  refine fj j20 s19 (ct (xk (T s18 (xs fun _ s21=>(xb (xs fun _ s22=>(xn 1 fun _ j23=>?_)))))))
  refine qo 0 11 (I4 0) ?_
  refine fj j23 s22 (xs fun _ s24=>(xs fun _ s25=>(xn 1 fun _ j26=>?_)))
  refine qo 0 12 (I8 0) ?_
  refine fj j26 s25 (?_)
  obtain ⟨y14,hy,hk1⟩:=ob h
  refine wp_exq (N:=fun a w=>St w0 [] [.ownL CB r7_A r7_n r7_c r7 5,.ownL CB r6_A r6_n r6_c r6 5,.ownL CS s5_A s5_n s5_c ([(a1_A,a1_n,a1_c),(s4_A,s4_n,s4_c)]:List HS) 24,.ownL CB s4_A s4_n s4_c ([a2]:List Int) 5,.blk b2 (enc .i32 z10) 32,.blk b1 (enc .i32 y3) 32] [.rowL CB a1_A a1_n a1_c a1] w∧∃ g28,a=fr g28 67 [(0,[I8 a0]),(6,[P0 b1,P0 b2,.slice r7_A r7_n r7_c]),(10,[I8 z9,I4 y14])]) (fun N1 nn1=>?_) ?_
  clear hk1
  refine xb ?_
  refine wp_loop_k (fun n a w=>∃ z12 z13,ref26_Noise.l1 K n a0 r7 z9 z12 z13=some y14∧St w0 [] [.ownL CB r7_A r7_n r7_c r7 5,.ownL CB r6_A r6_n r6_c r6 5,.ownL CS s5_A s5_n s5_c ([(a1_A,a1_n,a1_c),(s4_A,s4_n,s4_c)]:List HS) 24,.ownL CB s4_A s4_n s4_c ([a2]:List Int) 5,.blk b2 (enc .i32 z10) 32,.blk b1 (enc .i32 y3) 32] [.rowL CB a1_A a1_n a1_c a1] w∧∃ g27,a=fr g27 67 [(0,[I8 a0]),(6,[P0 b1,P0 b2,.slice r7_A r7_n r7_c]),(10,[I8 z9,I4 z12,I8 z13])]) K ⟨0,0,hy,hs.conv rfl,eg⟩ ?_
  clear hs h hy
  rintro n a w ⟨z12,z13,h,hs,g27,rfl⟩ KL1 kl1
  cases n with
  | zero=>exact nomatch (show none=some _ from h)
  | succ n=>
   refine xs fun _ s29=>?_
   refine xs fun _ s30=>?_
   refine xn 3 fun _ j31=>?_
   refine nq 0 [(35,I8 z13),(36,I8 a0)] ?_
   obtain ⟨hc,h⟩|⟨hc,h⟩:=of_if h
   refine tb 2 37 (dt hc) ?_
   refine fj j31 s30 (ct (xk (T s29 (xs fun _ s32=>(xb (xn 22 fun _ j33=>?_))))))
   refine nq 0 [(40,I4 z12),(41,.slice r7_A r7_n r7_c),(42,I8 z9),(43,I8 (imul .i64 2 z9)),(44,I8 a0),(45,I8 (imul .i64 (imul .i64 2 z9) a0)),(46,I8 z13),(47,I8 (iadd .i64 (imul .i64 (imul .i64 2 z9) a0) z13))] ?_
   obtain ⟨r15,hg,h⟩:=ob h
   refine so 8 (oC 48 hs (ref26_bit.ok hg _ (hs.rowL 0 rfl)) fun w gw hs=>?_)
   refine nq 9 [(49,I4 (iadd .i32 z12 r15)),(50,.slice r7_A r7_n r7_c),(51,I8 z9),(52,I8 (imul .i64 2 z9)),(53,I8 a0),(54,I8 (imul .i64 (imul .i64 2 z9) a0)),(55,I8 a0),(56,I8 (iadd .i64 (imul .i64 (imul .i64 2 z9) a0) a0)),(57,I8 z13),(58,I8 (iadd .i64 (iadd .i64 (imul .i64 (imul .i64 2 z9) a0) a0) z13))] ?_
   obtain ⟨r16,hg,h⟩:=ob h
   refine so 19 (oC 59 hs (ref26_bit.ok hg _ (hs.rowL 0 rfl)) fun w gw hs=>?_)
   refine qo 20 60 (I4 (isub .i32 (iadd .i32 z12 r15) r16)) ?_
   obtain ⟨x17,hx,h⟩:=ob h
   refine tkf 21 11 (I4 x17) (yn hx) ?_
   refine fin (j33 _ _ (iN (T s32 (xn 3 fun _ j34=>?_))))
   refine nq 0 [(38,I8 z13),(39,I8 (iadd .i64 z13 1))] ?_
   obtain ⟨x18,hx,h⟩:=ob h
   refine tkf 2 12 (I8 x18) (yn hx) ?_
   refine fin (j34 _ _ ?_)
   exact tn (kl1 _ _ ⟨n,ls n,x17,x18,h,(hs.conv rfl),eg⟩)
   refine tb 2 37 (df hc) ?_
   refine fj j31 s30 (cf (xexit (tx (tx (iH ?_)))))
   obtain rfl:=of_some h
   exact exq_n (nn1 _ _ ⟨(hs.conv rfl),eg⟩)
  clear hs h hy
  rintro a w ⟨hs,g28,rfl⟩
  have h:=hk1
  refine T s24 (xn 6 fun _ j35=>?_)
  refine nq 0 [(61,I8 z9),(62,I4 y14),(63,I4 (iadd .i32 y14 3329)),(64,I4 (irem .i32 (iadd .i32 y14 3329) 3329))] ?_
  obtain ⟨i0_36,i1_36,h⟩:=oc2 h
  refine tkf 4 65 (P1 b2 z9) (yi 32 21 256 1 .i64 z9 i0_36 i1_36) ?_
  obtain ⟨x19,hx,h⟩:=ob h
  refine so 5 (oA 21 x19 z9 hs 4 rfl (by cases hx; kernel_rfl) i0_36 i1_36 fun w kp hs=>?_)
  refine fin (j35 _ _ (iN (T s21 (xn 3 fun _ j37=>?_))))
  refine nq 0 [(33,I8 z9),(34,I8 (iadd .i64 z9 1))] ?_
  obtain ⟨x20,hx,h⟩:=ob h
  refine tkf 2 10 (I8 x20) (yn hx) ?_
  refine fin (j37 _ _ ?_)
  exact tn (kl0 _ _ ⟨n,ls n,x20,(wr z10 z9 x19),h,(hs.conv rfl),eg⟩)
  refine tb 1 32 (df hc) ?_
  refine fj j20 s19 (cf (xexit (tx (tx (iH ?_)))))
  obtain rfl:=of_some h
  exact exq_n (nn0 _ _ ⟨(hs.conv rfl),eg⟩)
 clear hs h hy
 rintro a w ⟨hs,g17,rfl⟩
 have h:=hk0
 refine T s13 (xs fun _ s38=>(xn 2 fun _ j39=>?_))
 refine tkt 0 66 (ag .i32 y11) (yWe 32 hs 4 .grow) ?_
 refine so 1 (oWe 32 .i32 y11 hs 5 fun w kp hs=>?_)
 refine fj j39 s38 (xret ?_)
 obtain rfl:=of_some h
 exact qq _ _ (pr (rr [.cell 6 32] [ag .i32 y11] (.cons (rcN 256 hs 5 rfl (enc_len _ _)) .nil)) ⟨cr,hs.none⟩)
theorem ref26_row.ok {K:Nat}{a0 a1:Int}{a2:List Int}{a3:Int}{r0:List (Arr 256)}{a2_A:Option Addr}{a2_n a2_c:Nat}(h:ref26_row.f K a0 a1 a2 a3=some r0) (w0:World) (hp2:RowL CB w0 a2_A a2_n a2_c a2):Calls Tryd.prog 51 #[I8 a0,I8 a1,.slice a2_A a2_n a2_c,I8 a3] w0 fun e w'=>∃ h:(Option Addr × Nat × Nat),e = .returned (.slice h.1 h.2.1 h.2.2)∧St w0 [] [.ownL CZ h.1 h.2.1 h.2.2 r0 32] [] w':=by
 refine calls_k Tryd.func51 rfl fun Q qq=>?_
 have hs:=St.startR (all_cons (RowP.ent hp2) all_nil)
 refine wc (a':=(fu 23 [I8 a0,I8 a1,.slice a2_A a2_n a2_c,I8 a3])) ?_
 refine xs fun _ s1=>?_
 refine xn 1 fun _ j2=>?_
 refine qo 0 8 (.slice none 0 0) ?_
 refine fj j2 s1 (xs fun _ s3=>(xn 1 fun _ j4=>?_))
 refine qo 0 9 (.slice none 0 0) ?_
 refine fj j4 s3 (xs fun _ s5=>(xs fun _ s6=>(xn 1 fun _ j7=>?_)))
 refine qo 0 10 (I8 0) ?_
 refine fj j7 s6 (?_)
 have hs:=hs.addNilL CZ 32
 obtain ⟨y3,hy,hk0⟩:=ob h
 refine wp_exq (N:=fun a w=>∃ y3_A y3_n y3_c,St w0 [] [.ownL CZ y3_A y3_n y3_c y3 32] [.rowL CB a2_A a2_n a2_c a2] w∧∃ g9,a=fr g9 27 [(8,[.slice none 0 0,.slice y3_A y3_n y3_c])]) (fun N0 nn0=>?_) ?_
 clear hk0
 refine xb ?_
 refine wp_loop_k (fun n a w=>∃ z1 z2,∃ z2_A z2_n z2_c,ref26_row.l0 K n a0 a1 a2 a3 z1 z2=some y3∧St w0 [] [.ownL CZ z2_A z2_n z2_c z2 32] [.rowL CB a2_A a2_n a2_c a2] w∧∃ g8,a=fr g8 27 [(0,[I8 a0,I8 a1,.slice a2_A a2_n a2_c,I8 a3]),(8,[.slice none 0 0,.slice z2_A z2_n z2_c,I8 z1])]) K ⟨0,([]:List (Arr 256)),none,0,0,hy,hs.conv rfl,eg⟩ ?_
 clear hs h hy
 rintro n a w ⟨z1,z2,z2_A,z2_n,z2_c,h,hs,g8,rfl⟩ KL0 kl0
 cases n with
 | zero=>exact nomatch (show none=some _ from h)
 | succ n=>
  refine xs fun _ s10=>?_
  refine xs fun _ s11=>?_
  refine xn 3 fun _ j12=>?_
  refine nq 0 [(11,I8 z1),(12,I8 a0)] ?_
  obtain ⟨hc,h⟩|⟨hc,h⟩:=of_if h
  refine tb 2 13 (dt hc) ?_
  refine fj j12 s11 (ct (xk (T s10 (xs fun _ s13=>(xb (xn 11 fun _ j14=>?_))))))
  refine nq 0 [(16,.slice z2_A z2_n z2_c),(17,I8 a1),(18,.slice a2_A a2_n a2_c),(19,I8 a3),(20,I8 z1),(21,I8 (iadd .i64 a3 z1)),(22,U1 (iconv .u8 (iadd .i64 a3 z1)))] ?_
  obtain ⟨r4,hg,h⟩:=ob h
  refine so 7 (oC 23 hs (ref26_Noise.ok hg _ (hs.rowR 0 rfl)) fun w gw hs=>?_)
  refine so 8 (oLL (C:=CZ) 24 77 32 1 (ag .i32 (zeroA 256)) #[(0,ag .i32 r4)] [r4] hs rfl rfl (by decide) (by decide) fun s5_A s5_n s5_c w gw hs=>?_)
  obtain ⟨h0,h⟩:=oc h
  refine so 9 (oAp (C:=CZ) 25 77 77 32 1024 137438953472 hs 1 rfl (hs.rowL 0 rfl) h0 (by decide) (by decide) fun s6_A s6_n s6_c w hs=>?_)
  refine qo 10 9 (.slice s6_A s6_n s6_c) ?_
  refine fin (j14 _ _ (iN (T s13 (xn 3 fun _ j15=>?_))))
  refine nq 0 [(14,I8 z1),(15,I8 (iadd .i64 z1 1))] ?_
  obtain ⟨x7,hx,h⟩:=ob h
  refine tkf 2 10 (I8 x7) (yn hx) ?_
  refine fin (j15 _ _ ?_)
  exact tn (kl0 _ _ ⟨n,ls n,x7,(z2++([r4]:List (Arr 256))),s6_A,s6_n,s6_c,h,(dr [0,1] hs),eg⟩)
  refine tb 2 13 (df hc) ?_
  refine fj j12 s11 (cf (xexit (tx (tx (iH ?_)))))
  obtain rfl:=of_some h
  exact exq_n (nn0 _ _ ⟨z2_A,z2_n,z2_c,(hs.conv rfl),eg⟩)
 clear hs h hy
 rintro a w ⟨y3_A,y3_n,y3_c,hs,g9,rfl⟩
 have h:=hk0
 refine T s5 (xs fun _ s16=>(xn 2 fun _ j17=>?_))
 refine nq 0 [(26,.slice y3_A y3_n y3_c),(8,.slice y3_A y3_n y3_c)] ?_
 refine fj j17 s16 (xret ?_)
 obtain rfl:=of_some h
 exact qq _ _ (pt [8] [.slice y3_A y3_n y3_c] ⟨⟨y3_A,y3_n,y3_c⟩,cr,(pz hs)⟩)
theorem ref25_bound.ok {K:Nat}{a0 r0:Int}(h:ref25_bound.f K a0=some r0) (w0:World):Ret Tryd.prog 89 #[I8 a0] w0 (I4 r0):=by
 refine calls_k Tryd.func89 rfl fun Q qq=>?_
 have hs:=St.start w0
 refine wc (a':=(fu 6 [I8 a0])) ?_
 refine xs fun _ s1=>?_
 refine xn 1 fun _ j2=>?_
 refine qo 0 2 (I4 0) ?_
 refine fj j2 s1 (xs fun _ s3=>(xs fun _ s4=>(xn 2 fun _ j5=>?_)))
 refine qo 0 3 (I8 a0) ?_
 obtain ⟨hc,h⟩|⟨hc,h⟩:=of_if h
 refine tb 1 4 (et hc) ?_
 refine fj j5 s4 (ct (xs fun _ s6=>(xn 1 fun _ j7=>?_)))
 refine qo 0 2 (I4 3329) ?_
 refine fj j7 s6 (xret (tr ?_))
 obtain rfl:=of_some h
 exact qq _ _ (pt [2] [I4 3329] ⟨cr,hs.none⟩)
 refine tb 1 4 (ef hc) ?_
 refine fj j5 s4 (cf (xk (T s3 (xs fun _ s8=>(xn 3 fun _ j9=>?_)))))
 refine qo 0 5 (I8 a0) ?_
 obtain ⟨h0,h⟩:=oc h
 refine tkf 1 6 (I4 (ishl .i32 1 a0)) (ysl 21 .i64 h0) ?_
 obtain ⟨x1,hx,h⟩:=ob h
 refine tkf 2 2 (I4 x1) (yn hx) ?_
 refine fj j9 s8 (xret ?_)
 obtain rfl:=of_some h
 exact qq _ _ (pt [2] [I4 x1] ⟨cr,hs.none⟩)
theorem ref01_Pack.ok {K:Nat}{a0:List Int}{a1:Int}{r0:List Int}{a0_A:Option Addr}{a0_n a0_c:Nat}(h:ref01_Pack.f K a0 a1=some r0) (w0:World) (hp0:RowL (CI .u32) w0 a0_A a0_n a0_c a0):Calls Tryd.prog 90 #[.slice a0_A a0_n a0_c,I8 a1] w0 fun e w'=>∃ h:(Option Addr × Nat × Nat),e = .returned (.slice h.1 h.2.1 h.2.2)∧St w0 [] [.ownL CB h.1 h.2.1 h.2.2 r0 5] [] w':=by
 refine calls_k Tryd.func90 rfl fun Q qq=>?_
 have hs:=St.startR (all_cons (RowP.ent hp0) all_nil)
 refine wc (a':=(fu 58 [.slice a0_A a0_n a0_c,I8 a1])) ?_
 refine xs fun _ s1=>?_
 refine xn 1 fun _ j2=>?_
 refine qo 0 4 (.slice none 0 0) ?_
 refine fj j2 s1 (xs fun _ s3=>(xs fun _ s4=>(xn 6 fun _ j5=>?_)))
 refine qo 0 9 (I8 a1) ?_
 obtain ⟨hc,h⟩|⟨hc,h⟩:=of_if h
 refine tb 1 10 (dt hc) ?_
 refine nq 2 [(11,.bool true),(12,undef),(13,undef),(14,.bool true)] ?_
 refine fj j5 s4 (ct (xs fun _ s6=>(xn 1 fun _ j7=>?_)))
 refine qo 0 4 (.slice none 0 0) ?_
 refine fj j7 s6 (xret (tr ?_))
 obtain rfl:=of_some h
 have hs:=hs.addNilL CB 5
 exact qq _ _ (pt [4] [.slice none 0 0] ⟨⟨none,0,0⟩,cr,(pz hs)⟩)
 refine tb 1 10 (df hc) ?_
 refine nq 2 [(11,.bool false),(12,I8 a1)] ?_
 obtain ⟨hc,h⟩|⟨hc,h⟩:=of_if h
 refine tb 4 13 (dt hc) ?_
 refine qo 5 14 (.bool true) ?_
 refine fj j5 s4 (ct (xs fun _ s8=>(xn 1 fun _ j9=>?_)))
 refine qo 0 4 (.slice none 0 0) ?_
 refine fj j9 s8 (xret (tr ?_))
 obtain rfl:=of_some h
 have hs:=hs.addNilL CB 5
 exact qq _ _ (pt [4] [.slice none 0 0] ⟨⟨none,0,0⟩,cr,(pz hs)⟩)
 refine tb 4 13 (df hc) ?_
 refine qo 5 14 (.bool false) ?_
 refine fj j5 s4 (cf (xk (T s3 (xs fun _ s10=>(xn 8 fun _ j11=>?_)))))
 refine qo 0 15 (.slice a0_A a0_n a0_c) ?_
 refine tkf 1 16 (I8 (a0.length:Int)) (yl (hs.rowR 0 rfl)) ?_
 refine nq 2 [(17,I8 a1),(18,I8 (imul .i64 (a0.length:Int) a1)),(19,I8 (iadd .i64 (imul .i64 (a0.length:Int) a1) 7)),(20,I8 (iquo .i64 (iadd .i64 (imul .i64 (a0.length:Int) a1) 7) 8))] ?_
 obtain ⟨h0,h1,h⟩:=oc2 h
 refine so 6 (oMk (C:=CB) 21 24 5 1 140737488355328 .i64 .i64 (iquo .i64 (iadd .i64 (imul .i64 (a0.length:Int) a1) 7) 8) hs h0 h1 (by decide) (by decide) fun s1_A s1_n s1_c w gw hs=>?_)
 refine qo 7 5 (.slice s1_A s1_n s1_c) ?_
 refine fj j11 s10 (xs fun _ s12=>(xs fun _ s13=>(xn 1 fun _ j14=>?_)))
 refine qo 0 6 (I8 0) ?_
 refine fj j14 s13 (?_)
 obtain ⟨y4,hy,hk0⟩:=ob h
 refine wp_exq (N:=fun a w=>St w0 [] [.ownL CB s1_A s1_n s1_c y4 5] [.rowL (CI .u32) a0_A a0_n a0_c a0] w∧∃ g16,a=fr g16 60 [(4,[.slice none 0 0,.slice s1_A s1_n s1_c])]) (fun N0 nn0=>?_) ?_
 clear hk0
 refine xb ?_
 refine wp_loop_k (fun n a w=>∃ z2 z3,ref01_Pack.l0 K n a0 a1 z2 z3=some y4∧St w0 [] [.ownL CB s1_A s1_n s1_c z3 5] [.rowL (CI .u32) a0_A a0_n a0_c a0] w∧∃ g15,a=fr g15 60 [(0,[.slice a0_A a0_n a0_c,I8 a1]),(4,[.slice none 0 0,.slice s1_A s1_n s1_c,I8 z2])]) K ⟨0,(List.replicate ((iquo .i64 (iadd .i64 (imul .i64 (a0.length:Int) a1) 7) 8):Int).toNat (Cod.zero CB)),hy,hs.conv rfl,eg⟩ ?_
 clear hs h hy
 rintro n a w ⟨z2,z3,h,hs,g15,rfl⟩ KL0 kl0
 cases n with
 | zero=>exact nomatch (show none=some _ from h)
 | succ n=>
  refine xs fun _ s17=>?_
  refine xs fun _ s18=>?_
  refine xn 4 fun _ j19=>?_
  refine nq 0 [(22,I8 z2),(23,.slice a0_A a0_n a0_c)] ?_
  refine tkf 2 24 (I8 (a0.length:Int)) (yl (hs.rowR 0 rfl)) ?_
  obtain ⟨hc,h⟩|⟨hc,h⟩:=of_if h
  refine tb 3 25 (dt hc) ?_
  refine fj j19 s18 (ct (xk (T s17 (xs fun _ s20=>(xb (xs fun _ s21=>(xn 1 fun _ j22=>?_)))))))
  refine qo 0 7 (I8 0) ?_
  refine fj j22 s21 (?_)
  obtain ⟨y7,hy,hk1⟩:=ob h
  refine wp_exq (N:=fun a w=>St w0 [] [.ownL CB s1_A s1_n s1_c y7 5] [.rowL (CI .u32) a0_A a0_n a0_c a0] w∧∃ g24,a=fr g24 60 [(0,[.slice a0_A a0_n a0_c,I8 a1]),(4,[.slice none 0 0,.slice s1_A s1_n s1_c,I8 z2])]) (fun N1 nn1=>?_) ?_
  clear hk1
  refine xb ?_
  refine wp_loop_k (fun n a w=>∃ z5 z6,ref01_Pack.l1 K n a0 a1 z2 z5 z6=some y7∧St w0 [] [.ownL CB s1_A s1_n s1_c z6 5] [.rowL (CI .u32) a0_A a0_n a0_c a0] w∧∃ g23,a=fr g23 60 [(0,[.slice a0_A a0_n a0_c,I8 a1]),(4,[.slice none 0 0,.slice s1_A s1_n s1_c,I8 z2,I8 z5])]) K ⟨0,z3,hy,hs.conv rfl,eg⟩ ?_
  clear hs h hy
  rintro n a w ⟨z5,z6,h,hs,g23,rfl⟩ KL1 kl1
  cases n with
  | zero=>exact nomatch (show none=some _ from h)
  | succ n=>
   refine xs fun _ s25=>?_
   refine xs fun _ s26=>?_
   refine xn 3 fun _ j27=>?_
   refine nq 0 [(28,I8 z5),(29,I8 a1)] ?_
   obtain ⟨hc,h⟩|⟨hc,h⟩:=of_if h
   refine tb 2 30 (dt hc) ?_
   refine fj j27 s26 (ct (xk (T s25 (xs fun _ s28=>(xb (xs fun _ s29=>(xn 6 fun _ j30=>?_)))))))
   refine nq 0 [(33,I8 z2),(34,I8 a1),(35,I8 (imul .i64 z2 a1)),(36,I8 z5),(37,I8 (iadd .i64 (imul .i64 z2 a1) z5))] ?_
   obtain ⟨x8,hx,h⟩:=ob h
   refine tkf 5 8 (I8 x8) (yn hx) ?_
   refine fj j30 s29 (?_)
   refine rg [21] (fun k=>True) 22 fun _ j31=>?_
   have hs:=hs.drawn1
   refine gq 0 38 (.slice s1_A s1_n s1_c) ?_
   refine gq 1 39 (I8 x8) ?_
   refine gq 2 40 (I8 (iquo .i64 x8 8)) ?_
   refine gq 3 41 (.slice s1_A s1_n s1_c) ?_
   refine gq 4 42 (I8 x8) ?_
   refine gq 5 43 (I8 (iquo .i64 x8 8)) ?_
   obtain ⟨x9,hx,h⟩:=ob h
   have hx:=of_some hx
   subst hx
   obtain ⟨h0,h1,h⟩:=oc2 h
   have i0_32:=h0
   have i1_32:=h1
   refine tgf 6 44 (PA CB s1_A (iquo .i64 x8 8)) (yiL (C:=CB) 24 5 .i64 (iquo .i64 x8 8) (hs.rowL 0 rfl) h0 h1) ?_
   refine tgt 7 45 (U1 (rdL CB z6 (iquo .i64 x8 8))) (yL (C:=CB) 5 (iquo .i64 x8 8) (hs.rowL 0 rfl) rfl i0_32 i1_32) ?_
   refine gq 8 46 (.slice a0_A a0_n a0_c) ?_
   refine gq 9 47 (I8 z2) ?_
   obtain ⟨h0,h1,h⟩:=oc2 h
   have i0_33:=h0
   have i1_33:=h1
   refine tgf 10 48 (PA (CI .u32) a0_A z2) (yiL (C:=(CI .u32)) 68 70 .i64 z2 (hs.rowR 0 rfl) h0 h1) ?_
   refine tgt 11 49 (U4 (rdL (CI .u32) a0 z2)) (yL (C:=(CI .u32)) 70 z2 (hs.rowR 0 rfl) rfl i0_33 i1_33) ?_
   refine gq 12 50 (I8 z5) ?_
   obtain ⟨h0,h⟩:=oc h
   refine tgf 13 51 (U4 (ishr .u32 (rdL (CI .u32) a0 z2) z5)) (ysr 70 .i64 h0) ?_
   refine gq 14 52 (U4 (iand .u32 (ishr .u32 (rdL (CI .u32) a0 z2) z5) 1)) ?_
   refine gq 15 53 (U1 (iconv .u8 (iand .u32 (ishr .u32 (rdL (CI .u32) a0 z2) z5) 1))) ?_
   refine gq 16 54 (I8 x8) ?_
   refine gq 17 55 (I8 (irem .i64 x8 8)) ?_
   obtain ⟨h0,h⟩:=oc h
   refine tgf 18 56 (U1 (ishl .u8 (iconv .u8 (iand .u32 (ishr .u32 (rdL (CI .u32) a0 z2) z5) 1)) (irem .i64 x8 8))) (ysl 5 .i64 h0) ?_
   refine gq 19 57 (U1 (ior .u8 (rdL CB z6 (iquo .i64 x8 8)) (ishl .u8 (iconv .u8 (iand .u32 (ishr .u32 (rdL (CI .u32) a0 z2) z5) 1)) (irem .i64 x8 8)))) ?_
   obtain ⟨x10,hx,h⟩:=ob h
   have hx:=of_some hx
   subst hx
   obtain ⟨h0,h1,h⟩:=oc2 h
   have i0_34:=h0
   have i1_34:=h1
   refine tgf 20 58 (PA CB s1_A (iquo .i64 x8 8)) (yiL (C:=CB) 24 5 .i64 (iquo .i64 x8 8) (hs.rowL 0 rfl) h0 h1) ?_
   obtain ⟨x11,hx,h⟩:=ob h
   refine go 21 (oL (C:=CB) (he:=by cases hx; kernel_rfl) 5 (iquo .i64 x8 8) x11 hs 0 rfl i0_34 i1_34 fun w hs=>⟨⟨fun hf=>absurd hf (by decide),.all _ _⟩,?_⟩)
   refine gf (j31 _ _ ?_)
   refine iN (T s28 (xn 3 fun _ j35=>?_))
   refine nq 0 [(31,I8 z5),(32,I8 (iadd .i64 z5 1))] ?_
   obtain ⟨x12,hx,h⟩:=ob h
   refine tkf 2 7 (I8 x12) (yn hx) ?_
   refine fin (j35 _ _ ?_)
   exact tn (kl1 _ _ ⟨n,ls n,x12,(wrL z6 (iquo .i64 x8 8) x11),h,(hs.conv rfl),eg⟩)
   refine tb 2 30 (df hc) ?_
   refine fj j27 s26 (cf (xexit (tx (tx (iH ?_)))))
   obtain rfl:=of_some h
   exact exq_n (nn1 _ _ ⟨(hs.conv rfl),eg⟩)
  clear hs h hy
  rintro a w ⟨hs,g24,rfl⟩
  have h:=hk1
  refine iN (T s20 (xn 3 fun _ j36=>?_))
  refine nq 0 [(26,I8 z2),(27,I8 (iadd .i64 z2 1))] ?_
  obtain ⟨x13,hx,h⟩:=ob h
  refine tkf 2 6 (I8 x13) (yn hx) ?_
  refine fin (j36 _ _ ?_)
  exact tn (kl0 _ _ ⟨n,ls n,x13,y7,h,(hs.conv rfl),eg⟩)
  refine tb 3 25 (df hc) ?_
  refine fj j19 s18 (cf (xexit (tx (tx (iH ?_)))))
  obtain rfl:=of_some h
  exact exq_n (nn0 _ _ ⟨(hs.conv rfl),eg⟩)
 clear hs h hy
 rintro a w ⟨hs,g16,rfl⟩
 have h:=hk0
 refine T s12 (xs fun _ s37=>(xn 2 fun _ j38=>?_))
 refine nq 0 [(59,.slice s1_A s1_n s1_c),(4,.slice s1_A s1_n s1_c)] ?_
 refine fj j38 s37 (xret ?_)
 obtain rfl:=of_some h
 exact qq _ _ (pt [4] [.slice s1_A s1_n s1_c] ⟨⟨s1_A,s1_n,s1_c⟩,cr,(pz hs)⟩)
end Go.Proofs.YtemdbgmldljbpaaDoor

/- own -/
set_option linter.unusedVariables false
set_option linter.unusedSimpArgs false
set_option maxRecDepth 100000
set_option maxHeartbeats 4000000
namespace Go.Proofs.YtemdbgmldljbpaaDoor
open Go.Mx
attribute [local irreducible] wpOp
theorem ref25_Pack.ok {K:Nat}{a0:Arr 256}{a1:Int}{r0:List Int}(h:ref25_Pack.f K a0 a1=some r0) (w0:World):Calls Tryd.prog 52 #[ag .i32 a0,I8 a1] w0 fun e w'=>∃ h:(Option Addr × Nat × Nat),e = .returned (.slice h.1 h.2.1 h.2.2)∧St w0 [] [.ownL CB h.1 h.2.1 h.2.2 r0 5] [] w':=by
 refine calls_k Tryd.func52 rfl fun Q qq=>?_
 have hs:=St.start w0
 refine wc (a':=(fu 32 [ag .i32 a0,I8 a1])) ?_
 refine xs fun _ s1=>?_
 refine xn 2 fun _ j2=>?_
 refine so 0 (oB 2 32 (ag .i32 a0) hs (enc .i32 a0) fun b1 w gw hs=>?_)
 refine qo 1 4 (.slice none 0 0) ?_
 refine fj j2 s1 (xs fun _ s3=>(xs fun _ s4=>?_))
 refine rg [] (fun k=>True) 13 fun _ j5=>?_
 have hs:=hs.drawn1
 refine gq 0 7 (I8 a1) ?_
 obtain ⟨hc,h⟩|⟨hc,h⟩:=of_if h
 refine gb 1 8 (dt hc) ?_
 refine gq 2 9 (.bool true) ?_
 refine gq 3 10 undef ?_
 refine gq 4 11 undef ?_
 refine gq 5 12 (.bool true) ?_
 refine gq 6 13 (.bool true) ?_
 refine gq 7 14 undef ?_
 refine gq 8 15 undef ?_
 refine gq 9 16 undef ?_
 refine gq 10 17 undef ?_
 refine gq 11 18 undef ?_
 refine gq 12 19 (.bool true) ?_
 refine gf (j5 _ _ ?_)
 refine T s4 (ct (xs fun _ s6=>(xn 1 fun _ j7=>?_)))
 refine qo 0 4 (.slice none 0 0) ?_
 refine fj j7 s6 (xret (tr ?_))
 obtain rfl:=of_some h
 have hs:=hs.addNilL CB 5
 exact qq _ _ (pt [4] [.slice none 0 0] ⟨⟨none,0,0⟩,cr,(dr [1,0] hs)⟩)
 refine gb 1 8 (df hc) ?_
 refine gq 2 9 (.bool false) ?_
 refine gq 3 10 (I8 a1) ?_
 obtain ⟨hc,h⟩|⟨hc,h⟩:=of_if h
 refine gb 4 11 (dt hc) ?_
 refine gq 5 12 (.bool true) ?_
 refine gq 6 13 (.bool true) ?_
 refine gq 7 14 undef ?_
 refine gq 8 15 undef ?_
 refine gq 9 16 undef ?_
 refine gq 10 17 undef ?_
 refine gq 11 18 undef ?_
 refine gq 12 19 (.bool true) ?_
 refine gf (j5 _ _ ?_)
 refine T s4 (ct (xs fun _ s8=>(xn 1 fun _ j9=>?_)))
 refine qo 0 4 (.slice none 0 0) ?_
 refine fj j9 s8 (xret (tr ?_))
 obtain rfl:=of_some h
 have hs:=hs.addNilL CB 5
 exact qq _ _ (pt [4] [.slice none 0 0] ⟨⟨none,0,0⟩,cr,(dr [1,0] hs)⟩)
 refine gb 4 11 (df hc) ?_
 refine gq 5 12 (.bool false) ?_
 refine gq 6 13 (.bool false) ?_
 refine tgt 7 14 (ag .i32 a0) (yWe 32 hs 0 .grow) ?_
 refine gq 8 15 (I8 a1) ?_
 obtain ⟨r2,hg,h⟩:=ob h
 refine go 9 (oC 16 hs (ref25_bound.ok hg _) fun w gw hs=>⟨.of gw,?_⟩)
 obtain ⟨r3,hg,h⟩:=ob h
 cases r3 with
 | true=>
  have h:=of_if_t h
  refine go 10 (oC 17 hs (ref25_Below.ok hg _) fun w gw hs=>⟨.of gw,?_⟩)
  refine gq 11 18 (.bool false) ?_
  refine gq 12 19 (.bool false) ?_
  refine gf (j5 _ _ ?_)
  refine T s4 (cf (xk (T s3 (xs fun _ s10=>(xn 1 fun _ j11=>?_)))))
  refine qo 0 5 (.slice none 0 0) ?_
  refine fj j11 s10 (xs fun _ s12=>(xs fun _ s13=>(xn 1 fun _ j14=>?_)))
  refine qo 0 6 (I8 0) ?_
  refine fj j14 s13 (?_)
  have hs:=hs.addNilL (CI .u32) 70
  obtain ⟨y6,hy,hk0⟩:=ob h
  refine wp_exq (N:=fun a w=>∃ y6_A y6_n y6_c,St w0 [] [.ownL (CI .u32) y6_A y6_n y6_c y6 70,.blk b1 (enc .i32 a0) 32] [] w∧∃ g16,a=fr g16 34 [(1,[I8 a1]),(4,[.slice none 0 0,.slice y6_A y6_n y6_c])]) (fun N0 nn0=>?_) ?_
  clear hk0
  refine xb ?_
  refine wp_loop_k (fun n a w=>∃ z4 z5,∃ z5_A z5_n z5_c,ref25_Pack.l0 K n a0 z4 z5=some y6∧St w0 [] [.ownL (CI .u32) z5_A z5_n z5_c z5 70,.blk b1 (enc .i32 a0) 32] [] w∧∃ g15,a=fr g15 34 [(1,[I8 a1,P0 b1]),(4,[.slice none 0 0,.slice z5_A z5_n z5_c,I8 z4])]) K ⟨0,([]:List Int),none,0,0,hy,hs.conv rfl,eg⟩ ?_
  clear hs h hy
  rintro n a w ⟨z4,z5,z5_A,z5_n,z5_c,h,hs,g15,rfl⟩ KL0 kl0
  cases n with
  | zero=>exact nomatch (show none=some _ from h)
  | succ n=>
   refine xs fun _ s17=>?_
   refine xs fun _ s18=>?_
   refine xn 2 fun _ j19=>?_
   refine qo 0 20 (I8 z4) ?_
   obtain ⟨hc,h⟩|⟨hc,h⟩:=of_if h
   refine tb 1 21 (dt hc) ?_
   refine fj j19 s18 (ct (xk (T s17 (xs fun _ s20=>(xb (xn 8 fun _ j21=>?_))))))
   refine nq 0 [(24,.slice z5_A z5_n z5_c),(25,I8 z4)] ?_
   obtain ⟨i0_22,i1_22,h⟩:=oc2 h
   refine tkf 2 26 (P1 b1 z4) (yi 32 21 256 1 .i64 z4 i0_22 i1_22) ?_
   refine tkt 3 27 (I4 (rd a0 z4)) (yA hs 1 21 z4 rfl i0_22 i1_22 .grow) ?_
   refine qo 4 28 (U4 (iconv .u32 (rd a0 z4))) ?_
   refine so 5 (oLt (C:=(CI .u32)) 29 68 70 1 (U4 0) #[(0,U4 (iconv .u32 (rd a0 z4)))] [(iconv .u32 (rd a0 z4))] hs rfl (by decide) (by decide) fun s7_A s7_n s7_c w gw hs=>?_)
   obtain ⟨h0,h⟩:=oc h
   refine so 6 (oAp (C:=(CI .u32)) 30 68 68 70 4 35184372088832 hs 1 rfl (hs.rowL 0 rfl) h0 (by decide) (by decide) fun s8_A s8_n s8_c w hs=>?_)
   refine qo 7 5 (.slice s8_A s8_n s8_c) ?_
   refine fin (j21 _ _ (iN (T s20 (xn 3 fun _ j23=>?_))))
   refine nq 0 [(22,I8 z4),(23,I8 (iadd .i64 z4 1))] ?_
   obtain ⟨x9,hx,h⟩:=ob h
   refine tkf 2 6 (I8 x9) (yn hx) ?_
   refine fin (j23 _ _ ?_)
   exact tn (kl0 _ _ ⟨n,ls n,x9,(z5++([(iconv .u32 (rd a0 z4))]:List Int)),s8_A,s8_n,s8_c,h,(dr [0,1,1] hs),eg⟩)
   refine tb 1 21 (df hc) ?_
   refine fj j19 s18 (cf (xexit (tx (tx (iH ?_)))))
   obtain rfl:=of_some h
   exact exq_n (nn0 _ _ ⟨z5_A,z5_n,z5_c,(hs.conv rfl),eg⟩)
  clear hs h hy
  rintro a w ⟨y6_A,y6_n,y6_c,hs,g16,rfl⟩
  have h:=hk0
  refine T s12 (xs fun _ s24=>(xn 4 fun _ j25=>?_))
  refine nq 0 [(31,.slice y6_A y6_n y6_c),(32,I8 a1)] ?_
  obtain ⟨r10,hg,h⟩:=ob h
  refine wpS.only 2 (oH 33 hs (ref01_Pack.ok hg _ (hs.rowL 0 rfl)) ?_)
  rintro ⟨r10_A,r10_n,r10_c⟩ w gw hs
  have hs:=hs.conv (L':=[.ownL CB r10_A r10_n r10_c r10 5,.ownL (CI .u32) y6_A y6_n y6_c y6 70,.blk b1 (enc .i32 a0) 32]) rfl
  refine ⟨fun _=>trivial,?_⟩
  refine qo 3 4 (.slice r10_A r10_n r10_c) ?_
  refine fj j25 s24 (xret ?_)
  obtain rfl:=of_some h
  exact qq _ _ (pt [4] [.slice r10_A r10_n r10_c] ⟨⟨r10_A,r10_n,r10_c⟩,cr,(dr [1,0,0] hs)⟩)
 | false=>
  have h:=of_if_f h
  refine go 10 (oC 17 hs (ref25_Below.ok hg _) fun w gw hs=>⟨.of gw,?_⟩)
  refine gq 11 18 (.bool true) ?_
  refine gq 12 19 (.bool true) ?_
  refine gf (j5 _ _ ?_)
  refine T s4 (ct (xs fun _ s26=>(xn 1 fun _ j27=>?_)))
  refine qo 0 4 (.slice none 0 0) ?_
  refine fj j27 s26 (xret (tr ?_))
  obtain rfl:=of_some h
  have hs:=hs.addNilL CB 5
  exact qq _ _ (pt [4] [.slice none 0 0] ⟨⟨none,0,0⟩,cr,(dr [1,0] hs)⟩)
theorem ref25_Add.ok {K:Nat}{a0 a1 r0:Arr 256}(h:ref25_Add.f K a0 a1=some r0) (w0:World):Ret Tryd.prog 53 #[ag .i32 a0,ag .i32 a1] w0 (ag .i32 r0):=by
 refine calls_k Tryd.func53 rfl fun Q qq=>?_
 have hs:=St.start w0
 refine wc (a':=(fu 19 [ag .i32 a0,ag .i32 a1])) ?_
 refine xs fun _ s1=>?_
 refine xn 3 fun _ j2=>?_
 refine so 0 (oB 2 32 (ag .i32 a0) hs (enc .i32 a0) fun b1 w gw hs=>?_)
 refine so 1 (oB 3 32 (ag .i32 a1) hs (enc .i32 a1) fun b2 w gw hs=>?_)
 refine so 2 (oN 4 32 hs (enc .i32 (zeroA 256)) (ag .i32 (zeroA 256)) fun b3 w gw hs=>?_)
 refine fj j2 s1 (xs fun _ s3=>(xs fun _ s4=>(xn 1 fun _ j5=>?_)))
 refine qo 0 5 (I8 0) ?_
 refine fj j5 s4 (?_)
 obtain ⟨y6,hy,hk0⟩:=ob h
 refine wp_exq (N:=fun a w=>St w0 [] [.blk b3 (enc .i32 (zeroA 256)) 32,.blk b2 (enc .i32 a1) 32,.blk b1 (enc .i32 y6) 32] [] w∧∃ g7,a=fr g7 21 [(2,[P0 b1]),(4,[P0 b3])]) (fun N0 nn0=>?_) ?_
 clear hk0
 refine xb ?_
 refine wp_loop_k (fun n a w=>∃ z4 z5,ref25_Add.l0 K n a1 z4 z5=some y6∧St w0 [] [.blk b3 (enc .i32 (zeroA 256)) 32,.blk b2 (enc .i32 a1) 32,.blk b1 (enc .i32 z5) 32] [] w∧∃ g6,a=fr g6 21 [(2,[P0 b1,P0 b2,P0 b3,I8 z4])]) K ⟨0,a0,hy,hs.conv rfl,eg⟩ ?_
 clear hs h hy
 rintro n a w ⟨z4,z5,h,hs,g6,rfl⟩ KL0 kl0
 cases n with
 | zero=>exact nomatch (show none=some _ from h)
 | succ n=>
  refine xs fun _ s8=>?_
  refine xs fun _ s9=>?_
  refine xn 2 fun _ j10=>?_
  refine qo 0 6 (I8 z4) ?_
  obtain ⟨hc,h⟩|⟨hc,h⟩:=of_if h
  refine tb 1 7 (dt hc) ?_
  refine fj j10 s9 (ct (xk (T s8 (xs fun _ s11=>(xb ?_)))))
  refine rg [10] (fun k=>True) 11 fun _ j12=>?_
  have hs:=hs.drawn1
  refine gq 0 10 (I8 z4) ?_
  refine gq 1 11 (I8 z4) ?_
  obtain ⟨i0_13,i1_13,h⟩:=oc2 h
  refine tgf 2 12 (P1 b1 z4) (yi 32 21 256 1 .i64 z4 i0_13 i1_13) ?_
  refine tgt 3 13 (I4 (rd z5 z4)) (yA hs 2 21 z4 rfl i0_13 i1_13 .grow) ?_
  refine gq 4 14 (I8 z4) ?_
  obtain ⟨i0_14,i1_14,h⟩:=oc2 h
  refine tgf 5 15 (P1 b2 z4) (yi 32 21 256 1 .i64 z4 i0_14 i1_14) ?_
  refine tgt 6 16 (I4 (rd a1 z4)) (yA hs 1 21 z4 rfl i0_14 i1_14 .grow) ?_
  refine gq 7 17 (I4 (iadd .i32 (rd z5 z4) (rd a1 z4))) ?_
  refine gq 8 18 (I4 (irem .i32 (iadd .i32 (rd z5 z4) (rd a1 z4)) 3329)) ?_
  obtain ⟨i0_15,i1_15,h⟩:=oc2 h
  refine tgf 9 19 (P1 b1 z4) (yi 32 21 256 1 .i64 z4 i0_15 i1_15) ?_
  obtain ⟨x7,hx,h⟩:=ob h
  refine go 10 (oA 21 x7 z4 hs 2 rfl (by cases hx; kernel_rfl) i0_15 i1_15 fun w kp hs=>⟨⟨fun hf=>absurd hf (by decide),.all _ _⟩,?_⟩)
  refine gf (j12 _ _ ?_)
  refine iN (T s11 (xn 3 fun _ j16=>?_))
  refine nq 0 [(8,I8 z4),(9,I8 (iadd .i64 z4 1))] ?_
  obtain ⟨x8,hx,h⟩:=ob h
  refine tkf 2 5 (I8 x8) (yn hx) ?_
  refine fin (j16 _ _ ?_)
  exact tn (kl0 _ _ ⟨n,ls n,x8,(wr z5 z4 x7),h,(hs.conv rfl),eg⟩)
  refine tb 1 7 (df hc) ?_
  refine fj j10 s9 (cf (xexit (tx (tx (iH ?_)))))
  obtain rfl:=of_some h
  exact exq_n (nn0 _ _ ⟨(hs.conv rfl),eg⟩)
 clear hs h hy
 rintro a w ⟨hs,g7,rfl⟩
 have h:=hk0
 refine T s3 (xs fun _ s17=>(xn 2 fun _ j18=>?_))
 refine tkt 0 20 (ag .i32 y6) (yWe 32 hs 2 .grow) ?_
 refine so 1 (oWe 32 .i32 y6 hs 0 fun w kp hs=>?_)
 refine fj j18 s17 (xret ?_)
 obtain rfl:=of_some h
 exact qq _ _ (pr (rr [.cell 4 32] [ag .i32 y6] (.cons (rcN 256 hs 0 rfl (enc_len _ _)) .nil)) ⟨cr,hs.none⟩)
theorem ref25_Mul.ok {K:Nat}{a0 a1 r0:Arr 256}(h:ref25_Mul.f K a0 a1=some r0) (w0:World):Ret Tryd.prog 91 #[ag .i32 a0,ag .i32 a1] w0 (ag .i32 r0):=by
 refine calls_k Tryd.func91 rfl fun Q qq=>?_
 have hs:=St.start w0
 refine wc (a':=(fu 73 [ag .i32 a0,ag .i32 a1])) ?_
 refine xs fun _ s1=>?_
 refine xn 3 fun _ j2=>?_
 refine so 0 (oB 2 32 (ag .i32 a0) hs (enc .i32 a0) fun b1 w gw hs=>?_)
 refine so 1 (oB 3 32 (ag .i32 a1) hs (enc .i32 a1) fun b2 w gw hs=>?_)
 refine so 2 (oN 4 32 hs (enc .i32 (zeroA 256)) (ag .i32 (zeroA 256)) fun b3 w gw hs=>?_)
 refine fj j2 s1 (xs fun _ s3=>(xn 3 fun _ j4=>?_))
 obtain ⟨r4,hg,h⟩:=ob h
 refine so 0 (oC 9 hs (ref25_powers.ok hg _) fun w gw hs=>?_)
 refine so 1 (oN 5 31 hs (enc .i32 (zeroA 256)) (ag .i32 (zeroA 256)) fun b5 w gw hs=>?_)
 refine so 2 (oWe 31 .i32 r4 hs 0 fun w kp hs=>?_)
 refine fj j4 s3 (xs fun _ s5=>(xn 1 fun _ j6=>?_))
 refine so 0 (oN 6 32 hs (enc .i32 (zeroA 256)) (ag .i32 (zeroA 256)) fun b6 w gw hs=>?_)
 refine fj j6 s5 (xs fun _ s7=>(xs fun _ s8=>(xn 1 fun _ j9=>?_)))
 refine qo 0 7 (I8 0) ?_
 refine fj j9 s8 (?_)
 obtain ⟨y9,hy,hk0⟩:=ob h
 refine wp_exq (N:=fun a w=>St w0 [] [.blk b6 (enc .i32 y9) 32,.blk b5 (enc .i32 r4) 31,.blk b3 (enc .i32 (zeroA 256)) 32,.blk b2 (enc .i32 a1) 32,.blk b1 (enc .i32 a0) 32] [] w∧∃ g11,a=fr g11 75 [(4,[P0 b3]),(6,[P0 b6])]) (fun N0 nn0=>?_) ?_
 clear hk0
 refine xb ?_
 refine wp_loop_k (fun n a w=>∃ z7 z8,ref25_Mul.l0 K n a0 a1 r4 z7 z8=some y9∧St w0 [] [.blk b6 (enc .i32 z8) 32,.blk b5 (enc .i32 r4) 31,.blk b3 (enc .i32 (zeroA 256)) 32,.blk b2 (enc .i32 a1) 32,.blk b1 (enc .i32 a0) 32] [] w∧∃ g10,a=fr g10 75 [(2,[P0 b1,P0 b2,P0 b3,P0 b5,P0 b6,I8 z7])]) K ⟨0,(zeroA 256),hy,hs.conv rfl,eg⟩ ?_
 clear hs h hy
 rintro n a w ⟨z7,z8,h,hs,g10,rfl⟩ KL0 kl0
 cases n with
 | zero=>exact nomatch (show none=some _ from h)
 | succ n=>
  refine xs fun _ s12=>?_
  refine xs fun _ s13=>?_
  refine xn 2 fun _ j14=>?_
  refine qo 0 10 (I8 z7) ?_
  obtain ⟨hc,h⟩|⟨hc,h⟩:=of_if h
  refine tb 1 11 (dt hc) ?_
  refine fj j14 s13 (ct (xk (T s12 (xs fun _ s15=>(xb (xs fun _ s16=>(xn 7 fun _ j17=>?_)))))))
  refine qo 0 14 (I8 z7) ?_
  obtain ⟨r10,hg,h⟩:=ob h
  refine so 1 (oC 15 hs (ref25_turned.ok hg _) fun w gw hs=>?_)
  refine nq 2 [(16,I8 (imul .i64 2 r10)),(17,I8 (iadd .i64 (imul .i64 2 r10) 1))] ?_
  obtain ⟨x11,hx,h⟩:=ob h
  have hx:=of_some hx
  subst hx
  obtain ⟨i0_18,i1_18,h⟩:=oc2 h
  refine tkf 4 18 (.pointer (some ⟨b5,0+((iadd .i64 (imul .i64 2 r10) 1):Int).toNat*1,none⟩)) (yi 31 21 256 1 .i64 (iadd .i64 (imul .i64 2 r10) 1) i0_18 i1_18) ?_
  refine tkt 5 19 (I4 (rd r4 (iadd .i64 (imul .i64 2 r10) 1))) (yA hs 1 21 (iadd .i64 (imul .i64 2 r10) 1) rfl i0_18 i1_18 .grow) ?_
  obtain ⟨x12,hx,h⟩:=ob h
  refine tkf 6 8 (I4 x12) (yn hx) ?_
  refine fj j17 s16 (xs fun _ s19=>?_)
  refine rg [28] (fun k=>True) 29 fun _ j20=>?_
  have hs:=hs.drawn1
  refine gq 0 20 (I8 z7) ?_
  refine gq 1 21 (I8 (imul .i64 2 z7)) ?_
  refine gq 2 22 (I8 z7) ?_
  refine gq 3 23 (I8 (imul .i64 2 z7)) ?_
  obtain ⟨x13,hx,h⟩:=ob h
  have hx:=of_some hx
  subst hx
  obtain ⟨i0_21,i1_21,h⟩:=oc2 h
  refine tgf 4 24 (P1 b1 (imul .i64 2 z7)) (yi 32 21 256 1 .i64 (imul .i64 2 z7) i0_21 i1_21) ?_
  refine tgt 5 25 (I4 (rd a0 (imul .i64 2 z7))) (yA hs 4 21 (imul .i64 2 z7) rfl i0_21 i1_21 .grow) ?_
  refine gq 6 26 (I8 z7) ?_
  refine gq 7 27 (I8 (imul .i64 2 z7)) ?_
  obtain ⟨x14,hx,h⟩:=ob h
  have hx:=of_some hx
  subst hx
  obtain ⟨i0_22,i1_22,h⟩:=oc2 h
  refine tgf 8 28 (P1 b2 (imul .i64 2 z7)) (yi 32 21 256 1 .i64 (imul .i64 2 z7) i0_22 i1_22) ?_
  refine tgt 9 29 (I4 (rd a1 (imul .i64 2 z7))) (yA hs 3 21 (imul .i64 2 z7) rfl i0_22 i1_22 .grow) ?_
  refine gq 10 30 (I4 (imul .i32 (rd a0 (imul .i64 2 z7)) (rd a1 (imul .i64 2 z7)))) ?_
  refine gq 11 31 (I8 z7) ?_
  refine gq 12 32 (I8 (imul .i64 2 z7)) ?_
  refine gq 13 33 (I8 (iadd .i64 (imul .i64 2 z7) 1)) ?_
  obtain ⟨x15,hx,h⟩:=ob h
  have hx:=of_some hx
  subst hx
  obtain ⟨i0_23,i1_23,h⟩:=oc2 h
  refine tgf 14 34 (.pointer (some ⟨b1,0+((iadd .i64 (imul .i64 2 z7) 1):Int).toNat*1,none⟩)) (yi 32 21 256 1 .i64 (iadd .i64 (imul .i64 2 z7) 1) i0_23 i1_23) ?_
  refine tgt 15 35 (I4 (rd a0 (iadd .i64 (imul .i64 2 z7) 1))) (yA hs 4 21 (iadd .i64 (imul .i64 2 z7) 1) rfl i0_23 i1_23 .grow) ?_
  refine gq 16 36 (I8 z7) ?_
  refine gq 17 37 (I8 (imul .i64 2 z7)) ?_
  refine gq 18 38 (I8 (iadd .i64 (imul .i64 2 z7) 1)) ?_
  obtain ⟨x16,hx,h⟩:=ob h
  have hx:=of_some hx
  subst hx
  obtain ⟨i0_24,i1_24,h⟩:=oc2 h
  refine tgf 19 39 (.pointer (some ⟨b2,0+((iadd .i64 (imul .i64 2 z7) 1):Int).toNat*1,none⟩)) (yi 32 21 256 1 .i64 (iadd .i64 (imul .i64 2 z7) 1) i0_24 i1_24) ?_
  refine tgt 20 40 (I4 (rd a1 (iadd .i64 (imul .i64 2 z7) 1))) (yA hs 3 21 (iadd .i64 (imul .i64 2 z7) 1) rfl i0_24 i1_24 .grow) ?_
  refine gq 21 41 (I4 (imul .i32 (rd a0 (iadd .i64 (imul .i64 2 z7) 1)) (rd a1 (iadd .i64 (imul .i64 2 z7) 1)))) ?_
  refine gq 22 42 (I4 (irem .i32 (imul .i32 (rd a0 (iadd .i64 (imul .i64 2 z7) 1)) (rd a1 (iadd .i64 (imul .i64 2 z7) 1))) 3329)) ?_
  refine gq 23 43 (I4 x12) ?_
  refine gq 24 44 (I4 (imul .i32 (irem .i32 (imul .i32 (rd a0 (iadd .i64 (imul .i64 2 z7) 1)) (rd a1 (iadd .i64 (imul .i64 2 z7) 1))) 3329) x12)) ?_
  refine gq 25 45 (I4 (iadd .i32 (imul .i32 (rd a0 (imul .i64 2 z7)) (rd a1 (imul .i64 2 z7))) (imul .i32 (irem .i32 (imul .i32 (rd a0 (iadd .i64 (imul .i64 2 z7) 1)) (rd a1 (iadd .i64 (imul .i64 2 z7) 1))) 3329) x12))) ?_
  refine gq 26 46 (I4 (irem .i32 (iadd .i32 (imul .i32 (rd a0 (imul .i64 2 z7)) (rd a1 (imul .i64 2 z7))) (imul .i32 (irem .i32 (imul .i32 (rd a0 (iadd .i64 (imul .i64 2 z7) 1)) (rd a1 (iadd .i64 (imul .i64 2 z7) 1))) 3329) x12)) 3329)) ?_
  obtain ⟨x17,hx,h⟩:=ob h
  have hx:=of_some hx
  subst hx
  obtain ⟨i0_25,i1_25,h⟩:=oc2 h
  refine tgf 27 47 (P1 b6 (imul .i64 2 z7)) (yi 32 21 256 1 .i64 (imul .i64 2 z7) i0_25 i1_25) ?_
  obtain ⟨x18,hx,h⟩:=ob h
  refine go 28 (oA 21 x18 (imul .i64 2 z7) hs 0 rfl (by cases hx; kernel_rfl) i0_25 i1_25 fun w kp hs=>⟨⟨fun hf=>absurd hf (by decide),.all _ _⟩,?_⟩)
  refine gf (j20 _ _ ?_)
  refine T s19 (?_)
  refine rg [26] (fun k=>True) 27 fun _ j26=>?_
  have hs:=hs.drawn1
  refine gq 0 48 (I8 z7) ?_
  refine gq 1 49 (I8 (imul .i64 2 z7)) ?_
  refine gq 2 50 (I8 (iadd .i64 (imul .i64 2 z7) 1)) ?_
  refine gq 3 51 (I8 z7) ?_
  refine gq 4 52 (I8 (imul .i64 2 z7)) ?_
  obtain ⟨x19,hx,h⟩:=ob h
  have hx:=of_some hx
  subst hx
  obtain ⟨i0_27,i1_27,h⟩:=oc2 h
  refine tgf 5 53 (P1 b1 (imul .i64 2 z7)) (yi 32 21 256 1 .i64 (imul .i64 2 z7) i0_27 i1_27) ?_
  refine tgt 6 54 (I4 (rd a0 (imul .i64 2 z7))) (yA hs 4 21 (imul .i64 2 z7) rfl i0_27 i1_27 .grow) ?_
  refine gq 7 55 (I8 z7) ?_
  refine gq 8 56 (I8 (imul .i64 2 z7)) ?_
  refine gq 9 57 (I8 (iadd .i64 (imul .i64 2 z7) 1)) ?_
  obtain ⟨x20,hx,h⟩:=ob h
  have hx:=of_some hx
  subst hx
  obtain ⟨i0_28,i1_28,h⟩:=oc2 h
  refine tgf 10 58 (.pointer (some ⟨b2,0+((iadd .i64 (imul .i64 2 z7) 1):Int).toNat*1,none⟩)) (yi 32 21 256 1 .i64 (iadd .i64 (imul .i64 2 z7) 1) i0_28 i1_28) ?_
  refine tgt 11 59 (I4 (rd a1 (iadd .i64 (imul .i64 2 z7) 1))) (yA hs 3 21 (iadd .i64 (imul .i64 2 z7) 1) rfl i0_28 i1_28 .grow) ?_
  refine gq 12 60 (I4 (imul .i32 (rd a0 (imul .i64 2 z7)) (rd a1 (iadd .i64 (imul .i64 2 z7) 1)))) ?_
  refine gq 13 61 (I8 z7) ?_
  refine gq 14 62 (I8 (imul .i64 2 z7)) ?_
  refine gq 15 63 (I8 (iadd .i64 (imul .i64 2 z7) 1)) ?_
  obtain ⟨x21,hx,h⟩:=ob h
  have hx:=of_some hx
  subst hx
  obtain ⟨i0_29,i1_29,h⟩:=oc2 h
  refine tgf 16 64 (.pointer (some ⟨b1,0+((iadd .i64 (imul .i64 2 z7) 1):Int).toNat*1,none⟩)) (yi 32 21 256 1 .i64 (iadd .i64 (imul .i64 2 z7) 1) i0_29 i1_29) ?_
  refine tgt 17 65 (I4 (rd a0 (iadd .i64 (imul .i64 2 z7) 1))) (yA hs 4 21 (iadd .i64 (imul .i64 2 z7) 1) rfl i0_29 i1_29 .grow) ?_
  refine gq 18 66 (I8 z7) ?_
  refine gq 19 67 (I8 (imul .i64 2 z7)) ?_
  obtain ⟨x22,hx,h⟩:=ob h
  have hx:=of_some hx
  subst hx
  obtain ⟨i0_30,i1_30,h⟩:=oc2 h
  refine tgf 20 68 (P1 b2 (imul .i64 2 z7)) (yi 32 21 256 1 .i64 (imul .i64 2 z7) i0_30 i1_30) ?_
  refine tgt 21 69 (I4 (rd a1 (imul .i64 2 z7))) (yA hs 3 21 (imul .i64 2 z7) rfl i0_30 i1_30 .grow) ?_
  refine gq 22 70 (I4 (imul .i32 (rd a0 (iadd .i64 (imul .i64 2 z7) 1)) (rd a1 (imul .i64 2 z7)))) ?_
  refine gq 23 71 (I4 (iadd .i32 (imul .i32 (rd a0 (imul .i64 2 z7)) (rd a1 (iadd .i64 (imul .i64 2 z7) 1))) (imul .i32 (rd a0 (iadd .i64 (imul .i64 2 z7) 1)) (rd a1 (imul .i64 2 z7))))) ?_
  refine gq 24 72 (I4 (irem .i32 (iadd .i32 (imul .i32 (rd a0 (imul .i64 2 z7)) (rd a1 (iadd .i64 (imul .i64 2 z7) 1))) (imul .i32 (rd a0 (iadd .i64 (imul .i64 2 z7) 1)) (rd a1 (imul .i64 2 z7)))) 3329)) ?_
  obtain ⟨x23,hx,h⟩:=ob h
  have hx:=of_some hx
  subst hx
  obtain ⟨i0_31,i1_31,h⟩:=oc2 h
  refine tgf 25 73 (.pointer (some ⟨b6,0+((iadd .i64 (imul .i64 2 z7) 1):Int).toNat*1,none⟩)) (yi 32 21 256 1 .i64 (iadd .i64 (imul .i64 2 z7) 1) i0_31 i1_31) ?_
  obtain ⟨x24,hx,h⟩:=ob h
  refine go 26 (oA 21 x24 (iadd .i64 (imul .i64 2 z7) 1) hs 0 rfl (by cases hx; kernel_rfl) i0_31 i1_31 fun w kp hs=>⟨⟨fun hf=>absurd hf (by decide),.all _ _⟩,?_⟩)
  refine gf (j26 _ _ ?_)
  refine iN (T s15 (xn 3 fun _ j32=>?_))
  refine nq 0 [(12,I8 z7),(13,I8 (iadd .i64 z7 1))] ?_
  obtain ⟨x25,hx,h⟩:=ob h
  refine tkf 2 7 (I8 x25) (yn hx) ?_
  refine fin (j32 _ _ ?_)
  exact tn (kl0 _ _ ⟨n,ls n,x25,(wr (wr z8 (imul .i64 2 z7) x18) (iadd .i64 (imul .i64 2 z7) 1) x24),h,(hs.conv rfl),eg⟩)
  refine tb 1 11 (df hc) ?_
  refine fj j14 s13 (cf (xexit (tx (tx (iH ?_)))))
  obtain rfl:=of_some h
  exact exq_n (nn0 _ _ ⟨(hs.conv rfl),eg⟩)
 clear hs h hy
 rintro a w ⟨hs,g11,rfl⟩
 have h:=hk0
 refine T s7 (xs fun _ s33=>(xn 2 fun _ j34=>?_))
 refine tkt 0 74 (ag .i32 y9) (yWe 32 hs 0 .grow) ?_
 refine so 1 (oWe 32 .i32 y9 hs 2 fun w kp hs=>?_)
 refine fj j34 s33 (xret ?_)
 obtain rfl:=of_some h
 exact qq _ _ (pr (rr [.cell 4 32] [ag .i32 y9] (.cons (rcN 256 hs 2 rfl (enc_len _ _)) .nil)) ⟨cr,hs.none⟩)
theorem ref26_dot.ok {K:Nat}{a0 a1:List (Arr 256)}{r0:Arr 256}{a0_A:Option Addr}{a0_n a0_c:Nat}{a1_A:Option Addr}{a1_n a1_c:Nat}(h:ref26_dot.f K a0 a1=some r0) (w0:World) (hp0:RowL CZ w0 a0_A a0_n a0_c a0) (hp1:RowL CZ w0 a1_A a1_n a1_c a1):Ret Tryd.prog 54 #[.slice a0_A a0_n a0_c,.slice a1_A a1_n a1_c] w0 (ag .i32 r0):=by
 refine calls_k Tryd.func54 rfl fun Q qq=>?_
 have hs:=St.startR (all_cons (RowP.ent hp0) (all_cons (RowP.ent hp1) all_nil))
 refine wc (a':=(fu 23 [.slice a0_A a0_n a0_c,.slice a1_A a1_n a1_c])) ?_
 refine xs fun _ s1=>?_
 refine xn 1 fun _ j2=>?_
 refine so 0 (oN 4 32 hs (enc .i32 (zeroA 256)) (ag .i32 (zeroA 256)) fun b1 w gw hs=>?_)
 refine fj j2 s1 (xs fun _ s3=>(xn 1 fun _ j4=>?_))
 refine so 0 (oN 5 32 hs (enc .i32 (zeroA 256)) (ag .i32 (zeroA 256)) fun b2 w gw hs=>?_)
 refine fj j4 s3 (xs fun _ s5=>(xs fun _ s6=>(xn 1 fun _ j7=>?_)))
 refine qo 0 6 (I8 0) ?_
 refine fj j7 s6 (?_)
 obtain ⟨y5,hy,hk0⟩:=ob h
 refine wp_exq (N:=fun a w=>St w0 [] [.blk b2 (enc .i32 y5) 32,.blk b1 (enc .i32 (zeroA 256)) 32] [.rowL CZ a0_A a0_n a0_c a0,.rowL CZ a1_A a1_n a1_c a1] w∧∃ g9,a=fr g9 25 [(4,[P0 b1,P0 b2])]) (fun N0 nn0=>?_) ?_
 clear hk0
 refine xb ?_
 refine wp_loop_k (fun n a w=>∃ z3 z4,ref26_dot.l0 K n a0 a1 z3 z4=some y5∧St w0 [] [.blk b2 (enc .i32 z4) 32,.blk b1 (enc .i32 (zeroA 256)) 32] [.rowL CZ a0_A a0_n a0_c a0,.rowL CZ a1_A a1_n a1_c a1] w∧∃ g8,a=fr g8 25 [(0,[.slice a0_A a0_n a0_c,.slice a1_A a1_n a1_c]),(4,[P0 b1,P0 b2,I8 z3])]) K ⟨0,(zeroA 256),hy,hs.conv rfl,eg⟩ ?_
 clear hs h hy
 rintro n a w ⟨z3,z4,h,hs,g8,rfl⟩ KL0 kl0
 cases n with
 | zero=>exact nomatch (show none=some _ from h)
 | succ n=>
  refine xs fun _ s10=>?_
  refine xs fun _ s11=>?_
  refine xn 4 fun _ j12=>?_
  refine nq 0 [(7,I8 z3),(8,.slice a0_A a0_n a0_c)] ?_
  refine tkf 2 9 (I8 (a0.length:Int)) (yl (hs.rowR 0 rfl)) ?_
  obtain ⟨hc,h⟩|⟨hc,h⟩:=of_if h
  refine tb 3 10 (dt hc) ?_
  refine fj j12 s11 (ct (xk (T s10 (xs fun _ s13=>(xb ?_)))))
  refine rg [11] (fun k=>True) 12 fun _ j14=>?_
  have hs:=hs.drawn1
  refine tgt 0 13 (ag .i32 z4) (yWe 32 hs 0 .grow) ?_
  refine gq 1 14 (.slice a0_A a0_n a0_c) ?_
  refine gq 2 15 (I8 z3) ?_
  obtain ⟨h0,h1,h⟩:=oc2 h
  have i0_15:=h0
  have i1_15:=h1
  refine tgf 3 16 (PA CZ a0_A z3) (yiL (C:=CZ) 77 32 .i64 z3 (hs.rowR 0 rfl) h0 h1) ?_
  refine tgt 4 17 (ag .i32 (rdL CZ a0 z3)) (yLA (C:=CZ) 32 z3 (hs.rowR 0 rfl) rfl i0_15 i1_15) ?_
  refine gq 5 18 (.slice a1_A a1_n a1_c) ?_
  refine gq 6 19 (I8 z3) ?_
  obtain ⟨h0,h1,h⟩:=oc2 h
  have i0_16:=h0
  have i1_16:=h1
  refine tgf 7 20 (PA CZ a1_A z3) (yiL (C:=CZ) 77 32 .i64 z3 (hs.rowR 1 rfl) h0 h1) ?_
  refine tgt 8 21 (ag .i32 (rdL CZ a1 z3)) (yLA (C:=CZ) 32 z3 (hs.rowR 1 rfl) rfl i0_16 i1_16) ?_
  obtain ⟨r6,hg,h⟩:=ob h
  refine go 9 (oC 22 hs (ref25_Mul.ok hg _) fun w gw hs=>⟨.of gw,?_⟩)
  obtain ⟨r7,hg,h⟩:=ob h
  refine go 10 (oC 23 hs (ref25_Add.ok hg _) fun w gw hs=>⟨.of gw,?_⟩)
  refine go 11 (oWe 32 .i32 r7 hs 0 fun w kp hs=>⟨⟨fun hf=>absurd hf (by decide),.all _ _⟩,?_⟩)
  refine gf (j14 _ _ ?_)
  refine iN (T s13 (xn 3 fun _ j17=>?_))
  refine nq 0 [(11,I8 z3),(12,I8 (iadd .i64 z3 1))] ?_
  obtain ⟨x8,hx,h⟩:=ob h
  refine tkf 2 6 (I8 x8) (yn hx) ?_
  refine fin (j17 _ _ ?_)
  exact tn (kl0 _ _ ⟨n,ls n,x8,r7,h,(hs.conv rfl),eg⟩)
  refine tb 3 10 (df hc) ?_
  refine fj j12 s11 (cf (xexit (tx (tx (iH ?_)))))
  obtain rfl:=of_some h
  exact exq_n (nn0 _ _ ⟨(hs.conv rfl),eg⟩)
 clear hs h hy
 rintro a w ⟨hs,g9,rfl⟩
 have h:=hk0
 refine T s5 (xs fun _ s18=>(xn 2 fun _ j19=>?_))
 refine tkt 0 24 (ag .i32 y5) (yWe 32 hs 0 .grow) ?_
 refine so 1 (oWe 32 .i32 y5 hs 1 fun w kp hs=>?_)
 refine fj j19 s18 (xret ?_)
 obtain rfl:=of_some h
 exact qq _ _ (pr (rr [.cell 4 32] [ag .i32 y5] (.cons (rcN 256 hs 1 rfl (enc_len _ _)) .nil)) ⟨cr,hs.none⟩)
theorem ref26_matrix_s.ok {K:Nat}{ca0 ca1 ca2 ca3 ca4:Int}{ca5:List Int}{y1:List (List (Arr 256))}{y2:Int}{ca5_A:Option Addr}{ca5_n ca5_c:Nat}(h:ref26_matrix_s.f K ca0 ca1 ca2 ca3 ca4 ca5=some (y1,y2)){w0 w:World}{X:List Nat}{Lt Rt:List Ent}(hs:St w0 X Lt (.rowL CB ca5_A ca5_n ca5_c ca5::Rt) w):Calls Tryd.prog 49 #[.agg #[I8 ca0,I8 ca1,I8 ca2,I8 ca3,I8 ca4],.slice ca5_A ca5_n ca5_c] w fun e w'=>∃ (y1_A:Option Addr) (y1_n:Nat) (y1_c:Nat) (y1_H:List HS),e = .returned (.tuple #[.slice y1_A y1_n y1_c,I8 y2])∧St w0 X (.ownL CS y1_A y1_n y1_c y1_H 77::Lt) (.inn CZ y1_H y1::.rowL CB ca5_A ca5_n ca5_c ca5::Rt) w':=by
 refine calls_k Tryd.func49 rfl fun Q qq=>?_
 refine wc (a':=(fu 43 [.agg #[I8 ca0,I8 ca1,I8 ca2,I8 ca3,I8 ca4],.slice ca5_A ca5_n ca5_c])) ?_
 refine xs fun _ s1=>?_
 refine xn 3 fun _ j2=>?_
 refine so 0 (oB 2 23 (.agg #[I8 ca0,I8 ca1,I8 ca2,I8 ca3,I8 ca4]) hs ([I8 ca0,I8 ca1,I8 ca2,I8 ca3,I8 ca4]) fun b3 w gw hs=>?_)
 refine nq 1 [(4,.slice none 0 0),(5,I8 0)] ?_
 refine fj j2 s1 (xs fun _ s3=>(xn 1 fun _ j4=>?_))
 refine qo 0 6 (.slice none 0 0) ?_
 refine fj j4 s3 (xs fun _ s5=>(xs fun _ s6=>(xn 1 fun _ j7=>?_)))
 refine qo 0 7 (I8 0) ?_
 refine fj j7 s6 (?_)
 have hs:=(hs.addNilL CS 77).addInn0 CZ
 obtain ⟨t0,hy,hk0⟩:=ob h
 refine wp_exq (N:=fun a w=>∃ y6,∃ (y6_A:Option Addr) (y6_n:Nat) (y6_c:Nat) (y6_H:List HS),t0 = .inl y6∧St w0 X (.ownL CS y6_A y6_n y6_c y6_H 77::.blk b3 ([I8 ca0,I8 ca1,I8 ca2,I8 ca3,I8 ca4]) 23::Lt) (.inn CZ y6_H y6::.rowL CB ca5_A ca5_n ca5_c ca5::Rt) w∧∃ g9,a=fr g9 45 [(6,[.slice y6_A y6_n y6_c])]) (fun N0 nn0=>?_) ?_
 refine xb ?_
 refine wp_loop_k (fun n a w=>∃ z4 z5,∃ (z5_A:Option Addr) (z5_n:Nat) (z5_c:Nat) (z5_H:List HS),ref26_matrix_s.l0 K n ca0 ca5 z4 z5=some t0∧St w0 X (.ownL CS z5_A z5_n z5_c z5_H 77::.blk b3 ([I8 ca0,I8 ca1,I8 ca2,I8 ca3,I8 ca4]) 23::Lt) (.inn CZ z5_H z5::.rowL CB ca5_A ca5_n ca5_c ca5::Rt) w∧∃ g8,a=fr g8 45 [(1,[.slice ca5_A ca5_n ca5_c,P0 b3]),(6,[.slice z5_A z5_n z5_c,I8 z4])]) K ⟨0,([]:List (List (Arr 256))),none,0,0,[],hy,hs.conv rfl,eg⟩ ?_
 clear hs h hy
 rintro n a w ⟨z4,z5,z5_A,z5_n,z5_c,z5_H,h,hs,g8,rfl⟩ KL0 kl0
 cases n with
 | zero=>exact nomatch (show none=some _ from h)
 | succ n=>
  refine xs fun _ s10=>?_
  refine xs fun _ s11=>?_
  refine xn 4 fun _ j12=>?_
  refine nq 0 [(12,I8 z4),(13,P0 b3)] ?_
  refine tkt 2 14 (I8 ca0) (yv hs 1 0 3 rfl (by rfl) .grow) ?_
  obtain ⟨hc,h⟩|⟨hc,h⟩:=of_if h
  refine tb 3 15 (dt hc) ?_
  refine fj j12 s11 (ct (xk (T s10 (xs fun _ s13=>(xb (xs fun _ s14=>(xn 1 fun _ j15=>?_)))))))
  refine qo 0 8 (.slice none 0 0) ?_
  refine fj j15 s14 (xs fun _ s16=>(xs fun _ s17=>(xn 1 fun _ j18=>?_)))
  refine qo 0 9 (I8 0) ?_
  refine fj j18 s17 (?_)
  have hs:=hs.addNilL CZ 32
  obtain ⟨t1,hy,hk1⟩:=ob h
  refine wp_exq (N:=fun a w=>∃ y9,∃ y9_A y9_n y9_c,t1 = .inl y9∧St w0 X (.ownL CZ y9_A y9_n y9_c y9 32::.ownL CS z5_A z5_n z5_c z5_H 77::.blk b3 ([I8 ca0,I8 ca1,I8 ca2,I8 ca3,I8 ca4]) 23::Lt) (.inn CZ z5_H z5::.rowL CB ca5_A ca5_n ca5_c ca5::Rt) w∧∃ g20,a=fr g20 45 [(1,[.slice ca5_A ca5_n ca5_c,P0 b3]),(6,[.slice z5_A z5_n z5_c,I8 z4,.slice y9_A y9_n y9_c])]) (fun N1 nn1=>?_) ?_
  refine xb ?_
  refine wp_loop_k (fun n a w=>∃ z7 z8,∃ z8_A z8_n z8_c,ref26_matrix_s.l1 K n ca0 ca5 z4 z7 z8=some t1∧St w0 X (.ownL CZ z8_A z8_n z8_c z8 32::.ownL CS z5_A z5_n z5_c z5_H 77::.blk b3 ([I8 ca0,I8 ca1,I8 ca2,I8 ca3,I8 ca4]) 23::Lt) (.inn CZ z5_H z5::.rowL CB ca5_A ca5_n ca5_c ca5::Rt) w∧∃ g19,a=fr g19 45 [(1,[.slice ca5_A ca5_n ca5_c,P0 b3]),(6,[.slice z5_A z5_n z5_c,I8 z4,.slice z8_A z8_n z8_c,I8 z7])]) K ⟨0,([]:List (Arr 256)),none,0,0,hy,hs.conv rfl,eg⟩ ?_
  clear hs h hy
  rintro n a w ⟨z7,z8,z8_A,z8_n,z8_c,h,hs,g19,rfl⟩ KL1 kl1
  cases n with
  | zero=>exact nomatch (show none=some _ from h)
  | succ n=>
   refine xs fun _ s21=>?_
   refine xs fun _ s22=>?_
   refine xn 4 fun _ j23=>?_
   refine nq 0 [(18,I8 z7),(19,P0 b3)] ?_
   refine tkt 2 20 (I8 ca0) (yv hs 2 0 3 rfl (by rfl) .grow) ?_
   obtain ⟨hc,h⟩|⟨hc,h⟩:=of_if h
   refine tb 3 21 (dt hc) ?_
   refine fj j23 s22 (ct (xk (T s21 (xs fun _ s24=>(xb (xs fun _ s25=>(xn 12 fun _ j26=>?_)))))))
   refine nq 0 [(25,.slice ca5_A ca5_n ca5_c),(26,I8 z4),(27,U1 (iconv .u8 z4)),(28,I8 z7),(29,U1 (iconv .u8 z7))] ?_
   obtain ⟨⟨r10,r11⟩,hg,h⟩:=ob h
   refine so 5 (oC 30 hs (ref26_Parts.ok hg _ (hs.rowR 1 rfl)) fun w gw hs=>?_)
   refine nq 6 [(24,.tuple #[ag .i32 r10,I8 r11]),(31,ag .i32 r10),(32,I8 r11)] ?_
   refine so 9 (oN 10 32 hs (enc .i32 (zeroA 256)) (ag .i32 (zeroA 256)) fun b12 w gw hs=>?_)
   refine so 10 (oWe 32 .i32 r10 hs 0 fun w kp hs=>?_)
   refine qo 11 11 (I8 r11) ?_
   refine fj j26 s25 (xs fun _ s27=>(xs fun _ s28=>(xn 2 fun _ j29=>?_)))
   refine qo 0 33 (I8 r11) ?_
   obtain ⟨hc,h⟩|⟨hc,h⟩:=of_if h
   refine tb 1 34 (nf hc) ?_
   refine fj j29 s28 (cf (xk (T s27 (xn 5 fun _ j30=>?_))))
   refine qo 0 36 (.slice z8_A z8_n z8_c) ?_
   refine tkt 1 37 (ag .i32 r10) (yWe 32 hs 0 .grow) ?_
   refine so 2 (oLL (C:=CZ) 38 77 32 1 (ag .i32 (zeroA 256)) #[(0,ag .i32 r10)] [r10] hs rfl rfl (by decide) (by decide) fun s13_A s13_n s13_c w gw hs=>?_)
   obtain ⟨h0,h⟩:=oc h
   refine so 3 (oAp (C:=CZ) 39 77 77 32 1024 137438953472 hs 2 rfl (hs.rowL 0 rfl) h0 (by decide) (by decide) fun s14_A s14_n s14_c w hs=>?_)
   refine qo 4 8 (.slice s14_A s14_n s14_c) ?_
   refine fin (j30 _ _ (iN (T s24 (xn 3 fun _ j31=>?_))))
   refine nq 0 [(22,I8 z7),(23,I8 (iadd .i64 z7 1))] ?_
   obtain ⟨x15,hx,h⟩:=ob h
   refine tkf 2 9 (I8 x15) (yn hx) ?_
   refine fin (j31 _ _ ?_)
   exact tn (kl1 _ _ ⟨n,ls n,x15,(z8++([r10]:List (Arr 256))),s14_A,s14_n,s14_c,h,(dr [0,0,1,1,1] hs),eg⟩)
   refine tb 1 34 (nt hc) ?_
   refine fj j29 s28 (ct (xs fun _ s32=>(xn 3 fun _ j33=>?_)))
   refine nq 0 [(35,I8 r11),(4,.slice none 0 0),(5,I8 r11)] ?_
   refine fj j33 s32 (xret (tr (iR (tr (tr (iR (exq_r (tr (iR (tr (tr (iR (exq_r (tr ?_))))))))))))))
   obtain rfl:=of_some h
   have q0:=of_some hk1
   subst q0
   obtain ⟨q0,qr0⟩:=Prod.mk.inj (of_some hk0)
   have q1:=qr0
   subst q0
   subst q1
   have hs:=(hs.addNilL CS 77).addInn0 CZ
   exact qq _ _ (pt [4,5] [.slice none 0 0,I8 r11] ⟨none,0,0,[],rfl,((dr [1,0,0,0,0] hs).pickR (pick_cons 0 rfl (pick_cons 2 rfl (fun _ he=>.tail _ (.tail _ (.tail _ he))))))⟩)
   refine tb 3 21 (df hc) ?_
   refine fj j23 s22 (cf (xexit (tx (tx (iH ?_)))))
   obtain rfl:=of_some h
   exact exq_n (nn1 _ _ ⟨z8,z8_A,z8_n,z8_c,rfl,(hs.conv rfl),eg⟩)
  clear hs h hy
  rintro a w ⟨y9,y9_A,y9_n,y9_c,rfl,hs,g20,rfl⟩
  have h:=hk1
  refine T s16 (xn 5 fun _ j34=>?_)
  refine nq 0 [(40,.slice z5_A z5_n z5_c),(41,.slice y9_A y9_n y9_c)] ?_
  refine so 2 (oLt (C:=CS) 42 84 77 1 (.slice none 0 0) #[(0,.slice y9_A y9_n y9_c)] ([(y9_A,y9_n,y9_c)]:List HS) hs rfl (by decide) (by decide) fun s16_A s16_n s16_c w gw hs=>?_)
  have hs:=hs.freeze 1 rfl
  obtain ⟨h0,h⟩:=oc h
  refine wpS.only 3 (oAp (C:=CS) 43 84 84 77 24 5864062014805 hs 1 rfl (hs.rowL 0 rfl) (by rw [(hs.innR 1 rfl).length]; exact h0) (by decide) (by decide) ?_)
  intro s17_A s17_n s17_c w hs
  have hs:=hs.innApp 1 0 rfl rfl
  refine ⟨fun _=>trivial,?_⟩
  refine qo 4 6 (.slice s17_A s17_n s17_c) ?_
  refine fin (j34 _ _ (iN (T s13 (xn 3 fun _ j35=>?_))))
  refine nq 0 [(16,I8 z4),(17,I8 (iadd .i64 z4 1))] ?_
  obtain ⟨x18,hx,h⟩:=ob h
  refine tkf 2 7 (I8 x18) (yn hx) ?_
  refine fin (j35 _ _ ?_)
  exact tn (kl0 _ _ ⟨n,ls n,x18,(z5++[y9]),s17_A,s17_n,s17_c,(z5_H++[(y9_A,y9_n,y9_c)]),h,((dr [0,1,1] hs).pickR (pick_cons 1 rfl (pick_cons 2 rfl (fun _ he=>.tail _ (.tail _ (.tail _ he)))))),eg⟩)
  refine tb 3 15 (df hc) ?_
  refine fj j12 s11 (cf (xexit (tx (tx (iH ?_)))))
  obtain rfl:=of_some h
  exact exq_n (nn0 _ _ ⟨z5,z5_A,z5_n,z5_c,z5_H,rfl,(hs.conv rfl),eg⟩)
 clear hs h hy
 rintro a w ⟨y6,y6_A,y6_n,y6_c,y6_H,rfl,hs,g9,rfl⟩
 have h:=hk0
 refine T s5 (xs fun _ s36=>(xn 3 fun _ j37=>?_))
 refine nq 0 [(44,.slice y6_A y6_n y6_c),(4,.slice y6_A y6_n y6_c),(5,I8 0)] ?_
 refine fj j37 s36 (xret ?_)
 obtain ⟨rfl,rfl⟩:=os2 h
 exact qq _ _ (pt [4,5] [.slice y6_A y6_n y6_c,I8 0] ⟨y6_A,y6_n,y6_c,y6_H,rfl,(dr [1,0] hs)⟩)
end Go.Proofs.YtemdbgmldljbpaaDoor

/- own -/
set_option linter.unusedVariables false
set_option linter.unusedSimpArgs false
set_option maxRecDepth 100000
set_option maxHeartbeats 4000000
namespace Go.Proofs.YtemdbgmldljbpaaDoor
open Go.Mx
attribute [local irreducible] wpOp
theorem ref26_Keys.ok {K:Nat}{a0_0 a0_1 a0_2 a0_3 a0_4:Int}{a1 r0 r1:List Int}{r2:Int}{a1_A:Option Addr}{a1_n a1_c:Nat}(h:ref26_Keys.f K a0_0 a0_1 a0_2 a0_3 a0_4 a1=some (r0,r1,r2)) (w0:World) (hp1:RowL CB w0 a1_A a1_n a1_c a1):Calls Tryd.prog 20 #[.agg #[I8 a0_0,I8 a0_1,I8 a0_2,I8 a0_3,I8 a0_4],.slice a1_A a1_n a1_c] w0 fun e w'=>∃ h:(Option Addr × Nat × Nat) × (Option Addr × Nat × Nat),e = .returned (.tuple #[.slice h.1.1 h.1.2.1 h.1.2.2,.slice h.2.1 h.2.2.1 h.2.2.2,I8 r2])∧St w0 [] [.ownL CB h.1.1 h.1.2.1 h.1.2.2 r0 5,.ownL CB h.2.1 h.2.2.1 h.2.2.2 r1 5] [] w':=by
 refine calls_k Tryd.func20 rfl fun Q qq=>?_
 have hs:=St.startR (all_cons (RowP.ent hp1) all_nil)
 refine wc (a':=(fu 91 [.agg #[I8 a0_0,I8 a0_1,I8 a0_2,I8 a0_3,I8 a0_4],.slice a1_A a1_n a1_c])) ?_
 refine xs fun _ s1=>?_
 refine xn 4 fun _ j2=>?_
 refine so 0 (oB 2 23 (.agg #[I8 a0_0,I8 a0_1,I8 a0_2,I8 a0_3,I8 a0_4]) hs ([I8 a0_0,I8 a0_1,I8 a0_2,I8 a0_3,I8 a0_4]) fun b1 w gw hs=>?_)
 refine nq 1 [(4,.slice none 0 0),(5,.slice none 0 0),(6,I8 0)] ?_
 refine fj j2 s1 (xs fun _ s3=>(xs fun _ s4=>(xn 3 fun _ j5=>?_)))
 refine tkt 0 16 (.agg #[I8 a0_0,I8 a0_1,I8 a0_2,I8 a0_3,I8 a0_4]) (yW hs 0 5 23 rfl (by simp [enc_len]) .grow) ?_
 obtain ⟨r2,hg,h⟩:=ob h
 cases r2 with
 | true=>
  have h:=of_if_t h
  refine so 1 (oC 17 hs (ref26_Known.ok hg _) fun w gw hs=>?_)
  refine qo 2 18 (.bool false) ?_
  refine fj j5 s4 (cf (xk (T s3 (xs fun _ s6=>(xs fun _ s7=>(xn 3 fun _ j8=>?_))))))
  refine qo 0 19 (.slice a1_A a1_n a1_c) ?_
  refine tkf 1 20 (I8 (a1.length:Int)) (yl (hs.rowR 0 rfl)) ?_
  obtain ⟨hc,h⟩|⟨hc,h⟩:=of_if h
  refine tb 2 21 (nf hc) ?_
  refine fj j8 s7 (cf (xk (T s6 (xs fun _ s9=>(xn 13 fun _ j10=>?_)))))
  refine nq 0 [(23,.slice a1_A a1_n a1_c),(24,P0 b1)] ?_
  refine tkt 2 25 (I8 a0_0) (yv hs 0 0 3 rfl (by rfl) .grow) ?_
  refine qo 3 26 (U1 (iconv .u8 a0_0)) ?_
  refine so 4 (oLt (C:=CB) 27 24 5 1 (U1 0) #[(0,U1 (iconv .u8 a0_0))] [(iconv .u8 a0_0)] hs rfl (by decide) (by decide) fun s3_A s3_n s3_c w gw hs=>?_)
  refine so 5 (oLt (C:=CS) 28 59 24 2 (.slice none 0 0) #[(0,.slice a1_A a1_n a1_c),(1,.slice s3_A s3_n s3_c)] ([(a1_A,a1_n,a1_c),(s3_A,s3_n,s3_c)]:List HS) hs rfl (by decide) (by decide) fun s4_A s4_n s4_c w gw hs=>?_)
  obtain ⟨r5,hg,h⟩:=ob h
  refine wpS.only 6 (oH 29 hs (ref01_Join.ok hg _ (LLP.mk (hs.rowL 0 rfl) (inn_cons (hs.rowR 0 rfl) (inn_cons (hs.rowL 1 rfl) inn_nil)))) ?_)
  rintro ⟨r5_A,r5_n,r5_c⟩ w gw hs
  have hs:=hs.conv (L':=[.ownL CB r5_A r5_n r5_c r5 5,.ownL CS s4_A s4_n s4_c ([(a1_A,a1_n,a1_c),(s3_A,s3_n,s3_c)]:List HS) 24,.ownL CB s3_A s3_n s3_c ([(iconv .u8 a0_0)]:List Int) 5,.blk b1 ([I8 a0_0,I8 a0_1,I8 a0_2,I8 a0_3,I8 a0_4]) 23]) rfl
  refine ⟨fun _=>trivial,?_⟩
  obtain ⟨⟨r6,r7⟩,hg,h⟩:=ob h
  refine wpS.only 7 (oH 30 hs (ref08_Sum.ok hg _ (hs.rowL 0 rfl)) ?_)
  rintro ⟨r6_A,r6_n,r6_c⟩ w gw hs
  have hs:=hs.conv (L':=[.ownL CB r6_A r6_n r6_c r6 5,.ownL CB r5_A r5_n r5_c r5 5,.ownL CS s4_A s4_n s4_c ([(a1_A,a1_n,a1_c),(s3_A,s3_n,s3_c)]:List HS) 24,.ownL CB s3_A s3_n s3_c ([(iconv .u8 a0_0)]:List Int) 5,.blk b1 ([I8 a0_0,I8 a0_1,I8 a0_2,I8 a0_3,I8 a0_4]) 23]) rfl
  refine ⟨fun _=>trivial,?_⟩
  refine nq 8 [(22,.tuple #[.slice r6_A r6_n r6_c,I8 r7]),(31,.slice r6_A r6_n r6_c),(32,I8 r7),(7,.slice r6_A r6_n r6_c),(8,I8 r7)] ?_
  refine fj j10 s9 (xs fun _ s11=>?_)
  refine rg [3] (fun k=>True) 9 fun _ j12=>?_
  have hs:=hs.drawn1
  refine tgt 0 34 (.agg #[I8 a0_0,I8 a0_1,I8 a0_2,I8 a0_3,I8 a0_4]) (yW hs 4 5 23 rfl (by simp [enc_len]) .grow) ?_
  refine gq 1 35 (.slice r6_A r6_n r6_c) ?_
  have hs:=hs.freeze 0 rfl
  obtain ⟨h0,h1,h⟩:=oc2 h
  obtain ⟨h2,h⟩:=oc h
  obtain ⟨s8_A,hA⟩ : ∃ A,A=if r6_c=(0:Int).toNat then r6_A else adr r6_A ((0:Int).toNat*Cod.size CB):=⟨_,rfl⟩
  obtain ⟨s8_n,hn⟩ : ∃ n,n=(32:Int).toNat-(0:Int).toNat:=⟨_,rfl⟩
  obtain ⟨s8_c,hc⟩ : ∃ c,c=r6_c-(0:Int).toNat:=⟨_,rfl⟩
  refine tgf 2 36 (.slice s8_A s8_n s8_c) (ysb (C:=CB) 24 5 none (some (I8 32)) 0 32 (hs.rowR 0 rfl) (.inl ⟨rfl,rfl⟩) (.inr ⟨_,rfl⟩) h0 h1 h2 hA hn hc) ?_
  have hs:=hs.addSub (C:=CB) 0 rfl h0 h1 h2 hA hn hc
  obtain ⟨⟨r9,r10⟩,hg,h⟩:=ob h
  refine wpG.only 3 (by kernel_rfl) (wpOp_call (d:=(some 37)) (by kernel_rfl) (fun _=>by kernel_rfl) (ref26_matrix_s.ok hg hs) ?_)
  rintro e w ⟨y11_A,y11_n,y11_c,y11_H,rfl,hs⟩
  refine ⟨_,rfl,?_⟩
  refine ⟨⟨fun hf=>absurd hf (by decide),.all _ _⟩,?_⟩
  refine gq 4 33 (.tuple #[.slice y11_A y11_n y11_c,I8 r10]) ?_
  refine gq 5 38 (.slice y11_A y11_n y11_c) ?_
  refine gq 6 39 (I8 r10) ?_
  refine gq 7 9 (.slice y11_A y11_n y11_c) ?_
  refine gq 8 10 (I8 r10) ?_
  refine gf (j12 _ _ ?_)
  refine T s11 (xs fun _ s13=>(xs fun _ s14=>(xn 2 fun _ j15=>?_)))
  refine qo 0 40 (I8 r10) ?_
  obtain ⟨hc,h⟩|⟨hc,h⟩:=of_if h
  refine tb 1 41 (nf hc) ?_
  refine fj j15 s14 (cf (xk (T s13 (xs fun _ s16=>?_))))
  refine rg [] (fun k=>True) 9 fun _ j17=>?_
  have hs:=hs.drawn1
  refine gq 0 43 (P0 b1) ?_
  refine tgt 1 44 (I8 a0_0) (yv hs 4 0 3 rfl (by rfl) .grow) ?_
  refine gq 2 45 (.pointer (some ⟨b1,1,none⟩)) ?_
  refine tgt 3 46 (I8 a0_1) (yv hs 4 1 3 rfl (by rfl) .grow) ?_
  refine gq 4 47 (.slice r6_A r6_n r6_c) ?_
  obtain ⟨h0,h1,h⟩:=oc2 h
  obtain ⟨h2,h⟩:=oc h
  obtain ⟨s15_A,hA⟩ : ∃ A,A=if r6_c=(32:Int).toNat then r6_A else adr r6_A ((32:Int).toNat*Cod.size CB):=⟨_,rfl⟩
  obtain ⟨s15_n,hn⟩ : ∃ n,n=((r6.length:Int):Int).toNat-(32:Int).toNat:=⟨_,rfl⟩
  obtain ⟨s15_c,hc⟩ : ∃ c,c=r6_c-(32:Int).toNat:=⟨_,rfl⟩
  refine tgf 5 48 (.slice s15_A s15_n s15_c) (ysb (C:=CB) 24 5 (some (I8 32)) none 32 (r6.length:Int) (hs.rowR 2 rfl) (.inr ⟨_,rfl⟩) (.inl ⟨rfl,rfl⟩) h0 h1 h2 hA hn hc) ?_
  have hs:=hs.addSub (C:=CB) 2 rfl h0 h1 h2 hA hn hc
  obtain ⟨r16,hg,h⟩:=ob h
  refine wpG.only 6 (by kernel_rfl) (oH 49 hs (ref26_row.ok hg _ (hs.rowR 0 rfl)) ?_)
  rintro ⟨r16_A,r16_n,r16_c⟩ w gw hs
  have hs:=hs.conv (L':=[.ownL CZ r16_A r16_n r16_c r16 32,.ownL CS y11_A y11_n y11_c y11_H 77,.ownL CB r5_A r5_n r5_c r5 5,.ownL CS s4_A s4_n s4_c ([(a1_A,a1_n,a1_c),(s3_A,s3_n,s3_c)]:List HS) 24,.ownL CB s3_A s3_n s3_c ([(iconv .u8 a0_0)]:List Int) 5,.blk b1 ([I8 a0_0,I8 a0_1,I8 a0_2,I8 a0_3,I8 a0_4]) 23]) rfl
  refine ⟨.of gw,?_⟩
  obtain ⟨r17,hg,h⟩:=ob h
  refine wpG.only 7 (by kernel_rfl) (oH 50 hs (ref26_ntt.ok hg _ (hs.rowL 0 rfl)) ?_)
  rintro ⟨r17_A,r17_n,r17_c⟩ w gw hs
  have hs:=hs.conv (L':=[.ownL CZ r17_A r17_n r17_c r17 32,.ownL CZ r16_A r16_n r16_c r16 32,.ownL CS y11_A y11_n y11_c y11_H 77,.ownL CB r5_A r5_n r5_c r5 5,.ownL CS s4_A s4_n s4_c ([(a1_A,a1_n,a1_c),(s3_A,s3_n,s3_c)]:List HS) 24,.ownL CB s3_A s3_n s3_c ([(iconv .u8 a0_0)]:List Int) 5,.blk b1 ([I8 a0_0,I8 a0_1,I8 a0_2,I8 a0_3,I8 a0_4]) 23]) rfl
  refine ⟨.of gw,?_⟩
  refine gq 8 11 (.slice r17_A r17_n r17_c) ?_
  refine gf (j17 _ _ ?_)
  refine T s16 (xs fun _ s18=>?_)
  refine rg [] (fun k=>True) 11 fun _ j19=>?_
  have hs:=hs.drawn1
  refine gq 0 51 (P0 b1) ?_
  refine tgt 1 52 (I8 a0_0) (yv hs 6 0 3 rfl (by rfl) .grow) ?_
  refine gq 2 53 (.pointer (some ⟨b1,1,none⟩)) ?_
  refine tgt 3 54 (I8 a0_1) (yv hs 6 1 3 rfl (by rfl) .grow) ?_
  refine gq 4 55 (.slice r6_A r6_n r6_c) ?_
  obtain ⟨h0,h1,h⟩:=oc2 h
  obtain ⟨h2,h⟩:=oc h
  obtain ⟨s18_A,hA⟩ : ∃ A,A=if r6_c=(32:Int).toNat then r6_A else adr r6_A ((32:Int).toNat*Cod.size CB):=⟨_,rfl⟩
  obtain ⟨s18_n,hn⟩ : ∃ n,n=((r6.length:Int):Int).toNat-(32:Int).toNat:=⟨_,rfl⟩
  obtain ⟨s18_c,hc⟩ : ∃ c,c=r6_c-(32:Int).toNat:=⟨_,rfl⟩
  refine tgf 5 56 (.slice s18_A s18_n s18_c) (ysb (C:=CB) 24 5 (some (I8 32)) none 32 (r6.length:Int) (hs.rowR 3 rfl) (.inr ⟨_,rfl⟩) (.inl ⟨rfl,rfl⟩) h0 h1 h2 hA hn hc) ?_
  have hs:=hs.addSub (C:=CB) 3 rfl h0 h1 h2 hA hn hc
  refine gq 6 57 (P0 b1) ?_
  refine tgt 7 58 (I8 a0_0) (yv hs 6 0 3 rfl (by rfl) .grow) ?_
  obtain ⟨r19,hg,h⟩:=ob h
  refine wpG.only 8 (by kernel_rfl) (oH 59 hs (ref26_row.ok hg _ (hs.rowR 0 rfl)) ?_)
  rintro ⟨r19_A,r19_n,r19_c⟩ w gw hs
  have hs:=hs.conv (L':=[.ownL CZ r19_A r19_n r19_c r19 32,.ownL CZ r17_A r17_n r17_c r17 32,.ownL CZ r16_A r16_n r16_c r16 32,.ownL CS y11_A y11_n y11_c y11_H 77,.ownL CB r5_A r5_n r5_c r5 5,.ownL CS s4_A s4_n s4_c ([(a1_A,a1_n,a1_c),(s3_A,s3_n,s3_c)]:List HS) 24,.ownL CB s3_A s3_n s3_c ([(iconv .u8 a0_0)]:List Int) 5,.blk b1 ([I8 a0_0,I8 a0_1,I8 a0_2,I8 a0_3,I8 a0_4]) 23]) rfl
  refine ⟨.of gw,?_⟩
  obtain ⟨r20,hg,h⟩:=ob h
  refine wpG.only 9 (by kernel_rfl) (oH 60 hs (ref26_ntt.ok hg _ (hs.rowL 0 rfl)) ?_)
  rintro ⟨r20_A,r20_n,r20_c⟩ w gw hs
  have hs:=hs.conv (L':=[.ownL CZ r20_A r20_n r20_c r20 32,.ownL CZ r19_A r19_n r19_c r19 32,.ownL CZ r17_A r17_n r17_c r17 32,.ownL CZ r16_A r16_n r16_c r16 32,.ownL CS y11_A y11_n y11_c y11_H 77,.ownL CB r5_A r5_n r5_c r5 5,.ownL CS s4_A s4_n s4_c ([(a1_A,a1_n,a1_c),(s3_A,s3_n,s3_c)]:List HS) 24,.ownL CB s3_A s3_n s3_c ([(iconv .u8 a0_0)]:List Int) 5,.blk b1 ([I8 a0_0,I8 a0_1,I8 a0_2,I8 a0_3,I8 a0_4]) 23]) rfl
  refine ⟨.of gw,?_⟩
  refine gq 10 12 (.slice r20_A r20_n r20_c) ?_
  refine gf (j19 _ _ ?_)
  refine T s18 (xs fun _ s20=>(xn 1 fun _ j21=>?_))
  refine qo 0 13 (.slice none 0 0) ?_
  refine fj j21 s20 (xs fun _ s22=>(xn 1 fun _ j23=>?_))
  refine qo 0 14 (.slice none 0 0) ?_
  refine fj j23 s22 (xs fun _ s24=>(xs fun _ s25=>(xn 1 fun _ j26=>?_)))
  refine qo 0 15 (I8 0) ?_
  refine fj j26 s25 (?_)
  have hs:=hs.addNilL CB 5
  have hs:=hs.addNilL CB 5
  obtain ⟨⟨y24,y25⟩,hy,hk0⟩:=ob h
  refine wp_exq (N:=fun a w=>∃ y24_A y24_n y24_c y25_A y25_n y25_c,St w0 [] [.ownL CB y24_A y24_n y24_c y24 5,.ownL CB y25_A y25_n y25_c y25 5,.ownL CZ r20_A r20_n r20_c r20 32,.ownL CZ r19_A r19_n r19_c r19 32,.ownL CZ r17_A r17_n r17_c r17 32,.ownL CZ r16_A r16_n r16_c r16 32,.ownL CS y11_A y11_n y11_c y11_H 77,.ownL CB r5_A r5_n r5_c r5 5,.ownL CS s4_A s4_n s4_c ([(a1_A,a1_n,a1_c),(s3_A,s3_n,s3_c)]:List HS) 24,.ownL CB s3_A s3_n s3_c ([(iconv .u8 a0_0)]:List Int) 5,.blk b1 ([I8 a0_0,I8 a0_1,I8 a0_2,I8 a0_3,I8 a0_4]) 23] [.rowL CB s18_A s18_n s18_c (subL r6 32 (r6.length:Int)),.rowL CB s15_A s15_n s15_c (subL r6 32 (r6.length:Int)),.inn CZ y11_H r9,.rowL CB s8_A s8_n s8_c (subL r6 0 32),.rowL CB r6_A r6_n r6_c r6,.rowL CB a1_A a1_n a1_c a1] w∧∃ g28,a=fr g28 93 [(4,[.slice none 0 0,.slice none 0 0,I8 0,.slice r6_A r6_n r6_c]),(13,[.slice y25_A y25_n y25_c,.slice y24_A y24_n y24_c])]) (fun N0 nn0=>?_) ?_
  clear hk0
  refine xb ?_
  refine wp_loop_k (fun n a w=>∃ z21 z22 z23,∃ z22_A z22_n z22_c z23_A z23_n z23_c,ref26_Keys.l0 K n a0_0 r9 r17 r20 z21 z22 z23=some (y24,y25)∧St w0 [] [.ownL CB z22_A z22_n z22_c z22 5,.ownL CB z23_A z23_n z23_c z23 5,.ownL CZ r20_A r20_n r20_c r20 32,.ownL CZ r19_A r19_n r19_c r19 32,.ownL CZ r17_A r17_n r17_c r17 32,.ownL CZ r16_A r16_n r16_c r16 32,.ownL CS y11_A y11_n y11_c y11_H 77,.ownL CB r5_A r5_n r5_c r5 5,.ownL CS s4_A s4_n s4_c ([(a1_A,a1_n,a1_c),(s3_A,s3_n,s3_c)]:List HS) 24,.ownL CB s3_A s3_n s3_c ([(iconv .u8 a0_0)]:List Int) 5,.blk b1 ([I8 a0_0,I8 a0_1,I8 a0_2,I8 a0_3,I8 a0_4]) 23] [.rowL CB s18_A s18_n s18_c (subL r6 32 (r6.length:Int)),.rowL CB s15_A s15_n s15_c (subL r6 32 (r6.length:Int)),.inn CZ y11_H r9,.rowL CB s8_A s8_n s8_c (subL r6 0 32),.rowL CB r6_A r6_n r6_c r6,.rowL CB a1_A a1_n a1_c a1] w∧∃ g27,a=fr g27 93 [(2,[P0 b1]),(4,[.slice none 0 0,.slice none 0 0,I8 0,.slice r6_A r6_n r6_c]),(9,[.slice y11_A y11_n y11_c]),(11,[.slice r17_A r17_n r17_c,.slice r20_A r20_n r20_c,.slice z23_A z23_n z23_c,.slice z22_A z22_n z22_c,I8 z21])]) K ⟨0,([]:List Int),([]:List Int),none,0,0,none,0,0,hy,hs.conv rfl,eg⟩ ?_
  clear hs h hy
  rintro n a w ⟨z21,z22,z23,z22_A,z22_n,z22_c,z23_A,z23_n,z23_c,h,hs,g27,rfl⟩ KL0 kl0
  cases n with
  | zero=>exact nomatch (show none=some _ from h)
  | succ n=>
   refine xs fun _ s29=>?_
   refine xs fun _ s30=>?_
   refine xn 4 fun _ j31=>?_
   refine nq 0 [(61,I8 z21),(62,P0 b1)] ?_
   refine tkt 2 63 (I8 a0_0) (yv hs 10 0 3 rfl (by rfl) .grow) ?_
   obtain ⟨hc,h⟩|⟨hc,h⟩:=of_if h
   refine tb 3 64 (dt hc) ?_
   refine fj j31 s30 (ct (xk (T s29 (xs fun _ s32=>(xb (xs fun _ s33=>?_))))))
   refine rg [13] (fun k=>True) 15 fun _ j34=>?_
   have hs:=hs.drawn1
   refine gq 0 67 (.slice z23_A z23_n z23_c) ?_
   refine gq 1 68 (.slice y11_A y11_n y11_c) ?_
   refine gq 2 69 (I8 z21) ?_
   obtain ⟨h0,h1,h⟩:=oc2 h
   have i0_35:=h0
   have i1_35:=h1
   refine tgf 3 70 (PA CS y11_A z21) (yiLL (C:=CZ) 84 77 .i64 z21 (LLP.mk (hs.rowL 6 rfl) (hs.innR 2 rfl)) h0 h1) ?_
   obtain ⟨s26_A,hA⟩ : ∃ A,A=(rdL CS y11_H z21).1:=⟨_,rfl⟩
   obtain ⟨s26_n,hn⟩ : ∃ n,n=(rdL CS y11_H z21).2.1:=⟨_,rfl⟩
   obtain ⟨s26_c,hc⟩ : ∃ c,c=(rdL CS y11_H z21).2.2:=⟨_,rfl⟩
   refine wpG.take [4,6,11,12,13,14] 4 true (some 71) (.slice s26_A s26_n s26_c) (by kernel_rfl) (by kernel_rfl) (by subst hA hn hc; exact yLL (C:=CZ) 77 z21 (LLP.mk (hs.rowL 6 rfl) (hs.innR 2 rfl)) i0_35 i1_35) ?_
   have hs:=hs.addInnI (C:=CZ) 2 rfl i0_35 i1_35 hA hn hc
   refine gq 5 72 (.slice r17_A r17_n r17_c) ?_
   refine gq 7 74 (.slice r20_A r20_n r20_c) ?_
   refine gq 8 75 (I8 z21) ?_
   obtain ⟨h0,h1,h⟩:=oc2 h
   have i0_36:=h0
   have i1_36:=h1
   refine tgf 9 76 (PA CZ r20_A z21) (yiL (C:=CZ) 77 32 .i64 z21 (hs.rowL 2 rfl) h0 h1) ?_
   refine wpG.take [10,11,12,13,14] 10 true (some 77) (ag .i32 (rdL CZ r20 z21)) (by kernel_rfl) (by kernel_rfl) (yLA (C:=CZ) 32 z21 (hs.rowL 2 rfl) rfl i0_36 i1_36) ?_
   obtain ⟨r27,hg,h⟩:=ob h
   refine go 6 (oC 73 hs (ref26_dot.ok hg _ (hs.rowR 0 rfl) (hs.rowL 4 rfl)) fun w gw hs=>⟨.of gw,?_⟩)
   obtain ⟨r28,hg,h⟩:=ob h
   refine go 11 (oC 78 hs (ref25_Add.ok hg _) fun w gw hs=>⟨.of gw,?_⟩)
   obtain ⟨r29,hg,h⟩:=ob h
   refine wpG.only 12 (by kernel_rfl) (oH 79 hs (ref25_Pack.ok hg _) ?_)
   rintro ⟨r29_A,r29_n,r29_c⟩ w gw hs
   have hs:=hs.conv (L':=[.ownL CB r29_A r29_n r29_c r29 5,.ownL CB z22_A z22_n z22_c z22 5,.ownL CB z23_A z23_n z23_c z23 5,.ownL CZ r20_A r20_n r20_c r20 32,.ownL CZ r19_A r19_n r19_c r19 32,.ownL CZ r17_A r17_n r17_c r17 32,.ownL CZ r16_A r16_n r16_c r16 32,.ownL CS y11_A y11_n y11_c y11_H 77,.ownL CB r5_A r5_n r5_c r5 5,.ownL CS s4_A s4_n s4_c ([(a1_A,a1_n,a1_c),(s3_A,s3_n,s3_c)]:List HS) 24,.ownL CB s3_A s3_n s3_c ([(iconv .u8 a0_0)]:List Int) 5,.blk b1 ([I8 a0_0,I8 a0_1,I8 a0_2,I8 a0_3,I8 a0_4]) 23]) rfl
   refine ⟨.of gw,?_⟩
   obtain ⟨h0,h⟩:=oc h
   refine go 13 (oAp (C:=CB) 80 24 24 5 1 140737488355328 hs 2 rfl (hs.rowL 0 rfl) h0 (by decide) (by decide) fun s30_A s30_n s30_c w hs=>⟨⟨fun hf=>absurd hf (by decide),.all _ _⟩,?_⟩)
   refine gq 14 13 (.slice s30_A s30_n s30_c) ?_
   refine gf (j34 _ _ ?_)
   refine T s33 (xn 8 fun _ j37=>?_)
   refine nq 0 [(81,.slice z22_A z22_n z22_c),(82,.slice r17_A r17_n r17_c),(83,I8 z21)] ?_
   obtain ⟨h0,h1,h⟩:=oc2 h
   have i0_38:=h0
   have i1_38:=h1
   refine tkf 3 84 (PA CZ r17_A z21) (yiL (C:=CZ) 77 32 .i64 z21 (hs.rowL 5 rfl) h0 h1) ?_
   refine tkt 4 85 (ag .i32 (rdL CZ r17 z21)) (yLA (C:=CZ) 32 z21 (hs.rowL 5 rfl) rfl i0_38 i1_38) ?_
   obtain ⟨r31,hg,h⟩:=ob h
   refine wpS.only 5 (oH 86 hs (ref25_Pack.ok hg _) ?_)
   rintro ⟨r31_A,r31_n,r31_c⟩ w gw hs
   have hs:=hs.conv (L':=[.ownL CB r31_A r31_n r31_c r31 5,.ownL CB r29_A r29_n r29_c r29 5,.ownL CB z22_A z22_n z22_c z22 5,.ownL CB s30_A s30_n s30_c (z23++r29) 5,.ownL CZ r20_A r20_n r20_c r20 32,.ownL CZ r19_A r19_n r19_c r19 32,.ownL CZ r17_A r17_n r17_c r17 32,.ownL CZ r16_A r16_n r16_c r16 32,.ownL CS y11_A y11_n y11_c y11_H 77,.ownL CB r5_A r5_n r5_c r5 5,.ownL CS s4_A s4_n s4_c ([(a1_A,a1_n,a1_c),(s3_A,s3_n,s3_c)]:List HS) 24,.ownL CB s3_A s3_n s3_c ([(iconv .u8 a0_0)]:List Int) 5,.blk b1 ([I8 a0_0,I8 a0_1,I8 a0_2,I8 a0_3,I8 a0_4]) 23]) rfl
   refine ⟨fun _=>trivial,?_⟩
   obtain ⟨h0,h⟩:=oc h
   refine so 6 (oAp (C:=CB) 87 24 24 5 1 140737488355328 hs 2 rfl (hs.rowL 0 rfl) h0 (by decide) (by decide) fun s32_A s32_n s32_c w hs=>?_)
   refine qo 7 14 (.slice s32_A s32_n s32_c) ?_
   refine fin (j37 _ _ (iN (T s32 (xn 3 fun _ j39=>?_))))
   refine nq 0 [(65,I8 z21),(66,I8 (iadd .i64 z21 1))] ?_
   obtain ⟨x33,hx,h⟩:=ob h
   refine tkf 2 15 (I8 x33) (yn hx) ?_
   refine fin (j39 _ _ ?_)
   exact tn (kl0 _ _ ⟨n,ls n,x33,(z22++r31),(z23++r29),s32_A,s32_n,s32_c,s30_A,s30_n,s30_c,h,(pk [1,2,3,4,5,6] (dr [0,0,1,1,1,1,1,1,1,1,1,1,1] hs)),eg⟩)
   refine tb 3 64 (df hc) ?_
   refine fj j31 s30 (cf (xexit (tx (tx (iH ?_)))))
   obtain ⟨rfl,rfl⟩:=os2 h
   exact exq_n (nn0 _ _ ⟨z22_A,z22_n,z22_c,z23_A,z23_n,z23_c,(hs.conv rfl),eg⟩)
  clear hs h hy
  rintro a w ⟨y24_A,y24_n,y24_c,y25_A,y25_n,y25_c,hs,g28,rfl⟩
  have h:=hk0
  refine T s24 (xs fun _ s40=>(xn 8 fun _ j41=>?_))
  refine nq 0 [(88,.slice y25_A y25_n y25_c),(89,.slice r6_A r6_n r6_c)] ?_
  obtain ⟨h0,h1,h⟩:=oc2 h
  obtain ⟨h2,h⟩:=oc h
  obtain ⟨s34_A,hA⟩ : ∃ A,A=if r6_c=(0:Int).toNat then r6_A else adr r6_A ((0:Int).toNat*Cod.size CB):=⟨_,rfl⟩
  obtain ⟨s34_n,hn⟩ : ∃ n,n=(32:Int).toNat-(0:Int).toNat:=⟨_,rfl⟩
  obtain ⟨s34_c,hc⟩ : ∃ c,c=r6_c-(0:Int).toNat:=⟨_,rfl⟩
  refine tkf 2 90 (.slice s34_A s34_n s34_c) (ysb (C:=CB) 24 5 none (some (I8 32)) 0 32 (hs.rowR 4 rfl) (.inl ⟨rfl,rfl⟩) (.inr ⟨_,rfl⟩) h0 h1 h2 hA hn hc) ?_
  have hs:=hs.addSub (C:=CB) 4 rfl h0 h1 h2 hA hn hc
  obtain ⟨h0,h⟩:=oc h
  refine so 3 (oAp (C:=CB) 91 24 24 5 1 140737488355328 hs 1 rfl (hs.rowR 0 rfl) h0 (by decide) (by decide) fun s35_A s35_n s35_c w hs=>?_)
  refine nq 4 [(92,.slice y24_A y24_n y24_c),(4,.slice s35_A s35_n s35_c),(5,.slice y24_A y24_n y24_c),(6,I8 0)] ?_
  refine fj j41 s40 (xret ?_)
  obtain ⟨rfl,rfl,rfl⟩:=os3 h
  have hs:=hs.front 1 rfl
  try dsimp only [List.eraseIdx] at hs
  exact qq _ _ (pt [4,5,6] [.slice s35_A s35_n s35_c,.slice y24_A y24_n y24_c,I8 0] ⟨⟨⟨s35_A,s35_n,s35_c⟩,⟨y24_A,y24_n,y24_c⟩⟩,cr,(pz (dr [1,1,0,0,0,0,0,0,0,0,0] hs))⟩)
  refine tb 1 41 (nt hc) ?_
  refine fj j15 s14 (ct (xs fun _ s42=>(xn 4 fun _ j43=>?_)))
  refine nq 0 [(42,I8 r10),(4,.slice none 0 0),(5,.slice none 0 0),(6,I8 r10)] ?_
  refine fj j43 s42 (xret (tr ?_))
  obtain ⟨rfl,rfl,rfl⟩:=os3 h
  have hs:=hs.addNilL CB 5
  have hs:=hs.addNilL CB 5
  exact qq _ _ (pt [4,5,6] [.slice none 0 0,.slice none 0 0,I8 r10] ⟨⟨⟨none,0,0⟩,⟨none,0,0⟩⟩,cr,(pz (dr [1,1,0,0,0,0,0] hs))⟩)
  refine tb 2 21 (nt hc) ?_
  refine fj j8 s7 (ct (xs fun _ s44=>(xn 3 fun _ j45=>?_)))
  refine nq 0 [(4,.slice none 0 0),(5,.slice none 0 0),(6,I8 14)] ?_
  refine fj j45 s44 (xret (tr ?_))
  obtain ⟨rfl,rfl,rfl⟩:=os3 h
  have hs:=hs.addNilL CB 5
  have hs:=hs.addNilL CB 5
  exact qq _ _ (pt [4,5,6] [.slice none 0 0,.slice none 0 0,I8 14] ⟨⟨⟨none,0,0⟩,⟨none,0,0⟩⟩,cr,(pz (dr [1,1,0] hs))⟩)
 | false=>
  have h:=of_if_f h
  refine so 1 (oC 17 hs (ref26_Known.ok hg _) fun w gw hs=>?_)
  refine qo 2 18 (.bool true) ?_
  refine fj j5 s4 (ct (xs fun _ s46=>(xn 3 fun _ j47=>?_)))
  refine nq 0 [(4,.slice none 0 0),(5,.slice none 0 0),(6,I8 9)] ?_
  refine fj j47 s46 (xret (tr ?_))
  obtain ⟨rfl,rfl,rfl⟩:=os3 h
  have hs:=hs.addNilL CB 5
  have hs:=hs.addNilL CB 5
  exact qq _ _ (pt [4,5,6] [.slice none 0 0,.slice none 0 0,I8 9] ⟨⟨⟨none,0,0⟩,⟨none,0,0⟩⟩,cr,(pz (dr [1,1,0] hs))⟩)
theorem ref26_Sizes.ok {K:Nat}{a0_0 a0_1 a0_2 a0_3 a0_4 r0 r1 r2:Int}(h:ref26_Sizes.f K a0_0 a0_1 a0_2 a0_3 a0_4=some (r0,r1,r2)) (w0:World):Ret Tryd.prog 13 #[.agg #[I8 a0_0,I8 a0_1,I8 a0_2,I8 a0_3,I8 a0_4]] w0 (.tuple #[I8 r0,I8 r1,I8 r2]):=by
 refine calls_k Tryd.func13 rfl fun Q qq=>?_
 have hs:=St.start w0
 refine wc (a':=(fu 23 [.agg #[I8 a0_0,I8 a0_1,I8 a0_2,I8 a0_3,I8 a0_4]])) ?_
 refine xs fun _ s1=>?_
 refine xn 4 fun _ j2=>?_
 refine so 0 (oB 1 23 (.agg #[I8 a0_0,I8 a0_1,I8 a0_2,I8 a0_3,I8 a0_4]) hs ([I8 a0_0,I8 a0_1,I8 a0_2,I8 a0_3,I8 a0_4]) fun b1 w gw hs=>?_)
 refine nq 1 [(2,I8 0),(3,I8 0),(4,I8 0)] ?_
 refine fj j2 s1 (xs fun _ s3=>(xs fun _ s4=>(xn 3 fun _ j5=>?_)))
 refine tkt 0 5 (.agg #[I8 a0_0,I8 a0_1,I8 a0_2,I8 a0_3,I8 a0_4]) (yW hs 0 5 23 rfl (by simp [enc_len]) .grow) ?_
 obtain ⟨r2,hg,h⟩:=ob h
 cases r2 with
 | true=>
  have h:=of_if_t h
  refine so 1 (oC 6 hs (ref26_Known.ok hg _) fun w gw hs=>?_)
  refine qo 2 7 (.bool false) ?_
  refine fj j5 s4 (cf (xk (T s3 (xs fun _ s6=>?_))))
  refine rg [] (fun k=>True) 19 fun _ j7=>?_
  have hs:=hs.drawn1
  refine gq 0 8 (P0 b1) ?_
  refine tgt 1 9 (I8 a0_0) (yv hs 0 0 3 rfl (by rfl) .grow) ?_
  refine gq 2 10 (I8 (imul .i64 384 a0_0)) ?_
  refine gq 3 11 (I8 (iadd .i64 (imul .i64 384 a0_0) 32)) ?_
  refine gq 4 12 (P0 b1) ?_
  refine tgt 5 13 (I8 a0_0) (yv hs 0 0 3 rfl (by rfl) .grow) ?_
  refine gq 6 14 (I8 (imul .i64 384 a0_0)) ?_
  refine gq 7 15 (.pointer (some ⟨b1,3,none⟩)) ?_
  refine tgt 8 16 (I8 a0_3) (yv hs 0 3 3 rfl (by rfl) .grow) ?_
  refine gq 9 17 (P0 b1) ?_
  refine tgt 10 18 (I8 a0_0) (yv hs 0 0 3 rfl (by rfl) .grow) ?_
  refine gq 11 19 (I8 (imul .i64 a0_3 a0_0)) ?_
  refine gq 12 20 (.pointer (some ⟨b1,4,none⟩)) ?_
  refine tgt 13 21 (I8 a0_4) (yv hs 0 4 3 rfl (by rfl) .grow) ?_
  refine gq 14 22 (I8 (iadd .i64 (imul .i64 a0_3 a0_0) a0_4)) ?_
  refine gq 15 23 (I8 (imul .i64 32 (iadd .i64 (imul .i64 a0_3 a0_0) a0_4))) ?_
  obtain ⟨x3,hx,h⟩:=ob h
  refine tgf 16 2 (I8 x3) (yn hx) ?_
  obtain ⟨x4,hx,h⟩:=ob h
  refine tgf 17 3 (I8 x4) (yn hx) ?_
  obtain ⟨x5,hx,h⟩:=ob h
  refine tgf 18 4 (I8 x5) (yn hx) ?_
  refine gf (j7 _ _ ?_)
  refine T s6 (xret ?_)
  obtain ⟨rfl,rfl,rfl⟩:=os3 h
  exact qq _ _ (pt [2,3,4] [I8 x3,I8 x4,I8 x5] ⟨cr,hs.none⟩)
 | false=>
  have h:=of_if_f h
  refine so 1 (oC 6 hs (ref26_Known.ok hg _) fun w gw hs=>?_)
  refine qo 2 7 (.bool true) ?_
  refine fj j5 s4 (ct (xs fun _ s8=>(xn 3 fun _ j9=>?_)))
  refine nq 0 [(2,I8 0),(3,I8 0),(4,I8 0)] ?_
  refine fj j9 s8 (xret (tr ?_))
  obtain ⟨rfl,rfl,rfl⟩:=os3 h
  exact qq _ _ (pt [2,3,4] [I8 0,I8 0,I8 0] ⟨cr,hs.none⟩)
theorem ref25_Unpack.ok {K:Nat}{a0:List Int}{a1:Int}{r0:Arr 256}{r1:Bool}{a0_A:Option Addr}{a0_n a0_c:Nat}(h:ref25_Unpack.f K a0 a1=some (r0,r1)) (w0:World) (hp0:RowL CB w0 a0_A a0_n a0_c a0):Ret Tryd.prog 68 #[.slice a0_A a0_n a0_c,I8 a1] w0 (.tuple #[ag .i32 r0,.bool r1]):=by
 refine calls_k Tryd.func68 rfl fun Q qq=>?_
 have hs:=St.startR (all_cons (RowP.ent hp0) all_nil)
 refine wc (a':=(fu 42 [.slice a0_A a0_n a0_c,I8 a1])) ?_
 refine xs fun _ s1=>?_
 refine xn 2 fun _ j2=>?_
 refine so 0 (oN 4 32 hs (enc .i32 (zeroA 256)) (ag .i32 (zeroA 256)) fun b1 w gw hs=>?_)
 refine qo 1 5 (.bool false) ?_
 refine fj j2 s1 (xs fun _ s3=>(xs fun _ s4=>(xn 13 fun _ j5=>?_)))
 refine qo 0 9 (I8 a1) ?_
 obtain ⟨hc,h⟩|⟨hc,h⟩:=of_if h
 refine tb 1 10 (dt hc) ?_
 refine nq 2 [(11,.bool true),(12,undef),(13,undef),(14,.bool true),(15,.bool true),(16,undef),(17,undef),(18,undef),(19,undef),(20,undef),(21,.bool true)] ?_
 refine fj j5 s4 (ct (xs fun _ s6=>(xn 3 fun _ j7=>?_)))
 refine qo 0 22 (ag .i32 (zeroA 256)) ?_
 refine so 1 (oWe 32 .i32 (zeroA 256) hs 0 fun w kp hs=>?_)
 refine qo 2 5 (.bool false) ?_
 refine fj j7 s6 (xret (tr ?_))
 obtain ⟨rfl,rfl⟩:=os2 h
 exact qq _ _ (pr (rr [.cell 4 32,.tmp 5] [ag .i32 (zeroA 256),.bool false] (.cons (rcN 256 hs 0 rfl (enc_len _ _)) (.cons rt .nil))) ⟨cr,hs.none⟩)
 refine tb 1 10 (df hc) ?_
 refine nq 2 [(11,.bool false),(12,I8 a1)] ?_
 obtain ⟨hc,h⟩|⟨hc,h⟩:=of_if h
 refine tb 4 13 (dt hc) ?_
 refine nq 5 [(14,.bool true),(15,.bool true),(16,undef),(17,undef),(18,undef),(19,undef),(20,undef),(21,.bool true)] ?_
 refine fj j5 s4 (ct (xs fun _ s8=>(xn 3 fun _ j9=>?_)))
 refine qo 0 22 (ag .i32 (zeroA 256)) ?_
 refine so 1 (oWe 32 .i32 (zeroA 256) hs 0 fun w kp hs=>?_)
 refine qo 2 5 (.bool false) ?_
 refine fj j9 s8 (xret (tr ?_))
 obtain ⟨rfl,rfl⟩:=os2 h
 exact qq _ _ (pr (rr [.cell 4 32,.tmp 5] [ag .i32 (zeroA 256),.bool false] (.cons (rcN 256 hs 0 rfl (enc_len _ _)) (.cons rt .nil))) ⟨cr,hs.none⟩)
 refine tb 4 13 (df hc) ?_
 refine nq 5 [(14,.bool false),(15,.bool false),(16,.slice a0_A a0_n a0_c)] ?_
 refine tkf 8 17 (I8 (a0.length:Int)) (yl (hs.rowR 0 rfl)) ?_
 refine nq 9 [(18,I8 a1),(19,I8 (imul .i64 32 a1))] ?_
 obtain ⟨hc,h⟩|⟨hc,h⟩:=of_if h
 refine tb 11 20 (nf hc) ?_
 refine qo 12 21 (.bool false) ?_
 refine fj j5 s4 (cf (xk (T s3 (xs fun _ s10=>(xn 4 fun _ j11=>?_)))))
 refine nq 0 [(23,.slice a0_A a0_n a0_c),(24,I8 a1)] ?_
 obtain ⟨r2,hg,h⟩:=ob h
 refine wpS.only 2 (oH 25 hs (ref01_Unpack.ok hg _ (hs.rowR 0 rfl)) ?_)
 rintro ⟨r2_A,r2_n,r2_c⟩ w gw hs
 have hs:=hs.conv (L':=[.ownL (CI .u32) r2_A r2_n r2_c r2 70,.blk b1 (enc .i32 (zeroA 256)) 32]) rfl
 refine ⟨fun _=>trivial,?_⟩
 refine qo 3 6 (.slice r2_A r2_n r2_c) ?_
 refine fj j11 s10 (xs fun _ s12=>(xn 1 fun _ j13=>?_))
 refine so 0 (oN 7 32 hs (enc .i32 (zeroA 256)) (ag .i32 (zeroA 256)) fun b3 w gw hs=>?_)
 refine fj j13 s12 (xs fun _ s14=>(xs fun _ s15=>(xn 1 fun _ j16=>?_)))
 refine qo 0 8 (I8 0) ?_
 refine fj j16 s15 (?_)
 obtain ⟨y6,hy,hk0⟩:=ob h
 refine wp_exq (N:=fun a w=>St w0 [] [.blk b3 (enc .i32 y6) 32,.ownL (CI .u32) r2_A r2_n r2_c r2 70,.blk b1 (enc .i32 (zeroA 256)) 32] [.rowL CB a0_A a0_n a0_c a0] w∧∃ g18,a=fr g18 44 [(1,[I8 a1]),(4,[P0 b1,.bool false]),(7,[P0 b3])]) (fun N0 nn0=>?_) ?_
 clear hk0
 refine xb ?_
 refine wp_loop_k (fun n a w=>∃ z4 z5,ref25_Unpack.l0 K n r2 z4 z5=some y6∧St w0 [] [.blk b3 (enc .i32 z5) 32,.ownL (CI .u32) r2_A r2_n r2_c r2 70,.blk b1 (enc .i32 (zeroA 256)) 32] [.rowL CB a0_A a0_n a0_c a0] w∧∃ g17,a=fr g17 44 [(1,[I8 a1]),(4,[P0 b1,.bool false,.slice r2_A r2_n r2_c,P0 b3,I8 z4])]) K ⟨0,(zeroA 256),hy,hs.conv rfl,eg⟩ ?_
 clear hs h hy
 rintro n a w ⟨z4,z5,h,hs,g17,rfl⟩ KL0 kl0
 cases n with
 | zero=>exact nomatch (show none=some _ from h)
 | succ n=>
  refine xs fun _ s19=>?_
  refine xs fun _ s20=>?_
  refine xn 2 fun _ j21=>?_
  refine qo 0 26 (I8 z4) ?_
  obtain ⟨hc,h⟩|⟨hc,h⟩:=of_if h
  refine tb 1 27 (dt hc) ?_
  refine fj j21 s20 (ct (xk (T s19 (xs fun _ s22=>(xb (xn 8 fun _ j23=>?_))))))
  refine nq 0 [(30,I8 z4),(31,.slice r2_A r2_n r2_c),(32,I8 z4)] ?_
  obtain ⟨h0,h1,h⟩:=oc2 h
  have i0_24:=h0
  have i1_24:=h1
  refine tkf 3 33 (PA (CI .u32) r2_A z4) (yiL (C:=(CI .u32)) 68 70 .i64 z4 (hs.rowL 1 rfl) h0 h1) ?_
  refine tkt 4 34 (U4 (rdL (CI .u32) r2 z4)) (yL (C:=(CI .u32)) 70 z4 (hs.rowL 1 rfl) rfl i0_24 i1_24) ?_
  refine qo 5 35 (I4 (iconv .i32 (rdL (CI .u32) r2 z4))) ?_
  obtain ⟨i0_25,i1_25,h⟩:=oc2 h
  refine tkf 6 36 (P1 b3 z4) (yi 32 21 256 1 .i64 z4 i0_25 i1_25) ?_
  obtain ⟨x7,hx,h⟩:=ob h
  refine so 7 (oA 21 x7 z4 hs 0 rfl (by cases hx; kernel_rfl) i0_25 i1_25 fun w kp hs=>?_)
  refine fin (j23 _ _ (iN (T s22 (xn 3 fun _ j26=>?_))))
  refine nq 0 [(28,I8 z4),(29,I8 (iadd .i64 z4 1))] ?_
  obtain ⟨x8,hx,h⟩:=ob h
  refine tkf 2 8 (I8 x8) (yn hx) ?_
  refine fin (j26 _ _ ?_)
  exact tn (kl0 _ _ ⟨n,ls n,x8,(wr z5 z4 x7),h,(hs.conv rfl),eg⟩)
  refine tb 1 27 (df hc) ?_
  refine fj j21 s20 (cf (xexit (tx (tx (iH ?_)))))
  obtain rfl:=of_some h
  exact exq_n (nn0 _ _ ⟨(hs.conv rfl),eg⟩)
 clear hs h hy
 rintro a w ⟨hs,g18,rfl⟩
 have h:=hk0
 refine T s14 (xs fun _ s27=>(xs fun _ s28=>?_))
 refine rg [] (fun k=>True) 5 fun _ j29=>?_
 have hs:=hs.drawn1
 refine tgt 0 37 (ag .i32 y6) (yWe 32 hs 0 .grow) ?_
 refine gq 1 38 (I8 a1) ?_
 obtain ⟨r9,hg,h⟩:=ob h
 refine go 2 (oC 39 hs (ref25_bound.ok hg _) fun w gw hs=>⟨.of gw,?_⟩)
 obtain ⟨r10,hg,h⟩:=ob h
 cases r10 with
 | true=>
  have h:=of_if_t h
  refine go 3 (oC 40 hs (ref25_Below.ok hg _) fun w gw hs=>⟨.of gw,?_⟩)
  refine gq 4 41 (.bool false) ?_
  refine gf (j29 _ _ ?_)
  refine T s28 (cf (xk (T s27 (xs fun _ s30=>(xn 3 fun _ j31=>?_)))))
  refine tkt 0 43 (ag .i32 y6) (yWe 32 hs 0 .grow) ?_
  refine so 1 (oWe 32 .i32 y6 hs 2 fun w kp hs=>?_)
  refine qo 2 5 (.bool true) ?_
  refine fj j31 s30 (xret ?_)
  obtain ⟨rfl,rfl⟩:=os2 h
  exact qq _ _ (pr (rr [.cell 4 32,.tmp 5] [ag .i32 y6,.bool true] (.cons (rcN 256 hs 2 rfl (enc_len _ _)) (.cons rt .nil))) ⟨cr,hs.none⟩)
 | false=>
  have h:=of_if_f h
  refine go 3 (oC 40 hs (ref25_Below.ok hg _) fun w gw hs=>⟨.of gw,?_⟩)
  refine gq 4 41 (.bool true) ?_
  refine gf (j29 _ _ ?_)
  refine T s28 (ct (xs fun _ s32=>(xn 3 fun _ j33=>?_)))
  refine qo 0 42 (ag .i32 (zeroA 256)) ?_
  refine so 1 (oWe 32 .i32 (zeroA 256) hs 2 fun w kp hs=>?_)
  refine qo 2 5 (.bool false) ?_
  refine fj j33 s32 (xret (tr ?_))
  obtain ⟨rfl,rfl⟩:=os2 h
  exact qq _ _ (pr (rr [.cell 4 32,.tmp 5] [ag .i32 (zeroA 256),.bool false] (.cons (rcN 256 hs 2 rfl (enc_len _ _)) (.cons rt .nil))) ⟨cr,hs.none⟩)
 refine tb 11 20 (nt hc) ?_
 refine qo 12 21 (.bool true) ?_
 refine fj j5 s4 (ct (xs fun _ s34=>(xn 3 fun _ j35=>?_)))
 refine qo 0 22 (ag .i32 (zeroA 256)) ?_
 refine so 1 (oWe 32 .i32 (zeroA 256) hs 0 fun w kp hs=>?_)
 refine qo 2 5 (.bool false) ?_
 refine fj j35 s34 (xret (tr ?_))
 obtain ⟨rfl,rfl⟩:=os2 h
 exact qq _ _ (pr (rr [.cell 4 32,.tmp 5] [ag .i32 (zeroA 256),.bool false] (.cons (rcN 256 hs 0 rfl (enc_len _ _)) (.cons rt .nil))) ⟨cr,hs.none⟩)
theorem ref26_read.ok {K:Nat}{a0:List Int}{a1 a2:Int}{r0:List (Arr 256)}{r1:Bool}{a0_A:Option Addr}{a0_n a0_c:Nat}(h:ref26_read.f K a0 a1 a2=some (r0,r1)) (w0:World) (hp0:RowL CB w0 a0_A a0_n a0_c a0):Calls Tryd.prog 60 #[.slice a0_A a0_n a0_c,I8 a1,I8 a2] w0 fun e w'=>∃ h:(Option Addr × Nat × Nat),e = .returned (.tuple #[.slice h.1 h.2.1 h.2.2,.bool r1])∧St w0 [] [.ownL CZ h.1 h.2.1 h.2.2 r0 32] [] w':=by
 refine calls_k Tryd.func60 rfl fun Q qq=>?_
 have hs:=St.startR (all_cons (RowP.ent hp0) all_nil)
 refine wc (a':=(fu 37 [.slice a0_A a0_n a0_c,I8 a1,I8 a2])) ?_
 refine xs fun _ s1=>?_
 refine xn 2 fun _ j2=>?_
 refine nq 0 [(6,.slice none 0 0),(7,.bool false)] ?_
 refine fj j2 s1 (xs fun _ s3=>(xn 1 fun _ j4=>?_))
 refine qo 0 8 (.slice none 0 0) ?_
 refine fj j4 s3 (xs fun _ s5=>(xs fun _ s6=>(xn 1 fun _ j7=>?_)))
 refine qo 0 9 (I8 0) ?_
 refine fj j7 s6 (?_)
 have hs:=hs.addNilL CZ 32
 obtain ⟨t0,hy,hk0⟩:=ob h
 refine wp_exq (N:=fun a w=>∃ y3,∃ y3_A y3_n y3_c,t0 = .inl y3∧St w0 [] [.ownL CZ y3_A y3_n y3_c y3 32] [.rowL CB a0_A a0_n a0_c a0] w∧∃ g9,a=fr g9 40 [(8,[.slice y3_A y3_n y3_c])]) (fun N0 nn0=>?_) ?_
 refine xb ?_
 refine wp_loop_k (fun n a w=>∃ z1 z2,∃ z2_A z2_n z2_c,ref26_read.l0 K n a0 a1 a2 z1 z2=some t0∧St w0 [] [.ownL CZ z2_A z2_n z2_c z2 32] [.rowL CB a0_A a0_n a0_c a0] w∧∃ g8,a=fr g8 40 [(0,[.slice a0_A a0_n a0_c,I8 a1,I8 a2]),(8,[.slice z2_A z2_n z2_c,I8 z1])]) K ⟨0,([]:List (Arr 256)),none,0,0,hy,hs.conv rfl,eg⟩ ?_
 clear hs h hy
 rintro n a w ⟨z1,z2,z2_A,z2_n,z2_c,h,hs,g8,rfl⟩ KL0 kl0
 cases n with
 | zero=>exact nomatch (show none=some _ from h)
 | succ n=>
  refine xs fun _ s10=>?_
  refine xs fun _ s11=>?_
  refine xn 3 fun _ j12=>?_
  refine nq 0 [(12,I8 z1),(13,I8 a1)] ?_
  obtain ⟨hc,h⟩|⟨hc,h⟩:=of_if h
  refine tb 2 14 (dt hc) ?_
  refine fj j12 s11 (ct (xk (T s10 (xs fun _ s13=>(xb (xs fun _ s14=>(xn 19 fun _ j15=>?_)))))))
  refine nq 0 [(18,.slice a0_A a0_n a0_c),(19,I8 a2),(20,I8 (imul .i64 32 a2)),(21,I8 z1),(22,I8 (imul .i64 (imul .i64 32 a2) z1)),(23,I8 a2),(24,I8 (imul .i64 32 a2)),(25,I8 z1),(26,I8 (iadd .i64 z1 1)),(27,I8 (imul .i64 (imul .i64 32 a2) (iadd .i64 z1 1)))] ?_
  obtain ⟨h0,h1,h⟩:=oc2 h
  obtain ⟨h2,h⟩:=oc h
  obtain ⟨s4_A,hA⟩ : ∃ A,A=if a0_c=((imul .i64 (imul .i64 32 a2) z1):Int).toNat then a0_A else adr a0_A (((imul .i64 (imul .i64 32 a2) z1):Int).toNat*Cod.size CB):=⟨_,rfl⟩
  obtain ⟨s4_n,hn⟩ : ∃ n,n=((imul .i64 (imul .i64 32 a2) (iadd .i64 z1 1)):Int).toNat-((imul .i64 (imul .i64 32 a2) z1):Int).toNat:=⟨_,rfl⟩
  obtain ⟨s4_c,hc⟩ : ∃ c,c=a0_c-((imul .i64 (imul .i64 32 a2) z1):Int).toNat:=⟨_,rfl⟩
  refine tkf 10 28 (.slice s4_A s4_n s4_c) (ysb (C:=CB) 24 5 (some (I8 (imul .i64 (imul .i64 32 a2) z1))) (some (I8 (imul .i64 (imul .i64 32 a2) (iadd .i64 z1 1)))) (imul .i64 (imul .i64 32 a2) z1) (imul .i64 (imul .i64 32 a2) (iadd .i64 z1 1)) (hs.rowR 0 rfl) (.inr ⟨_,rfl⟩) (.inr ⟨_,rfl⟩) h0 h1 h2 hA hn hc) ?_
  have hs:=hs.addSub (C:=CB) 0 rfl h0 h1 h2 hA hn hc
  refine qo 11 29 (I8 a2) ?_
  obtain ⟨⟨r5,r6⟩,hg,h⟩:=ob h
  refine so 12 (oC 30 hs (ref25_Unpack.ok hg _ (hs.rowR 0 rfl)) fun w gw hs=>?_)
  refine nq 13 [(17,.tuple #[ag .i32 r5,.bool r6]),(31,ag .i32 r5)] ?_
  cases r6 with
  | true=>
   have h:=of_if_t h
   refine qo 15 32 (.bool true) ?_
   refine so 16 (oN 10 32 hs (enc .i32 (zeroA 256)) (ag .i32 (zeroA 256)) fun b7 w gw hs=>?_)
   refine so 17 (oWe 32 .i32 r5 hs 0 fun w kp hs=>?_)
   refine qo 18 11 (.bool true) ?_
   refine fj j15 s14 (xs fun _ s16=>(xs fun _ s17=>(xn 2 fun _ j18=>?_)))
   refine nq 0 [(33,.bool true),(34,.bool false)] ?_
   refine fj j18 s17 (cf (xk (T s16 (xn 5 fun _ j19=>?_))))
   refine qo 0 35 (.slice z2_A z2_n z2_c) ?_
   refine tkt 1 36 (ag .i32 r5) (yWe 32 hs 0 .grow) ?_
   refine so 2 (oLL (C:=CZ) 37 77 32 1 (ag .i32 (zeroA 256)) #[(0,ag .i32 r5)] [r5] hs rfl rfl (by decide) (by decide) fun s8_A s8_n s8_c w gw hs=>?_)
   obtain ⟨h0,h⟩:=oc h
   refine so 3 (oAp (C:=CZ) 38 77 77 32 1024 137438953472 hs 2 rfl (hs.rowL 0 rfl) h0 (by decide) (by decide) fun s9_A s9_n s9_c w hs=>?_)
   refine qo 4 8 (.slice s9_A s9_n s9_c) ?_
   refine fin (j19 _ _ (iN (T s13 (xn 3 fun _ j20=>?_))))
   refine nq 0 [(15,I8 z1),(16,I8 (iadd .i64 z1 1))] ?_
   obtain ⟨x10,hx,h⟩:=ob h
   refine tkf 2 9 (I8 x10) (yn hx) ?_
   refine fin (j20 _ _ ?_)
   exact tn (kl0 _ _ ⟨n,ls n,x10,(z2++([r5]:List (Arr 256))),s9_A,s9_n,s9_c,h,(pk [1] (dr [0,0,1] hs)),eg⟩)
  | false=>
   have h:=of_if_f h
   refine qo 15 32 (.bool false) ?_
   refine so 16 (oN 10 32 hs (enc .i32 (zeroA 256)) (ag .i32 (zeroA 256)) fun b11 w gw hs=>?_)
   refine so 17 (oWe 32 .i32 r5 hs 0 fun w kp hs=>?_)
   refine qo 18 11 (.bool false) ?_
   refine fj j15 s14 (xs fun _ s21=>(xs fun _ s22=>(xn 2 fun _ j23=>?_)))
   refine nq 0 [(33,.bool false),(34,.bool true)] ?_
   refine fj j23 s22 (ct (xs fun _ s24=>(xn 2 fun _ j25=>?_)))
   refine nq 0 [(6,.slice none 0 0),(7,.bool false)] ?_
   refine fj j25 s24 (xret (tr (iR (tr (tr (iR (exq_r (tr ?_))))))))
   obtain rfl:=of_some h
   obtain ⟨q0,qr0⟩:=Prod.mk.inj (of_some hk0)
   have q1:=qr0
   subst q0
   subst q1
   have hs:=hs.addNilL CZ 32
   exact qq _ _ (pt [6,7] [.slice none 0 0,.bool false] ⟨⟨none,0,0⟩,cr,(pz (dr [1,0,0] hs))⟩)
  refine tb 2 14 (df hc) ?_
  refine fj j12 s11 (cf (xexit (tx (tx (iH ?_)))))
  obtain rfl:=of_some h
  exact exq_n (nn0 _ _ ⟨z2,z2_A,z2_n,z2_c,rfl,(hs.conv rfl),eg⟩)
 clear hs h hy
 rintro a w ⟨y3,y3_A,y3_n,y3_c,rfl,hs,g9,rfl⟩
 have h:=hk0
 refine T s5 (xs fun _ s26=>(xn 3 fun _ j27=>?_))
 refine nq 0 [(39,.slice y3_A y3_n y3_c),(6,.slice y3_A y3_n y3_c),(7,.bool true)] ?_
 refine fj j27 s26 (xret ?_)
 obtain ⟨rfl,rfl⟩:=os2 h
 exact qq _ _ (pt [6,7] [.slice y3_A y3_n y3_c,.bool true] ⟨⟨y3_A,y3_n,y3_c⟩,cr,(pz hs)⟩)
theorem ref25_Back.ok {K:Nat}{a0 r0:Arr 256}(h:ref25_Back.f K a0=some r0) (w0:World):Ret Tryd.prog 61 #[ag .i32 a0] w0 (ag .i32 r0):=by
 refine calls_k Tryd.func61 rfl fun Q qq=>?_
 have hs:=St.start w0
 refine wc (a':=(fu 62 [ag .i32 a0])) ?_
 refine xs fun _ s1=>?_
 refine xn 2 fun _ j2=>?_
 refine so 0 (oB 1 32 (ag .i32 a0) hs (enc .i32 a0) fun b1 w gw hs=>?_)
 refine so 1 (oN 2 32 hs (enc .i32 (zeroA 256)) (ag .i32 (zeroA 256)) fun b2 w gw hs=>?_)
 refine fj j2 s1 (xs fun _ s3=>(xn 3 fun _ j4=>?_))
 obtain ⟨r3,hg,h⟩:=ob h
 refine so 0 (oC 10 hs (ref25_powers.ok hg _) fun w gw hs=>?_)
 refine so 1 (oN 3 31 hs (enc .i32 (zeroA 256)) (ag .i32 (zeroA 256)) fun b4 w gw hs=>?_)
 refine so 2 (oWe 31 .i32 r3 hs 0 fun w kp hs=>?_)
 refine fj j4 s3 (xs fun _ s5=>(xn 1 fun _ j6=>?_))
 refine so 0 (oN 4 32 hs (enc .i32 (zeroA 256)) (ag .i32 (zeroA 256)) fun b5 w gw hs=>?_)
 refine fj j6 s5 (xs fun _ s7=>(xs fun _ s8=>(xn 1 fun _ j9=>?_)))
 refine qo 0 5 (I8 0) ?_
 refine fj j9 s8 (?_)
 obtain ⟨y8,hy,hk0⟩:=ob h
 refine wp_exq (N:=fun a w=>St w0 [] [.blk b5 (enc .i32 y8) 32,.blk b4 (enc .i32 r3) 31,.blk b2 (enc .i32 (zeroA 256)) 32,.blk b1 (enc .i32 a0) 32] [] w∧∃ g11,a=fr g11 63 [(2,[P0 b2]),(4,[P0 b5])]) (fun N0 nn0=>?_) ?_
 clear hk0
 refine xb ?_
 refine wp_loop_k (fun n a w=>∃ z6 z7,ref25_Back.l0 K n a0 r3 z6 z7=some y8∧St w0 [] [.blk b5 (enc .i32 z7) 32,.blk b4 (enc .i32 r3) 31,.blk b2 (enc .i32 (zeroA 256)) 32,.blk b1 (enc .i32 a0) 32] [] w∧∃ g10,a=fr g10 63 [(1,[P0 b1,P0 b2,P0 b4,P0 b5,I8 z6])]) K ⟨0,(zeroA 256),hy,hs.conv rfl,eg⟩ ?_
 clear hs h hy
 rintro n a w ⟨z6,z7,h,hs,g10,rfl⟩ KL0 kl0
 cases n with
 | zero=>exact nomatch (show none=some _ from h)
 | succ n=>
  refine xs fun _ s12=>?_
  refine xs fun _ s13=>?_
  refine xn 2 fun _ j14=>?_
  refine qo 0 11 (I8 z6) ?_
  obtain ⟨hc,h⟩|⟨hc,h⟩:=of_if h
  refine tb 1 12 (dt hc) ?_
  refine fj j14 s13 (ct (xk (T s12 (xs fun _ s15=>(xb (xs fun _ s16=>(xn 1 fun _ j17=>?_)))))))
  refine qo 0 6 (I4 0) ?_
  refine fj j17 s16 (xs fun _ s18=>(xn 1 fun _ j19=>?_))
  refine qo 0 7 (I4 0) ?_
  refine fj j19 s18 (xs fun _ s20=>(xs fun _ s21=>(xn 1 fun _ j22=>?_)))
  refine qo 0 8 (I8 0) ?_
  refine fj j22 s21 (?_)
  obtain ⟨⟨y12,y13⟩,hy,hk1⟩:=ob h
  refine wp_exq (N:=fun a w=>St w0 [] [.blk b5 (enc .i32 z7) 32,.blk b4 (enc .i32 r3) 31,.blk b2 (enc .i32 (zeroA 256)) 32,.blk b1 (enc .i32 a0) 32] [] w∧∃ g24,a=fr g24 63 [(1,[P0 b1,P0 b2,P0 b4,P0 b5,I8 z6,I4 y12,I4 y13])]) (fun N1 nn1=>?_) ?_
  clear hk1
  refine xb ?_
  refine wp_loop_k (fun n a w=>∃ z9 z10 z11,ref25_Back.l1 K n a0 r3 z6 z9 z10 z11=some (y12,y13)∧St w0 [] [.blk b5 (enc .i32 z7) 32,.blk b4 (enc .i32 r3) 31,.blk b2 (enc .i32 (zeroA 256)) 32,.blk b1 (enc .i32 a0) 32] [] w∧∃ g23,a=fr g23 63 [(1,[P0 b1,P0 b2,P0 b4,P0 b5,I8 z6,I4 z9,I4 z10,I8 z11])]) K ⟨0,0,0,hy,hs.conv rfl,eg⟩ ?_
  clear hs h hy
  rintro n a w ⟨z9,z10,z11,h,hs,g23,rfl⟩ KL1 kl1
  cases n with
  | zero=>exact nomatch (show none=some _ from h)
  | succ n=>
   refine xs fun _ s25=>?_
   refine xs fun _ s26=>?_
   refine xn 2 fun _ j27=>?_
   refine qo 0 15 (I8 z11) ?_
   obtain ⟨hc,h⟩|⟨hc,h⟩:=of_if h
   refine tb 1 16 (dt hc) ?_
   refine fj j27 s26 (ct (xk (T s25 (xs fun _ s28=>(xb (xs fun _ s29=>(xn 12 fun _ j30=>?_)))))))
   refine qo 0 19 (I8 z11) ?_
   obtain ⟨r14,hg,h⟩:=ob h
   refine so 1 (oC 20 hs (ref25_turned.ok hg _) fun w gw hs=>?_)
   refine nq 2 [(21,I8 (imul .i64 2 r14)),(22,I8 (iadd .i64 (imul .i64 2 r14) 1)),(23,I8 z6),(24,I8 (imul .i64 (iadd .i64 (imul .i64 2 r14) 1) z6)),(25,I8 (irem .i64 (imul .i64 (iadd .i64 (imul .i64 2 r14) 1) z6) 256)),(26,I8 (isub .i64 256 (irem .i64 (imul .i64 (iadd .i64 (imul .i64 2 r14) 1) z6) 256))),(27,I8 (irem .i64 (isub .i64 256 (irem .i64 (imul .i64 (iadd .i64 (imul .i64 2 r14) 1) z6) 256)) 256))] ?_
   obtain ⟨x15,hx,h⟩:=ob h
   have hx:=of_some hx
   subst hx
   obtain ⟨i0_31,i1_31,h⟩:=oc2 h
   refine tkf 9 28 (.pointer (some ⟨b4,0+((irem .i64 (isub .i64 256 (irem .i64 (imul .i64 (iadd .i64 (imul .i64 2 r14) 1) z6) 256)) 256):Int).toNat*1,none⟩)) (yi 31 21 256 1 .i64 (irem .i64 (isub .i64 256 (irem .i64 (imul .i64 (iadd .i64 (imul .i64 2 r14) 1) z6) 256)) 256) i0_31 i1_31) ?_
   refine tkt 10 29 (I4 (rd r3 (irem .i64 (isub .i64 256 (irem .i64 (imul .i64 (iadd .i64 (imul .i64 2 r14) 1) z6) 256)) 256))) (yA hs 1 21 (irem .i64 (isub .i64 256 (irem .i64 (imul .i64 (iadd .i64 (imul .i64 2 r14) 1) z6) 256)) 256) rfl i0_31 i1_31 .grow) ?_
   obtain ⟨x16,hx,h⟩:=ob h
   refine tkf 11 9 (I4 x16) (yn hx) ?_
   refine fj j30 s29 (xs fun _ s32=>(xn 10 fun _ j33=>?_))
   refine nq 0 [(30,I4 z9),(31,I8 z11),(32,I8 (imul .i64 2 z11))] ?_
   obtain ⟨x17,hx,h⟩:=ob h
   have hx:=of_some hx
   subst hx
   obtain ⟨i0_34,i1_34,h⟩:=oc2 h
   refine tkf 3 33 (P1 b1 (imul .i64 2 z11)) (yi 32 21 256 1 .i64 (imul .i64 2 z11) i0_34 i1_34) ?_
   refine tkt 4 34 (I4 (rd a0 (imul .i64 2 z11))) (yA hs 3 21 (imul .i64 2 z11) rfl i0_34 i1_34 .grow) ?_
   refine nq 5 [(35,I4 x16),(36,I4 (imul .i32 (rd a0 (imul .i64 2 z11)) x16)),(37,I4 (iadd .i32 z9 (imul .i32 (rd a0 (imul .i64 2 z11)) x16))),(38,I4 (irem .i32 (iadd .i32 z9 (imul .i32 (rd a0 (imul .i64 2 z11)) x16)) 3329))] ?_
   obtain ⟨x18,hx,h⟩:=ob h
   refine tkf 9 6 (I4 x18) (yn hx) ?_
   refine fj j33 s32 (xn 11 fun _ j35=>?_)
   refine nq 0 [(39,I4 z10),(40,I8 z11),(41,I8 (imul .i64 2 z11)),(42,I8 (iadd .i64 (imul .i64 2 z11) 1))] ?_
   obtain ⟨x19,hx,h⟩:=ob h
   have hx:=of_some hx
   subst hx
   obtain ⟨i0_36,i1_36,h⟩:=oc2 h
   refine tkf 4 43 (.pointer (some ⟨b1,0+((iadd .i64 (imul .i64 2 z11) 1):Int).toNat*1,none⟩)) (yi 32 21 256 1 .i64 (iadd .i64 (imul .i64 2 z11) 1) i0_36 i1_36) ?_
   refine tkt 5 44 (I4 (rd a0 (iadd .i64 (imul .i64 2 z11) 1))) (yA hs 3 21 (iadd .i64 (imul .i64 2 z11) 1) rfl i0_36 i1_36 .grow) ?_
   refine nq 6 [(45,I4 x16),(46,I4 (imul .i32 (rd a0 (iadd .i64 (imul .i64 2 z11) 1)) x16)),(47,I4 (iadd .i32 z10 (imul .i32 (rd a0 (iadd .i64 (imul .i64 2 z11) 1)) x16))),(48,I4 (irem .i32 (iadd .i32 z10 (imul .i32 (rd a0 (iadd .i64 (imul .i64 2 z11) 1)) x16)) 3329))] ?_
   obtain ⟨x20,hx,h⟩:=ob h
   refine tkf 10 7 (I4 x20) (yn hx) ?_
   refine fin (j35 _ _ (iN (T s28 (xn 3 fun _ j37=>?_))))
   refine nq 0 [(17,I8 z11),(18,I8 (iadd .i64 z11 1))] ?_
   obtain ⟨x21,hx,h⟩:=ob h
   refine tkf 2 8 (I8 x21) (yn hx) ?_
   refine fin (j37 _ _ ?_)
   exact tn (kl1 _ _ ⟨n,ls n,x18,x20,x21,h,(hs.conv rfl),eg⟩)
   refine tb 1 16 (df hc) ?_
   refine fj j27 s26 (cf (xexit (tx (tx (iH ?_)))))
   obtain ⟨rfl,rfl⟩:=os2 h
   exact exq_n (nn1 _ _ ⟨(hs.conv rfl),eg⟩)
  clear hs h hy
  rintro a w ⟨hs,g24,rfl⟩
  have h:=hk1
  refine T s20 (xs fun _ s38=>(xn 7 fun _ j39=>?_))
  refine nq 0 [(49,I8 z6),(50,I8 (imul .i64 2 z6)),(51,I4 y12),(52,I4 (imul .i32 y12 3303)),(53,I4 (irem .i32 (imul .i32 y12 3303) 3329))] ?_
  obtain ⟨x22,hx,h⟩:=ob h
  have hx:=of_some hx
  subst hx
  obtain ⟨i0_40,i1_40,h⟩:=oc2 h
  refine tkf 5 54 (P1 b5 (imul .i64 2 z6)) (yi 32 21 256 1 .i64 (imul .i64 2 z6) i0_40 i1_40) ?_
  obtain ⟨x23,hx,h⟩:=ob h
  refine so 6 (oA 21 x23 (imul .i64 2 z6) hs 0 rfl (by cases hx; kernel_rfl) i0_40 i1_40 fun w kp hs=>?_)
  refine fj j39 s38 (xn 8 fun _ j41=>?_)
  refine nq 0 [(55,I8 z6),(56,I8 (imul .i64 2 z6)),(57,I8 (iadd .i64 (imul .i64 2 z6) 1)),(58,I4 y13),(59,I4 (imul .i32 y13 3303)),(60,I4 (irem .i32 (imul .i32 y13 3303) 3329))] ?_
  obtain ⟨x24,hx,h⟩:=ob h
  have hx:=of_some hx
  subst hx
  obtain ⟨i0_42,i1_42,h⟩:=oc2 h
  refine tkf 6 61 (.pointer (some ⟨b5,0+((iadd .i64 (imul .i64 2 z6) 1):Int).toNat*1,none⟩)) (yi 32 21 256 1 .i64 (iadd .i64 (imul .i64 2 z6) 1) i0_42 i1_42) ?_
  obtain ⟨x25,hx,h⟩:=ob h
  refine so 7 (oA 21 x25 (iadd .i64 (imul .i64 2 z6) 1) hs 0 rfl (by cases hx; kernel_rfl) i0_42 i1_42 fun w kp hs=>?_)
  refine fin (j41 _ _ (iN (T s15 (xn 3 fun _ j43=>?_))))
  refine nq 0 [(13,I8 z6),(14,I8 (iadd .i64 z6 1))] ?_
  obtain ⟨x26,hx,h⟩:=ob h
  refine tkf 2 5 (I8 x26) (yn hx) ?_
  refine fin (j43 _ _ ?_)
  exact tn (kl0 _ _ ⟨n,ls n,x26,(wr (wr z7 (imul .i64 2 z6) x23) (iadd .i64 (imul .i64 2 z6) 1) x25),h,(hs.conv rfl),eg⟩)
  refine tb 1 12 (df hc) ?_
  refine fj j14 s13 (cf (xexit (tx (tx (iH ?_)))))
  obtain rfl:=of_some h
  exact exq_n (nn0 _ _ ⟨(hs.conv rfl),eg⟩)
 clear hs h hy
 rintro a w ⟨hs,g11,rfl⟩
 have h:=hk0
 refine T s7 (xs fun _ s44=>(xn 2 fun _ j45=>?_))
 refine tkt 0 62 (ag .i32 y8) (yWe 32 hs 0 .grow) ?_
 refine so 1 (oWe 32 .i32 y8 hs 2 fun w kp hs=>?_)
 refine fj j45 s44 (xret ?_)
 obtain rfl:=of_some h
 exact qq _ _ (pr (rr [.cell 2 32] [ag .i32 y8] (.cons (rcN 256 hs 2 rfl (enc_len _ _)) .nil)) ⟨cr,hs.none⟩)
end Go.Proofs.YtemdbgmldljbpaaDoor
