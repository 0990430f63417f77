/- own -/
import Derived.Test.YtemdbgmldljbpaaDoorMh
import Derived.Test.YtemdbgmldljbpaaDoorProg
import Derived.Test.YtemdbgmldljbpaaDoorYFKemShares
import Derived.Test.YtemdbgmldljbpaaDoorYX0
import Derived.Test.YtemdbgmldljbpaaDoorYX10
import Derived.Test.YtemdbgmldljbpaaDoorYX11
set_option linter.unusedVariables false
set_option linter.unusedSimpArgs false
set_option maxRecDepth 100000
set_option maxHeartbeats 4000000
namespace Go.Proofs.YtemdbgmldljbpaaDoor
open Go.Mx
attribute [local irreducible] wpOp
theorem ref25_Squeeze.ok {K:Nat}{a0:Arr 256}{a1:Int}{r0:Arr 256}(h:ref25_Squeeze.f K a0 a1=some r0) (w0:World):Ret Tryd.prog 62 #[ag .i32 a0,I8 a1] w0 (ag .i32 r0):=by
 refine calls_k Tryd.func62 rfl fun Q qq=>?_
 have hs:=St.start w0
 refine wc (a':=(fu 29 [ag .i32 a0,I8 a1])) ?_
 refine xs fun _ s1=>?_
 refine xn 2 fun _ j2=>?_
 refine so 0 (oBe 2 32 .i32 a0 hs fun b1 w gw hs=>?_)
 refine so 1 (oNe 4 32 .i32 (zeroA 256) hs fun b2 w gw hs=>?_)
 refine fj j2 s1 (xs fun _ s3=>(xs fun _ s4=>(xn 6 fun _ j5=>?_)))
 refine qo 0 6 (I8 a1) ?_
 obtain ⟨hc,h⟩|⟨hc,h⟩:=of_if h
 refine tb 1 7 (dt hc) ?_
 refine nq 2 [(8,.bool true),(9,undef),(10,undef),(11,.bool true)] ?_
 refine fj j5 s4 (ct (xs fun _ s6=>(xn 2 fun _ j7=>?_)))
 refine qo 0 12 (ag .i32 (zeroA 256)) ?_
 refine so 1 (oWe 32 .i32 (zeroA 256) hs 0 fun w kp hs=>?_)
 refine fj j7 s6 (xret (tr ?_))
 obtain rfl:=of_some h
 exact qq _ _ (pr (rr [.cell 4 32] [ag .i32 (zeroA 256)] (.cons (rcN 256 hs 0 rfl (enc_len _ _)) .nil)) ⟨cr,hs.none⟩)
 refine tb 1 7 (df hc) ?_
 refine nq 2 [(8,.bool false),(9,I8 a1)] ?_
 obtain ⟨hc,h⟩|⟨hc,h⟩:=of_if h
 refine tb 4 10 (dt hc) ?_
 refine qo 5 11 (.bool true) ?_
 refine fj j5 s4 (ct (xs fun _ s8=>(xn 2 fun _ j9=>?_)))
 refine qo 0 12 (ag .i32 (zeroA 256)) ?_
 refine so 1 (oWe 32 .i32 (zeroA 256) hs 0 fun w kp hs=>?_)
 refine fj j9 s8 (xret (tr ?_))
 obtain rfl:=of_some h
 exact qq _ _ (pr (rr [.cell 4 32] [ag .i32 (zeroA 256)] (.cons (rcN 256 hs 0 rfl (enc_len _ _)) .nil)) ⟨cr,hs.none⟩)
 refine tb 4 10 (df hc) ?_
 refine qo 5 11 (.bool false) ?_
 refine fj j5 s4 (cf (xk (T s3 (xs fun _ s10=>(xs fun _ s11=>(xn 1 fun _ j12=>?_))))))
 refine qo 0 5 (I8 0) ?_
 refine fj j12 s11 (?_)
 obtain ⟨y5,hy,hk0⟩:=ob h
 refine wp_exq (N:=fun a w=>St w0 [] [.blk b2 (enc .i32 (zeroA 256)) 32,.blk b1 (enc .i32 y5) 32] [] w∧∃ g14,a=fr g14 31 [(2,[P0 b1]),(4,[P0 b2])]) (fun N0 nn0=>?_) ?_
 clear hk0
 refine xb ?_
 refine wp_loop_k (fun n a w=>∃ z3 z4,ref25_Squeeze.l0 K n a1 z3 z4=some y5∧St w0 [] [.blk b2 (enc .i32 (zeroA 256)) 32,.blk b1 (enc .i32 z4) 32] [] w∧∃ g13,a=fr g13 31 [(1,[I8 a1,P0 b1]),(4,[P0 b2,I8 z3])]) K ⟨0,a0,hy,hs.conv rfl,eg⟩ ?_
 clear hs h hy
 rintro n a w ⟨z3,z4,h,hs,g13,rfl⟩ KL0 kl0
 cases n with
 | zero=>exact nomatch (show none=some _ from h)
 | succ n=>
  refine xs fun _ s15=>?_
  refine xs fun _ s16=>?_
  refine xn 2 fun _ j17=>?_
  refine qo 0 13 (I8 z3) ?_
  obtain ⟨hc,h⟩|⟨hc,h⟩:=of_if h
  refine tb 1 14 (dt hc) ?_
  refine fj j17 s16 (ct (xk (T s15 (xs fun _ s18=>(xb ?_)))))
  refine rg [13] (fun k=>True) 14 fun _ j19=>?_
  have hs:=hs.drawn1
  refine gq 0 17 (I8 z3) ?_
  refine gq 1 18 (I8 z3) ?_
  obtain ⟨i0_20,i1_20,h⟩:=oc2 h
  refine tgf 2 19 (P1 b1 z3) (yi 32 21 256 1 .i64 z3 i0_20 i1_20) ?_
  refine tgt 3 20 _ (yA hs 1 21 z3 rfl i0_20 i1_20 .grow) ?_
  refine gq 4 21 (I4 (imul .i32 2 (rd z4 z3))) ?_
  refine gq 5 22 (I8 a1) ?_
  obtain ⟨h0,h⟩:=oc h
  refine tgf 6 23 (I4 (ishl .i32 (imul .i32 2 (rd z4 z3)) a1)) (ysl 21 .i64 h0) ?_
  refine gq 7 24 (I4 (iadd .i32 (ishl .i32 (imul .i32 2 (rd z4 z3)) a1) 3329)) ?_
  refine gq 8 25 (I4 (iquo .i32 (iadd .i32 (ishl .i32 (imul .i32 2 (rd z4 z3)) a1) 3329) 6658)) ?_
  refine gq 9 26 (I8 a1) ?_
  obtain ⟨h0,h⟩:=oc h
  refine tgf 10 27 (I4 (ishl .i32 1 a1)) (ysl 21 .i64 h0) ?_
  obtain ⟨h0,h⟩:=oc h
  refine tgf 11 28 (I4 (irem .i32 (iquo .i32 (iadd .i32 (ishl .i32 (imul .i32 2 (rd z4 z3)) a1) 3329) 6658) (ishl .i32 1 a1))) (yr 21 h0) ?_
  obtain ⟨i0_21,i1_21,h⟩:=oc2 h
  refine tgf 12 29 (P1 b1 z3) (yi 32 21 256 1 .i64 z3 i0_21 i1_21) ?_
  obtain ⟨x6,hx,h⟩:=ob h
  refine go 13 (oA 21 x6 z3 hs 1 rfl (by cases hx; kernel_rfl) i0_21 i1_21 fun w kp hs=>⟨⟨fun hf=>absurd hf (by decide),.all _ _⟩,?_⟩)
  refine gf (j19 _ _ ?_)
  refine iN (T s18 (xn 3 fun _ j22=>?_))
  refine nq 0 [(15,I8 z3),(16,I8 (iadd .i64 z3 1))] ?_
  obtain ⟨x7,hx,h⟩:=ob h
  refine tkf 2 5 (I8 x7) (yn hx) ?_
  refine fin (j22 _ _ ?_)
  exact tn (kl0 _ _ ⟨n,ls n,x7,(wr z4 z3 x6),h,(hs.conv rfl),eg⟩)
  refine tb 1 14 (df hc) ?_
  refine fj j17 s16 (cf (xexit (tx (tx (iH ?_)))))
  obtain rfl:=of_some h
  exact exq_n (nn0 _ _ ⟨(hs.conv rfl),eg⟩)
 clear hs h hy
 rintro a w ⟨hs,g14,rfl⟩
 have h:=hk0
 refine T s10 (xs fun _ s23=>(xn 2 fun _ j24=>?_))
 refine tkt 0 30 _ (yWe 32 hs 1 .grow) ?_
 refine so 1 (oWe 32 .i32 y5 hs 0 fun w kp hs=>?_)
 refine fj j24 s23 (xret ?_)
 obtain rfl:=of_some h
 exact qq _ _ (pr (rr [.cell 4 32] [ag .i32 y5] (.cons (rcN 256 hs 0 rfl (enc_len _ _)) .nil)) ⟨cr,hs.none⟩)
theorem ref25_Widen.ok {K:Nat}{a0:Arr 256}{a1:Int}{r0:Arr 256}(h:ref25_Widen.f K a0 a1=some r0) (w0:World):Ret Tryd.prog 63 #[ag .i32 a0,I8 a1] w0 (ag .i32 r0):=by
 refine calls_k Tryd.func63 rfl fun Q qq=>?_
 have hs:=St.start w0
 refine wc (a':=(fu 36 [ag .i32 a0,I8 a1])) ?_
 refine xs fun _ s1=>?_
 refine xn 2 fun _ j2=>?_
 refine so 0 (oBe 2 32 .i32 a0 hs fun b1 w gw hs=>?_)
 refine so 1 (oNe 4 32 .i32 (zeroA 256) hs fun b2 w gw hs=>?_)
 refine fj j2 s1 (xs fun _ s3=>(xs fun _ s4=>?_))
 refine rg [] (fun k=>True) 13 fun _ j5=>?_
 have hs:=hs.drawn1
 refine gq 0 6 (I8 a1) ?_
 obtain ⟨hc,h⟩|⟨hc,h⟩:=of_if h
 refine gb 1 7 (dt hc) ?_
 refine gq 2 8 (.bool true) ?_
 refine gq 3 9 undef ?_
 refine gq 4 10 undef ?_
 refine gq 5 11 (.bool true) ?_
 refine gq 6 12 (.bool true) ?_
 refine gq 7 13 undef ?_
 refine gq 8 14 undef ?_
 refine gq 9 15 undef ?_
 refine gq 10 16 undef ?_
 refine gq 11 17 undef ?_
 refine gq 12 18 (.bool true) ?_
 refine gf (j5 _ _ ?_)
 refine T s4 (ct (xs fun _ s6=>(xn 2 fun _ j7=>?_)))
 refine qo 0 19 (ag .i32 (zeroA 256)) ?_
 refine so 1 (oWe 32 .i32 (zeroA 256) hs 0 fun w kp hs=>?_)
 refine fj j7 s6 (xret (tr ?_))
 obtain rfl:=of_some h
 exact qq _ _ (pr (rr [.cell 4 32] [ag .i32 (zeroA 256)] (.cons (rcN 256 hs 0 rfl (enc_len _ _)) .nil)) ⟨cr,hs.none⟩)
 refine gb 1 7 (df hc) ?_
 refine gq 2 8 (.bool false) ?_
 refine gq 3 9 (I8 a1) ?_
 obtain ⟨hc,h⟩|⟨hc,h⟩:=of_if h
 refine gb 4 10 (dt hc) ?_
 refine gq 5 11 (.bool true) ?_
 refine gq 6 12 (.bool true) ?_
 refine gq 7 13 undef ?_
 refine gq 8 14 undef ?_
 refine gq 9 15 undef ?_
 refine gq 10 16 undef ?_
 refine gq 11 17 undef ?_
 refine gq 12 18 (.bool true) ?_
 refine gf (j5 _ _ ?_)
 refine T s4 (ct (xs fun _ s8=>(xn 2 fun _ j9=>?_)))
 refine qo 0 19 (ag .i32 (zeroA 256)) ?_
 refine so 1 (oWe 32 .i32 (zeroA 256) hs 0 fun w kp hs=>?_)
 refine fj j9 s8 (xret (tr ?_))
 obtain rfl:=of_some h
 exact qq _ _ (pr (rr [.cell 4 32] [ag .i32 (zeroA 256)] (.cons (rcN 256 hs 0 rfl (enc_len _ _)) .nil)) ⟨cr,hs.none⟩)
 refine gb 4 10 (df hc) ?_
 refine gq 5 11 (.bool false) ?_
 refine gq 6 12 (.bool false) ?_
 refine tgt 7 13 _ (yWe 32 hs 1 .grow) ?_
 refine gq 8 14 (I8 a1) ?_
 obtain ⟨h0,h⟩:=oc h
 refine tgf 9 15 (I4 (ishl .i32 1 a1)) (ysl 21 .i64 h0) ?_
 obtain ⟨r3,hg,h⟩:=ob h
 cases r3 with
 | true=>
  have h:=of_if_t h
  refine go 10 (oC 16 hs (ref25_Below.ok hg _) fun w gw hs=>⟨.of gw,?_⟩)
  refine gq 11 17 (.bool false) ?_
  refine gq 12 18 (.bool false) ?_
  refine gf (j5 _ _ ?_)
  refine T s4 (cf (xk (T s3 (xs fun _ s10=>(xs fun _ s11=>(xn 1 fun _ j12=>?_))))))
  refine qo 0 5 (I8 0) ?_
  refine fj j12 s11 (?_)
  obtain ⟨y6,hy,hk0⟩:=ob h
  refine wp_exq (N:=fun a w=>St w0 [] [.blk b2 (enc .i32 (zeroA 256)) 32,.blk b1 (enc .i32 y6) 32] [] w∧∃ g14,a=fr g14 38 [(2,[P0 b1]),(4,[P0 b2])]) (fun N0 nn0=>?_) ?_
  clear hk0
  refine xb ?_
  refine wp_loop_k (fun n a w=>∃ z4 z5,ref25_Widen.l0 K n a1 z4 z5=some y6∧St w0 [] [.blk b2 (enc .i32 (zeroA 256)) 32,.blk b1 (enc .i32 z5) 32] [] w∧∃ g13,a=fr g13 38 [(1,[I8 a1,P0 b1]),(4,[P0 b2,I8 z4])]) K ⟨0,a0,hy,hs.conv rfl,eg⟩ ?_
  clear hs h hy
  rintro n a w ⟨z4,z5,h,hs,g13,rfl⟩ KL0 kl0
  cases n with
  | zero=>exact nomatch (show none=some _ from h)
  | succ n=>
   refine xs fun _ s15=>?_
   refine xs fun _ s16=>?_
   refine xn 2 fun _ j17=>?_
   refine qo 0 20 (I8 z4) ?_
   obtain ⟨hc,h⟩|⟨hc,h⟩:=of_if h
   refine tb 1 21 (dt hc) ?_
   refine fj j17 s16 (ct (xk (T s15 (xs fun _ s18=>(xb ?_)))))
   refine rg [13] (fun k=>True) 14 fun _ j19=>?_
   have hs:=hs.drawn1
   refine gq 0 24 (I8 z4) ?_
   refine gq 1 25 (I8 z4) ?_
   obtain ⟨i0_20,i1_20,h⟩:=oc2 h
   refine tgf 2 26 (P1 b1 z4) (yi 32 21 256 1 .i64 z4 i0_20 i1_20) ?_
   refine tgt 3 27 _ (yA hs 1 21 z4 rfl i0_20 i1_20 .grow) ?_
   refine gq 4 28 (I4 (imul .i32 2 (rd z5 z4))) ?_
   refine gq 5 29 (I4 (imul .i32 (imul .i32 2 (rd z5 z4)) 3329)) ?_
   refine gq 6 30 (I8 a1) ?_
   obtain ⟨h0,h⟩:=oc h
   refine tgf 7 31 (I4 (ishl .i32 1 a1)) (ysl 21 .i64 h0) ?_
   refine gq 8 32 (I4 (iadd .i32 (imul .i32 (imul .i32 2 (rd z5 z4)) 3329) (ishl .i32 1 a1))) ?_
   refine gq 9 33 (I8 a1) ?_
   obtain ⟨h0,h⟩:=oc h
   refine tgf 10 34 (I4 (ishl .i32 2 a1)) (ysl 21 .i64 h0) ?_
   obtain ⟨h0,h⟩:=oc h
   refine tgf 11 35 (I4 (iquo .i32 (iadd .i32 (imul .i32 (imul .i32 2 (rd z5 z4)) 3329) (ishl .i32 1 a1)) (ishl .i32 2 a1))) (yq 21 h0) ?_
   obtain ⟨i0_21,i1_21,h⟩:=oc2 h
   refine tgf 12 36 (P1 b1 z4) (yi 32 21 256 1 .i64 z4 i0_21 i1_21) ?_
   obtain ⟨x7,hx,h⟩:=ob h
   refine go 13 (oA 21 x7 z4 hs 1 rfl (by cases hx; kernel_rfl) i0_21 i1_21 fun w kp hs=>⟨⟨fun hf=>absurd hf (by decide),.all _ _⟩,?_⟩)
   refine gf (j19 _ _ ?_)
   refine iN (T s18 (xn 3 fun _ j22=>?_))
   refine nq 0 [(22,I8 z4),(23,I8 (iadd .i64 z4 1))] ?_
   obtain ⟨x8,hx,h⟩:=ob h
   refine tkf 2 5 (I8 x8) (yn hx) ?_
   refine fin (j22 _ _ ?_)
   exact tn (kl0 _ _ ⟨n,ls n,x8,(wr z5 z4 x7),h,(hs.conv rfl),eg⟩)
   refine tb 1 21 (df hc) ?_
   refine fj j17 s16 (cf (xexit (tx (tx (iH ?_)))))
   obtain rfl:=of_some h
   exact exq_n (nn0 _ _ ⟨(hs.conv rfl),eg⟩)
  clear hs h hy
  rintro a w ⟨hs,g14,rfl⟩
  have h:=hk0
  refine T s10 (xs fun _ s23=>(xn 2 fun _ j24=>?_))
  refine tkt 0 37 _ (yWe 32 hs 1 .grow) ?_
  refine so 1 (oWe 32 .i32 y6 hs 0 fun w kp hs=>?_)
  refine fj j24 s23 (xret ?_)
  obtain rfl:=of_some h
  exact qq _ _ (pr (rr [.cell 4 32] [ag .i32 y6] (.cons (rcN 256 hs 0 rfl (enc_len _ _)) .nil)) ⟨cr,hs.none⟩)
 | false=>
  have h:=of_if_f h
  refine go 10 (oC 16 hs (ref25_Below.ok hg _) fun w gw hs=>⟨.of gw,?_⟩)
  refine gq 11 17 (.bool true) ?_
  refine gq 12 18 (.bool true) ?_
  refine gf (j5 _ _ ?_)
  refine T s4 (ct (xs fun _ s25=>(xn 2 fun _ j26=>?_)))
  refine qo 0 19 (ag .i32 (zeroA 256)) ?_
  refine so 1 (oWe 32 .i32 (zeroA 256) hs 0 fun w kp hs=>?_)
  refine fj j26 s25 (xret (tr ?_))
  obtain rfl:=of_some h
  exact qq _ _ (pr (rr [.cell 4 32] [ag .i32 (zeroA 256)] (.cons (rcN 256 hs 0 rfl (enc_len _ _)) .nil)) ⟨cr,hs.none⟩)
theorem ref25_Ntt.ok {K:Nat}{a0 r0:Arr 256}(h:ref25_Ntt.f K a0=some r0) (w0:World):Ret Tryd.prog 67 #[ag .i32 a0] w0 (ag .i32 r0):=by
 refine calls_k Tryd.func67 rfl fun Q qq=>?_
 have hs:=St.start w0
 refine wc (a':=(fu 58 [ag .i32 a0])) ?_
 refine xs fun _ s1=>?_
 refine xn 2 fun _ j2=>?_
 refine so 0 (oBe 1 32 .i32 a0 hs fun b1 w gw hs=>?_)
 refine so 1 (oNe 2 32 .i32 (zeroA 256) hs fun b2 w gw hs=>?_)
 refine fj j2 s1 (xs fun _ s3=>(xn 3 fun _ j4=>?_))
 obtain ⟨r3,hg,h⟩:=ob h
 refine so 0 (oC 11 hs (ref25_powers.ok hg _) fun w gw hs=>?_)
 refine so 1 (oNe 3 31 .i32 (zeroA 256) hs fun b4 w gw hs=>?_)
 refine so 2 (oWe 31 .i32 r3 hs 0 fun w kp hs=>?_)
 refine fj j4 s3 (xs fun _ s5=>(xn 1 fun _ j6=>?_))
 refine so 0 (oNe 4 32 .i32 (zeroA 256) hs fun b5 w gw hs=>?_)
 refine fj j6 s5 (xs fun _ s7=>(xs fun _ s8=>(xn 1 fun _ j9=>?_)))
 refine qo 0 5 (I8 0) ?_
 refine fj j9 s8 (?_)
 obtain ⟨y8,hy,hk0⟩:=ob h
 refine wp_exq (N:=fun a w=>St w0 [] [.blk b5 (enc .i32 y8) 32,.blk b4 (enc .i32 r3) 31,.blk b2 (enc .i32 (zeroA 256)) 32,.blk b1 (enc .i32 a0) 32] [] w∧∃ g11,a=fr g11 59 [(2,[P0 b2]),(4,[P0 b5])]) (fun N0 nn0=>?_) ?_
 clear hk0
 refine xb ?_
 refine wp_loop_k (fun n a w=>∃ z6 z7,ref25_Ntt.l0 K n a0 r3 z6 z7=some y8∧St w0 [] [.blk b5 (enc .i32 z7) 32,.blk b4 (enc .i32 r3) 31,.blk b2 (enc .i32 (zeroA 256)) 32,.blk b1 (enc .i32 a0) 32] [] w∧∃ g10,a=fr g10 59 [(1,[P0 b1,P0 b2,P0 b4,P0 b5,I8 z6])]) K ⟨0,(zeroA 256),hy,hs.conv rfl,eg⟩ ?_
 clear hs h hy
 rintro n a w ⟨z6,z7,h,hs,g10,rfl⟩ KL0 kl0
 cases n with
 | zero=>exact nomatch (show none=some _ from h)
 | succ n=>
  refine xs fun _ s12=>?_
  refine xs fun _ s13=>?_
  refine xn 2 fun _ j14=>?_
  refine qo 0 12 (I8 z6) ?_
  obtain ⟨hc,h⟩|⟨hc,h⟩:=of_if h
  refine tb 1 13 (dt hc) ?_
  refine fj j14 s13 (ct (xk (T s12 (xs fun _ s15=>(xb (xs fun _ s16=>(xn 5 fun _ j17=>?_)))))))
  refine qo 0 16 (I8 z6) ?_
  obtain ⟨r9,hg,h⟩:=ob h
  refine so 1 (oC 17 hs (ref25_turned.ok hg _) fun w gw hs=>?_)
  refine nq 2 [(18,I8 (imul .i64 2 r9)),(19,I8 (iadd .i64 (imul .i64 2 r9) 1))] ?_
  obtain ⟨x10,hx,h⟩:=ob h
  refine tkf 4 6 (I8 x10) (yn hx) ?_
  refine fj j17 s16 (xs fun _ s18=>(xn 1 fun _ j19=>?_))
  refine qo 0 7 (I4 0) ?_
  refine fj j19 s18 (xs fun _ s20=>(xn 1 fun _ j21=>?_))
  refine qo 0 8 (I4 0) ?_
  refine fj j21 s20 (xs fun _ s22=>(xs fun _ s23=>(xn 1 fun _ j24=>?_)))
  refine qo 0 9 (I8 0) ?_
  refine fj j24 s23 (?_)
  obtain ⟨⟨y14,y15⟩,hy,hk1⟩:=ob h
  refine wp_exq (N:=fun a w=>St w0 [] [.blk b5 (enc .i32 z7) 32,.blk b4 (enc .i32 r3) 31,.blk b2 (enc .i32 (zeroA 256)) 32,.blk b1 (enc .i32 a0) 32] [] w∧∃ g26,a=fr g26 59 [(1,[P0 b1,P0 b2,P0 b4,P0 b5,I8 z6]),(7,[I4 y14,I4 y15])]) (fun N1 nn1=>?_) ?_
  clear hk1
  refine xb ?_
  refine wp_loop_k (fun n a w=>∃ z11 z12 z13,ref25_Ntt.l1 K n a0 r3 x10 z11 z12 z13=some (y14,y15)∧St w0 [] [.blk b5 (enc .i32 z7) 32,.blk b4 (enc .i32 r3) 31,.blk b2 (enc .i32 (zeroA 256)) 32,.blk b1 (enc .i32 a0) 32] [] w∧∃ g25,a=fr g25 59 [(1,[P0 b1,P0 b2,P0 b4,P0 b5,I8 z6,I8 x10,I4 z11,I4 z12,I8 z13])]) K ⟨0,0,0,hy,hs.conv rfl,eg⟩ ?_
  clear hs h hy
  rintro n a w ⟨z11,z12,z13,h,hs,g25,rfl⟩ KL1 kl1
  cases n with
  | zero=>exact nomatch (show none=some _ from h)
  | succ n=>
   refine xs fun _ s27=>?_
   refine xs fun _ s28=>?_
   refine xn 2 fun _ j29=>?_
   refine qo 0 20 (I8 z13) ?_
   obtain ⟨hc,h⟩|⟨hc,h⟩:=of_if h
   refine tb 1 21 (dt hc) ?_
   refine fj j29 s28 (ct (xk (T s27 (xs fun _ s30=>(xb (xs fun _ s31=>(xn 7 fun _ j32=>?_)))))))
   refine nq 0 [(24,I8 x10),(25,I8 z13),(26,I8 (imul .i64 x10 z13)),(27,I8 (irem .i64 (imul .i64 x10 z13) 256))] ?_
   obtain ⟨x16,hx,h⟩:=ob h
   have hx:=of_some hx
   subst hx
   obtain ⟨i0_33,i1_33,h⟩:=oc2 h
   refine tkf 4 28 (.pointer (some ⟨b4,0+((irem .i64 (imul .i64 x10 z13) 256):Int).toNat*1,none⟩)) (yi 31 21 256 1 .i64 (irem .i64 (imul .i64 x10 z13) 256) i0_33 i1_33) ?_
   refine tkt 5 29 _ (yA hs 1 21 (irem .i64 (imul .i64 x10 z13) 256) rfl i0_33 i1_33 .grow) ?_
   obtain ⟨x17,hx,h⟩:=ob h
   refine tkf 6 10 (I4 x17) (yn hx) ?_
   refine fj j32 s31 (xs fun _ s34=>(xn 10 fun _ j35=>?_))
   refine nq 0 [(30,I4 z11),(31,I8 z13),(32,I8 (imul .i64 2 z13))] ?_
   obtain ⟨x18,hx,h⟩:=ob h
   have hx:=of_some hx
   subst hx
   obtain ⟨i0_36,i1_36,h⟩:=oc2 h
   refine tkf 3 33 (P1 b1 (imul .i64 2 z13)) (yi 32 21 256 1 .i64 (imul .i64 2 z13) i0_36 i1_36) ?_
   refine tkt 4 34 _ (yA hs 3 21 (imul .i64 2 z13) rfl i0_36 i1_36 .grow) ?_
   refine nq 5 [(35,I4 x17),(36,I4 (imul .i32 (rd a0 (imul .i64 2 z13)) x17)),(37,I4 (iadd .i32 z11 (imul .i32 (rd a0 (imul .i64 2 z13)) x17))),(38,I4 (irem .i32 (iadd .i32 z11 (imul .i32 (rd a0 (imul .i64 2 z13)) x17)) 3329))] ?_
   obtain ⟨x19,hx,h⟩:=ob h
   refine tkf 9 7 (I4 x19) (yn hx) ?_
   refine fj j35 s34 (xn 11 fun _ j37=>?_)
   refine nq 0 [(39,I4 z12),(40,I8 z13),(41,I8 (imul .i64 2 z13)),(42,I8 (iadd .i64 (imul .i64 2 z13) 1))] ?_
   obtain ⟨x20,hx,h⟩:=ob h
   have hx:=of_some hx
   subst hx
   obtain ⟨i0_38,i1_38,h⟩:=oc2 h
   refine tkf 4 43 (.pointer (some ⟨b1,0+((iadd .i64 (imul .i64 2 z13) 1):Int).toNat*1,none⟩)) (yi 32 21 256 1 .i64 (iadd .i64 (imul .i64 2 z13) 1) i0_38 i1_38) ?_
   refine tkt 5 44 _ (yA hs 3 21 (iadd .i64 (imul .i64 2 z13) 1) rfl i0_38 i1_38 .grow) ?_
   refine nq 6 [(45,I4 x17),(46,I4 (imul .i32 (rd a0 (iadd .i64 (imul .i64 2 z13) 1)) x17)),(47,I4 (iadd .i32 z12 (imul .i32 (rd a0 (iadd .i64 (imul .i64 2 z13) 1)) x17))),(48,I4 (irem .i32 (iadd .i32 z12 (imul .i32 (rd a0 (iadd .i64 (imul .i64 2 z13) 1)) x17)) 3329))] ?_
   obtain ⟨x21,hx,h⟩:=ob h
   refine tkf 10 8 (I4 x21) (yn hx) ?_
   refine fin (j37 _ _ (iN (T s30 (xn 3 fun _ j39=>?_))))
   refine nq 0 [(22,I8 z13),(23,I8 (iadd .i64 z13 1))] ?_
   obtain ⟨x22,hx,h⟩:=ob h
   refine tkf 2 9 (I8 x22) (yn hx) ?_
   refine fin (j39 _ _ ?_)
   exact tn (kl1 _ _ ⟨n,ls n,x19,x21,x22,h,(hs.conv rfl),eg⟩)
   refine tb 1 21 (df hc) ?_
   refine fj j29 s28 (cf (xexit (tx (tx (iH ?_)))))
   obtain ⟨rfl,rfl⟩:=os2 h
   exact exq_n (nn1 _ _ ⟨(hs.conv rfl),eg⟩)
  clear hs h hy
  rintro a w ⟨hs,g26,rfl⟩
  have h:=hk1
  refine T s22 (xs fun _ s40=>(xn 5 fun _ j41=>?_))
  refine nq 0 [(49,I8 z6),(50,I8 (imul .i64 2 z6)),(51,I4 y14)] ?_
  obtain ⟨x23,hx,h⟩:=ob h
  have hx:=of_some hx
  subst hx
  obtain ⟨i0_42,i1_42,h⟩:=oc2 h
  refine tkf 3 52 (P1 b5 (imul .i64 2 z6)) (yi 32 21 256 1 .i64 (imul .i64 2 z6) i0_42 i1_42) ?_
  refine so 4 (oA 21 y14 (imul .i64 2 z6) hs 0 rfl (by kernel_rfl) i0_42 i1_42 fun w kp hs=>?_)
  refine fj j41 s40 (xn 6 fun _ j43=>?_)
  refine nq 0 [(53,I8 z6),(54,I8 (imul .i64 2 z6)),(55,I8 (iadd .i64 (imul .i64 2 z6) 1)),(56,I4 y15)] ?_
  obtain ⟨x24,hx,h⟩:=ob h
  have hx:=of_some hx
  subst hx
  obtain ⟨i0_44,i1_44,h⟩:=oc2 h
  refine tkf 4 57 (.pointer (some ⟨b5,0+((iadd .i64 (imul .i64 2 z6) 1):Int).toNat*1,none⟩)) (yi 32 21 256 1 .i64 (iadd .i64 (imul .i64 2 z6) 1) i0_44 i1_44) ?_
  refine so 5 (oA 21 y15 (iadd .i64 (imul .i64 2 z6) 1) hs 0 rfl (by kernel_rfl) i0_44 i1_44 fun w kp hs=>?_)
  refine fin (j43 _ _ (iN (T s15 (xn 3 fun _ j45=>?_))))
  refine nq 0 [(14,I8 z6),(15,I8 (iadd .i64 z6 1))] ?_
  obtain ⟨x25,hx,h⟩:=ob h
  refine tkf 2 5 (I8 x25) (yn hx) ?_
  refine fin (j45 _ _ ?_)
  exact tn (kl0 _ _ ⟨n,ls n,x25,(wr (wr z7 (imul .i64 2 z6) y14) (iadd .i64 (imul .i64 2 z6) 1) y15),h,(hs.conv rfl),eg⟩)
  refine tb 1 13 (df hc) ?_
  refine fj j14 s13 (cf (xexit (tx (tx (iH ?_)))))
  obtain rfl:=of_some h
  exact exq_n (nn0 _ _ ⟨(hs.conv rfl),eg⟩)
 clear hs h hy
 rintro a w ⟨hs,g11,rfl⟩
 have h:=hk0
 refine T s7 (xs fun _ s46=>(xn 2 fun _ j47=>?_))
 refine tkt 0 58 _ (yWe 32 hs 0 .grow) ?_
 refine so 1 (oWe 32 .i32 y8 hs 2 fun w kp hs=>?_)
 refine fj j47 s46 (xret ?_)
 obtain rfl:=of_some h
 exact qq _ _ (pr (rr [.cell 2 32] [ag .i32 y8] (.cons (rcN 256 hs 2 rfl (enc_len _ _)) .nil)) ⟨cr,hs.none⟩)
theorem ref25_Sub.ok {K:Nat}{a0 a1 r0:Arr 256}(h:ref25_Sub.f K a0 a1=some r0) (w0:World):Ret Tryd.prog 69 #[ag .i32 a0,ag .i32 a1] w0 (ag .i32 r0):=by
 refine calls_k Tryd.func69 rfl fun Q qq=>?_
 have hs:=St.start w0
 refine wc (a':=(fu 20 [ag .i32 a0,ag .i32 a1])) ?_
 refine xs fun _ s1=>?_
 refine xn 3 fun _ j2=>?_
 refine so 0 (oBe 2 32 .i32 a0 hs fun b1 w gw hs=>?_)
 refine so 1 (oBe 3 32 .i32 a1 hs fun b2 w gw hs=>?_)
 refine so 2 (oNe 4 32 .i32 (zeroA 256) hs fun b3 w gw hs=>?_)
 refine fj j2 s1 (xs fun _ s3=>(xs fun _ s4=>(xn 1 fun _ j5=>?_)))
 refine qo 0 5 (I8 0) ?_
 refine fj j5 s4 (?_)
 obtain ⟨y6,hy,hk0⟩:=ob h
 refine wp_exq (N:=fun a w=>St w0 [] [.blk b3 (enc .i32 (zeroA 256)) 32,.blk b2 (enc .i32 a1) 32,.blk b1 (enc .i32 y6) 32] [] w∧∃ g7,a=fr g7 22 [(2,[P0 b1]),(4,[P0 b3])]) (fun N0 nn0=>?_) ?_
 clear hk0
 refine xb ?_
 refine wp_loop_k (fun n a w=>∃ z4 z5,ref25_Sub.l0 K n a1 z4 z5=some y6∧St w0 [] [.blk b3 (enc .i32 (zeroA 256)) 32,.blk b2 (enc .i32 a1) 32,.blk b1 (enc .i32 z5) 32] [] w∧∃ g6,a=fr g6 22 [(2,[P0 b1,P0 b2,P0 b3,I8 z4])]) K ⟨0,a0,hy,hs.conv rfl,eg⟩ ?_
 clear hs h hy
 rintro n a w ⟨z4,z5,h,hs,g6,rfl⟩ KL0 kl0
 cases n with
 | zero=>exact nomatch (show none=some _ from h)
 | succ n=>
  refine xs fun _ s8=>?_
  refine xs fun _ s9=>?_
  refine xn 2 fun _ j10=>?_
  refine qo 0 6 (I8 z4) ?_
  obtain ⟨hc,h⟩|⟨hc,h⟩:=of_if h
  refine tb 1 7 (dt hc) ?_
  refine fj j10 s9 (ct (xk (T s8 (xs fun _ s11=>(xb ?_)))))
  refine rg [11] (fun k=>True) 12 fun _ j12=>?_
  have hs:=hs.drawn1
  refine gq 0 10 (I8 z4) ?_
  refine gq 1 11 (I8 z4) ?_
  obtain ⟨i0_13,i1_13,h⟩:=oc2 h
  refine tgf 2 12 (P1 b1 z4) (yi 32 21 256 1 .i64 z4 i0_13 i1_13) ?_
  refine tgt 3 13 _ (yA hs 2 21 z4 rfl i0_13 i1_13 .grow) ?_
  refine gq 4 14 (I8 z4) ?_
  obtain ⟨i0_14,i1_14,h⟩:=oc2 h
  refine tgf 5 15 (P1 b2 z4) (yi 32 21 256 1 .i64 z4 i0_14 i1_14) ?_
  refine tgt 6 16 _ (yA hs 1 21 z4 rfl i0_14 i1_14 .grow) ?_
  refine gq 7 17 (I4 (isub .i32 (rd z5 z4) (rd a1 z4))) ?_
  refine gq 8 18 (I4 (iadd .i32 (isub .i32 (rd z5 z4) (rd a1 z4)) 3329)) ?_
  refine gq 9 19 (I4 (irem .i32 (iadd .i32 (isub .i32 (rd z5 z4) (rd a1 z4)) 3329) 3329)) ?_
  obtain ⟨i0_15,i1_15,h⟩:=oc2 h
  refine tgf 10 20 (P1 b1 z4) (yi 32 21 256 1 .i64 z4 i0_15 i1_15) ?_
  obtain ⟨x7,hx,h⟩:=ob h
  refine go 11 (oA 21 x7 z4 hs 2 rfl (by cases hx; kernel_rfl) i0_15 i1_15 fun w kp hs=>⟨⟨fun hf=>absurd hf (by decide),.all _ _⟩,?_⟩)
  refine gf (j12 _ _ ?_)
  refine iN (T s11 (xn 3 fun _ j16=>?_))
  refine nq 0 [(8,I8 z4),(9,I8 (iadd .i64 z4 1))] ?_
  obtain ⟨x8,hx,h⟩:=ob h
  refine tkf 2 5 (I8 x8) (yn hx) ?_
  refine fin (j16 _ _ ?_)
  exact tn (kl0 _ _ ⟨n,ls n,x8,(wr z5 z4 x7),h,(hs.conv rfl),eg⟩)
  refine tb 1 7 (df hc) ?_
  refine fj j10 s9 (cf (xexit (tx (tx (iH ?_)))))
  obtain rfl:=of_some h
  exact exq_n (nn0 _ _ ⟨(hs.conv rfl),eg⟩)
 clear hs h hy
 rintro a w ⟨hs,g7,rfl⟩
 have h:=hk0
 refine T s3 (xs fun _ s17=>(xn 2 fun _ j18=>?_))
 refine tkt 0 21 _ (yWe 32 hs 2 .grow) ?_
 refine so 1 (oWe 32 .i32 y6 hs 0 fun w kp hs=>?_)
 refine fj j18 s17 (xret ?_)
 obtain rfl:=of_some h
 exact qq _ _ (pr (rr [.cell 4 32] [ag .i32 y6] (.cons (rcN 256 hs 0 rfl (enc_len _ _)) .nil)) ⟨cr,hs.none⟩)
theorem ref26_Decrypt.ok {K:Nat}{a0_0 a0_1 a0_2 a0_3 a0_4:Int}{a1 a2 r0:List Int}{r1:Int}{a1_A:Option Addr}{a1_n a1_c:Nat}{a2_A:Option Addr}{a2_n a2_c:Nat}(h:ref26_Decrypt.f K a0_0 a0_1 a0_2 a0_3 a0_4 a1 a2=some (r0,r1)) (w0:World) (hp1:RowL CB w0 a1_A a1_n a1_c a1) (hp2:RowL CB w0 a2_A a2_n a2_c a2):Calls Tryd.prog 24 #[.agg #[I8 a0_0,I8 a0_1,I8 a0_2,I8 a0_3,I8 a0_4],.slice a1_A a1_n a1_c,.slice a2_A a2_n a2_c] w0 fun e w'=>∃ h:(Option Addr × Nat × Nat),e = .returned (.tuple #[.slice h.1 h.2.1 h.2.2,I8 r1])∧St w0 [] [.ownL CB h.1 h.2.1 h.2.2 r0 5] [] w':=by
 refine calls_k Tryd.func24 rfl fun Q qq=>?_
 have hs:=St.startR (all_cons (RowP.ent hp1) (all_cons (RowP.ent hp2) all_nil))
 refine wc (a':=(fu 94 [.agg #[I8 a0_0,I8 a0_1,I8 a0_2,I8 a0_3,I8 a0_4],.slice a1_A a1_n a1_c,.slice a2_A a2_n a2_c])) ?_
 refine xs fun _ s1=>?_
 refine xn 3 fun _ j2=>?_
 refine so 0 (oBa 3 23 hs [I8 a0_0,I8 a0_1,I8 a0_2,I8 a0_3,I8 a0_4] fun b1 w gw hs=>?_)
 refine nq 1 [(6,.slice none 0 0),(7,I8 0)] ?_
 refine fj j2 s1 (xs fun _ s3=>(xn 9 fun _ j4=>?_))
 refine tkt 0 21 _ (yWs 5 23 hs 0 .grow) ?_
 obtain ⟨⟨r2,r3,r4⟩,hg,h⟩:=ob h
 refine so 1 (oC 22 hs (ref26_Sizes.ok hg _) fun w gw hs=>?_)
 refine nq 2 [(20,.tuple #[I8 r2,I8 r3,I8 r4]),(23,I8 r2),(24,I8 r3),(25,I8 r4),(8,I8 r2),(9,I8 r3),(10,I8 r4)] ?_
 refine fj j4 s3 (xs fun _ s5=>(xs fun _ s6=>(xn 2 fun _ j7=>?_)))
 refine qo 0 26 (I8 r3) ?_
 obtain ⟨hc,h⟩|⟨hc,h⟩:=of_if h
 refine tb 1 27 (et hc) ?_
 refine fj j7 s6 (ct (xs fun _ s8=>(xn 2 fun _ j9=>?_)))
 refine nq 0 [(6,.slice none 0 0),(7,I8 9)] ?_
 refine fj j9 s8 (xret (tr ?_))
 obtain ⟨rfl,rfl⟩:=os2 h
 have hs:=hs.addNilL CB 5
 exact qq _ _ (pt [6,7] [.slice none 0 0,I8 9] ⟨⟨none,0,0⟩,cr,(pz (dr [1,0] hs))⟩)
 refine tb 1 27 (ef hc) ?_
 refine fj j7 s6 (cf (xk (T s5 (xs fun _ s10=>(xs fun _ s11=>(xn 4 fun _ j12=>?_))))))
 refine qo 0 28 (.slice a1_A a1_n a1_c) ?_
 refine tkf 1 29 (I8 (a1.length:Int)) (yl (rR 0 hs)) ?_
 refine qo 2 30 (I8 r3) ?_
 obtain ⟨hc,h⟩|⟨hc,h⟩:=of_if h
 refine tb 3 31 (nf hc) ?_
 refine fj j12 s11 (cf (xk (T s10 (xs fun _ s13=>(xn 9 fun _ j14=>?_)))))
 refine nq 0 [(33,.slice a1_A a1_n a1_c),(34,P0 b1)] ?_
 refine tkt 2 35 _ (yv hs 0 0 3 rfl (by rfl) .grow) ?_
 obtain ⟨⟨r5,r6⟩,hg,h⟩:=ob h
 refine wpS.only 3 (oH 36 hs (ref26_read.ok hg _ (rR 0 hs)) ?_)
 rintro ⟨r5_A,r5_n,r5_c⟩ w gw hs
 have hs:=hs.conv (L':=[.ownL CZ r5_A r5_n r5_c r5 32,.blk b1 ([I8 a0_0,I8 a0_1,I8 a0_2,I8 a0_3,I8 a0_4]) 23]) rfl
 refine ⟨fun _=>trivial,?_⟩
 refine nq 4 [(32,.tuple #[.slice r5_A r5_n r5_c,.bool r6]),(37,.slice r5_A r5_n r5_c)] ?_
 cases r6 with
 | true=>
  have h:=of_if_t h
  refine nq 6 [(38,.bool true),(11,.slice r5_A r5_n r5_c),(12,.bool true)] ?_
  refine fj j14 s13 (xs fun _ s15=>(xs fun _ s16=>(xn 2 fun _ j17=>?_)))
  refine nq 0 [(39,.bool true),(40,.bool false)] ?_
  refine fj j17 s16 (cf (xk (T s15 (xs fun _ s18=>(xs fun _ s19=>(xn 4 fun _ j20=>?_))))))
  refine qo 0 41 (.slice a2_A a2_n a2_c) ?_
  refine tkf 1 42 (I8 (a2.length:Int)) (yl (rR 1 hs)) ?_
  refine qo 2 43 (I8 r4) ?_
  obtain ⟨hc,h⟩|⟨hc,h⟩:=of_if h
  refine tb 3 44 (nf hc) ?_
  refine fj j20 s19 (cf (xk (T s18 (xs fun _ s21=>(xn 11 fun _ j22=>?_)))))
  refine nq 0 [(46,.slice a2_A a2_n a2_c),(47,P0 b1)] ?_
  refine tkt 2 48 _ (yv hs 1 0 3 rfl (by rfl) .grow) ?_
  refine qo 3 49 (.pointer (some ⟨b1,3,none⟩)) ?_
  refine tkt 4 50 _ (yv hs 1 3 3 rfl (by rfl) .grow) ?_
  obtain ⟨⟨r7,r8⟩,hg,h⟩:=ob h
  refine wpS.only 5 (oH 51 hs (ref26_read.ok hg _ (rR 1 hs)) ?_)
  rintro ⟨r7_A,r7_n,r7_c⟩ w gw hs
  have hs:=hs.conv (L':=[.ownL CZ r7_A r7_n r7_c r7 32,.ownL CZ r5_A r5_n r5_c r5 32,.blk b1 ([I8 a0_0,I8 a0_1,I8 a0_2,I8 a0_3,I8 a0_4]) 23]) rfl
  refine ⟨fun _=>trivial,?_⟩
  refine nq 6 [(45,.tuple #[.slice r7_A r7_n r7_c,.bool r8]),(52,.slice r7_A r7_n r7_c),(53,.bool r8),(13,.slice r7_A r7_n r7_c),(14,.bool r8)] ?_
  refine fj j22 s21 (xs fun _ s23=>(xn 1 fun _ j24=>?_))
  refine qo 0 15 (.slice none 0 0) ?_
  refine fj j24 s23 (xs fun _ s25=>(xs fun _ s26=>(xn 1 fun _ j27=>?_)))
  refine qo 0 16 (I8 0) ?_
  refine fj j27 s26 (?_)
  have hs:=hs.addNilL CZ 32
  obtain ⟨y11,hy,hk0⟩:=ob h
  refine wp_exq (N:=fun a w=>∃ y11_A y11_n y11_c,St w0 [] [.ownL CZ y11_A y11_n y11_c y11 32,.ownL CZ r7_A r7_n r7_c r7 32,.ownL CZ r5_A r5_n r5_c r5 32,.blk b1 ([I8 a0_0,I8 a0_1,I8 a0_2,I8 a0_3,I8 a0_4]) 23] [.rowL CB a1_A a1_n a1_c a1,.rowL CB a2_A a2_n a2_c a2] w∧∃ g29,a=fr g29 97 [(2,[.slice a2_A a2_n a2_c,P0 b1]),(6,[.slice none 0 0,I8 0]),(11,[.slice r5_A r5_n r5_c]),(15,[.slice y11_A y11_n y11_c])]) (fun N0 nn0=>?_) ?_
  clear hk0
  refine xb ?_
  refine wp_loop_k (fun n a w=>∃ z9 z10,∃ z10_A z10_n z10_c,ref26_Decrypt.l0 K n a0_0 a0_3 r7 z9 z10=some y11∧St w0 [] [.ownL CZ z10_A z10_n z10_c z10 32,.ownL CZ r7_A r7_n r7_c r7 32,.ownL CZ r5_A r5_n r5_c r5 32,.blk b1 ([I8 a0_0,I8 a0_1,I8 a0_2,I8 a0_3,I8 a0_4]) 23] [.rowL CB a1_A a1_n a1_c a1,.rowL CB a2_A a2_n a2_c a2] w∧∃ g28,a=fr g28 97 [(2,[.slice a2_A a2_n a2_c,P0 b1]),(6,[.slice none 0 0,I8 0]),(11,[.slice r5_A r5_n r5_c]),(13,[.slice r7_A r7_n r7_c]),(15,[.slice z10_A z10_n z10_c,I8 z9])]) K ⟨0,([]:List (Arr 256)),none,0,0,hy,hs.conv rfl,eg⟩ ?_
  clear hs h hy
  rintro n a w ⟨z9,z10,z10_A,z10_n,z10_c,h,hs,g28,rfl⟩ KL0 kl0
  cases n with
  | zero=>exact nomatch (show none=some _ from h)
  | succ n=>
   refine xs fun _ s30=>?_
   refine xs fun _ s31=>?_
   refine xn 4 fun _ j32=>?_
   refine nq 0 [(54,I8 z9),(55,P0 b1)] ?_
   refine tkt 2 56 _ (yv hs 3 0 3 rfl (by rfl) .grow) ?_
   obtain ⟨hc,h⟩|⟨hc,h⟩:=of_if h
   refine tb 3 57 (dt hc) ?_
   refine fj j32 s31 (ct (xk (T s30 (xs fun _ s33=>(xb ?_)))))
   refine rg [10] (fun k=>True) 12 fun _ j34=>?_
   have hs:=hs.drawn1
   refine gq 0 60 (.slice z10_A z10_n z10_c) ?_
   refine gq 1 61 (.slice r7_A r7_n r7_c) ?_
   refine gq 2 62 (I8 z9) ?_
   obtain ⟨h0,h1,h⟩:=oc2 h
   have i0_35:=h0
   have i1_35:=h1
   refine tgf 3 63 (PA CZ r7_A z9) (yiL (C:=CZ) 77 32 .i64 z9 (rL 1 hs) h0 h1) ?_
   refine wpG.take [4,7,8,9,10,11] 4 true (some 64) (ag .i32 (rdL CZ r7 z9)) (by kernel_rfl) (by kernel_rfl) (yLA (C:=CZ) 32 z9 (rL 1 hs) rfl i0_35 i1_35) ?_
   refine gq 5 65 (.pointer (some ⟨b1,3,none⟩)) ?_
   refine wpG.take [6,7,8,9,10,11] 6 true (some 66) (I8 a0_3) (by kernel_rfl) (by kernel_rfl) (yv hs 3 3 3 rfl (by rfl) .grow) ?_
   obtain ⟨r12,hg,h⟩:=ob h
   refine go 7 (oC 67 hs (ref25_Widen.ok hg _) fun w gw hs=>⟨.of gw,?_⟩)
   obtain ⟨r13,hg,h⟩:=ob h
   refine go 8 (oC 68 hs (ref25_Ntt.ok hg _) fun w gw hs=>⟨.of gw,?_⟩)
   refine go 9 (oLL (C:=CZ) 69 77 32 1 (ag .i32 (zeroA 256)) #[(0,ag .i32 r13)] [r13] hs rfl rfl (by decide) (by decide) fun s14_A s14_n s14_c w gw hs=>⟨.of gw,?_⟩)
   obtain ⟨h0,h⟩:=oc h
   refine go 10 (oAp (C:=CZ) 70 77 77 32 1024 137438953472 hs 1 rfl (rL 0 hs) h0 (by decide) (by decide) fun s15_A s15_n s15_c w hs=>⟨⟨fun hf=>absurd hf (by decide),.all _ _⟩,?_⟩)
   refine gq 11 15 (.slice s15_A s15_n s15_c) ?_
   refine gf (j34 _ _ ?_)
   refine iN (T s33 (xn 3 fun _ j36=>?_))
   refine nq 0 [(58,I8 z9),(59,I8 (iadd .i64 z9 1))] ?_
   obtain ⟨x16,hx,h⟩:=ob h
   refine tkf 2 16 (I8 x16) (yn hx) ?_
   refine fin (j36 _ _ ?_)
   exact tn (kl0 _ _ ⟨n,ls n,x16,(z10++([r13]:List (Arr 256))),s15_A,s15_n,s15_c,h,(dr [0,1,1,1,1] hs),eg⟩)
   refine tb 3 57 (df hc) ?_
   refine fj j32 s31 (cf (xexit (tx (tx (iH ?_)))))
   obtain rfl:=of_some h
   exact exq_n (nn0 _ _ ⟨z10_A,z10_n,z10_c,(hs.conv rfl),eg⟩)
  clear hs h hy
  rintro a w ⟨y11_A,y11_n,y11_c,hs,g29,rfl⟩
  have h:=hk0
  refine T s25 (xs fun _ s37=>?_)
  obtain ⟨y18,hj,h⟩:=ob h
  refine wp_join (N:=fun a w=>∃ b17,St w0 [] [.blk b17 (enc .i32 y18) 32,.ownL CZ y11_A y11_n y11_c y11 32,.ownL CZ r7_A r7_n r7_c r7 32,.ownL CZ r5_A r5_n r5_c r5 32,.blk b1 ([I8 a0_0,I8 a0_1,I8 a0_2,I8 a0_3,I8 a0_4]) 23] [.rowL CB a1_A a1_n a1_c a1,.rowL CB a2_A a2_n a2_c a2] w∧∃ g38,a=fr g38 97 [(3,[P0 b1]),(6,[.slice none 0 0,I8 0]),(11,[.slice r5_A r5_n r5_c]),(15,[.slice y11_A y11_n y11_c]),(17,[P0 b17])]) (fun N nj=>?_) ?_
  clear h
  have h:=hj
  refine rg [15] (fun k=>True) 17 fun _ j39=>?_
  have hs:=hs.drawn1
  refine gq 0 72 (.slice a2_A a2_n a2_c) ?_
  refine gq 1 73 (.pointer (some ⟨b1,3,none⟩)) ?_
  refine tgt 2 74 _ (yv hs 3 3 3 rfl (by rfl) .grow) ?_
  refine gq 3 75 (I8 (imul .i64 32 a0_3)) ?_
  refine gq 4 76 (P0 b1) ?_
  refine tgt 5 77 _ (yv hs 3 0 3 rfl (by rfl) .grow) ?_
  refine gq 6 78 (I8 (imul .i64 (imul .i64 32 a0_3) a0_0)) ?_
  obtain ⟨h0,h1,h⟩:=oc2 h
  obtain ⟨h2,h⟩:=oc h
  obtain ⟨s19_A,hA⟩ : ∃ A,A=if a2_c=((imul .i64 (imul .i64 32 a0_3) a0_0):Int).toNat then a2_A else adr a2_A (((imul .i64 (imul .i64 32 a0_3) a0_0):Int).toNat*Cod.size CB):=⟨_,rfl⟩
  obtain ⟨s19_n,hn⟩ : ∃ n,n=((a2.length:Int):Int).toNat-((imul .i64 (imul .i64 32 a0_3) a0_0):Int).toNat:=⟨_,rfl⟩
  obtain ⟨s19_c,hc⟩ : ∃ c,c=a2_c-((imul .i64 (imul .i64 32 a0_3) a0_0):Int).toNat:=⟨_,rfl⟩
  refine tgf 7 79 (.slice s19_A s19_n s19_c) (ysb (C:=CB) 24 5 (some (I8 (imul .i64 (imul .i64 32 a0_3) a0_0))) none (imul .i64 (imul .i64 32 a0_3) a0_0) (a2.length:Int) (rR 1 hs) (.inr ⟨_,rfl⟩) (.inl ⟨rfl,rfl⟩) h0 h1 h2 hA hn hc) ?_
  have hs:=hs.addSub (C:=CB) 1 rfl h0 h1 h2 hA hn hc
  refine gq 8 80 (.pointer (some ⟨b1,4,none⟩)) ?_
  refine tgt 9 81 _ (yv hs 3 4 3 rfl (by rfl) .grow) ?_
  refine wpG.many [10,14] (by kernel_rfl) (by decide) (forall_cons ?_ (forall_cons ?_ forall_nil))
  obtain ⟨⟨r20,r21⟩,hg,h⟩:=ob h
  refine (oC 82 hs (ref25_Unpack.ok hg _ (rR 0 hs)) ?_)
  intro w gw hs
  refine ⟨.of gw,?_⟩
  refine gq 11 71 (.tuple #[ag .i32 r20,.bool r21]) ?_
  refine gq 12 83 (ag .i32 r20) ?_
  refine gq 13 84 (.bool r21) ?_
  refine go 14 (oNe 17 32 .i32 (zeroA 256) hs fun b22 w gw hs=>⟨.of gw,?_⟩)
  refine go 15 (oWe 32 .i32 r20 hs 0 fun w kp hs=>⟨⟨fun hf=>absurd hf (by decide),.all _ _⟩,?_⟩)
  refine gq 16 18 (.bool r21) ?_
  refine gf (j39 _ _ ?_)
  obtain rfl:=of_some h
  exact nj _ _ ⟨b22,(pk [1,2] hs),eg⟩
  refine (oN 17 32 hs (enc .i32 (zeroA 256)) (ag .i32 (zeroA 256)) ?_)
  intro b23 w gw hs
  refine ⟨.of gw,?_⟩
  obtain ⟨⟨r24,r25⟩,hg,h⟩:=ob h
  refine go 10 (oC 82 hs (ref25_Unpack.ok hg _ (rR 0 hs)) fun w gw hs=>⟨.of gw,?_⟩)
  refine gq 11 71 (.tuple #[ag .i32 r24,.bool r25]) ?_
  refine gq 12 83 (ag .i32 r24) ?_
  refine gq 13 84 (.bool r25) ?_
  refine go 15 (oWe 32 .i32 r24 hs 0 fun w kp hs=>⟨⟨fun hf=>absurd hf (by decide),.all _ _⟩,?_⟩)
  refine gq 16 18 (.bool r25) ?_
  refine gf (j39 _ _ ?_)
  obtain rfl:=of_some h
  exact nj _ _ ⟨b23,(pk [1,2] hs),eg⟩
  clear hj hs
  rintro a w ⟨b17,hs,g38,rfl⟩
  refine T s37 (xs fun _ s40=>(xn 11 fun _ j41=>?_))
  refine tkt 0 85 _ (yWe 32 hs 0 .grow) ?_
  refine qo 1 86 (.pointer (some ⟨b1,4,none⟩)) ?_
  refine tkt 2 87 _ (yv hs 4 4 3 rfl (by rfl) .grow) ?_
  obtain ⟨r26,hg,h⟩:=ob h
  refine so 3 (oC 88 hs (ref25_Widen.ok hg _) fun w gw hs=>?_)
  refine nq 4 [(89,.slice r5_A r5_n r5_c),(90,.slice y11_A y11_n y11_c)] ?_
  obtain ⟨r27,hg,h⟩:=ob h
  refine so 6 (oC 91 hs (ref26_dot.ok hg _ (rL 3 hs) (rL 1 hs)) fun w gw hs=>?_)
  obtain ⟨r28,hg,h⟩:=ob h
  refine so 7 (oC 92 hs (ref25_Back.ok hg _) fun w gw hs=>?_)
  obtain ⟨r29,hg,h⟩:=ob h
  refine so 8 (oC 93 hs (ref25_Sub.ok hg _) fun w gw hs=>?_)
  refine so 9 (oNe 19 32 .i32 (zeroA 256) hs fun b30 w gw hs=>?_)
  refine so 10 (oWe 32 .i32 r29 hs 0 fun w kp hs=>?_)
  refine fj j41 s40 (xs fun _ s42=>(xn 5 fun _ j43=>?_))
  refine tkt 0 94 _ (yWe 32 hs 0 .grow) ?_
  obtain ⟨r31,hg,h⟩:=ob h
  refine so 1 (oC 95 hs (ref25_Squeeze.ok hg _) fun w gw hs=>?_)
  obtain ⟨r32,hg,h⟩:=ob h
  refine wpS.only 2 (oH 96 hs (ref25_Pack.ok hg _) ?_)
  rintro ⟨r32_A,r32_n,r32_c⟩ w gw hs
  have hs:=hs.conv (L':=[.ownL CB r32_A r32_n r32_c r32 5,.blk b30 (enc .i32 r29) 32,.blk b17 (enc .i32 y18) 32,.ownL CZ y11_A y11_n y11_c y11 32,.ownL CZ r7_A r7_n r7_c r7 32,.ownL CZ r5_A r5_n r5_c r5 32,.blk b1 ([I8 a0_0,I8 a0_1,I8 a0_2,I8 a0_3,I8 a0_4]) 23]) rfl
  refine ⟨fun _=>trivial,?_⟩
  refine nq 3 [(6,.slice r32_A r32_n r32_c),(7,I8 0)] ?_
  refine fj j43 s42 (xret ?_)
  obtain ⟨rfl,rfl⟩:=os2 h
  exact qq _ _ (pt [6,7] [.slice r32_A r32_n r32_c,I8 0] ⟨⟨r32_A,r32_n,r32_c⟩,cr,(pz (dr [1,0,0,0,0,0,0] hs))⟩)
  refine tb 3 44 (nt hc) ?_
  refine fj j20 s19 (ct (xs fun _ s44=>(xn 2 fun _ j45=>?_)))
  refine nq 0 [(6,.slice none 0 0),(7,I8 14)] ?_
  refine fj j45 s44 (xret (tr ?_))
  obtain ⟨rfl,rfl⟩:=os2 h
  have hs:=hs.addNilL CB 5
  exact qq _ _ (pt [6,7] [.slice none 0 0,I8 14] ⟨⟨none,0,0⟩,cr,(pz (dr [1,0,0] hs))⟩)
 | false=>
  have h:=of_if_f h
  refine nq 6 [(38,.bool false),(11,.slice r5_A r5_n r5_c),(12,.bool false)] ?_
  refine fj j14 s13 (xs fun _ s46=>(xs fun _ s47=>(xn 2 fun _ j48=>?_)))
  refine nq 0 [(39,.bool false),(40,.bool true)] ?_
  refine fj j48 s47 (ct (xs fun _ s49=>(xn 2 fun _ j50=>?_)))
  refine nq 0 [(6,.slice none 0 0),(7,I8 10)] ?_
  refine fj j50 s49 (xret (tr ?_))
  obtain ⟨rfl,rfl⟩:=os2 h
  have hs:=hs.addNilL CB 5
  exact qq _ _ (pt [6,7] [.slice none 0 0,I8 10] ⟨⟨none,0,0⟩,cr,(pz (dr [1,0,0] hs))⟩)
 refine tb 3 31 (nt hc) ?_
 refine fj j12 s11 (ct (xs fun _ s51=>(xn 2 fun _ j52=>?_)))
 refine nq 0 [(6,.slice none 0 0),(7,I8 10)] ?_
 refine fj j52 s51 (xret (tr ?_))
 obtain ⟨rfl,rfl⟩:=os2 h
 have hs:=hs.addNilL CB 5
 exact qq _ _ (pt [6,7] [.slice none 0 0,I8 10] ⟨⟨none,0,0⟩,cr,(pz (dr [1,0] hs))⟩)
end Go.Proofs.YtemdbgmldljbpaaDoor
