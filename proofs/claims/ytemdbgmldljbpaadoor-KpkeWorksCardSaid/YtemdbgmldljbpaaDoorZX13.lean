/- own -/
import Derived.Test.YtemdbgmldljbpaaDoorMh
import Derived.Test.YtemdbgmldljbpaaDoorProg
import Derived.Test.YtemdbgmldljbpaaDoorZFKpkeWorks
import Derived.Test.YtemdbgmldljbpaaDoorZX8
set_option linter.unusedVariables false
set_option linter.unusedSimpArgs false
set_option maxRecDepth 100000
set_option maxHeartbeats 4000000
namespace Go.Proofs.YtemdbgmldljbpaaDoor
open Go.Mx
attribute [local irreducible] wpOp
theorem ref25_Squeeze.ok {K:Nat}{a0:Arr 256}{a1:Int}{r0:Arr 256}(h:ref25_Squeeze.f K a0 a1=some r0) (w0:World):Ret Tryd.prog 62 #[ag .i32 a0,I8 a1] w0 (ag .i32 r0):=by
 refine calls_k Tryd.func62 rfl fun Q qq=>?_
 have hs:=St.start w0
 refine wc (a':=(fu 29 [ag .i32 a0,I8 a1])) ?_
 refine xs fun _ s1=>?_
 refine xn 2 fun _ j2=>?_
 refine so 0 (oB 2 32 (ag .i32 a0) hs (enc .i32 a0) fun b1 w gw hs=>?_)
 refine so 1 (oN 4 32 hs (enc .i32 (zeroA 256)) (ag .i32 (zeroA 256)) fun b2 w gw hs=>?_)
 refine fj j2 s1 (xs fun _ s3=>(xs fun _ s4=>(xn 6 fun _ j5=>?_)))
 refine qo 0 6 (I8 a1) ?_
 obtain ⟨hc,h⟩|⟨hc,h⟩:=of_if h
 refine tb 1 7 (dt hc) ?_
 refine nq 2 [(8,.bool true),(9,undef),(10,undef),(11,.bool true)] ?_
 refine fj j5 s4 (ct (xs fun _ s6=>(xn 2 fun _ j7=>?_)))
 refine qo 0 12 (ag .i32 (zeroA 256)) ?_
 refine so 1 (oWe 32 .i32 (zeroA 256) hs 0 fun w kp hs=>?_)
 refine fj j7 s6 (xret (tr ?_))
 obtain rfl:=of_some h
 exact qq _ _ (pr (rr [.cell 4 32] [ag .i32 (zeroA 256)] (.cons (rcN 256 hs 0 rfl (enc_len _ _)) .nil)) ⟨cr,hs.none⟩)
 refine tb 1 7 (df hc) ?_
 refine nq 2 [(8,.bool false),(9,I8 a1)] ?_
 obtain ⟨hc,h⟩|⟨hc,h⟩:=of_if h
 refine tb 4 10 (dt hc) ?_
 refine qo 5 11 (.bool true) ?_
 refine fj j5 s4 (ct (xs fun _ s8=>(xn 2 fun _ j9=>?_)))
 refine qo 0 12 (ag .i32 (zeroA 256)) ?_
 refine so 1 (oWe 32 .i32 (zeroA 256) hs 0 fun w kp hs=>?_)
 refine fj j9 s8 (xret (tr ?_))
 obtain rfl:=of_some h
 exact qq _ _ (pr (rr [.cell 4 32] [ag .i32 (zeroA 256)] (.cons (rcN 256 hs 0 rfl (enc_len _ _)) .nil)) ⟨cr,hs.none⟩)
 refine tb 4 10 (df hc) ?_
 refine qo 5 11 (.bool false) ?_
 refine fj j5 s4 (cf (xk (T s3 (xs fun _ s10=>(xs fun _ s11=>(xn 1 fun _ j12=>?_))))))
 refine qo 0 5 (I8 0) ?_
 refine fj j12 s11 (?_)
 obtain ⟨y5,hy,hk0⟩:=ob h
 refine wp_exq (N:=fun a w=>St w0 [] [.blk b2 (enc .i32 (zeroA 256)) 32,.blk b1 (enc .i32 y5) 32] [] w∧∃ g14,a=fr g14 31 [(2,[P0 b1]),(4,[P0 b2])]) (fun N0 nn0=>?_) ?_
 clear hk0
 refine xb ?_
 refine wp_loop_k (fun n a w=>∃ z3 z4,ref25_Squeeze.l0 K n a1 z3 z4=some y5∧St w0 [] [.blk b2 (enc .i32 (zeroA 256)) 32,.blk b1 (enc .i32 z4) 32] [] w∧∃ g13,a=fr g13 31 [(1,[I8 a1,P0 b1]),(4,[P0 b2,I8 z3])]) K ⟨0,a0,hy,hs.conv rfl,eg⟩ ?_
 clear hs h hy
 rintro n a w ⟨z3,z4,h,hs,g13,rfl⟩ KL0 kl0
 cases n with
 | zero=>exact nomatch (show none=some _ from h)
 | succ n=>
  refine xs fun _ s15=>?_
  refine xs fun _ s16=>?_
  refine xn 2 fun _ j17=>?_
  refine qo 0 13 (I8 z3) ?_
  obtain ⟨hc,h⟩|⟨hc,h⟩:=of_if h
  refine tb 1 14 (dt hc) ?_
  refine fj j17 s16 (ct (xk (T s15 (xs fun _ s18=>(xb ?_)))))
  refine rg [13] (fun k=>True) 14 fun _ j19=>?_
  have hs:=hs.drawn1
  refine gq 0 17 (I8 z3) ?_
  refine gq 1 18 (I8 z3) ?_
  obtain ⟨i0_20,i1_20,h⟩:=oc2 h
  refine tgf 2 19 (P1 b1 z3) (yi 32 21 256 1 .i64 z3 i0_20 i1_20) ?_
  refine tgt 3 20 (I4 (rd z4 z3)) (yA hs 1 21 z3 rfl i0_20 i1_20 .grow) ?_
  refine gq 4 21 (I4 (imul .i32 2 (rd z4 z3))) ?_
  refine gq 5 22 (I8 a1) ?_
  obtain ⟨h0,h⟩:=oc h
  refine tgf 6 23 (I4 (ishl .i32 (imul .i32 2 (rd z4 z3)) a1)) (ysl 21 .i64 h0) ?_
  refine gq 7 24 (I4 (iadd .i32 (ishl .i32 (imul .i32 2 (rd z4 z3)) a1) 3329)) ?_
  refine gq 8 25 (I4 (iquo .i32 (iadd .i32 (ishl .i32 (imul .i32 2 (rd z4 z3)) a1) 3329) 6658)) ?_
  refine gq 9 26 (I8 a1) ?_
  obtain ⟨h0,h⟩:=oc h
  refine tgf 10 27 (I4 (ishl .i32 1 a1)) (ysl 21 .i64 h0) ?_
  obtain ⟨h0,h⟩:=oc h
  refine tgf 11 28 (I4 (irem .i32 (iquo .i32 (iadd .i32 (ishl .i32 (imul .i32 2 (rd z4 z3)) a1) 3329) 6658) (ishl .i32 1 a1))) (yr 21 h0) ?_
  obtain ⟨i0_21,i1_21,h⟩:=oc2 h
  refine tgf 12 29 (P1 b1 z3) (yi 32 21 256 1 .i64 z3 i0_21 i1_21) ?_
  obtain ⟨x6,hx,h⟩:=ob h
  refine go 13 (oA 21 x6 z3 hs 1 rfl (by cases hx; kernel_rfl) i0_21 i1_21 fun w kp hs=>⟨⟨fun hf=>absurd hf (by decide),.all _ _⟩,?_⟩)
  refine gf (j19 _ _ ?_)
  refine iN (T s18 (xn 3 fun _ j22=>?_))
  refine nq 0 [(15,I8 z3),(16,I8 (iadd .i64 z3 1))] ?_
  obtain ⟨x7,hx,h⟩:=ob h
  refine tkf 2 5 (I8 x7) (yn hx) ?_
  refine fin (j22 _ _ ?_)
  exact tn (kl0 _ _ ⟨n,ls n,x7,(wr z4 z3 x6),h,(hs.conv rfl),eg⟩)
  refine tb 1 14 (df hc) ?_
  refine fj j17 s16 (cf (xexit (tx (tx (iH ?_)))))
  obtain rfl:=of_some h
  exact exq_n (nn0 _ _ ⟨(hs.conv rfl),eg⟩)
 clear hs h hy
 rintro a w ⟨hs,g14,rfl⟩
 have h:=hk0
 refine T s10 (xs fun _ s23=>(xn 2 fun _ j24=>?_))
 refine tkt 0 30 (ag .i32 y5) (yWe 32 hs 1 .grow) ?_
 refine so 1 (oWe 32 .i32 y5 hs 0 fun w kp hs=>?_)
 refine fj j24 s23 (xret ?_)
 obtain rfl:=of_some h
 exact qq _ _ (pr (rr [.cell 4 32] [ag .i32 y5] (.cons (rcN 256 hs 0 rfl (enc_len _ _)) .nil)) ⟨cr,hs.none⟩)
theorem ref25_Widen.ok {K:Nat}{a0:Arr 256}{a1:Int}{r0:Arr 256}(h:ref25_Widen.f K a0 a1=some r0) (w0:World):Ret Tryd.prog 63 #[ag .i32 a0,I8 a1] w0 (ag .i32 r0):=by
 refine calls_k Tryd.func63 rfl fun Q qq=>?_
 have hs:=St.start w0
 refine wc (a':=(fu 36 [ag .i32 a0,I8 a1])) ?_
 refine xs fun _ s1=>?_
 refine xn 2 fun _ j2=>?_
 refine so 0 (oB 2 32 (ag .i32 a0) hs (enc .i32 a0) fun b1 w gw hs=>?_)
 refine so 1 (oN 4 32 hs (enc .i32 (zeroA 256)) (ag .i32 (zeroA 256)) fun b2 w gw hs=>?_)
 refine fj j2 s1 (xs fun _ s3=>(xs fun _ s4=>?_))
 refine rg [] (fun k=>True) 13 fun _ j5=>?_
 have hs:=hs.drawn1
 refine gq 0 6 (I8 a1) ?_
 obtain ⟨hc,h⟩|⟨hc,h⟩:=of_if h
 refine gb 1 7 (dt hc) ?_
 refine gq 2 8 (.bool true) ?_
 refine gq 3 9 undef ?_
 refine gq 4 10 undef ?_
 refine gq 5 11 (.bool true) ?_
 refine gq 6 12 (.bool true) ?_
 refine gq 7 13 undef ?_
 refine gq 8 14 undef ?_
 refine gq 9 15 undef ?_
 refine gq 10 16 undef ?_
 refine gq 11 17 undef ?_
 refine gq 12 18 (.bool true) ?_
 refine gf (j5 _ _ ?_)
 refine T s4 (ct (xs fun _ s6=>(xn 2 fun _ j7=>?_)))
 refine qo 0 19 (ag .i32 (zeroA 256)) ?_
 refine so 1 (oWe 32 .i32 (zeroA 256) hs 0 fun w kp hs=>?_)
 refine fj j7 s6 (xret (tr ?_))
 obtain rfl:=of_some h
 exact qq _ _ (pr (rr [.cell 4 32] [ag .i32 (zeroA 256)] (.cons (rcN 256 hs 0 rfl (enc_len _ _)) .nil)) ⟨cr,hs.none⟩)
 refine gb 1 7 (df hc) ?_
 refine gq 2 8 (.bool false) ?_
 refine gq 3 9 (I8 a1) ?_
 obtain ⟨hc,h⟩|⟨hc,h⟩:=of_if h
 refine gb 4 10 (dt hc) ?_
 refine gq 5 11 (.bool true) ?_
 refine gq 6 12 (.bool true) ?_
 refine gq 7 13 undef ?_
 refine gq 8 14 undef ?_
 refine gq 9 15 undef ?_
 refine gq 10 16 undef ?_
 refine gq 11 17 undef ?_
 refine gq 12 18 (.bool true) ?_
 refine gf (j5 _ _ ?_)
 refine T s4 (ct (xs fun _ s8=>(xn 2 fun _ j9=>?_)))
 refine qo 0 19 (ag .i32 (zeroA 256)) ?_
 refine so 1 (oWe 32 .i32 (zeroA 256) hs 0 fun w kp hs=>?_)
 refine fj j9 s8 (xret (tr ?_))
 obtain rfl:=of_some h
 exact qq _ _ (pr (rr [.cell 4 32] [ag .i32 (zeroA 256)] (.cons (rcN 256 hs 0 rfl (enc_len _ _)) .nil)) ⟨cr,hs.none⟩)
 refine gb 4 10 (df hc) ?_
 refine gq 5 11 (.bool false) ?_
 refine gq 6 12 (.bool false) ?_
 refine tgt 7 13 (ag .i32 a0) (yWe 32 hs 1 .grow) ?_
 refine gq 8 14 (I8 a1) ?_
 obtain ⟨h0,h⟩:=oc h
 refine tgf 9 15 (I4 (ishl .i32 1 a1)) (ysl 21 .i64 h0) ?_
 obtain ⟨r3,hg,h⟩:=ob h
 cases r3 with
 | true=>
  have h:=of_if_t h
  refine go 10 (oC 16 hs (ref25_Below.ok hg _) fun w gw hs=>⟨.of gw,?_⟩)
  refine gq 11 17 (.bool false) ?_
  refine gq 12 18 (.bool false) ?_
  refine gf (j5 _ _ ?_)
  refine T s4 (cf (xk (T s3 (xs fun _ s10=>(xs fun _ s11=>(xn 1 fun _ j12=>?_))))))
  refine qo 0 5 (I8 0) ?_
  refine fj j12 s11 (?_)
  obtain ⟨y6,hy,hk0⟩:=ob h
  refine wp_exq (N:=fun a w=>St w0 [] [.blk b2 (enc .i32 (zeroA 256)) 32,.blk b1 (enc .i32 y6) 32] [] w∧∃ g14,a=fr g14 38 [(2,[P0 b1]),(4,[P0 b2])]) (fun N0 nn0=>?_) ?_
  clear hk0
  refine xb ?_
  refine wp_loop_k (fun n a w=>∃ z4 z5,ref25_Widen.l0 K n a1 z4 z5=some y6∧St w0 [] [.blk b2 (enc .i32 (zeroA 256)) 32,.blk b1 (enc .i32 z5) 32] [] w∧∃ g13,a=fr g13 38 [(1,[I8 a1,P0 b1]),(4,[P0 b2,I8 z4])]) K ⟨0,a0,hy,hs.conv rfl,eg⟩ ?_
  clear hs h hy
  rintro n a w ⟨z4,z5,h,hs,g13,rfl⟩ KL0 kl0
  cases n with
  | zero=>exact nomatch (show none=some _ from h)
  | succ n=>
   refine xs fun _ s15=>?_
   refine xs fun _ s16=>?_
   refine xn 2 fun _ j17=>?_
   refine qo 0 20 (I8 z4) ?_
   obtain ⟨hc,h⟩|⟨hc,h⟩:=of_if h
   refine tb 1 21 (dt hc) ?_
   refine fj j17 s16 (ct (xk (T s15 (xs fun _ s18=>(xb ?_)))))
   refine rg [13] (fun k=>True) 14 fun _ j19=>?_
   have hs:=hs.drawn1
   refine gq 0 24 (I8 z4) ?_
   refine gq 1 25 (I8 z4) ?_
   obtain ⟨i0_20,i1_20,h⟩:=oc2 h
   refine tgf 2 26 (P1 b1 z4) (yi 32 21 256 1 .i64 z4 i0_20 i1_20) ?_
   refine tgt 3 27 (I4 (rd z5 z4)) (yA hs 1 21 z4 rfl i0_20 i1_20 .grow) ?_
   refine gq 4 28 (I4 (imul .i32 2 (rd z5 z4))) ?_
   refine gq 5 29 (I4 (imul .i32 (imul .i32 2 (rd z5 z4)) 3329)) ?_
   refine gq 6 30 (I8 a1) ?_
   obtain ⟨h0,h⟩:=oc h
   refine tgf 7 31 (I4 (ishl .i32 1 a1)) (ysl 21 .i64 h0) ?_
   refine gq 8 32 (I4 (iadd .i32 (imul .i32 (imul .i32 2 (rd z5 z4)) 3329) (ishl .i32 1 a1))) ?_
   refine gq 9 33 (I8 a1) ?_
   obtain ⟨h0,h⟩:=oc h
   refine tgf 10 34 (I4 (ishl .i32 2 a1)) (ysl 21 .i64 h0) ?_
   obtain ⟨h0,h⟩:=oc h
   refine tgf 11 35 (I4 (iquo .i32 (iadd .i32 (imul .i32 (imul .i32 2 (rd z5 z4)) 3329) (ishl .i32 1 a1)) (ishl .i32 2 a1))) (yq 21 h0) ?_
   obtain ⟨i0_21,i1_21,h⟩:=oc2 h
   refine tgf 12 36 (P1 b1 z4) (yi 32 21 256 1 .i64 z4 i0_21 i1_21) ?_
   obtain ⟨x7,hx,h⟩:=ob h
   refine go 13 (oA 21 x7 z4 hs 1 rfl (by cases hx; kernel_rfl) i0_21 i1_21 fun w kp hs=>⟨⟨fun hf=>absurd hf (by decide),.all _ _⟩,?_⟩)
   refine gf (j19 _ _ ?_)
   refine iN (T s18 (xn 3 fun _ j22=>?_))
   refine nq 0 [(22,I8 z4),(23,I8 (iadd .i64 z4 1))] ?_
   obtain ⟨x8,hx,h⟩:=ob h
   refine tkf 2 5 (I8 x8) (yn hx) ?_
   refine fin (j22 _ _ ?_)
   exact tn (kl0 _ _ ⟨n,ls n,x8,(wr z5 z4 x7),h,(hs.conv rfl),eg⟩)
   refine tb 1 21 (df hc) ?_
   refine fj j17 s16 (cf (xexit (tx (tx (iH ?_)))))
   obtain rfl:=of_some h
   exact exq_n (nn0 _ _ ⟨(hs.conv rfl),eg⟩)
  clear hs h hy
  rintro a w ⟨hs,g14,rfl⟩
  have h:=hk0
  refine T s10 (xs fun _ s23=>(xn 2 fun _ j24=>?_))
  refine tkt 0 37 (ag .i32 y6) (yWe 32 hs 1 .grow) ?_
  refine so 1 (oWe 32 .i32 y6 hs 0 fun w kp hs=>?_)
  refine fj j24 s23 (xret ?_)
  obtain rfl:=of_some h
  exact qq _ _ (pr (rr [.cell 4 32] [ag .i32 y6] (.cons (rcN 256 hs 0 rfl (enc_len _ _)) .nil)) ⟨cr,hs.none⟩)
 | false=>
  have h:=of_if_f h
  refine go 10 (oC 16 hs (ref25_Below.ok hg _) fun w gw hs=>⟨.of gw,?_⟩)
  refine gq 11 17 (.bool true) ?_
  refine gq 12 18 (.bool true) ?_
  refine gf (j5 _ _ ?_)
  refine T s4 (ct (xs fun _ s25=>(xn 2 fun _ j26=>?_)))
  refine qo 0 19 (ag .i32 (zeroA 256)) ?_
  refine so 1 (oWe 32 .i32 (zeroA 256) hs 0 fun w kp hs=>?_)
  refine fj j26 s25 (xret (tr ?_))
  obtain rfl:=of_some h
  exact qq _ _ (pr (rr [.cell 4 32] [ag .i32 (zeroA 256)] (.cons (rcN 256 hs 0 rfl (enc_len _ _)) .nil)) ⟨cr,hs.none⟩)
end Go.Proofs.YtemdbgmldljbpaaDoor
