/- own -/
import Derived.Test.YtemdbgmldljbpaaDoorMh
import Derived.Test.YtemdbgmldljbpaaDoorProg
import Derived.Test.YtemdbgmldljbpaaDoorYF0
import Derived.Test.YtemdbgmldljbpaaDoorYX0
set_option linter.unusedVariables false
set_option linter.unusedSimpArgs false
set_option maxRecDepth 100000
set_option maxHeartbeats 4000000
namespace Go.Proofs.YtemdbgmldljbpaaDoor
open Go.Mx
attribute [local irreducible] wpOp
theorem kq_Add.ok {K:Nat}{a0 a1 r0:Arr 256}(h:kq_Add.f K a0 a1=some r0) (w0:World):Ret Tryd.prog 47 #[ag .i32 a0,ag .i32 a1] w0 (ag .i32 r0):=by
 refine calls_k Tryd.func47 rfl fun Q qq=>?_
 have hs:=St.start w0
 refine wc (a':=(fu 26 [ag .i32 a0,ag .i32 a1])) ?_
 refine xs fun _ s1=>?_
 refine xn 3 fun _ j2=>?_
 refine so 0 (oBe 2 32 .i32 a0 hs fun b1 w gw hs=>?_)
 refine so 1 (oBe 3 32 .i32 a1 hs fun b2 w gw hs=>?_)
 refine so 2 (oNe 4 32 .i32 (zeroA 256) hs fun b3 w gw hs=>?_)
 refine fj j2 s1 (xs fun _ s3=>(xs fun _ s4=>(xn 1 fun _ j5=>?_)))
 refine qo 0 6 (I8 0) ?_
 refine fj j5 s4 (?_)
 obtain ⟨y6,hy,hk0⟩:=ob h
 refine wp_exq (N:=fun a w=>St w0 [] [.blk b3 (enc .i32 (zeroA 256)) 32,.blk b2 (enc .i32 a1) 32,.blk b1 (enc .i32 y6) 32] [] w∧∃ g7,a=fr g7 28 [(2,[P0 b1]),(4,[P0 b3])]) (fun N0 nn0=>?_) ?_
 clear hk0
 refine xb ?_
 refine wp_loop_k (fun n a w=>∃ z4 z5,kq_Add.l0 K n a1 z4 z5=some y6∧St w0 [] [.blk b3 (enc .i32 (zeroA 256)) 32,.blk b2 (enc .i32 a1) 32,.blk b1 (enc .i32 z5) 32] [] w∧∃ g6,a=fr g6 28 [(2,[P0 b1,P0 b2,P0 b3]),(6,[I8 z4])]) K ⟨0,a0,hy,hs.conv rfl,eg⟩ ?_
 clear hs h hy
 rintro n a w ⟨z4,z5,h,hs,g6,rfl⟩ KL0 kl0
 cases n with
 | zero=>exact nomatch (show none=some _ from h)
 | succ n=>
  refine xs fun _ s8=>?_
  refine xn 1 fun _ j9=>?_
  obtain ⟨hc,h⟩|⟨hc,h⟩:=of_if h
  refine tb 0 7 (dt hc) ?_
  refine fj j9 s8 (xs fun _ s10=>(ct (xk (T s10 (?_)))))
  obtain ⟨y7,hj,h⟩:=ob h
  refine xs fun _ s12=>wp_join (N:=fun a w=>St w0 [] [.blk b3 (enc .i32 (zeroA 256)) 32,.blk b2 (enc .i32 a1) 32,.blk b1 (enc .i32 y7) 32] [] w∧∃ g11,a=fr g11 28 [(2,[P0 b1,P0 b2,P0 b3]),(6,[I8 z4])]) (fun N nj=>?_) ?_
  clear h
  have h:=hj
  refine xb (xs fun _ s13=>(xn 2 fun _ j14=>?_))
  refine nq 0 [(8,I8 z4),(5,I8 z4)] ?_
  refine fj j14 s13 (xs fun _ s15=>?_)
  refine rg [8] (fun k=>True) 9 fun _ j16=>?_
  have hs:=hs.drawn1
  refine gq 0 9 (I8 z4) ?_
  obtain ⟨i0_17,i1_17,h⟩:=oc2 h
  refine tgf 1 10 (P1 b1 z4) (yi 32 21 256 1 .i64 z4 i0_17 i1_17) ?_
  refine tgt 2 11 _ (yA hs 2 21 z4 rfl i0_17 i1_17 .grow) ?_
  refine gq 3 12 (I8 z4) ?_
  obtain ⟨i0_18,i1_18,h⟩:=oc2 h
  refine tgf 4 13 (P1 b2 z4) (yi 32 21 256 1 .i64 z4 i0_18 i1_18) ?_
  refine tgt 5 14 _ (yA hs 1 21 z4 rfl i0_18 i1_18 .grow) ?_
  refine gq 6 15 (I4 (iadd .i32 (rd z5 z4) (rd a1 z4))) ?_
  obtain ⟨i0_19,i1_19,h⟩:=oc2 h
  refine tgf 7 16 (P1 b1 z4) (yi 32 21 256 1 .i64 z4 i0_19 i1_19) ?_
  obtain ⟨x8,hx,h⟩:=ob h
  refine go 8 (oA 21 x8 z4 hs 2 rfl (by cases hx; kernel_rfl) i0_19 i1_19 fun w kp hs=>⟨⟨fun hf=>absurd hf (by decide),.all _ _⟩,?_⟩)
  refine gf (j16 _ _ ?_)
  refine T s15 (xs fun _ s20=>(xn 4 fun _ j21=>?_))
  refine qo 0 17 (I8 z4) ?_
  obtain ⟨i0_22,i1_22,h⟩:=oc2 h
  refine tkf 1 18 (P1 b1 z4) (yi 32 21 256 1 .i64 z4 i0_22 i1_22) ?_
  refine tkt 2 19 _ (yA hs 2 21 z4 rfl i0_22 i1_22 .grow) ?_
  obtain ⟨hc,h⟩|⟨hc,h⟩:=of_if h
  refine tb 3 20 (dt hc) ?_
  refine fj j21 s20 (ct (xn 6 fun _ j23=>?_))
  refine qo 0 21 (I8 z4) ?_
  obtain ⟨i0_24,i1_24,h⟩:=oc2 h
  refine tkf 1 22 (P1 b1 z4) (yi 32 21 256 1 .i64 z4 i0_24 i1_24) ?_
  refine tkt 2 23 _ (yA hs 2 21 z4 rfl i0_24 i1_24 .grow) ?_
  refine qo 3 24 (I4 (isub .i32 (rd (wr z5 z4 x8) z4) 3329)) ?_
  obtain ⟨i0_25,i1_25,h⟩:=oc2 h
  refine tkf 4 25 (P1 b1 z4) (yi 32 21 256 1 .i64 z4 i0_25 i1_25) ?_
  obtain ⟨x9,hx,h⟩:=ob h
  refine so 5 (oA 21 x9 z4 hs 2 rfl (by cases hx; kernel_rfl) i0_25 i1_25 fun w kp hs=>?_)
  refine fin (j23 _ _ (iN ?_))
  obtain rfl:=of_some h
  exact nj _ _ ⟨(hs.conv rfl),eg⟩
  refine tb 3 20 (df hc) ?_
  refine fj j21 s20 (cf (xk (iN ?_)))
  obtain rfl:=of_some h
  exact nj _ _ ⟨(hs.conv rfl),eg⟩
  clear hj hs
  rintro a w ⟨hs,g11,rfl⟩
  refine T s12 (xn 2 fun _ j26=>?_)
  refine nq 0 [(26,I8 (iadd .i64 z4 1)),(6,I8 (iadd .i64 z4 1))] ?_
  refine fin (j26 _ _ ?_)
  exact tn (kl0 _ _ ⟨n,ls n,(iadd .i64 z4 1),y7,h,(hs.conv rfl),eg⟩)
  refine tb 0 7 (df hc) ?_
  refine fj j9 s8 (xs fun _ s27=>(cf (xexit (tx (tx (iH ?_))))))
  obtain rfl:=of_some h
  exact exq_n (nn0 _ _ ⟨(hs.conv rfl),eg⟩)
 clear hs h hy
 rintro a w ⟨hs,g7,rfl⟩
 have h:=hk0
 refine T s3 (xs fun _ s28=>(xn 2 fun _ j29=>?_))
 refine tkt 0 27 _ (yWe 32 hs 2 .grow) ?_
 refine so 1 (oWe 32 .i32 y6 hs 0 fun w kp hs=>?_)
 refine fj j29 s28 (xret ?_)
 obtain rfl:=of_some h
 exact qq _ _ (pr (rr [.cell 4 32] [ag .i32 y6] (.cons (rcN 256 hs 0 rfl (enc_len _ _)) .nil)) ⟨cr,hs.none⟩)
theorem kq_pair_times.ok {K:Nat}{a0_0 a0_1 a1_0 a1_1 a2 r0_0 r0_1:Int}(h:kq_pair_times.f K a0_0 a0_1 a1_0 a1_1 a2=some (r0_0,r0_1)) (w0:World):Ret Tryd.prog 109 #[.agg #[I4 a0_0,I4 a0_1],.agg #[I4 a1_0,I4 a1_1],I4 a2] w0 (.agg #[I4 r0_0,I4 r0_1]):=by
 refine calls_k Tryd.func109 rfl fun Q qq=>?_
 have hs:=St.start w0
 refine wc (a':=(fu 32 [.agg #[I4 a0_0,I4 a0_1],.agg #[I4 a1_0,I4 a1_1],I4 a2])) ?_
 refine xs fun _ s1=>?_
 refine xn 3 fun _ j2=>?_
 refine so 0 (oBa 3 139 hs [I4 a0_0,I4 a0_1] fun b1 w gw hs=>?_)
 refine so 1 (oBa 4 139 hs [I4 a1_0,I4 a1_1] fun b2 w gw hs=>?_)
 refine so 2 (oNa 6 139 hs [I4 0,I4 0] fun b3 w gw hs=>?_)
 refine fj j2 s1 (xs fun _ s3=>(xn 29 fun _ j4=>?_))
 refine qo 0 7 (P0 b1) ?_
 refine tkt 1 8 _ (yv hs 2 0 21 rfl (by rfl) .grow) ?_
 refine qo 2 9 (P0 b2) ?_
 refine tkt 3 10 _ (yv hs 1 0 21 rfl (by rfl) .grow) ?_
 refine nq 4 [(11,I4 (imul .i32 a0_0 a1_0)),(12,.pointer (some ⟨b1,1,none⟩))] ?_
 refine tkt 6 13 _ (yv hs 2 1 21 rfl (by rfl) .grow) ?_
 refine qo 7 14 (.pointer (some ⟨b2,1,none⟩)) ?_
 refine tkt 8 15 _ (yv hs 1 1 21 rfl (by rfl) .grow) ?_
 refine nq 9 [(16,I4 (imul .i32 a0_1 a1_1)),(17,I4 (irem .i32 (imul .i32 a0_1 a1_1) 3329)),(18,I4 a2),(19,I4 (imul .i32 (irem .i32 (imul .i32 a0_1 a1_1) 3329) a2)),(20,I4 (iadd .i32 (imul .i32 a0_0 a1_0) (imul .i32 (irem .i32 (imul .i32 a0_1 a1_1) 3329) a2))),(21,I4 (irem .i32 (iadd .i32 (imul .i32 a0_0 a1_0) (imul .i32 (irem .i32 (imul .i32 a0_1 a1_1) 3329) a2)) 3329)),(22,P0 b1)] ?_
 refine tkt 16 23 _ (yv hs 2 0 21 rfl (by rfl) .grow) ?_
 refine qo 17 24 (.pointer (some ⟨b2,1,none⟩)) ?_
 refine tkt 18 25 _ (yv hs 1 1 21 rfl (by rfl) .grow) ?_
 refine nq 19 [(26,I4 (imul .i32 a0_0 a1_1)),(27,.pointer (some ⟨b1,1,none⟩))] ?_
 refine tkt 21 28 _ (yv hs 2 1 21 rfl (by rfl) .grow) ?_
 refine qo 22 29 (P0 b2) ?_
 refine tkt 23 30 _ (yv hs 1 0 21 rfl (by rfl) .grow) ?_
 refine nq 24 [(31,I4 (imul .i32 a0_1 a1_0)),(32,I4 (iadd .i32 (imul .i32 a0_0 a1_1) (imul .i32 a0_1 a1_0))),(33,I4 (irem .i32 (iadd .i32 (imul .i32 a0_0 a1_1) (imul .i32 a0_1 a1_0)) 3329)),(34,.agg #[I4 (irem .i32 (iadd .i32 (imul .i32 a0_0 a1_0) (imul .i32 (irem .i32 (imul .i32 a0_1 a1_1) 3329) a2)) 3329),I4 (irem .i32 (iadd .i32 (imul .i32 a0_0 a1_1) (imul .i32 a0_1 a1_0)) 3329)])] ?_
 refine so 28 (oWa 139 [I4 (irem .i32 (iadd .i32 (imul .i32 a0_0 a1_0) (imul .i32 (irem .i32 (imul .i32 a0_1 a1_1) 3329) a2)) 3329),I4 (irem .i32 (iadd .i32 (imul .i32 a0_0 a1_1) (imul .i32 a0_1 a1_0)) 3329)] hs 0 fun w kp hs=>?_)
 refine fj j4 s3 (xret ?_)
 obtain ⟨rfl,rfl⟩:=os2 h
 exact qq _ _ (pr (rr [.cell 6 139] [.agg #[I4 (irem .i32 (iadd .i32 (imul .i32 a0_0 a1_0) (imul .i32 (irem .i32 (imul .i32 a0_1 a1_1) 3329) a2)) 3329),I4 (irem .i32 (iadd .i32 (imul .i32 a0_0 a1_1) (imul .i32 a0_1 a1_0)) 3329)]] (.cons (rcN 2 hs 0 rfl (by simp [enc_len])) .nil)) ⟨cr,hs.none⟩)
theorem kq_Mul.ok {K:Nat}{a0 a1 r0:Arr 256}(h:kq_Mul.f K a0 a1=some r0) (w0:World):Ret Tryd.prog 88 #[ag .i32 a0,ag .i32 a1] w0 (ag .i32 r0):=by
 refine calls_k Tryd.func88 rfl fun Q qq=>?_
 have hs:=St.start w0
 refine wc (a':=(fu 80 [ag .i32 a0,ag .i32 a1])) ?_
 refine xs fun _ s1=>?_
 refine xn 3 fun _ j2=>?_
 refine so 0 (oBe 2 32 .i32 a0 hs fun b1 w gw hs=>?_)
 refine so 1 (oBe 3 32 .i32 a1 hs fun b2 w gw hs=>?_)
 refine so 2 (oNe 4 32 .i32 (zeroA 256) hs fun b3 w gw hs=>?_)
 refine fj j2 s1 (xs fun _ s3=>(xn 2 fun _ j4=>?_))
 obtain ⟨r4,hg,h⟩:=ob h
 refine so 0 (oCB 11 hs (kq_roots.ok hg _) fun b5 w gw hs=>?_)
 refine qo 1 5 (P0 b5) ?_
 refine fj j4 s3 (xs fun _ s5=>(xn 1 fun _ j6=>?_))
 refine so 0 (oNe 6 32 .i32 (zeroA 256) hs fun b6 w gw hs=>?_)
 refine fj j6 s5 (xs fun _ s7=>(xs fun _ s8=>(xn 1 fun _ j9=>?_)))
 refine qo 0 7 (I8 0) ?_
 refine fj j9 s8 (?_)
 obtain ⟨y9,hy,hk0⟩:=ob h
 refine wp_exq (N:=fun a w=>St w0 [] [.blk b6 (enc .i32 y9) 32,.blk b5 (enc .i32 r4) 142,.blk b3 (enc .i32 (zeroA 256)) 32,.blk b2 (enc .i32 a1) 32,.blk b1 (enc .i32 a0) 32] [] w∧∃ g11,a=fr g11 82 [(4,[P0 b3]),(6,[P0 b6])]) (fun N0 nn0=>?_) ?_
 clear hk0
 refine xb ?_
 refine wp_loop_k (fun n a w=>∃ z7 z8,kq_Mul.l0 K n a0 a1 r4 z7 z8=some y9∧St w0 [] [.blk b6 (enc .i32 z8) 32,.blk b5 (enc .i32 r4) 142,.blk b3 (enc .i32 (zeroA 256)) 32,.blk b2 (enc .i32 a1) 32,.blk b1 (enc .i32 a0) 32] [] w∧∃ g10,a=fr g10 82 [(2,[P0 b1,P0 b2,P0 b3,P0 b5,P0 b6,I8 z7])]) K ⟨0,(zeroA 256),hy,hs.conv rfl,eg⟩ ?_
 clear hs h hy
 rintro n a w ⟨z7,z8,h,hs,g10,rfl⟩ KL0 kl0
 cases n with
 | zero=>exact nomatch (show none=some _ from h)
 | succ n=>
  refine xs fun _ s12=>?_
  refine xs fun _ s13=>?_
  refine xn 2 fun _ j14=>?_
  refine qo 0 12 (I8 z7) ?_
  obtain ⟨hc,h⟩|⟨hc,h⟩:=of_if h
  refine tb 1 13 (dt hc) ?_
  refine fj j14 s13 (ct (xk (T s12 (xs fun _ s15=>(xb (xs fun _ s16=>(xn 8 fun _ j17=>?_)))))))
  refine nq 0 [(16,P0 b5),(17,I8 z7),(18,I8 (iquo .i64 z7 4)),(19,I8 (iadd .i64 64 (iquo .i64 z7 4))),(20,P0 b5)] ?_
  obtain ⟨x10,hx,h⟩:=ob h
  have hx:=of_some hx
  subst hx
  obtain ⟨i0_18,i1_18,h⟩:=oc2 h
  refine tkf 5 21 (.pointer (some ⟨b5,0+((iadd .i64 64 (iquo .i64 z7 4)):Int).toNat*1,none⟩)) (yi 142 21 128 1 .i64 (iadd .i64 64 (iquo .i64 z7 4)) i0_18 i1_18) ?_
  refine tkt 6 22 _ (yA hs 1 21 (iadd .i64 64 (iquo .i64 z7 4)) rfl i0_18 i1_18 .grow) ?_
  obtain ⟨x11,hx,h⟩:=ob h
  refine tkf 7 8 (I4 x11) (yn hx) ?_
  refine fj j17 s16 (xs fun _ s19=>?_)
  obtain ⟨⟨y13_0,y13_1⟩,hj,h⟩:=ob h
  refine wp_join (N:=fun a w=>∃ b12,St w0 [] [.blk b12 ([I4 y13_0,I4 y13_1]) 139,.blk b6 (enc .i32 z8) 32,.blk b5 (enc .i32 r4) 142,.blk b3 (enc .i32 (zeroA 256)) 32,.blk b2 (enc .i32 a1) 32,.blk b1 (enc .i32 a0) 32] [] w∧∃ g20,a=fr g20 82 [(2,[P0 b1,P0 b2,P0 b3,P0 b5,P0 b6,I8 z7,I4 x11,P0 b12])]) (fun N nj=>?_) ?_
  clear h
  have h:=hj
  refine rg [19] (fun k=>True) 20 fun _ j21=>?_
  have hs:=hs.drawn1
  refine gq 0 23 (I8 z7) ?_
  obtain ⟨i0_22,i1_22,h⟩:=oc2 h
  refine tgf 1 24 (P1 b1 z7) (yi 32 21 256 1 .i64 z7 i0_22 i1_22) ?_
  refine tgt 2 25 _ (yA hs 4 21 z7 rfl i0_22 i1_22 .grow) ?_
  refine gq 3 26 (I8 z7) ?_
  refine gq 4 27 (I8 (iadd .i64 z7 1)) ?_
  obtain ⟨x14,hx,h⟩:=ob h
  have hx:=of_some hx
  subst hx
  obtain ⟨i0_23,i1_23,h⟩:=oc2 h
  refine tgf 5 28 (P1 b1 (iadd .i64 z7 1)) (yi 32 21 256 1 .i64 (iadd .i64 z7 1) i0_23 i1_23) ?_
  refine tgt 6 29 _ (yA hs 4 21 (iadd .i64 z7 1) rfl i0_23 i1_23 .grow) ?_
  refine gq 7 30 (.agg #[I4 (rd a0 z7),I4 (rd a0 (iadd .i64 z7 1))]) ?_
  refine gq 8 31 (I8 z7) ?_
  obtain ⟨i0_24,i1_24,h⟩:=oc2 h
  refine tgf 9 32 (P1 b2 z7) (yi 32 21 256 1 .i64 z7 i0_24 i1_24) ?_
  refine tgt 10 33 _ (yA hs 3 21 z7 rfl i0_24 i1_24 .grow) ?_
  refine gq 11 34 (I8 z7) ?_
  refine gq 12 35 (I8 (iadd .i64 z7 1)) ?_
  obtain ⟨x15,hx,h⟩:=ob h
  have hx:=of_some hx
  subst hx
  obtain ⟨i0_25,i1_25,h⟩:=oc2 h
  refine tgf 13 36 (P1 b2 (iadd .i64 z7 1)) (yi 32 21 256 1 .i64 (iadd .i64 z7 1) i0_25 i1_25) ?_
  refine tgt 14 37 _ (yA hs 3 21 (iadd .i64 z7 1) rfl i0_25 i1_25 .grow) ?_
  refine gq 15 38 (.agg #[I4 (rd a1 z7),I4 (rd a1 (iadd .i64 z7 1))]) ?_
  refine gq 16 39 (I4 x11) ?_
  refine wpG.many [17,18] (by kernel_rfl) (by decide) (forall_cons ?_ (forall_cons ?_ forall_nil))
  obtain ⟨⟨r16_0,r16_1⟩,hg,h⟩:=ob h
  refine (oC 40 hs (kq_pair_times.ok hg _) ?_)
  intro w gw hs
  refine ⟨.of gw,?_⟩
  refine go 18 (oNa 9 139 hs [I4 0,I4 0] fun b17 w gw hs=>⟨.of gw,?_⟩)
  refine go 19 (oWa 139 [I4 r16_0,I4 r16_1] hs 0 fun w kp hs=>⟨⟨fun hf=>absurd hf (by decide),.all _ _⟩,?_⟩)
  refine gf (j21 _ _ ?_)
  obtain ⟨rfl,rfl⟩:=os2 h
  exact nj _ _ ⟨b17,(hs.conv rfl),eg⟩
  refine (oN 9 139 hs ([I4 0,I4 0]) (.agg #[I4 0,I4 0]) ?_)
  intro b18 w gw hs
  refine ⟨.of gw,?_⟩
  obtain ⟨⟨r19_0,r19_1⟩,hg,h⟩:=ob h
  refine go 17 (oC 40 hs (kq_pair_times.ok hg _) fun w gw hs=>⟨.of gw,?_⟩)
  refine go 19 (oWa 139 [I4 r19_0,I4 r19_1] hs 0 fun w kp hs=>⟨⟨fun hf=>absurd hf (by decide),.all _ _⟩,?_⟩)
  refine gf (j21 _ _ ?_)
  obtain ⟨rfl,rfl⟩:=os2 h
  exact nj _ _ ⟨b18,(hs.conv rfl),eg⟩
  clear hj hs
  rintro a w ⟨b12,hs,g20,rfl⟩
  refine T s19 (xs fun _ s26=>?_)
  obtain ⟨⟨y21_0,y21_1⟩,hj,h⟩:=ob h
  refine wp_join (N:=fun a w=>∃ b20,St w0 [] [.blk b20 ([I4 y21_0,I4 y21_1]) 139,.blk b12 ([I4 y13_0,I4 y13_1]) 139,.blk b6 (enc .i32 z8) 32,.blk b5 (enc .i32 r4) 142,.blk b3 (enc .i32 (zeroA 256)) 32,.blk b2 (enc .i32 a1) 32,.blk b1 (enc .i32 a0) 32] [] w∧∃ g27,a=fr g27 82 [(2,[P0 b1,P0 b2,P0 b3,P0 b5,P0 b6,I8 z7]),(9,[P0 b12,P0 b20])]) (fun N nj=>?_) ?_
  clear h
  have h:=hj
  refine rg [22] (fun k=>True) 23 fun _ j28=>?_
  have hs:=hs.drawn1
  refine gq 0 41 (I8 z7) ?_
  refine gq 1 42 (I8 (iadd .i64 z7 2)) ?_
  obtain ⟨x22,hx,h⟩:=ob h
  have hx:=of_some hx
  subst hx
  obtain ⟨i0_29,i1_29,h⟩:=oc2 h
  refine tgf 2 43 (P1 b1 (iadd .i64 z7 2)) (yi 32 21 256 1 .i64 (iadd .i64 z7 2) i0_29 i1_29) ?_
  refine tgt 3 44 _ (yA hs 5 21 (iadd .i64 z7 2) rfl i0_29 i1_29 .grow) ?_
  refine gq 4 45 (I8 z7) ?_
  refine gq 5 46 (I8 (iadd .i64 z7 3)) ?_
  obtain ⟨x23,hx,h⟩:=ob h
  have hx:=of_some hx
  subst hx
  obtain ⟨i0_30,i1_30,h⟩:=oc2 h
  refine tgf 6 47 (P1 b1 (iadd .i64 z7 3)) (yi 32 21 256 1 .i64 (iadd .i64 z7 3) i0_30 i1_30) ?_
  refine tgt 7 48 _ (yA hs 5 21 (iadd .i64 z7 3) rfl i0_30 i1_30 .grow) ?_
  refine gq 8 49 (.agg #[I4 (rd a0 (iadd .i64 z7 2)),I4 (rd a0 (iadd .i64 z7 3))]) ?_
  refine gq 9 50 (I8 z7) ?_
  refine gq 10 51 (I8 (iadd .i64 z7 2)) ?_
  obtain ⟨x24,hx,h⟩:=ob h
  have hx:=of_some hx
  subst hx
  obtain ⟨i0_31,i1_31,h⟩:=oc2 h
  refine tgf 11 52 (P1 b2 (iadd .i64 z7 2)) (yi 32 21 256 1 .i64 (iadd .i64 z7 2) i0_31 i1_31) ?_
  refine tgt 12 53 _ (yA hs 4 21 (iadd .i64 z7 2) rfl i0_31 i1_31 .grow) ?_
  refine gq 13 54 (I8 z7) ?_
  refine gq 14 55 (I8 (iadd .i64 z7 3)) ?_
  obtain ⟨x25,hx,h⟩:=ob h
  have hx:=of_some hx
  subst hx
  obtain ⟨i0_32,i1_32,h⟩:=oc2 h
  refine tgf 15 56 (P1 b2 (iadd .i64 z7 3)) (yi 32 21 256 1 .i64 (iadd .i64 z7 3) i0_32 i1_32) ?_
  refine tgt 16 57 _ (yA hs 4 21 (iadd .i64 z7 3) rfl i0_32 i1_32 .grow) ?_
  refine gq 17 58 (.agg #[I4 (rd a1 (iadd .i64 z7 2)),I4 (rd a1 (iadd .i64 z7 3))]) ?_
  refine gq 18 59 (I4 x11) ?_
  refine gq 19 60 (I4 (isub .i32 3329 x11)) ?_
  refine wpG.many [20,21] (by kernel_rfl) (by decide) (forall_cons ?_ (forall_cons ?_ forall_nil))
  obtain ⟨⟨r26_0,r26_1⟩,hg,h⟩:=ob h
  refine (oC 61 hs (kq_pair_times.ok hg _) ?_)
  intro w gw hs
  refine ⟨.of gw,?_⟩
  refine go 21 (oNa 10 139 hs [I4 0,I4 0] fun b27 w gw hs=>⟨.of gw,?_⟩)
  refine go 22 (oWa 139 [I4 r26_0,I4 r26_1] hs 0 fun w kp hs=>⟨⟨fun hf=>absurd hf (by decide),.all _ _⟩,?_⟩)
  refine gf (j28 _ _ ?_)
  obtain ⟨rfl,rfl⟩:=os2 h
  exact nj _ _ ⟨b27,(hs.conv rfl),eg⟩
  refine (oN 10 139 hs ([I4 0,I4 0]) (.agg #[I4 0,I4 0]) ?_)
  intro b28 w gw hs
  refine ⟨.of gw,?_⟩
  obtain ⟨⟨r29_0,r29_1⟩,hg,h⟩:=ob h
  refine go 20 (oC 61 hs (kq_pair_times.ok hg _) fun w gw hs=>⟨.of gw,?_⟩)
  refine go 22 (oWa 139 [I4 r29_0,I4 r29_1] hs 0 fun w kp hs=>⟨⟨fun hf=>absurd hf (by decide),.all _ _⟩,?_⟩)
  refine gf (j28 _ _ ?_)
  obtain ⟨rfl,rfl⟩:=os2 h
  exact nj _ _ ⟨b28,(hs.conv rfl),eg⟩
  clear hj hs
  rintro a w ⟨b20,hs,g27,rfl⟩
  refine T s26 (?_)
  refine rg [16,18,20,22] (fun k=>¬ (k=b20∨k=b12)) 23 fun _ j33=>?_
  have hs:=hs.drawn1
  refine gq 0 62 (I8 z7) ?_
  refine gq 1 63 (I8 z7) ?_
  refine gq 2 64 (I8 (iadd .i64 z7 1)) ?_
  refine gq 3 65 (I8 z7) ?_
  refine gq 4 66 (I8 (iadd .i64 z7 2)) ?_
  refine gq 5 67 (I8 z7) ?_
  refine gq 6 68 (I8 (iadd .i64 z7 3)) ?_
  refine gq 7 69 (P0 b12) ?_
  refine tgt 8 70 _ (yv hs 1 0 21 rfl (by rfl) .grow) ?_
  refine gq 9 71 (.pointer (some ⟨b12,1,none⟩)) ?_
  refine wpG.takeK [10,17,18,19,20,21,22] 10 (some 72) (I4 y13_1) (by kernel_rfl) (by kernel_rfl) (yv hs 1 1 21 rfl (by rfl) (.keep (fun hn=>hn (.inr rfl)))) ?_
  refine gq 11 73 (P0 b20) ?_
  refine wpG.takeK [12,19,20,21,22] 12 (some 74) (I4 y21_0) (by kernel_rfl) (by kernel_rfl) (yv hs 0 0 21 rfl (by rfl) (.keep (fun hn=>hn (.inl rfl)))) ?_
  refine gq 13 75 (.pointer (some ⟨b20,1,none⟩)) ?_
  refine wpG.takeK [14,21,22] 14 (some 76) (I4 y21_1) (by kernel_rfl) (by kernel_rfl) (yv hs 0 1 21 rfl (by rfl) (.keep (fun hn=>hn (.inl rfl)))) ?_
  obtain ⟨i0_34,i1_34,h⟩:=oc2 h
  refine tgf 15 77 (P1 b6 z7) (yi 32 21 256 1 .i64 z7 i0_34 i1_34) ?_
  have hsB42:=hs
  refine go 16 (oA 21 y13_0 z7 hs 2 rfl (by kernel_rfl) i0_34 i1_34 fun w kp hs=>⟨⟨fun hf=>absurd hf (by decide),(keepB2 (hsB42.blkAt 0 rfl) (hs.blkAt 0 rfl) (keepB1 (hsB42.blkAt 1 rfl) (hs.blkAt 1 rfl)))⟩,?_⟩)
  obtain ⟨x30,hx,h⟩:=ob h
  have hx:=of_some hx
  subst hx
  obtain ⟨i0_35,i1_35,h⟩:=oc2 h
  refine tgf 17 78 (P1 b6 (iadd .i64 z7 1)) (yi 32 21 256 1 .i64 (iadd .i64 z7 1) i0_35 i1_35) ?_
  have hsB41:=hs
  refine go 18 (oA 21 y13_1 (iadd .i64 z7 1) hs 2 rfl (by kernel_rfl) i0_35 i1_35 fun w kp hs=>⟨⟨fun hf=>absurd hf (by decide),(keepB2 (hsB41.blkAt 0 rfl) (hs.blkAt 0 rfl) (keepB1 (hsB41.blkAt 1 rfl) (hs.blkAt 1 rfl)))⟩,?_⟩)
  obtain ⟨x31,hx,h⟩:=ob h
  have hx:=of_some hx
  subst hx
  obtain ⟨i0_36,i1_36,h⟩:=oc2 h
  refine tgf 19 79 (P1 b6 (iadd .i64 z7 2)) (yi 32 21 256 1 .i64 (iadd .i64 z7 2) i0_36 i1_36) ?_
  have hsB40:=hs
  refine go 20 (oA 21 y21_0 (iadd .i64 z7 2) hs 2 rfl (by kernel_rfl) i0_36 i1_36 fun w kp hs=>⟨⟨fun hf=>absurd hf (by decide),(keepB2 (hsB40.blkAt 0 rfl) (hs.blkAt 0 rfl) (keepB1 (hsB40.blkAt 1 rfl) (hs.blkAt 1 rfl)))⟩,?_⟩)
  obtain ⟨x32,hx,h⟩:=ob h
  have hx:=of_some hx
  subst hx
  obtain ⟨i0_37,i1_37,h⟩:=oc2 h
  refine tgf 21 80 (P1 b6 (iadd .i64 z7 3)) (yi 32 21 256 1 .i64 (iadd .i64 z7 3) i0_37 i1_37) ?_
  have hsB39:=hs
  refine go 22 (oA 21 y21_1 (iadd .i64 z7 3) hs 2 rfl (by kernel_rfl) i0_37 i1_37 fun w kp hs=>⟨⟨fun hf=>absurd hf (by decide),(keepB2 (hsB39.blkAt 0 rfl) (hs.blkAt 0 rfl) (keepB1 (hsB39.blkAt 1 rfl) (hs.blkAt 1 rfl)))⟩,?_⟩)
  refine gf (j33 _ _ ?_)
  refine iN (T s15 (xn 3 fun _ j38=>?_))
  refine nq 0 [(14,I8 z7),(15,I8 (iadd .i64 z7 4))] ?_
  obtain ⟨x33,hx,h⟩:=ob h
  refine tkf 2 7 (I8 x33) (yn hx) ?_
  refine fin (j38 _ _ ?_)
  exact tn (kl0 _ _ ⟨n,ls n,x33,(wr (wr (wr (wr z8 z7 y13_0) (iadd .i64 z7 1) y13_1) (iadd .i64 z7 2) y21_0) (iadd .i64 z7 3) y21_1),h,(dr [0,0,1,1,1,1,1] hs),eg⟩)
  refine tb 1 13 (df hc) ?_
  refine fj j14 s13 (cf (xexit (tx (tx (iH ?_)))))
  obtain rfl:=of_some h
  exact exq_n (nn0 _ _ ⟨(hs.conv rfl),eg⟩)
 clear hs h hy
 rintro a w ⟨hs,g11,rfl⟩
 have h:=hk0
 refine T s7 (xs fun _ s43=>(xn 2 fun _ j44=>?_))
 refine tkt 0 81 _ (yWe 32 hs 0 .grow) ?_
 refine so 1 (oWe 32 .i32 y9 hs 2 fun w kp hs=>?_)
 refine fj j44 s43 (xret ?_)
 obtain rfl:=of_some h
 exact qq _ _ (pr (rr [.cell 4 32] [ag .i32 y9] (.cons (rcN 256 hs 2 rfl (enc_len _ _)) .nil)) ⟨cr,hs.none⟩)
theorem kpke_vector_dot.ok {K:Nat}{a0 a1:List (Arr 256)}{r0:Arr 256}{a0_A:Option Addr}{a0_n a0_c:Nat}{a1_A:Option Addr}{a1_n a1_c:Nat}(h:kpke_vector_dot.f K a0 a1=some r0) (w0:World) (hp0:RowL CZ w0 a0_A a0_n a0_c a0) (hp1:RowL CZ w0 a1_A a1_n a1_c a1):Ret Tryd.prog 46 #[.slice a0_A a0_n a0_c,.slice a1_A a1_n a1_c] w0 (ag .i32 r0):=by
 refine calls_k Tryd.func46 rfl fun Q qq=>?_
 have hs:=St.startR (all_cons (RowP.ent hp0) (all_cons (RowP.ent hp1) all_nil))
 refine wc (a':=(fu 23 [.slice a0_A a0_n a0_c,.slice a1_A a1_n a1_c])) ?_
 refine xs fun _ s1=>?_
 refine xn 1 fun _ j2=>?_
 refine so 0 (oNe 4 32 .i32 (zeroA 256) hs fun b1 w gw hs=>?_)
 refine fj j2 s1 (xs fun _ s3=>(xn 1 fun _ j4=>?_))
 refine so 0 (oNe 5 32 .i32 (zeroA 256) hs fun b2 w gw hs=>?_)
 refine fj j4 s3 (xs fun _ s5=>(xs fun _ s6=>(xn 3 fun _ j7=>?_)))
 refine qo 0 8 (.slice a0_A a0_n a0_c) ?_
 refine tkf 1 9 (I8 (a0.length:Int)) (yl (rR 0 hs)) ?_
 refine qo 2 10 (I8 0) ?_
 refine fj j7 s6 (?_)
 obtain ⟨y5,hy,hk0⟩:=ob h
 refine wp_exq (N:=fun a w=>St w0 [] [.blk b2 (enc .i32 y5) 32,.blk b1 (enc .i32 (zeroA 256)) 32] [.rowL CZ a0_A a0_n a0_c a0,.rowL CZ a1_A a1_n a1_c a1] w∧∃ g9,a=fr g9 25 [(4,[P0 b1,P0 b2])]) (fun N0 nn0=>?_) ?_
 clear hk0
 refine xb ?_
 refine wp_loop_k (fun n a w=>∃ z3 z4,kpke_vector_dot.l0 K n a0 a1 z3 z4=some y5∧St w0 [] [.blk b2 (enc .i32 z4) 32,.blk b1 (enc .i32 (zeroA 256)) 32] [.rowL CZ a0_A a0_n a0_c a0,.rowL CZ a1_A a1_n a1_c a1] w∧∃ g8,a=fr g8 25 [(1,[.slice a1_A a1_n a1_c]),(4,[P0 b1,P0 b2]),(8,[.slice a0_A a0_n a0_c,I8 (a0.length:Int),I8 z3])]) K ⟨0,(zeroA 256),hy,hs.conv rfl,eg⟩ ?_
 clear hs h hy
 rintro n a w ⟨z3,z4,h,hs,g8,rfl⟩ KL0 kl0
 cases n with
 | zero=>exact nomatch (show none=some _ from h)
 | succ n=>
  refine xs fun _ s10=>?_
  refine xn 1 fun _ j11=>?_
  obtain ⟨hc,h⟩|⟨hc,h⟩:=of_if h
  refine tb 0 11 (dt hc) ?_
  refine fj j11 s10 (xs fun _ s12=>(ct (xk (T s12 (xs fun _ s13=>(xb (xs fun _ s14=>(xn 6 fun _ j15=>?_))))))))
  refine qo 0 12 (I8 z3) ?_
  obtain ⟨h0,h1,h⟩:=oc2 h
  have i0_16:=h0
  have i1_16:=h1
  refine tkf 1 13 (PA CZ a0_A z3) (yiL (C:=CZ) 78 32 .i64 z3 (rR 0 hs) h0 h1) ?_
  refine tkt 2 14 _ (yLA (C:=CZ) 32 z3 (rR 0 hs) rfl i0_16 i1_16) ?_
  refine so 3 (oNe 7 32 .i32 (zeroA 256) hs fun b6 w gw hs=>?_)
  refine qo 4 6 (I8 z3) ?_
  refine so 5 (oWe 32 .i32 (rdL CZ a0 z3) hs 0 fun w kp hs=>?_)
  refine fj j15 s14 (?_)
  refine rg [8] (fun k=>True) 9 fun _ j17=>?_
  have hs:=hs.drawn1
  refine tgt 0 15 _ (yWe 32 hs 1 .grow) ?_
  refine tgt 1 16 _ (yWe 32 hs 0 .grow) ?_
  refine gq 2 17 (.slice a1_A a1_n a1_c) ?_
  refine gq 3 18 (I8 z3) ?_
  obtain ⟨h0,h1,h⟩:=oc2 h
  have i0_18:=h0
  have i1_18:=h1
  refine tgf 4 19 (PA CZ a1_A z3) (yiL (C:=CZ) 78 32 .i64 z3 (rR 1 hs) h0 h1) ?_
  refine tgt 5 20 _ (yLA (C:=CZ) 32 z3 (rR 1 hs) rfl i0_18 i1_18) ?_
  obtain ⟨r7,hg,h⟩:=ob h
  refine go 6 (oC 21 hs (kq_Mul.ok hg _) fun w gw hs=>⟨.of gw,?_⟩)
  obtain ⟨r8,hg,h⟩:=ob h
  refine go 7 (oC 22 hs (kq_Add.ok hg _) fun w gw hs=>⟨.of gw,?_⟩)
  refine go 8 (oWe 32 .i32 r8 hs 1 fun w kp hs=>⟨⟨fun hf=>absurd hf (by decide),.all _ _⟩,?_⟩)
  refine gf (j17 _ _ ?_)
  refine iN (T s13 (xn 2 fun _ j19=>?_))
  refine nq 0 [(23,I8 (iadd .i64 z3 1)),(10,I8 (iadd .i64 z3 1))] ?_
  refine fin (j19 _ _ ?_)
  exact tn (kl0 _ _ ⟨n,ls n,(iadd .i64 z3 1),r8,h,(dr [0,1,1] hs),eg⟩)
  refine tb 0 11 (df hc) ?_
  refine fj j11 s10 (xs fun _ s20=>(cf (xexit (tx (tx (iH ?_))))))
  obtain rfl:=of_some h
  exact exq_n (nn0 _ _ ⟨(hs.conv rfl),eg⟩)
 clear hs h hy
 rintro a w ⟨hs,g9,rfl⟩
 have h:=hk0
 refine T s5 (xs fun _ s21=>(xn 2 fun _ j22=>?_))
 refine tkt 0 24 _ (yWe 32 hs 0 .grow) ?_
 refine so 1 (oWe 32 .i32 y5 hs 1 fun w kp hs=>?_)
 refine fj j22 s21 (xret ?_)
 obtain rfl:=of_some h
 exact qq _ _ (pr (rr [.cell 4 32] [ag .i32 y5] (.cons (rcN 256 hs 1 rfl (enc_len _ _)) .nil)) ⟨cr,hs.none⟩)
theorem bits_such.ok {K:Nat}{a0:List Int}{a1 a2:Int}{r0:Bool}{a0_A:Option Addr}{a0_n a0_c:Nat}(h:bits_such.f K a0 a1 a2=some r0) (w0:World) (hp0:RowL CB w0 a0_A a0_n a0_c a0):Ret Tryd.prog 83 #[.slice a0_A a0_n a0_c,I8 a1,I8 a2] w0 (.bool r0):=by
 refine calls_k Tryd.func83 rfl fun Q qq=>?_
 have hs:=St.startR (all_cons (RowP.ent hp0) all_nil)
 refine wc (a':=(fu 23 [.slice a0_A a0_n a0_c,I8 a1,I8 a2])) ?_
 refine xs fun _ s1=>?_
 refine xn 1 fun _ j2=>?_
 refine qo 0 6 (.bool false) ?_
 refine fj j2 s1 (xs fun _ s3=>(xn 20 fun _ j4=>?_))
 refine qo 0 7 (I8 a1) ?_
 obtain ⟨hc,h⟩|⟨hc,h⟩:=of_if h
 refine tb 1 8 (dt hc) ?_
 refine nq 2 [(9,.bool true),(10,I8 a1)] ?_
 obtain ⟨hc,h⟩|⟨hc,h⟩:=of_if h
 refine tb 4 11 (dt hc) ?_
 refine nq 5 [(12,.bool true),(13,.bool true),(14,I8 a2)] ?_
 obtain ⟨hc,h⟩|⟨hc,h⟩:=of_if h
 refine tb 8 15 (dt hc) ?_
 refine nq 9 [(16,.bool true),(17,.bool true),(18,I8 a2),(19,.slice a0_A a0_n a0_c)] ?_
 refine tkf 13 20 (I8 (a0.length:Int)) (yl (rR 0 hs)) ?_
 refine nq 14 [(21,I8 (imul .i64 (a0.length:Int) 8)),(22,I8 a1)] ?_
 obtain ⟨h0,h⟩:=oc h
 refine tkf 16 23 (I8 (iquo .i64 (imul .i64 (a0.length:Int) 8) a1)) (yq 3 h0) ?_
 refine nq 17 [(24,.bool (decide (a2≤(iquo .i64 (imul .i64 (a0.length:Int) 8) a1)))),(25,.bool (decide (a2≤(iquo .i64 (imul .i64 (a0.length:Int) 8) a1)))),(6,.bool (decide (a2≤(iquo .i64 (imul .i64 (a0.length:Int) 8) a1))))] ?_
 refine fj j4 s3 (xret ?_)
 obtain rfl:=of_some h
 exact qq _ _ (pt [6] [.bool (decide (a2≤(iquo .i64 (imul .i64 (a0.length:Int) 8) a1)))] ⟨cr,hs.none⟩)
 refine tb 8 15 (df hc) ?_
 refine nq 9 [(16,.bool false),(17,.bool false),(18,undef),(19,undef),(20,undef),(21,undef),(22,undef),(23,undef),(24,undef),(25,.bool false),(6,.bool false)] ?_
 refine fj j4 s3 (xret ?_)
 obtain rfl:=of_some h
 exact qq _ _ (pt [6] [.bool false] ⟨cr,hs.none⟩)
 refine tb 4 11 (df hc) ?_
 refine nq 5 [(12,.bool false),(13,.bool false),(14,undef),(15,undef),(16,.bool false),(17,.bool false),(18,undef),(19,undef),(20,undef),(21,undef),(22,undef),(23,undef),(24,undef),(25,.bool false),(6,.bool false)] ?_
 refine fj j4 s3 (xret ?_)
 obtain rfl:=of_some h
 exact qq _ _ (pt [6] [.bool false] ⟨cr,hs.none⟩)
 refine tb 1 8 (df hc) ?_
 refine nq 2 [(9,.bool false),(10,undef),(11,undef),(12,.bool false),(13,.bool false),(14,undef),(15,undef),(16,.bool false),(17,.bool false),(18,undef),(19,undef),(20,undef),(21,undef),(22,undef),(23,undef),(24,undef),(25,.bool false),(6,.bool false)] ?_
 refine fj j4 s3 (xret ?_)
 obtain rfl:=of_some h
 exact qq _ _ (pt [6] [.bool false] ⟨cr,hs.none⟩)
theorem bits_Unpack.ok {K:Nat}{a0:List Int}{a1 a2:Int}{r0:List Int}{a0_A:Option Addr}{a0_n a0_c:Nat}(h:bits_Unpack.f K a0 a1 a2=some r0) (w0:World) (hp0:RowL CB w0 a0_A a0_n a0_c a0):Calls Tryd.prog 40 #[.slice a0_A a0_n a0_c,I8 a1,I8 a2] w0 fun e w'=>∃ h:(Option Addr × Nat × Nat),e = .returned (.slice h.1 h.2.1 h.2.2)∧St w0 [] [.ownL (CI .u32) h.1 h.2.1 h.2.2 r0 70] [] w':=by
 refine calls_k Tryd.func40 rfl fun Q qq=>?_
 have hs:=St.startR (all_cons (RowP.ent hp0) all_nil)
 refine wc (a':=(fu 52 [.slice a0_A a0_n a0_c,I8 a1,I8 a2])) ?_
 refine xs fun _ s1=>?_
 refine xn 1 fun _ j2=>?_
 refine qo 0 6 (.slice none 0 0) ?_
 refine fj j2 s1 (xs fun _ s3=>(xs fun _ s4=>(xn 5 fun _ j5=>?_)))
 refine nq 0 [(11,.slice a0_A a0_n a0_c),(12,I8 a1),(13,I8 a2)] ?_
 obtain ⟨r1,hg,h⟩:=ob h
 cases r1 with
 | true=>
  have h:=of_if_t h
  refine so 3 (oC 14 hs (bits_such.ok hg _ (rR 0 hs)) fun w gw hs=>?_)
  refine qo 4 15 (.bool false) ?_
  refine fj j5 s4 (cf (xk (T s3 (xs fun _ s6=>(xn 3 fun _ j7=>?_)))))
  refine qo 0 16 (I8 a2) ?_
  obtain ⟨h0,h1,h⟩:=oc2 h
  refine so 1 (oMk (C:=(CI .u32)) 17 68 70 4 35184372088832 .i64 .i64 a2 hs h0 h1 (by decide) (by decide) fun s2_A s2_n s2_c w gw hs=>?_)
  refine qo 2 7 (.slice s2_A s2_n s2_c) ?_
  refine fj j7 s6 (xs fun _ s8=>(xn 2 fun _ j9=>?_))
  refine nq 0 [(8,U8 0),(9,I8 0)] ?_
  refine fj j9 s8 (xs fun _ s10=>(xs fun _ s11=>(xn 3 fun _ j12=>?_)))
  refine qo 0 18 (.slice s2_A s2_n s2_c) ?_
  refine tkf 1 19 (I8 ((List.replicate (a2:Int).toNat (Cod.zero (CI .u32))).length:Int)) (yl (rL 0 hs)) ?_
  refine qo 2 20 (I8 0) ?_
  refine fj j12 s11 (?_)
  obtain ⟨y8,hy,hk0⟩:=ob h
  refine wp_exq (N:=fun a w=>St w0 [] [.ownL (CI .u32) s2_A s2_n s2_c y8 70] [.rowL CB a0_A a0_n a0_c a0] w∧∃ g14,a=fr g14 55 [(6,[.slice none 0 0,.slice s2_A s2_n s2_c])]) (fun N0 nn0=>?_) ?_
  clear hk0
  refine xb ?_
  refine wp_loop_k (fun n a w=>∃ z3 z4 z5 z6 z7,∃ z7_A z7_n z7_c,bits_Unpack.l0 K n a1 a2 z3 z4 z5 z6 z7=some y8∧St w0 [] [.ownL (CI .u32) s2_A s2_n s2_c z6 70] [.rowL CB z7_A z7_n z7_c z7,.rowL CB a0_A a0_n a0_c a0] w∧∃ g13,a=fr g13 55 [(0,[.slice z7_A z7_n z7_c,I8 a1]),(6,[.slice none 0 0,.slice s2_A s2_n s2_c,U8 z3,I8 z4]),(19,[I8 ((List.replicate (a2:Int).toNat (Cod.zero (CI .u32))).length:Int),I8 z5])]) K ⟨0,0,0,(List.replicate (a2:Int).toNat (Cod.zero (CI .u32))),a0,a0_A,a0_n,a0_c,hy,(pk [0,0] (hs.conv (L':=[.ownL (CI .u32) s2_A s2_n s2_c (List.replicate (a2:Int).toNat (Cod.zero (CI .u32))) 70]) rfl)),eg⟩ ?_
  clear hs h hy
  rintro n a w ⟨z3,z4,z5,z6,z7,z7_A,z7_n,z7_c,h,hs,g13,rfl⟩ KL0 kl0
  cases n with
  | zero=>exact nomatch (show none=some _ from h)
  | succ n=>
   refine xs fun _ s15=>?_
   refine xn 1 fun _ j16=>?_
   obtain ⟨hc,h⟩|⟨hc,h⟩:=of_if h
   refine tb 0 21 (dt hc) ?_
   refine fj j16 s15 (xs fun _ s17=>(ct (xk (T s17 (xs fun _ s18=>(xb (xs fun _ s19=>(xn 2 fun _ j20=>?_))))))))
   refine nq 0 [(22,I8 z5),(10,I8 z5)] ?_
   refine fj j20 s19 (xs fun _ s21=>?_)
   obtain ⟨⟨y12,y13,y14⟩,hy,hk1⟩:=ob h
   refine wp_exq (N:=fun a w=>∃ y14_A y14_n y14_c,St w0 [] [.ownL (CI .u32) s2_A s2_n s2_c z6 70] [.rowL CB y14_A y14_n y14_c y14,.rowL CB z7_A z7_n z7_c z7,.rowL CB a0_A a0_n a0_c a0] w∧∃ g23,a=fr g23 55 [(0,[.slice y14_A y14_n y14_c,I8 a1]),(6,[.slice none 0 0,.slice s2_A s2_n s2_c,U8 y12,I8 y13,I8 z5]),(19,[I8 ((List.replicate (a2:Int).toNat (Cod.zero (CI .u32))).length:Int),I8 z5])]) (fun N1 nn1=>?_) ?_
   clear hk1
   refine xb ?_
   refine wp_loop_k (fun n a w=>∃ z9 z10 z11,∃ z11_A z11_n z11_c,bits_Unpack.l1 K n a1 z9 z10 z11=some (y12,y13,y14)∧St w0 [] [.ownL (CI .u32) s2_A s2_n s2_c z6 70] [.rowL CB z11_A z11_n z11_c z11,.rowL CB z7_A z7_n z7_c z7,.rowL CB a0_A a0_n a0_c a0] w∧∃ g22,a=fr g22 55 [(0,[.slice z11_A z11_n z11_c,I8 a1]),(6,[.slice none 0 0,.slice s2_A s2_n s2_c,U8 z9,I8 z10,I8 z5]),(19,[I8 ((List.replicate (a2:Int).toNat (Cod.zero (CI .u32))).length:Int),I8 z5])]) K ⟨z3,z4,z7,z7_A,z7_n,z7_c,hy,(pk [0,0,1] (hs.conv (L':=[.ownL (CI .u32) s2_A s2_n s2_c z6 70]) rfl)),eg⟩ ?_
   clear hs h hy
   rintro n a w ⟨z9,z10,z11,z11_A,z11_n,z11_c,h,hs,g22,rfl⟩ KL1 kl1
   cases n with
   | zero=>exact nomatch (show none=some _ from h)
   | succ n=>
    refine xs fun _ s24=>?_
    refine xs fun _ s25=>?_
    refine xn 3 fun _ j26=>?_
    refine nq 0 [(23,I8 z10),(24,I8 a1)] ?_
    obtain ⟨hc,h⟩|⟨hc,h⟩:=of_if h
    refine tb 2 25 (dt hc) ?_
    refine fj j26 s25 (ct (xk (T s24 (xb ?_))))
    refine rg [] (fun k=>True) 15 fun _ j27=>?_
    have hs:=hs.drawn1
    refine gq 0 26 (U8 z9) ?_
    refine gq 1 27 (.slice z11_A z11_n z11_c) ?_
    obtain ⟨h0,h1,h⟩:=oc2 h
    have i0_28:=h0
    have i1_28:=h1
    refine tgf 2 28 (PA CB z11_A 0) (yiL (C:=CB) 24 5 .i64 0 (rR 0 hs) h0 h1) ?_
    refine tgt 3 29 _ (yL (C:=CB) 5 0 (rR 0 hs) rfl i0_28 i1_28) ?_
    refine gq 4 30 (U8 (iconv .u64 (rdL CB z11 0))) ?_
    refine gq 5 31 (I8 z10) ?_
    obtain ⟨h0,h⟩:=oc h
    refine tgf 6 32 (U8 (ishl .u64 (iconv .u64 (rdL CB z11 0)) z10)) (ysl 112 .i64 h0) ?_
    refine gq 7 33 (U8 (ior .u64 z9 (ishl .u64 (iconv .u64 (rdL CB z11 0)) z10))) ?_
    refine gq 8 34 (I8 z10) ?_
    refine gq 9 35 (I8 (iadd .i64 z10 8)) ?_
    refine gq 10 36 (.slice z11_A z11_n z11_c) ?_
    obtain ⟨h0,h1,h⟩:=oc2 h
    obtain ⟨h2,h⟩:=oc h
    obtain ⟨s15_A,hA⟩ : ∃ A,A=if z11_c=(1:Int).toNat then z11_A else adr z11_A ((1:Int).toNat*Cod.size CB):=⟨_,rfl⟩
    obtain ⟨s15_n,hn⟩ : ∃ n,n=((z11.length:Int):Int).toNat-(1:Int).toNat:=⟨_,rfl⟩
    obtain ⟨s15_c,hc⟩ : ∃ c,c=z11_c-(1:Int).toNat:=⟨_,rfl⟩
    refine tgf 11 37 (.slice s15_A s15_n s15_c) (ysb (C:=CB) 24 5 (some (I8 1)) none 1 (z11.length:Int) (rR 0 hs) (.inr ⟨_,rfl⟩) (.inl ⟨rfl,rfl⟩) h0 h1 h2 hA hn hc) ?_
    have hs:=hs.addSub (C:=CB) 0 rfl h0 h1 h2 hA hn hc
    obtain ⟨x16,hx,h⟩:=ob h
    refine tgf 12 8 (U8 x16) (yn hx) ?_
    obtain ⟨x17,hx,h⟩:=ob h
    refine tgf 13 9 (I8 x17) (yn hx) ?_
    refine gq 14 0 (.slice s15_A s15_n s15_c) ?_
    refine gf (j27 _ _ ?_)
    refine iN ?_
    exact tn (kl1 _ _ ⟨n,ls n,x16,x17,(subL z11 1 (z11.length:Int)),s15_A,s15_n,s15_c,h,(pk [0,2,3] hs),eg⟩)
    refine tb 2 25 (df hc) ?_
    refine fj j26 s25 (cf (xexit (tx (tx (iH ?_)))))
    obtain ⟨rfl,rfl,rfl⟩:=os3 h
    exact exq_n (nn1 _ _ ⟨z11_A,z11_n,z11_c,(hs.conv rfl),eg⟩)
   clear hs h hy
   rintro a w ⟨y14_A,y14_n,y14_c,hs,g23,rfl⟩
   have h:=hk1
   refine T s21 (xs fun _ s29=>(xn 10 fun _ j30=>?_))
   refine nq 0 [(38,.slice s2_A s2_n s2_c),(39,I8 z5),(40,U8 y12),(41,I8 a1)] ?_
   obtain ⟨h0,h⟩:=oc h
   refine tkf 4 42 (U8 (ishl .u64 1 a1)) (ysl 112 .i64 h0) ?_
   refine nq 5 [(43,U8 (isub .u64 (ishl .u64 1 a1) 1)),(44,U8 (iand .u64 y12 (isub .u64 (ishl .u64 1 a1) 1))),(45,U4 (iconv .u32 (iand .u64 y12 (isub .u64 (ishl .u64 1 a1) 1))))] ?_
   obtain ⟨h0,h1,h⟩:=oc2 h
   have i0_31:=h0
   have i1_31:=h1
   refine tkf 8 46 (PA (CI .u32) s2_A z5) (yiL (C:=(CI .u32)) 68 70 .i64 z5 (rL 0 hs) h0 h1) ?_
   obtain ⟨x18,hx,h⟩:=ob h
   refine so 9 (oL (C:=(CI .u32)) (he:=by cases hx; kernel_rfl) 70 z5 x18 hs 0 rfl i0_31 i1_31 fun w hs=>?_)
   refine fj j30 s29 (xs fun _ s32=>(xn 4 fun _ j33=>?_))
   refine nq 0 [(47,U8 y12),(48,I8 a1)] ?_
   obtain ⟨h0,h⟩:=oc h
   refine tkf 2 49 (U8 (ishr .u64 y12 a1)) (ysr 112 .i64 h0) ?_
   obtain ⟨x19,hx,h⟩:=ob h
   refine tkf 3 8 (U8 x19) (yn hx) ?_
   refine fj j33 s32 (xn 4 fun _ j34=>?_)
   refine nq 0 [(50,I8 y13),(51,I8 a1),(52,I8 (isub .i64 y13 a1))] ?_
   obtain ⟨x20,hx,h⟩:=ob h
   refine tkf 3 9 (I8 x20) (yn hx) ?_
   refine fin (j34 _ _ (iN (T s18 (xn 2 fun _ j35=>?_))))
   refine nq 0 [(53,I8 (iadd .i64 z5 1)),(20,I8 (iadd .i64 z5 1))] ?_
   refine fin (j35 _ _ ?_)
   exact tn (kl0 _ _ ⟨n,ls n,x19,x20,(iadd .i64 z5 1),(wrL z6 z5 x18),y14,y14_A,y14_n,y14_c,h,(pk [0,2] hs),eg⟩)
   refine tb 0 21 (df hc) ?_
   refine fj j16 s15 (xs fun _ s36=>(cf (xexit (tx (tx (iH ?_))))))
   obtain rfl:=of_some h
   exact exq_n (nn0 _ _ ⟨(pk [1] hs),eg⟩)
  clear hs h hy
  rintro a w ⟨hs,g14,rfl⟩
  have h:=hk0
  refine T s10 (xs fun _ s37=>(xn 2 fun _ j38=>?_))
  refine nq 0 [(54,.slice s2_A s2_n s2_c),(6,.slice s2_A s2_n s2_c)] ?_
  refine fj j38 s37 (xret ?_)
  obtain rfl:=of_some h
  exact qq _ _ (pt [6] [.slice s2_A s2_n s2_c] ⟨⟨s2_A,s2_n,s2_c⟩,cr,(pz hs)⟩)
 | false=>
  have h:=of_if_f h
  refine so 3 (oC 14 hs (bits_such.ok hg _ (rR 0 hs)) fun w gw hs=>?_)
  refine qo 4 15 (.bool true) ?_
  refine fj j5 s4 (ct (xs fun _ s39=>(xn 1 fun _ j40=>?_)))
  refine qo 0 6 (.slice none 0 0) ?_
  refine fj j40 s39 (xret (tr ?_))
  obtain rfl:=of_some h
  have hs:=hs.addNilL (CI .u32) 70
  exact qq _ _ (pt [6] [.slice none 0 0] ⟨⟨none,0,0⟩,cr,(pz hs)⟩)
theorem kq_below.ok {K:Nat}{a0:Arr 256}{a1:Int}{r0:Bool}(h:kq_below.f K a0 a1=some r0) (w0:World):Ret Tryd.prog 93 #[ag .i32 a0,I4 a1] w0 (.bool r0):=by
 refine calls_k Tryd.func93 rfl fun Q qq=>?_
 have hs:=St.start w0
 refine wc (a':=(fu 17 [ag .i32 a0,I4 a1])) ?_
 refine xs fun _ s1=>?_
 refine xn 2 fun _ j2=>?_
 refine so 0 (oBe 2 32 .i32 a0 hs fun b1 w gw hs=>?_)
 refine qo 1 4 (.bool false) ?_
 refine fj j2 s1 (xs fun _ s3=>(xs fun _ s4=>(xn 2 fun _ j5=>?_)))
 refine tkt 0 7 _ (yWe 32 hs 0 .grow) ?_
 refine qo 1 8 (I8 0) ?_
 refine fj j5 s4 (?_)
 obtain ⟨t0,hy,hk0⟩:=ob h
 refine wp_exq (N:=fun a w=>t0 = .inl ()∧St w0 [] [.blk b1 (enc .i32 a0) 32] [] w∧∃ g7,a=fr g7 19 []) (fun N0 nn0=>?_) ?_
 refine xb ?_
 refine wp_loop_k (fun n a w=>∃ z2,kq_below.l0 K n a0 a1 z2=some t0∧St w0 [] [.blk b1 (enc .i32 a0) 32] [] w∧∃ g6,a=fr g6 19 [(1,[I4 a1]),(7,[ag .i32 a0,I8 z2])]) K ⟨0,hy,hs.conv rfl,eg⟩ ?_
 clear hs h hy
 rintro n a w ⟨z2,h,hs,g6,rfl⟩ KL0 kl0
 cases n with
 | zero=>exact nomatch (show none=some _ from h)
 | succ n=>
  refine xs fun _ s8=>?_
  refine xn 1 fun _ j9=>?_
  obtain ⟨hc,h⟩|⟨hc,h⟩:=of_if h
  refine tb 0 9 (dt hc) ?_
  refine fj j9 s8 (xs fun _ s10=>(ct (xk (T s10 (xs fun _ s11=>(xb (xs fun _ s12=>(xn 2 fun _ j13=>?_))))))))
  obtain ⟨h0,h1,h⟩:=oc2 h
  refine tkf 0 10 (I4 (rd a0 z2)) (yt 32 21 .i64 h0 h1) ?_
  obtain ⟨x3,hx,h⟩:=ob h
  refine tkf 1 6 (I4 x3) (yn hx) ?_
  refine fj j13 s12 (xs fun _ s14=>(xn 7 fun _ j15=>?_))
  refine qo 0 11 (I4 x3) ?_
  obtain ⟨hc,h⟩|⟨hc,h⟩:=of_if h
  refine tb 1 12 (dt hc) ?_
  refine nq 2 [(13,.bool true),(14,undef),(15,undef),(16,undef),(17,.bool true)] ?_
  refine fj j15 s14 (ct (xs fun _ s16=>(xn 1 fun _ j17=>?_)))
  refine qo 0 4 (.bool false) ?_
  refine fj j17 s16 (xret (iR (tr (tr (iR (exq_r (tr ?_)))))))
  obtain rfl:=of_some h
  have q0:=of_some hk0
  subst q0
  exact qq _ _ (pt [4] [.bool false] ⟨cr,hs.none⟩)
  refine tb 1 12 (df hc) ?_
  refine nq 2 [(13,.bool false),(14,I4 x3),(15,I4 a1)] ?_
  obtain ⟨hc,h⟩|⟨hc,h⟩:=of_if h
  refine tb 5 16 (dt hc) ?_
  refine qo 6 17 (.bool true) ?_
  refine fj j15 s14 (ct (xs fun _ s18=>(xn 1 fun _ j19=>?_)))
  refine qo 0 4 (.bool false) ?_
  refine fj j19 s18 (xret (iR (tr (tr (iR (exq_r (tr ?_)))))))
  obtain rfl:=of_some h
  have q0:=of_some hk0
  subst q0
  exact qq _ _ (pt [4] [.bool false] ⟨cr,hs.none⟩)
  refine tb 5 16 (df hc) ?_
  refine qo 6 17 (.bool false) ?_
  refine fj j15 s14 (cf (xk (iN (T s11 (xn 2 fun _ j20=>?_)))))
  refine nq 0 [(18,I8 (iadd .i64 z2 1)),(8,I8 (iadd .i64 z2 1))] ?_
  refine fin (j20 _ _ ?_)
  exact tn (kl0 _ _ ⟨n,ls n,(iadd .i64 z2 1),h,(hs.conv rfl),eg⟩)
  refine tb 0 9 (df hc) ?_
  refine fj j9 s8 (xs fun _ s21=>(cf (xexit (tx (tx (iH ?_))))))
  obtain rfl:=of_some h
  exact exq_n (nn0 _ _ ⟨rfl,(hs.conv rfl),eg⟩)
 clear hs h hy
 rintro a w ⟨rfl,hs,g7,rfl⟩
 have h:=hk0
 refine T s3 (xs fun _ s22=>(xn 1 fun _ j23=>?_))
 refine qo 0 4 (.bool true) ?_
 refine fj j23 s22 (xret ?_)
 obtain rfl:=of_some h
 exact qq _ _ (pt [4] [.bool true] ⟨cr,hs.none⟩)
theorem kq_bound.ok {K:Nat}{a0 r0:Int}(h:kq_bound.f K a0=some r0) (w0:World):Ret Tryd.prog 94 #[I8 a0] w0 (I4 r0):=by
 refine calls_k Tryd.func94 rfl fun Q qq=>?_
 have hs:=St.start w0
 refine wc (a':=(fu 6 [I8 a0])) ?_
 refine xs fun _ s1=>?_
 refine xn 1 fun _ j2=>?_
 refine qo 0 2 (I4 0) ?_
 refine fj j2 s1 (xs fun _ s3=>(xs fun _ s4=>(xn 2 fun _ j5=>?_)))
 refine qo 0 3 (I8 a0) ?_
 obtain ⟨hc,h⟩|⟨hc,h⟩:=of_if h
 refine tb 1 4 (et hc) ?_
 refine fj j5 s4 (ct (xs fun _ s6=>(xn 1 fun _ j7=>?_)))
 refine qo 0 2 (I4 3329) ?_
 refine fj j7 s6 (xret (tr ?_))
 obtain rfl:=of_some h
 exact qq _ _ (pt [2] [I4 3329] ⟨cr,hs.none⟩)
 refine tb 1 4 (ef hc) ?_
 refine fj j5 s4 (cf (xk (T s3 (xs fun _ s8=>(xn 3 fun _ j9=>?_)))))
 refine qo 0 5 (I8 a0) ?_
 obtain ⟨h0,h⟩:=oc h
 refine tkf 1 6 (I4 (ishl .i32 1 a0)) (ysl 21 .i64 h0) ?_
 obtain ⟨x1,hx,h⟩:=ob h
 refine tkf 2 2 (I4 x1) (yn hx) ?_
 refine fj j9 s8 (xret ?_)
 obtain rfl:=of_some h
 exact qq _ _ (pt [2] [I4 x1] ⟨cr,hs.none⟩)
end Go.Proofs.YtemdbgmldljbpaaDoor
