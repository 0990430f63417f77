/- own -/
import Derived.Test.YtemdbgmldljbpaaDoorMh
import Derived.Test.YtemdbgmldljbpaaDoorProg
import Derived.Test.YtemdbgmldljbpaaDoorYF0
import Derived.Test.YtemdbgmldljbpaaDoorYX0
import Derived.Test.YtemdbgmldljbpaaDoorYX1
import Derived.Test.YtemdbgmldljbpaaDoorYX2
set_option linter.unusedVariables false
set_option linter.unusedSimpArgs false
set_option maxRecDepth 100000
set_option maxHeartbeats 4000000
namespace Go.Proofs.YtemdbgmldljbpaaDoor
open Go.Mx
attribute [local irreducible] wpOp
theorem kq_Pack.ok {K:Nat}{a0:Arr 256}{a1:Int}{r0:List Int}(h:kq_Pack.f K a0 a1=some r0) (w0:World):Calls Tryd.prog 59 #[ag .i32 a0,I8 a1] w0 fun e w'=>∃ h:(Option Addr × Nat × Nat),e = .returned (.slice h.1 h.2.1 h.2.2)∧St w0 [] [.ownL CB h.1 h.2.1 h.2.2 r0 5] [] w':=by
 refine calls_k Tryd.func59 rfl fun Q qq=>?_
 have hs:=St.start w0
 refine wc (a':=(fu 34 [ag .i32 a0,I8 a1])) ?_
 refine xs fun _ s1=>?_
 refine xn 2 fun _ j2=>?_
 refine so 0 (oBe 2 32 .i32 a0 hs fun b1 w gw hs=>?_)
 refine qo 1 4 (.slice none 0 0) ?_
 refine fj j2 s1 (xs fun _ s3=>(xs fun _ s4=>?_))
 refine rg [] (fun k=>True) 13 fun _ j5=>?_
 have hs:=hs.drawn1
 refine gq 0 8 (I8 a1) ?_
 obtain ⟨hc,h⟩|⟨hc,h⟩:=of_if h
 refine gb 1 9 (dt hc) ?_
 refine gq 2 10 (.bool true) ?_
 refine gq 3 11 undef ?_
 refine gq 4 12 undef ?_
 refine gq 5 13 (.bool true) ?_
 refine gq 6 14 (.bool true) ?_
 refine gq 7 15 undef ?_
 refine gq 8 16 undef ?_
 refine gq 9 17 undef ?_
 refine gq 10 18 undef ?_
 refine gq 11 19 undef ?_
 refine gq 12 20 (.bool true) ?_
 refine gf (j5 _ _ ?_)
 refine T s4 (ct (xs fun _ s6=>(xn 1 fun _ j7=>?_)))
 refine qo 0 4 (.slice none 0 0) ?_
 refine fj j7 s6 (xret (tr ?_))
 obtain rfl:=of_some h
 have hs:=hs.addNilL CB 5
 exact qq _ _ (pt [4] [.slice none 0 0] ⟨⟨none,0,0⟩,cr,(dr [1,0] hs)⟩)
 refine gb 1 9 (df hc) ?_
 refine gq 2 10 (.bool false) ?_
 refine gq 3 11 (I8 a1) ?_
 obtain ⟨hc,h⟩|⟨hc,h⟩:=of_if h
 refine gb 4 12 (dt hc) ?_
 refine gq 5 13 (.bool true) ?_
 refine gq 6 14 (.bool true) ?_
 refine gq 7 15 undef ?_
 refine gq 8 16 undef ?_
 refine gq 9 17 undef ?_
 refine gq 10 18 undef ?_
 refine gq 11 19 undef ?_
 refine gq 12 20 (.bool true) ?_
 refine gf (j5 _ _ ?_)
 refine T s4 (ct (xs fun _ s8=>(xn 1 fun _ j9=>?_)))
 refine qo 0 4 (.slice none 0 0) ?_
 refine fj j9 s8 (xret (tr ?_))
 obtain rfl:=of_some h
 have hs:=hs.addNilL CB 5
 exact qq _ _ (pt [4] [.slice none 0 0] ⟨⟨none,0,0⟩,cr,(dr [1,0] hs)⟩)
 refine gb 4 12 (df hc) ?_
 refine gq 5 13 (.bool false) ?_
 refine gq 6 14 (.bool false) ?_
 refine tgt 7 15 _ (yWe 32 hs 0 .grow) ?_
 refine gq 8 16 (I8 a1) ?_
 obtain ⟨r2,hg,h⟩:=ob h
 refine go 9 (oC 17 hs (kq_bound.ok hg _) fun w gw hs=>⟨.of gw,?_⟩)
 obtain ⟨r3,hg,h⟩:=ob h
 cases r3 with
 | true=>
  have h:=of_if_t h
  refine go 10 (oC 18 hs (kq_below.ok hg _) fun w gw hs=>⟨.of gw,?_⟩)
  refine gq 11 19 (.bool false) ?_
  refine gq 12 20 (.bool false) ?_
  refine gf (j5 _ _ ?_)
  refine T s4 (cf (xk (T s3 (xs fun _ s10=>(xn 2 fun _ j11=>?_)))))
  refine so 0 (oMk (C:=(CI .u32)) 21 68 70 4 35184372088832 .i64 .i64 256 hs (by decide) (by decide) (by decide) (by decide) fun s4_A s4_n s4_c w gw hs=>?_)
  refine qo 1 5 (.slice s4_A s4_n s4_c) ?_
  refine fj j11 s10 (xs fun _ s12=>(xs fun _ s13=>(xn 2 fun _ j14=>?_)))
  refine tkt 0 22 _ (yWe 32 hs 1 .grow) ?_
  refine qo 1 23 (I8 0) ?_
  refine fj j14 s13 (?_)
  obtain ⟨y7,hy,hk0⟩:=ob h
  refine wp_exq (N:=fun a w=>St w0 [] [.ownL (CI .u32) s4_A s4_n s4_c y7 70,.blk b1 (enc .i32 a0) 32] [] w∧∃ g16,a=fr g16 36 [(1,[I8 a1]),(4,[.slice none 0 0,.slice s4_A s4_n s4_c])]) (fun N0 nn0=>?_) ?_
  clear hk0
  refine xb ?_
  refine wp_loop_k (fun n a w=>∃ z5 z6,kq_Pack.l0 K n a0 z5 z6=some y7∧St w0 [] [.ownL (CI .u32) s4_A s4_n s4_c z6 70,.blk b1 (enc .i32 a0) 32] [] w∧∃ g15,a=fr g15 36 [(1,[I8 a1]),(4,[.slice none 0 0,.slice s4_A s4_n s4_c]),(22,[ag .i32 a0,I8 z5])]) K ⟨0,(List.replicate (256:Int).toNat (Cod.zero (CI .u32))),hy,hs.conv rfl,eg⟩ ?_
  clear hs h hy
  rintro n a w ⟨z5,z6,h,hs,g15,rfl⟩ KL0 kl0
  cases n with
  | zero=>exact nomatch (show none=some _ from h)
  | succ n=>
   refine xs fun _ s17=>?_
   refine xn 1 fun _ j18=>?_
   obtain ⟨hc,h⟩|⟨hc,h⟩:=of_if h
   refine tb 0 24 (dt hc) ?_
   refine fj j18 s17 (xs fun _ s19=>(ct (xk (T s19 (xs fun _ s20=>(xb (xs fun _ s21=>(xn 4 fun _ j22=>?_))))))))
   refine qo 0 25 (I8 z5) ?_
   obtain ⟨h0,h1,h⟩:=oc2 h
   refine tkf 1 26 (I4 (rd a0 z5)) (yt 32 21 .i64 h0 h1) ?_
   refine qo 2 6 (I8 z5) ?_
   obtain ⟨x8,hx,h⟩:=ob h
   refine tkf 3 7 (I4 x8) (yn hx) ?_
   refine fj j22 s21 (xn 6 fun _ j23=>?_)
   refine nq 0 [(27,.slice s4_A s4_n s4_c),(28,I8 z5),(29,I4 x8),(30,U4 (iconv .u32 x8))] ?_
   obtain ⟨h0,h1,h⟩:=oc2 h
   have i0_24:=h0
   have i1_24:=h1
   refine tkf 4 31 (PA (CI .u32) s4_A z5) (yiL (C:=(CI .u32)) 68 70 .i64 z5 (rL 0 hs) h0 h1) ?_
   obtain ⟨x9,hx,h⟩:=ob h
   refine so 5 (oL (C:=(CI .u32)) (he:=by cases hx; kernel_rfl) 70 z5 x9 hs 0 rfl i0_24 i1_24 fun w hs=>?_)
   refine fin (j23 _ _ (iN (T s20 (xn 2 fun _ j25=>?_))))
   refine nq 0 [(32,I8 (iadd .i64 z5 1)),(23,I8 (iadd .i64 z5 1))] ?_
   refine fin (j25 _ _ ?_)
   exact tn (kl0 _ _ ⟨n,ls n,(iadd .i64 z5 1),(wrL z6 z5 x9),h,(hs.conv rfl),eg⟩)
   refine tb 0 24 (df hc) ?_
   refine fj j18 s17 (xs fun _ s26=>(cf (xexit (tx (tx (iH ?_))))))
   obtain rfl:=of_some h
   exact exq_n (nn0 _ _ ⟨(hs.conv rfl),eg⟩)
  clear hs h hy
  rintro a w ⟨hs,g16,rfl⟩
  have h:=hk0
  refine T s12 (xs fun _ s27=>(xn 4 fun _ j28=>?_))
  refine nq 0 [(33,.slice s4_A s4_n s4_c),(34,I8 a1)] ?_
  obtain ⟨r10,hg,h⟩:=ob h
  refine wpS.only 2 (oH 35 hs (bits_Pack.ok hg _ (rL 0 hs)) ?_)
  rintro ⟨r10_A,r10_n,r10_c⟩ w gw hs
  have hs:=hs.conv (L':=[.ownL CB r10_A r10_n r10_c r10 5,.ownL (CI .u32) s4_A s4_n s4_c y7 70,.blk b1 (enc .i32 a0) 32]) rfl
  refine ⟨fun _=>trivial,?_⟩
  refine qo 3 4 (.slice r10_A r10_n r10_c) ?_
  refine fj j28 s27 (xret ?_)
  obtain rfl:=of_some h
  exact qq _ _ (pt [4] [.slice r10_A r10_n r10_c] ⟨⟨r10_A,r10_n,r10_c⟩,cr,(dr [1,0,0] hs)⟩)
 | false=>
  have h:=of_if_f h
  refine go 10 (oC 18 hs (kq_below.ok hg _) fun w gw hs=>⟨.of gw,?_⟩)
  refine gq 11 19 (.bool true) ?_
  refine gq 12 20 (.bool true) ?_
  refine gf (j5 _ _ ?_)
  refine T s4 (ct (xs fun _ s29=>(xn 1 fun _ j30=>?_)))
  refine qo 0 4 (.slice none 0 0) ?_
  refine fj j30 s29 (xret (tr ?_))
  obtain rfl:=of_some h
  have hs:=hs.addNilL CB 5
  exact qq _ _ (pt [4] [.slice none 0 0] ⟨⟨none,0,0⟩,cr,(dr [1,0] hs)⟩)
theorem kq_Widen.ok {K:Nat}{a0:Arr 256}{a1:Int}{r0:Arr 256}(h:kq_Widen.f K a0 a1=some r0) (w0:World):Ret Tryd.prog 64 #[ag .i32 a0,I8 a1] w0 (ag .i32 r0):=by
 refine calls_k Tryd.func64 rfl fun Q qq=>?_
 have hs:=St.start w0
 refine wc (a':=(fu 36 [ag .i32 a0,I8 a1])) ?_
 refine xs fun _ s1=>?_
 refine xn 2 fun _ j2=>?_
 refine so 0 (oBe 2 32 .i32 a0 hs fun b1 w gw hs=>?_)
 refine so 1 (oNe 4 32 .i32 (zeroA 256) hs fun b2 w gw hs=>?_)
 refine fj j2 s1 (xs fun _ s3=>(xs fun _ s4=>?_))
 refine rg [] (fun k=>True) 13 fun _ j5=>?_
 have hs:=hs.drawn1
 refine gq 0 7 (I8 a1) ?_
 obtain ⟨hc,h⟩|⟨hc,h⟩:=of_if h
 refine gb 1 8 (dt hc) ?_
 refine gq 2 9 (.bool true) ?_
 refine gq 3 10 undef ?_
 refine gq 4 11 undef ?_
 refine gq 5 12 (.bool true) ?_
 refine gq 6 13 (.bool true) ?_
 refine gq 7 14 undef ?_
 refine gq 8 15 undef ?_
 refine gq 9 16 undef ?_
 refine gq 10 17 undef ?_
 refine gq 11 18 undef ?_
 refine gq 12 19 (.bool true) ?_
 refine gf (j5 _ _ ?_)
 refine T s4 (ct (xs fun _ s6=>(xn 2 fun _ j7=>?_)))
 refine qo 0 20 (ag .i32 (zeroA 256)) ?_
 refine so 1 (oWe 32 .i32 (zeroA 256) hs 0 fun w kp hs=>?_)
 refine fj j7 s6 (xret (tr ?_))
 obtain rfl:=of_some h
 exact qq _ _ (pr (rr [.cell 4 32] [ag .i32 (zeroA 256)] (.cons (rcN 256 hs 0 rfl (enc_len _ _)) .nil)) ⟨cr,hs.none⟩)
 refine gb 1 8 (df hc) ?_
 refine gq 2 9 (.bool false) ?_
 refine gq 3 10 (I8 a1) ?_
 obtain ⟨hc,h⟩|⟨hc,h⟩:=of_if h
 refine gb 4 11 (dt hc) ?_
 refine gq 5 12 (.bool true) ?_
 refine gq 6 13 (.bool true) ?_
 refine gq 7 14 undef ?_
 refine gq 8 15 undef ?_
 refine gq 9 16 undef ?_
 refine gq 10 17 undef ?_
 refine gq 11 18 undef ?_
 refine gq 12 19 (.bool true) ?_
 refine gf (j5 _ _ ?_)
 refine T s4 (ct (xs fun _ s8=>(xn 2 fun _ j9=>?_)))
 refine qo 0 20 (ag .i32 (zeroA 256)) ?_
 refine so 1 (oWe 32 .i32 (zeroA 256) hs 0 fun w kp hs=>?_)
 refine fj j9 s8 (xret (tr ?_))
 obtain rfl:=of_some h
 exact qq _ _ (pr (rr [.cell 4 32] [ag .i32 (zeroA 256)] (.cons (rcN 256 hs 0 rfl (enc_len _ _)) .nil)) ⟨cr,hs.none⟩)
 refine gb 4 11 (df hc) ?_
 refine gq 5 12 (.bool false) ?_
 refine gq 6 13 (.bool false) ?_
 refine tgt 7 14 _ (yWe 32 hs 1 .grow) ?_
 refine gq 8 15 (I8 a1) ?_
 obtain ⟨h0,h⟩:=oc h
 refine tgf 9 16 (I4 (ishl .i32 1 a1)) (ysl 21 .i64 h0) ?_
 obtain ⟨r3,hg,h⟩:=ob h
 cases r3 with
 | true=>
  have h:=of_if_t h
  refine go 10 (oC 17 hs (kq_below.ok hg _) fun w gw hs=>⟨.of gw,?_⟩)
  refine gq 11 18 (.bool false) ?_
  refine gq 12 19 (.bool false) ?_
  refine gf (j5 _ _ ?_)
  refine T s4 (cf (xk (T s3 (xs fun _ s10=>(xs fun _ s11=>(xn 2 fun _ j12=>?_))))))
  refine tkt 0 21 _ (yWe 32 hs 1 .grow) ?_
  refine qo 1 22 (I8 0) ?_
  refine fj j12 s11 (?_)
  obtain ⟨y6,hy,hk0⟩:=ob h
  refine wp_exq (N:=fun a w=>St w0 [] [.blk b2 (enc .i32 (zeroA 256)) 32,.blk b1 (enc .i32 y6) 32] [] w∧∃ g14,a=fr g14 38 [(2,[P0 b1]),(4,[P0 b2])]) (fun N0 nn0=>?_) ?_
  clear hk0
  refine xb ?_
  refine wp_loop_k (fun n a w=>∃ z4 z5,kq_Widen.l0 K n a0 a1 z4 z5=some y6∧St w0 [] [.blk b2 (enc .i32 (zeroA 256)) 32,.blk b1 (enc .i32 z5) 32] [] w∧∃ g13,a=fr g13 38 [(1,[I8 a1,P0 b1]),(4,[P0 b2]),(21,[ag .i32 a0,I8 z4])]) K ⟨0,a0,hy,hs.conv rfl,eg⟩ ?_
  clear hs h hy
  rintro n a w ⟨z4,z5,h,hs,g13,rfl⟩ KL0 kl0
  cases n with
  | zero=>exact nomatch (show none=some _ from h)
  | succ n=>
   refine xs fun _ s15=>?_
   refine xn 1 fun _ j16=>?_
   obtain ⟨hc,h⟩|⟨hc,h⟩:=of_if h
   refine tb 0 23 (dt hc) ?_
   refine fj j16 s15 (xs fun _ s17=>(ct (xk (T s17 (xs fun _ s18=>(xb (xs fun _ s19=>(xn 4 fun _ j20=>?_))))))))
   refine qo 0 24 (I8 z4) ?_
   obtain ⟨h0,h1,h⟩:=oc2 h
   refine tkf 1 25 (I4 (rd a0 z4)) (yt 32 21 .i64 h0 h1) ?_
   refine qo 2 5 (I8 z4) ?_
   obtain ⟨x7,hx,h⟩:=ob h
   refine tkf 3 6 (I4 x7) (yn hx) ?_
   refine fj j20 s19 (xn 11 fun _ j21=>?_)
   refine nq 0 [(26,I8 z4),(27,I4 x7),(28,I4 (imul .i32 x7 3329)),(29,I8 a1),(30,I8 (isub .i64 a1 1))] ?_
   obtain ⟨h0,h⟩:=oc h
   refine tkf 5 31 (I4 (ishl .i32 1 (isub .i64 a1 1))) (ysl 21 .i64 h0) ?_
   refine nq 6 [(32,I4 (iadd .i32 (imul .i32 x7 3329) (ishl .i32 1 (isub .i64 a1 1)))),(33,I8 a1)] ?_
   obtain ⟨h0,h⟩:=oc h
   refine tkf 8 34 (I4 (ishr .i32 (iadd .i32 (imul .i32 x7 3329) (ishl .i32 1 (isub .i64 a1 1))) a1)) (ysr 21 .i64 h0) ?_
   obtain ⟨i0_22,i1_22,h⟩:=oc2 h
   refine tkf 9 35 (P1 b1 z4) (yi 32 21 256 1 .i64 z4 i0_22 i1_22) ?_
   obtain ⟨x8,hx,h⟩:=ob h
   refine so 10 (oA 21 x8 z4 hs 1 rfl (by cases hx; kernel_rfl) i0_22 i1_22 fun w kp hs=>?_)
   refine fin (j21 _ _ (iN (T s18 (xn 2 fun _ j23=>?_))))
   refine nq 0 [(36,I8 (iadd .i64 z4 1)),(22,I8 (iadd .i64 z4 1))] ?_
   refine fin (j23 _ _ ?_)
   exact tn (kl0 _ _ ⟨n,ls n,(iadd .i64 z4 1),(wr z5 z4 x8),h,(hs.conv rfl),eg⟩)
   refine tb 0 23 (df hc) ?_
   refine fj j16 s15 (xs fun _ s24=>(cf (xexit (tx (tx (iH ?_))))))
   obtain rfl:=of_some h
   exact exq_n (nn0 _ _ ⟨(hs.conv rfl),eg⟩)
  clear hs h hy
  rintro a w ⟨hs,g14,rfl⟩
  have h:=hk0
  refine T s10 (xs fun _ s25=>(xn 2 fun _ j26=>?_))
  refine tkt 0 37 _ (yWe 32 hs 1 .grow) ?_
  refine so 1 (oWe 32 .i32 y6 hs 0 fun w kp hs=>?_)
  refine fj j26 s25 (xret ?_)
  obtain rfl:=of_some h
  exact qq _ _ (pr (rr [.cell 4 32] [ag .i32 y6] (.cons (rcN 256 hs 0 rfl (enc_len _ _)) .nil)) ⟨cr,hs.none⟩)
 | false=>
  have h:=of_if_f h
  refine go 10 (oC 17 hs (kq_below.ok hg _) fun w gw hs=>⟨.of gw,?_⟩)
  refine gq 11 18 (.bool true) ?_
  refine gq 12 19 (.bool true) ?_
  refine gf (j5 _ _ ?_)
  refine T s4 (ct (xs fun _ s27=>(xn 2 fun _ j28=>?_)))
  refine qo 0 20 (ag .i32 (zeroA 256)) ?_
  refine so 1 (oWe 32 .i32 (zeroA 256) hs 0 fun w kp hs=>?_)
  refine fj j28 s27 (xret (tr ?_))
  obtain rfl:=of_some h
  exact qq _ _ (pr (rr [.cell 4 32] [ag .i32 (zeroA 256)] (.cons (rcN 256 hs 0 rfl (enc_len _ _)) .nil)) ⟨cr,hs.none⟩)
theorem kq_Sub.ok {K:Nat}{a0 a1 r0:Arr 256}(h:kq_Sub.f K a0 a1=some r0) (w0:World):Ret Tryd.prog 66 #[ag .i32 a0,ag .i32 a1] w0 (ag .i32 r0):=by
 refine calls_k Tryd.func66 rfl fun Q qq=>?_
 have hs:=St.start w0
 refine wc (a':=(fu 26 [ag .i32 a0,ag .i32 a1])) ?_
 refine xs fun _ s1=>?_
 refine xn 3 fun _ j2=>?_
 refine so 0 (oBe 2 32 .i32 a0 hs fun b1 w gw hs=>?_)
 refine so 1 (oBe 3 32 .i32 a1 hs fun b2 w gw hs=>?_)
 refine so 2 (oNe 4 32 .i32 (zeroA 256) hs fun b3 w gw hs=>?_)
 refine fj j2 s1 (xs fun _ s3=>(xs fun _ s4=>(xn 1 fun _ j5=>?_)))
 refine qo 0 6 (I8 0) ?_
 refine fj j5 s4 (?_)
 obtain ⟨y6,hy,hk0⟩:=ob h
 refine wp_exq (N:=fun a w=>St w0 [] [.blk b3 (enc .i32 (zeroA 256)) 32,.blk b2 (enc .i32 a1) 32,.blk b1 (enc .i32 y6) 32] [] w∧∃ g7,a=fr g7 28 [(2,[P0 b1]),(4,[P0 b3])]) (fun N0 nn0=>?_) ?_
 clear hk0
 refine xb ?_
 refine wp_loop_k (fun n a w=>∃ z4 z5,kq_Sub.l0 K n a1 z4 z5=some y6∧St w0 [] [.blk b3 (enc .i32 (zeroA 256)) 32,.blk b2 (enc .i32 a1) 32,.blk b1 (enc .i32 z5) 32] [] w∧∃ g6,a=fr g6 28 [(2,[P0 b1,P0 b2,P0 b3]),(6,[I8 z4])]) K ⟨0,a0,hy,hs.conv rfl,eg⟩ ?_
 clear hs h hy
 rintro n a w ⟨z4,z5,h,hs,g6,rfl⟩ KL0 kl0
 cases n with
 | zero=>exact nomatch (show none=some _ from h)
 | succ n=>
  refine xs fun _ s8=>?_
  refine xn 1 fun _ j9=>?_
  obtain ⟨hc,h⟩|⟨hc,h⟩:=of_if h
  refine tb 0 7 (dt hc) ?_
  refine fj j9 s8 (xs fun _ s10=>(ct (xk (T s10 (?_)))))
  obtain ⟨y7,hj,h⟩:=ob h
  refine xs fun _ s12=>wp_join (N:=fun a w=>St w0 [] [.blk b3 (enc .i32 (zeroA 256)) 32,.blk b2 (enc .i32 a1) 32,.blk b1 (enc .i32 y7) 32] [] w∧∃ g11,a=fr g11 28 [(2,[P0 b1,P0 b2,P0 b3]),(6,[I8 z4])]) (fun N nj=>?_) ?_
  clear h
  have h:=hj
  refine xb (xs fun _ s13=>(xn 2 fun _ j14=>?_))
  refine nq 0 [(8,I8 z4),(5,I8 z4)] ?_
  refine fj j14 s13 (xs fun _ s15=>?_)
  refine rg [8] (fun k=>True) 9 fun _ j16=>?_
  have hs:=hs.drawn1
  refine gq 0 9 (I8 z4) ?_
  obtain ⟨i0_17,i1_17,h⟩:=oc2 h
  refine tgf 1 10 (P1 b1 z4) (yi 32 21 256 1 .i64 z4 i0_17 i1_17) ?_
  refine tgt 2 11 _ (yA hs 2 21 z4 rfl i0_17 i1_17 .grow) ?_
  refine gq 3 12 (I8 z4) ?_
  obtain ⟨i0_18,i1_18,h⟩:=oc2 h
  refine tgf 4 13 (P1 b2 z4) (yi 32 21 256 1 .i64 z4 i0_18 i1_18) ?_
  refine tgt 5 14 _ (yA hs 1 21 z4 rfl i0_18 i1_18 .grow) ?_
  refine gq 6 15 (I4 (isub .i32 (rd z5 z4) (rd a1 z4))) ?_
  obtain ⟨i0_19,i1_19,h⟩:=oc2 h
  refine tgf 7 16 (P1 b1 z4) (yi 32 21 256 1 .i64 z4 i0_19 i1_19) ?_
  obtain ⟨x8,hx,h⟩:=ob h
  refine go 8 (oA 21 x8 z4 hs 2 rfl (by cases hx; kernel_rfl) i0_19 i1_19 fun w kp hs=>⟨⟨fun hf=>absurd hf (by decide),.all _ _⟩,?_⟩)
  refine gf (j16 _ _ ?_)
  refine T s15 (xs fun _ s20=>(xn 4 fun _ j21=>?_))
  refine qo 0 17 (I8 z4) ?_
  obtain ⟨i0_22,i1_22,h⟩:=oc2 h
  refine tkf 1 18 (P1 b1 z4) (yi 32 21 256 1 .i64 z4 i0_22 i1_22) ?_
  refine tkt 2 19 _ (yA hs 2 21 z4 rfl i0_22 i1_22 .grow) ?_
  obtain ⟨hc,h⟩|⟨hc,h⟩:=of_if h
  refine tb 3 20 (dt hc) ?_
  refine fj j21 s20 (ct (xn 6 fun _ j23=>?_))
  refine qo 0 21 (I8 z4) ?_
  obtain ⟨i0_24,i1_24,h⟩:=oc2 h
  refine tkf 1 22 (P1 b1 z4) (yi 32 21 256 1 .i64 z4 i0_24 i1_24) ?_
  refine tkt 2 23 _ (yA hs 2 21 z4 rfl i0_24 i1_24 .grow) ?_
  refine qo 3 24 (I4 (iadd .i32 (rd (wr z5 z4 x8) z4) 3329)) ?_
  obtain ⟨i0_25,i1_25,h⟩:=oc2 h
  refine tkf 4 25 (P1 b1 z4) (yi 32 21 256 1 .i64 z4 i0_25 i1_25) ?_
  obtain ⟨x9,hx,h⟩:=ob h
  refine so 5 (oA 21 x9 z4 hs 2 rfl (by cases hx; kernel_rfl) i0_25 i1_25 fun w kp hs=>?_)
  refine fin (j23 _ _ (iN ?_))
  obtain rfl:=of_some h
  exact nj _ _ ⟨(hs.conv rfl),eg⟩
  refine tb 3 20 (df hc) ?_
  refine fj j21 s20 (cf (xk (iN ?_)))
  obtain rfl:=of_some h
  exact nj _ _ ⟨(hs.conv rfl),eg⟩
  clear hj hs
  rintro a w ⟨hs,g11,rfl⟩
  refine T s12 (xn 2 fun _ j26=>?_)
  refine nq 0 [(26,I8 (iadd .i64 z4 1)),(6,I8 (iadd .i64 z4 1))] ?_
  refine fin (j26 _ _ ?_)
  exact tn (kl0 _ _ ⟨n,ls n,(iadd .i64 z4 1),y7,h,(hs.conv rfl),eg⟩)
  refine tb 0 7 (df hc) ?_
  refine fj j9 s8 (xs fun _ s27=>(cf (xexit (tx (tx (iH ?_))))))
  obtain rfl:=of_some h
  exact exq_n (nn0 _ _ ⟨(hs.conv rfl),eg⟩)
 clear hs h hy
 rintro a w ⟨hs,g7,rfl⟩
 have h:=hk0
 refine T s3 (xs fun _ s28=>(xn 2 fun _ j29=>?_))
 refine tkt 0 27 _ (yWe 32 hs 2 .grow) ?_
 refine so 1 (oWe 32 .i32 y6 hs 0 fun w kp hs=>?_)
 refine fj j29 s28 (xret ?_)
 obtain rfl:=of_some h
 exact qq _ _ (pr (rr [.cell 4 32] [ag .i32 y6] (.cons (rcN 256 hs 0 rfl (enc_len _ _)) .nil)) ⟨cr,hs.none⟩)
theorem kpke_Decrypt.ok {K:Nat}{a0_0 a0_1 a0_2 a0_3 a0_4:Int}{a1 a2 r0:List Int}{r1:Int}{a1_A:Option Addr}{a1_n a1_c:Nat}{a2_A:Option Addr}{a2_n a2_c:Nat}(h:kpke_Decrypt.f K a0_0 a0_1 a0_2 a0_3 a0_4 a1 a2=some (r0,r1)) (w0:World) (hp1:RowL CB w0 a1_A a1_n a1_c a1) (hp2:RowL CB w0 a2_A a2_n a2_c a2):Calls Tryd.prog 23 #[.agg #[I8 a0_0,I8 a0_1,I8 a0_2,I8 a0_3,I8 a0_4],.slice a1_A a1_n a1_c,.slice a2_A a2_n a2_c] w0 fun e w'=>∃ h:(Option Addr × Nat × Nat),e = .returned (.tuple #[.slice h.1 h.2.1 h.2.2,I8 r1])∧St w0 [] [.ownL CB h.1 h.2.1 h.2.2 r0 5] [] w':=by
 refine calls_k Tryd.func23 rfl fun Q qq=>?_
 have hs:=St.startR (all_cons (RowP.ent hp1) (all_cons (RowP.ent hp2) all_nil))
 refine wc (a':=(fu 96 [.agg #[I8 a0_0,I8 a0_1,I8 a0_2,I8 a0_3,I8 a0_4],.slice a1_A a1_n a1_c,.slice a2_A a2_n a2_c])) ?_
 refine xs fun _ s1=>?_
 refine xn 3 fun _ j2=>?_
 refine so 0 (oBa 3 23 hs [I8 a0_0,I8 a0_1,I8 a0_2,I8 a0_3,I8 a0_4] fun b1 w gw hs=>?_)
 refine nq 1 [(6,.slice none 0 0),(7,I8 0)] ?_
 refine fj j2 s1 (xs fun _ s3=>(xn 9 fun _ j4=>?_))
 refine tkt 0 21 _ (yWs 5 23 hs 0 .grow) ?_
 obtain ⟨⟨r2,r3,r4⟩,hg,h⟩:=ob h
 refine so 1 (oC 22 hs (kpke_Sizes.ok hg _) fun w gw hs=>?_)
 refine nq 2 [(20,.tuple #[I8 r2,I8 r3,I8 r4]),(23,I8 r2),(24,I8 r3),(25,I8 r4),(8,I8 r2),(9,I8 r3),(10,I8 r4)] ?_
 refine fj j4 s3 (xs fun _ s5=>(xb (xs fun _ s6=>(xn 3 fun _ j7=>?_))))
 refine qo 0 27 (I8 r3) ?_
 obtain ⟨hc,h⟩|⟨hc,h⟩:=of_if h
 refine tb 1 28 (et hc) ?_
 refine qo 2 26 (.bool true) ?_
 refine fj j7 s6 (ct (xs fun _ s8=>(xn 2 fun _ j9=>?_)))
 refine nq 0 [(6,.slice none 0 0),(7,I8 9)] ?_
 refine fj j9 s8 (xret (iR (tr ?_)))
 obtain ⟨rfl,rfl⟩:=os2 h
 have hs:=hs.addNilL CB 5
 exact qq _ _ (pt [6,7] [.slice none 0 0,I8 9] ⟨⟨none,0,0⟩,cr,(pz (dr [1,0] hs))⟩)
 refine tb 1 28 (ef hc) ?_
 refine qo 2 26 (.bool false) ?_
 refine fj j7 s6 (cf (xs fun _ s10=>(xn 5 fun _ j11=>?_)))
 refine qo 0 30 (.slice a1_A a1_n a1_c) ?_
 refine tkf 1 31 (I8 (a1.length:Int)) (yl (rR 0 hs)) ?_
 refine qo 2 32 (I8 r3) ?_
 obtain ⟨hc,h⟩|⟨hc,h⟩:=of_if h
 refine tb 3 33 (nf hc) ?_
 refine qo 4 29 (.bool false) ?_
 refine fj j11 s10 (cf (xk (iN (T s5 (xs fun _ s12=>(xn 9 fun _ j13=>?_))))))
 refine nq 0 [(35,.slice a1_A a1_n a1_c),(36,P0 b1)] ?_
 refine tkt 2 37 _ (yv hs 0 0 3 rfl (by rfl) .grow) ?_
 obtain ⟨⟨r5,r6⟩,hg,h⟩:=ob h
 refine wpS.only 3 (oH 38 hs (kpke_read.ok hg _ (rR 0 hs)) ?_)
 rintro ⟨r5_A,r5_n,r5_c⟩ w gw hs
 have hs:=hs.conv (L':=[.ownL CZ r5_A r5_n r5_c r5 32,.blk b1 ([I8 a0_0,I8 a0_1,I8 a0_2,I8 a0_3,I8 a0_4]) 23]) rfl
 refine ⟨fun _=>trivial,?_⟩
 refine nq 4 [(34,.tuple #[.slice r5_A r5_n r5_c,.bool r6]),(39,.slice r5_A r5_n r5_c)] ?_
 cases r6 with
 | true=>
  have h:=of_if_t h
  refine nq 6 [(40,.bool true),(11,.slice r5_A r5_n r5_c),(12,.bool true)] ?_
  refine fj j13 s12 (xs fun _ s14=>(xb (xs fun _ s15=>(xn 3 fun _ j16=>?_))))
  refine nq 0 [(42,.bool true),(43,.bool false),(41,.bool false)] ?_
  refine fj j16 s15 (cf (xs fun _ s17=>(xn 5 fun _ j18=>?_)))
  refine qo 0 45 (.slice a2_A a2_n a2_c) ?_
  refine tkf 1 46 (I8 (a2.length:Int)) (yl (rR 1 hs)) ?_
  refine qo 2 47 (I8 r4) ?_
  obtain ⟨hc,h⟩|⟨hc,h⟩:=of_if h
  refine tb 3 48 (nf hc) ?_
  refine qo 4 44 (.bool false) ?_
  refine fj j18 s17 (cf (xk (iN (T s14 (xs fun _ s19=>(xn 11 fun _ j20=>?_))))))
  refine nq 0 [(50,.slice a2_A a2_n a2_c),(51,P0 b1)] ?_
  refine tkt 2 52 _ (yv hs 1 0 3 rfl (by rfl) .grow) ?_
  refine qo 3 53 (.pointer (some ⟨b1,3,none⟩)) ?_
  refine tkt 4 54 _ (yv hs 1 3 3 rfl (by rfl) .grow) ?_
  obtain ⟨⟨r7,r8⟩,hg,h⟩:=ob h
  refine wpS.only 5 (oH 55 hs (kpke_read.ok hg _ (rR 1 hs)) ?_)
  rintro ⟨r7_A,r7_n,r7_c⟩ w gw hs
  have hs:=hs.conv (L':=[.ownL CZ r7_A r7_n r7_c r7 32,.ownL CZ r5_A r5_n r5_c r5 32,.blk b1 ([I8 a0_0,I8 a0_1,I8 a0_2,I8 a0_3,I8 a0_4]) 23]) rfl
  refine ⟨fun _=>trivial,?_⟩
  refine nq 6 [(49,.tuple #[.slice r7_A r7_n r7_c,.bool r8]),(56,.slice r7_A r7_n r7_c),(57,.bool r8),(13,.slice r7_A r7_n r7_c),(14,.bool r8)] ?_
  refine fj j20 s19 (xs fun _ s21=>(xs fun _ s22=>(xn 3 fun _ j23=>?_)))
  refine qo 0 58 (.slice r7_A r7_n r7_c) ?_
  refine tkf 1 59 (I8 (r7.length:Int)) (yl (rL 0 hs)) ?_
  refine qo 2 60 (I8 0) ?_
  refine fj j23 s22 (?_)
  obtain ⟨y11,hy,hk0⟩:=ob h
  refine wp_exq (N:=fun a w=>St w0 [] [.ownL CZ r7_A r7_n r7_c y11 32,.ownL CZ r5_A r5_n r5_c r5 32,.blk b1 ([I8 a0_0,I8 a0_1,I8 a0_2,I8 a0_3,I8 a0_4]) 23] [.rowL CB a1_A a1_n a1_c a1,.rowL CB a2_A a2_n a2_c a2] w∧∃ g25,a=fr g25 99 [(2,[.slice a2_A a2_n a2_c,P0 b1]),(6,[.slice none 0 0,I8 0]),(10,[I8 r4,.slice r5_A r5_n r5_c]),(13,[.slice r7_A r7_n r7_c])]) (fun N0 nn0=>?_) ?_
  clear hk0
  refine xb ?_
  refine wp_loop_k (fun n a w=>∃ z9 z10,kpke_Decrypt.l0 K n a0_3 r7 z9 z10=some y11∧St w0 [] [.ownL CZ r7_A r7_n r7_c z10 32,.ownL CZ r5_A r5_n r5_c r5 32,.blk b1 ([I8 a0_0,I8 a0_1,I8 a0_2,I8 a0_3,I8 a0_4]) 23] [.rowL CB a1_A a1_n a1_c a1,.rowL CB a2_A a2_n a2_c a2] w∧∃ g24,a=fr g24 99 [(2,[.slice a2_A a2_n a2_c,P0 b1]),(6,[.slice none 0 0,I8 0]),(10,[I8 r4,.slice r5_A r5_n r5_c]),(13,[.slice r7_A r7_n r7_c]),(58,[.slice r7_A r7_n r7_c,I8 (r7.length:Int),I8 z9])]) K ⟨0,r7,hy,hs.conv rfl,eg⟩ ?_
  clear hs h hy
  rintro n a w ⟨z9,z10,h,hs,g24,rfl⟩ KL0 kl0
  cases n with
  | zero=>exact nomatch (show none=some _ from h)
  | succ n=>
   refine xs fun _ s26=>?_
   refine xn 1 fun _ j27=>?_
   obtain ⟨hc,h⟩|⟨hc,h⟩:=of_if h
   refine tb 0 61 (dt hc) ?_
   refine fj j27 s26 (xs fun _ s28=>(ct (xk (T s28 (xs fun _ s29=>(xb (xs fun _ s30=>(xn 6 fun _ j31=>?_))))))))
   refine qo 0 62 (I8 z9) ?_
   obtain ⟨h0,h1,h⟩:=oc2 h
   have i0_32:=h0
   have i1_32:=h1
   refine tkf 1 63 (PA CZ r7_A z9) (yiL (C:=CZ) 78 32 .i64 z9 (rL 0 hs) h0 h1) ?_
   refine tkt 2 64 _ (yLA (C:=CZ) 32 z9 (rL 0 hs) rfl i0_32 i1_32) ?_
   refine so 3 (oNe 16 32 .i32 (zeroA 256) hs fun b12 w gw hs=>?_)
   refine qo 4 15 (I8 z9) ?_
   refine so 5 (oWe 32 .i32 (rdL CZ z10 z9) hs 0 fun w kp hs=>?_)
   refine fj j31 s30 (xn 8 fun _ j33=>?_)
   refine nq 0 [(65,.slice r7_A r7_n r7_c),(66,I8 z9)] ?_
   refine tkt 2 67 _ (yWe 32 hs 0 .grow) ?_
   refine qo 3 68 (.pointer (some ⟨b1,3,none⟩)) ?_
   refine tkt 4 69 _ (yv hs 3 3 3 rfl (by rfl) .grow) ?_
   obtain ⟨r13,hg,h⟩:=ob h
   refine so 5 (oC 70 hs (kq_Widen.ok hg _) fun w gw hs=>?_)
   obtain ⟨h0,h1,h⟩:=oc2 h
   have i0_34:=h0
   have i1_34:=h1
   refine tkf 6 71 (PA CZ r7_A z9) (yiL (C:=CZ) 78 32 .i64 z9 (rL 1 hs) h0 h1) ?_
   refine so 7 (oL (C:=CZ) 32 z9 r13 hs 1 rfl i0_34 i1_34 fun w hs=>?_)
   refine fin (j33 _ _ (iN (T s29 (xn 2 fun _ j35=>?_))))
   refine nq 0 [(72,I8 (iadd .i64 z9 1)),(60,I8 (iadd .i64 z9 1))] ?_
   refine fin (j35 _ _ ?_)
   exact tn (kl0 _ _ ⟨n,ls n,(iadd .i64 z9 1),(wrL z10 z9 r13),h,(dr [0,1,1,1] hs),eg⟩)
   refine tb 0 61 (df hc) ?_
   refine fj j27 s26 (xs fun _ s36=>(cf (xexit (tx (tx (iH ?_))))))
   obtain rfl:=of_some h
   exact exq_n (nn0 _ _ ⟨(hs.conv rfl),eg⟩)
  clear hs h hy
  rintro a w ⟨hs,g25,rfl⟩
  have h:=hk0
  refine T s21 (xs fun _ s37=>?_)
  obtain ⟨y15,hj,h⟩:=ob h
  refine wp_join (N:=fun a w=>∃ b14,St w0 [] [.blk b14 (enc .i32 y15) 32,.ownL CZ r7_A r7_n r7_c y11 32,.ownL CZ r5_A r5_n r5_c r5 32,.blk b1 ([I8 a0_0,I8 a0_1,I8 a0_2,I8 a0_3,I8 a0_4]) 23] [.rowL CB a1_A a1_n a1_c a1,.rowL CB a2_A a2_n a2_c a2] w∧∃ g38,a=fr g38 99 [(3,[P0 b1]),(6,[.slice none 0 0,I8 0]),(11,[.slice r5_A r5_n r5_c]),(13,[.slice r7_A r7_n r7_c]),(17,[P0 b14])]) (fun N nj=>?_) ?_
  clear h
  have h:=hj
  refine rg [14] (fun k=>True) 16 fun _ j39=>?_
  have hs:=hs.drawn1
  refine gq 0 74 (.slice a2_A a2_n a2_c) ?_
  refine gq 1 75 (I8 r4) ?_
  refine gq 2 76 (.pointer (some ⟨b1,4,none⟩)) ?_
  refine tgt 3 77 _ (yv hs 2 4 3 rfl (by rfl) .grow) ?_
  refine gq 4 78 (I8 (imul .i64 32 a0_4)) ?_
  refine gq 5 79 (I8 (isub .i64 r4 (imul .i64 32 a0_4))) ?_
  obtain ⟨h0,h1,h⟩:=oc2 h
  obtain ⟨h2,h⟩:=oc h
  obtain ⟨s16_A,hA⟩ : ∃ A,A=if a2_c=((isub .i64 r4 (imul .i64 32 a0_4)):Int).toNat then a2_A else adr a2_A (((isub .i64 r4 (imul .i64 32 a0_4)):Int).toNat*Cod.size CB):=⟨_,rfl⟩
  obtain ⟨s16_n,hn⟩ : ∃ n,n=((a2.length:Int):Int).toNat-((isub .i64 r4 (imul .i64 32 a0_4)):Int).toNat:=⟨_,rfl⟩
  obtain ⟨s16_c,hc⟩ : ∃ c,c=a2_c-((isub .i64 r4 (imul .i64 32 a0_4)):Int).toNat:=⟨_,rfl⟩
  refine tgf 6 80 (.slice s16_A s16_n s16_c) (ysb (C:=CB) 24 5 (some (I8 (isub .i64 r4 (imul .i64 32 a0_4)))) none (isub .i64 r4 (imul .i64 32 a0_4)) (a2.length:Int) (rR 1 hs) (.inr ⟨_,rfl⟩) (.inl ⟨rfl,rfl⟩) h0 h1 h2 hA hn hc) ?_
  have hs:=hs.addSub (C:=CB) 1 rfl h0 h1 h2 hA hn hc
  refine gq 7 81 (.pointer (some ⟨b1,4,none⟩)) ?_
  refine tgt 8 82 _ (yv hs 2 4 3 rfl (by rfl) .grow) ?_
  refine wpG.many [9,13] (by kernel_rfl) (by decide) (forall_cons ?_ (forall_cons ?_ forall_nil))
  obtain ⟨⟨r17,r18⟩,hg,h⟩:=ob h
  refine (oC 83 hs (kq_Unpack.ok hg _ (rR 0 hs)) ?_)
  intro w gw hs
  refine ⟨.of gw,?_⟩
  refine gq 10 73 (.tuple #[ag .i32 r17,.bool r18]) ?_
  refine gq 11 84 (ag .i32 r17) ?_
  refine gq 12 85 (.bool r18) ?_
  refine go 13 (oNe 17 32 .i32 (zeroA 256) hs fun b19 w gw hs=>⟨.of gw,?_⟩)
  refine go 14 (oWe 32 .i32 r17 hs 0 fun w kp hs=>⟨⟨fun hf=>absurd hf (by decide),.all _ _⟩,?_⟩)
  refine gq 15 18 (.bool r18) ?_
  refine gf (j39 _ _ ?_)
  obtain rfl:=of_some h
  exact nj _ _ ⟨b19,(pk [1,2] hs),eg⟩
  refine (oN 17 32 hs (enc .i32 (zeroA 256)) (ag .i32 (zeroA 256)) ?_)
  intro b20 w gw hs
  refine ⟨.of gw,?_⟩
  obtain ⟨⟨r21,r22⟩,hg,h⟩:=ob h
  refine go 9 (oC 83 hs (kq_Unpack.ok hg _ (rR 0 hs)) fun w gw hs=>⟨.of gw,?_⟩)
  refine gq 10 73 (.tuple #[ag .i32 r21,.bool r22]) ?_
  refine gq 11 84 (ag .i32 r21) ?_
  refine gq 12 85 (.bool r22) ?_
  refine go 14 (oWe 32 .i32 r21 hs 0 fun w kp hs=>⟨⟨fun hf=>absurd hf (by decide),.all _ _⟩,?_⟩)
  refine gq 15 18 (.bool r22) ?_
  refine gf (j39 _ _ ?_)
  obtain rfl:=of_some h
  exact nj _ _ ⟨b20,(pk [1,2] hs),eg⟩
  clear hj hs
  rintro a w ⟨b14,hs,g38,rfl⟩
  refine T s37 (xs fun _ s40=>(xn 12 fun _ j41=>?_))
  refine tkt 0 86 _ (yWe 32 hs 0 .grow) ?_
  refine qo 1 87 (.pointer (some ⟨b1,4,none⟩)) ?_
  refine tkt 2 88 _ (yv hs 3 4 3 rfl (by rfl) .grow) ?_
  obtain ⟨r23,hg,h⟩:=ob h
  refine so 3 (oC 89 hs (kq_Widen.ok hg _) fun w gw hs=>?_)
  refine nq 4 [(90,.slice r5_A r5_n r5_c),(91,.slice r7_A r7_n r7_c)] ?_
  obtain ⟨r24,hg,h⟩:=ob h
  refine wpS.only 6 (oH 92 hs (kpke_vector_parts.ok hg _ (rL 1 hs)) ?_)
  rintro ⟨r24_A,r24_n,r24_c⟩ w gw hs
  have hs:=hs.conv (L':=[.ownL CZ r24_A r24_n r24_c r24 32,.blk b14 (enc .i32 y15) 32,.ownL CZ r7_A r7_n r7_c y11 32,.ownL CZ r5_A r5_n r5_c r5 32,.blk b1 ([I8 a0_0,I8 a0_1,I8 a0_2,I8 a0_3,I8 a0_4]) 23]) rfl
  refine ⟨fun _=>trivial,?_⟩
  obtain ⟨r25,hg,h⟩:=ob h
  refine so 7 (oC 93 hs (kpke_vector_dot.ok hg _ (rL 3 hs) (rL 0 hs)) fun w gw hs=>?_)
  obtain ⟨r26,hg,h⟩:=ob h
  refine so 8 (oC 94 hs (kq_Back.ok hg _) fun w gw hs=>?_)
  obtain ⟨r27,hg,h⟩:=ob h
  refine so 9 (oC 95 hs (kq_Sub.ok hg _) fun w gw hs=>?_)
  refine so 10 (oNe 19 32 .i32 (zeroA 256) hs fun b28 w gw hs=>?_)
  refine so 11 (oWe 32 .i32 r27 hs 0 fun w kp hs=>?_)
  refine fj j41 s40 (xs fun _ s42=>(xn 5 fun _ j43=>?_))
  refine tkt 0 96 _ (yWe 32 hs 0 .grow) ?_
  obtain ⟨r29,hg,h⟩:=ob h
  refine so 1 (oC 97 hs (kq_Squeeze.ok hg _) fun w gw hs=>?_)
  obtain ⟨r30,hg,h⟩:=ob h
  refine wpS.only 2 (oH 98 hs (kq_Pack.ok hg _) ?_)
  rintro ⟨r30_A,r30_n,r30_c⟩ w gw hs
  have hs:=hs.conv (L':=[.ownL CB r30_A r30_n r30_c r30 5,.blk b28 (enc .i32 r27) 32,.ownL CZ r24_A r24_n r24_c r24 32,.blk b14 (enc .i32 y15) 32,.ownL CZ r7_A r7_n r7_c y11 32,.ownL CZ r5_A r5_n r5_c r5 32,.blk b1 ([I8 a0_0,I8 a0_1,I8 a0_2,I8 a0_3,I8 a0_4]) 23]) rfl
  refine ⟨fun _=>trivial,?_⟩
  refine nq 3 [(6,.slice r30_A r30_n r30_c),(7,I8 0)] ?_
  refine fj j43 s42 (xret ?_)
  obtain ⟨rfl,rfl⟩:=os2 h
  exact qq _ _ (pt [6,7] [.slice r30_A r30_n r30_c,I8 0] ⟨⟨r30_A,r30_n,r30_c⟩,cr,(pz (dr [1,0,0,0,0,0,0] hs))⟩)
  refine tb 3 48 (nt hc) ?_
  refine qo 4 44 (.bool true) ?_
  refine fj j18 s17 (ct (xs fun _ s44=>(xn 2 fun _ j45=>?_)))
  refine nq 0 [(6,.slice none 0 0),(7,I8 14)] ?_
  refine fj j45 s44 (xret (iR (tr ?_)))
  obtain ⟨rfl,rfl⟩:=os2 h
  have hs:=hs.addNilL CB 5
  exact qq _ _ (pt [6,7] [.slice none 0 0,I8 14] ⟨⟨none,0,0⟩,cr,(pz (dr [1,0,0] hs))⟩)
 | false=>
  have h:=of_if_f h
  refine nq 6 [(40,.bool false),(11,.slice r5_A r5_n r5_c),(12,.bool false)] ?_
  refine fj j13 s12 (xs fun _ s46=>(xb (xs fun _ s47=>(xn 3 fun _ j48=>?_))))
  refine nq 0 [(42,.bool false),(43,.bool true),(41,.bool true)] ?_
  refine fj j48 s47 (ct (xs fun _ s49=>(xn 2 fun _ j50=>?_)))
  refine nq 0 [(6,.slice none 0 0),(7,I8 10)] ?_
  refine fj j50 s49 (xret (iR (tr ?_)))
  obtain ⟨rfl,rfl⟩:=os2 h
  have hs:=hs.addNilL CB 5
  exact qq _ _ (pt [6,7] [.slice none 0 0,I8 10] ⟨⟨none,0,0⟩,cr,(pz (dr [1,0,0] hs))⟩)
 refine tb 3 33 (nt hc) ?_
 refine qo 4 29 (.bool true) ?_
 refine fj j11 s10 (ct (xs fun _ s51=>(xn 2 fun _ j52=>?_)))
 refine nq 0 [(6,.slice none 0 0),(7,I8 10)] ?_
 refine fj j52 s51 (xret (iR (tr ?_)))
 obtain ⟨rfl,rfl⟩:=os2 h
 have hs:=hs.addNilL CB 5
 exact qq _ _ (pt [6,7] [.slice none 0 0,I8 10] ⟨⟨none,0,0⟩,cr,(pz (dr [1,0] hs))⟩)
theorem keccak_rate.ok {K:Nat}{a0 r0:Int}(h:keccak_rate.f K a0=some r0) (w0:World):Ret Tryd.prog 100 #[I8 a0] w0 (I8 r0):=by
 refine calls_k Tryd.func100 rfl fun Q qq=>?_
 have hs:=St.start w0
 refine wc (a':=(fu 10 [I8 a0])) ?_
 refine xs fun _ s1=>?_
 refine xn 1 fun _ j2=>?_
 refine qo 0 2 (I8 0) ?_
 refine fj j2 s1 (xs fun _ s3=>(xs fun _ s4=>(xn 1 fun _ j5=>?_)))
 refine qo 0 3 (I8 a0) ?_
 refine fj j5 s4 (xb (xs fun _ s6=>(xs fun _ s7=>(xn 2 fun _ j8=>?_))))
 obtain ⟨hc,h⟩|⟨hc,h⟩:=of_if h
 refine tb 0 5 (et hc) ?_
 refine qo 1 4 (.bool true) ?_
 refine fj j8 s7 (ct (xk (T s6 (ct (xs fun _ s9=>(xn 1 fun _ j10=>?_))))))
 refine qo 0 2 (I8 136) ?_
 refine fj j10 s9 (xret (iR (tr ?_)))
 obtain rfl:=of_some h
 exact qq _ _ (pt [2] [I8 136] ⟨cr,hs.none⟩)
 refine tb 0 5 (ef hc) ?_
 refine qo 1 4 (.bool false) ?_
 refine fj j8 s7 (cf (xn 2 fun _ j11=>?_))
 obtain ⟨hc,h⟩|⟨hc,h⟩:=of_if h
 refine tb 0 6 (et hc) ?_
 refine qo 1 4 (.bool true) ?_
 refine fj j11 s6 (ct (xs fun _ s12=>(xn 1 fun _ j13=>?_)))
 refine qo 0 2 (I8 136) ?_
 refine fj j13 s12 (xret (iR (tr ?_)))
 obtain rfl:=of_some h
 exact qq _ _ (pt [2] [I8 136] ⟨cr,hs.none⟩)
 refine tb 0 6 (ef hc) ?_
 refine qo 1 4 (.bool false) ?_
 refine fj j11 s6 (cf (xs fun _ s14=>(xn 2 fun _ j15=>?_)))
 obtain ⟨hc,h⟩|⟨hc,h⟩:=of_if h
 refine tb 0 8 (et hc) ?_
 refine qo 1 7 (.bool true) ?_
 refine fj j15 s14 (ct (xs fun _ s16=>(xn 1 fun _ j17=>?_)))
 refine qo 0 2 (I8 72) ?_
 refine fj j17 s16 (xret (iR (tr ?_)))
 obtain rfl:=of_some h
 exact qq _ _ (pt [2] [I8 72] ⟨cr,hs.none⟩)
 refine tb 0 8 (ef hc) ?_
 refine qo 1 7 (.bool false) ?_
 refine fj j15 s14 (cf (xs fun _ s18=>(xn 2 fun _ j19=>?_)))
 obtain ⟨hc,h⟩|⟨hc,h⟩:=of_if h
 refine tb 0 10 (et hc) ?_
 refine qo 1 9 (.bool true) ?_
 refine fj j19 s18 (ct (xs fun _ s20=>(xn 1 fun _ j21=>?_)))
 refine qo 0 2 (I8 168) ?_
 refine fj j21 s20 (xret (iR (tr ?_)))
 obtain rfl:=of_some h
 exact qq _ _ (pt [2] [I8 168] ⟨cr,hs.none⟩)
 refine tb 0 10 (ef hc) ?_
 refine qo 1 9 (.bool false) ?_
 refine fj j19 s18 (cf (xk (iN (T s3 (xs fun _ s22=>(xn 1 fun _ j23=>?_))))))
 refine qo 0 2 (I8 0) ?_
 refine fj j23 s22 (xret ?_)
 obtain rfl:=of_some h
 exact qq _ _ (pt [2] [I8 0] ⟨cr,hs.none⟩)
theorem keccak_New.ok {K:Nat}{a0 r0_0:Int}{r0_1:Arr 25}{r0_2:Int}{r0_3:Bool}{r1:Int}(h:keccak_New.f K a0=some (r0_0,r0_1,r0_2,r0_3,r1)) (w0:World):Ret Tryd.prog 77 #[I8 a0] w0 (.tuple #[.agg (vl [I8 r0_0]++enc .u64 r0_1++vl [I8 r0_2,.bool r0_3]).toArray,I8 r1]):=by
 refine calls_k Tryd.func77 rfl fun Q qq=>?_
 have hs:=St.start w0
 refine wc (a':=(fu 9 [I8 a0])) ?_
 refine xs fun _ s1=>?_
 refine xn 2 fun _ j2=>?_
 refine so 0 (oN 2 115 hs (vl [I8 0]++enc .u64 (zeroA 25)++vl [I8 0,.bool false]) (.agg (vl [I8 0]++enc .u64 (zeroA 25)++vl [I8 0,.bool false]).toArray) fun b1 w gw hs=>?_)
 refine qo 1 3 (I8 0) ?_
 refine fj j2 s1 (xs fun _ s3=>(xs fun _ s4=>(xn 3 fun _ j5=>?_)))
 refine qo 0 4 (I8 a0) ?_
 obtain ⟨r2,hg,h⟩:=ob h
 refine so 1 (oC 5 hs (keccak_rate.ok hg _) fun w gw hs=>?_)
 obtain ⟨hc,h⟩|⟨hc,h⟩:=of_if h
 refine tb 2 6 (et hc) ?_
 refine fj j5 s4 (ct (xs fun _ s6=>(xn 3 fun _ j7=>?_)))
 refine qo 0 7 (.agg (vl [I8 0]++enc .u64 (zeroA 25)++vl [I8 0,.bool false]).toArray) ?_
 refine so 1 (oW 28 115 (.agg (vl [I8 0]++enc .u64 (zeroA 25)++vl [I8 0,.bool false]).toArray) (vl [I8 0]++enc .u64 (zeroA 25)++vl [I8 0,.bool false]) hs 0 rfl (by simp [enc_len]) (by simp [enc_len]) (one_app (one_app (by simp [Value.oneCell']) (fun u hu=>enc_one _ _ u hu)) (by simp [Value.oneCell'])) fun w kp hs=>?_)
 refine qo 2 3 (I8 9) ?_
 refine fj j7 s6 (xret (tr ?_))
 obtain ⟨rfl,rfl,rfl,rfl,rfl⟩:=os5 h
 exact qq _ _ (pr (rr [.cell 2 115,.tmp 3] [.agg (vl [I8 0]++enc .u64 (zeroA 25)++vl [I8 0,.bool false]).toArray,I8 9] (.cons (rcN 28 hs 0 rfl (by simp [enc_len])) (.cons rt .nil))) ⟨cr,hs.none⟩)
 refine tb 2 6 (ef hc) ?_
 refine fj j5 s4 (cf (xk (T s3 (xs fun _ s8=>(xn 4 fun _ j9=>?_)))))
 refine nq 0 [(8,I8 a0),(9,.agg (vl [I8 a0]++enc .u64 (zeroA 25)++vl [I8 0,.bool false]).toArray)] ?_
 refine so 2 (oW 28 115 (.agg (vl [I8 a0]++enc .u64 (zeroA 25)++vl [I8 0,.bool false]).toArray) (vl [I8 a0]++enc .u64 (zeroA 25)++vl [I8 0,.bool false]) hs 0 rfl (by simp [enc_len]) (by simp [enc_len]) (one_app (one_app (by simp [Value.oneCell']) (fun u hu=>enc_one _ _ u hu)) (by simp [Value.oneCell'])) fun w kp hs=>?_)
 refine qo 3 3 (I8 0) ?_
 refine fj j9 s8 (xret ?_)
 obtain ⟨rfl,rfl,rfl,rfl,rfl⟩:=os5 h
 exact qq _ _ (pr (rr [.cell 2 115,.tmp 3] [.agg (vl [I8 a0]++enc .u64 (zeroA 25)++vl [I8 0,.bool false]).toArray,I8 0] (.cons (rcN 28 hs 0 rfl (by simp [enc_len])) (.cons rt .nil))) ⟨cr,hs.none⟩)
theorem keccak_xor.ok {K:Nat}{a0_0:Int}{a0_1:Arr 25}{a0_2:Int}{a0_3:Bool}{a1 a2 rp_0:Int}{rp_1:Arr 25}{rp_2:Int}{rp_3:Bool}{p0:Nat}(h:keccak_xor.f K a0_0 a0_1 a0_2 a0_3 a1 a2=some (rp_0,rp_1,rp_2,rp_3)) (w0:World) (hb:w0.heap[p0]? = some (.cells (vl [I8 a0_0]++enc .u64 a0_1++vl [I8 a0_2,.bool a0_3]).toArray 115 (0,0))):Calls Tryd.prog 101 #[P0 p0,I8 a1,U1 a2] w0 fun e w'=>e = .returned (.tuple #[])∧St w0 [p0] [.blk p0 (vl [I8 rp_0]++enc .u64 rp_1++vl [I8 rp_2,.bool rp_3]) 115] [] w':=by
 refine calls_kn Tryd.func101 rfl fun Q qq qn=>?_
 have hs:=St.startX hb allX_nil
 refine wc (a':=(fu 20 [P0 p0,I8 a1,U1 a2])) ?_
 refine rg [17] (fun k=>True) 18 fun _ j1=>?_
 have hs:=hs.drawn1
 refine gq 0 6 (P0 p0) ?_
 refine gq 1 7 (I8 a1) ?_
 refine gq 2 8 (I8 (iquo .i64 a1 8)) ?_
 refine gq 3 9 (P0 p0) ?_
 refine gq 4 10 (.pointer (some ⟨p0,1,none⟩)) ?_
 obtain ⟨x1,hx,h⟩:=ob h
 have hx:=of_some hx
 subst hx
 obtain ⟨i0_2,i1_2,h⟩:=oc2 h
 refine tgf 5 11 (.pointer (some ⟨p0,1+((iquo .i64 a1 8):Int).toNat*1,none⟩)) (yi 113 112 25 1 .i64 (iquo .i64 a1 8) i0_2 i1_2) ?_
 refine tgt 6 12 (U8 (rd a0_1 (iquo .i64 a1 8))) (yP 1 hs 0 112 (iquo .i64 a1 8) rfl i0_2 i1_2 (by simp [enc_len]) .grow) ?_
 refine gq 7 13 (U1 a2) ?_
 refine gq 8 14 (U8 (iconv .u64 a2)) ?_
 refine gq 9 15 (I8 a1) ?_
 refine gq 10 16 (I8 (irem .i64 a1 8)) ?_
 refine gq 11 17 (I8 (imul .i64 8 (irem .i64 a1 8))) ?_
 obtain ⟨h0,h⟩:=oc h
 refine tgf 12 18 (U8 (ishl .u64 (iconv .u64 a2) (imul .i64 8 (irem .i64 a1 8)))) (ysl 112 .i64 h0) ?_
 refine gq 13 19 (U8 (ixor .u64 (rd a0_1 (iquo .i64 a1 8)) (ishl .u64 (iconv .u64 a2) (imul .i64 8 (irem .i64 a1 8))))) ?_
 refine gq 14 20 (P0 p0) ?_
 refine gq 15 21 (.pointer (some ⟨p0,1,none⟩)) ?_
 obtain ⟨x2,hx,h⟩:=ob h
 have hx:=of_some hx
 subst hx
 obtain ⟨i0_3,i1_3,h⟩:=oc2 h
 refine tgf 16 22 (.pointer (some ⟨p0,1+((iquo .i64 a1 8):Int).toNat*1,none⟩)) (yi 113 112 25 1 .i64 (iquo .i64 a1 8) i0_3 i1_3) ?_
 obtain ⟨x3,hx,h⟩:=ob h
 refine go 17 (oP 1 112 x3 (iquo .i64 a1 8) hs 0 rfl (by cases hx; kernel_rfl) i0_3 i1_3 (by simp [enc_len]) fun w kp hs=>⟨⟨fun hf=>absurd hf (by decide),.all _ _⟩,?_⟩)
 refine gf (j1 _ _ ?_)
 obtain ⟨rfl,rfl,rfl,rfl⟩:=os4 h
 exact qn _ _ (pn (rr [] [] .nil) ⟨cr,(hs.conv rfl)⟩)
theorem keccak_columns.ok {K:Nat}{a0:Arr 25}{r0:Arr 5}{p0:Nat}(h:keccak_columns.f K a0=some r0) (w0:World) (hb:w0.heap[p0]? = some (.cells (enc .u64 a0).toArray 113 (0,0))):Calls Tryd.prog 115 #[P0 p0] w0 fun e w'=>e = .returned (ag .u64 r0)∧St w0 [p0] [.blk p0 (enc .u64 a0) 113] [] w':=by
 refine calls_k Tryd.func115 rfl fun Q qq=>?_
 have hs:=St.startX hb allX_nil
 refine wc (a':=(fu 43 [P0 p0])) ?_
 refine xs fun _ s1=>?_
 refine xn 1 fun _ j2=>?_
 refine so 0 (oNe 2 148 .u64 (zeroA 5) hs fun b1 w gw hs=>?_)
 refine fj j2 s1 (xs fun _ s3=>(xs fun _ s4=>(xn 1 fun _ j5=>?_)))
 refine qo 0 4 (I8 0) ?_
 refine fj j5 s4 (?_)
 obtain ⟨y4,hy,hk0⟩:=ob h
 refine wp_exq (N:=fun a w=>St w0 [p0] [.blk b1 (enc .u64 y4) 148,.blk p0 (enc .u64 a0) 113] [] w∧∃ g7,a=fr g7 44 [(2,[P0 b1])]) (fun N0 nn0=>?_) ?_
 clear hk0
 refine xb ?_
 refine wp_loop_k (fun n a w=>∃ z2 z3,keccak_columns.l0 K n a0 z2 z3=some y4∧St w0 [p0] [.blk b1 (enc .u64 z3) 148,.blk p0 (enc .u64 a0) 113] [] w∧∃ g6,a=fr g6 44 [(0,[P0 p0]),(2,[P0 b1]),(4,[I8 z2])]) K ⟨0,(zeroA 5),hy,hs.conv rfl,eg⟩ ?_
 clear hs h hy
 rintro n a w ⟨z2,z3,h,hs,g6,rfl⟩ KL0 kl0
 cases n with
 | zero=>exact nomatch (show none=some _ from h)
 | succ n=>
  refine xs fun _ s8=>?_
  refine xn 1 fun _ j9=>?_
  obtain ⟨hc,h⟩|⟨hc,h⟩:=of_if h
  refine tb 0 5 (dt hc) ?_
  refine fj j9 s8 (xs fun _ s10=>(ct (xk (T s10 (xs fun _ s11=>(xb (xs fun _ s12=>(xn 2 fun _ j13=>?_))))))))
  refine nq 0 [(6,I8 z2),(3,I8 z2)] ?_
  refine fj j13 s12 (?_)
  refine rg [35] (fun k=>True) 36 fun _ j14=>?_
  have hs:=hs.drawn1
  refine gq 0 7 (I8 z2) ?_
  refine gq 1 8 (P0 p0) ?_
  refine gq 2 9 (I8 z2) ?_
  refine gq 3 10 (P0 p0) ?_
  obtain ⟨i0_15,i1_15,h⟩:=oc2 h
  refine tgf 4 11 (P1 p0 z2) (yi 113 112 25 1 .i64 z2 i0_15 i1_15) ?_
  refine tgt 5 12 _ (yA hs 1 112 z2 rfl i0_15 i1_15 .grow) ?_
  refine gq 6 13 (P0 p0) ?_
  refine gq 7 14 (I8 z2) ?_
  refine gq 8 15 (I8 (iadd .i64 z2 5)) ?_
  refine gq 9 16 (P0 p0) ?_
  obtain ⟨x5,hx,h⟩:=ob h
  have hx:=of_some hx
  subst hx
  obtain ⟨i0_16,i1_16,h⟩:=oc2 h
  refine tgf 10 17 (P1 p0 (iadd .i64 z2 5)) (yi 113 112 25 1 .i64 (iadd .i64 z2 5) i0_16 i1_16) ?_
  refine tgt 11 18 _ (yA hs 1 112 (iadd .i64 z2 5) rfl i0_16 i1_16 .grow) ?_
  refine gq 12 19 (U8 (ixor .u64 (rd a0 z2) (rd a0 (iadd .i64 z2 5)))) ?_
  refine gq 13 20 (P0 p0) ?_
  refine gq 14 21 (I8 z2) ?_
  refine gq 15 22 (I8 (iadd .i64 z2 10)) ?_
  refine gq 16 23 (P0 p0) ?_
  obtain ⟨x6,hx,h⟩:=ob h
  have hx:=of_some hx
  subst hx
  obtain ⟨i0_17,i1_17,h⟩:=oc2 h
  refine tgf 17 24 (P1 p0 (iadd .i64 z2 10)) (yi 113 112 25 1 .i64 (iadd .i64 z2 10) i0_17 i1_17) ?_
  refine tgt 18 25 _ (yA hs 1 112 (iadd .i64 z2 10) rfl i0_17 i1_17 .grow) ?_
  refine gq 19 26 (U8 (ixor .u64 (ixor .u64 (rd a0 z2) (rd a0 (iadd .i64 z2 5))) (rd a0 (iadd .i64 z2 10)))) ?_
  refine gq 20 27 (P0 p0) ?_
  refine gq 21 28 (I8 z2) ?_
  refine gq 22 29 (I8 (iadd .i64 z2 15)) ?_
  refine gq 23 30 (P0 p0) ?_
  obtain ⟨x7,hx,h⟩:=ob h
  have hx:=of_some hx
  subst hx
  obtain ⟨i0_18,i1_18,h⟩:=oc2 h
  refine tgf 24 31 (P1 p0 (iadd .i64 z2 15)) (yi 113 112 25 1 .i64 (iadd .i64 z2 15) i0_18 i1_18) ?_
  refine tgt 25 32 _ (yA hs 1 112 (iadd .i64 z2 15) rfl i0_18 i1_18 .grow) ?_
  refine gq 26 33 (U8 (ixor .u64 (ixor .u64 (ixor .u64 (rd a0 z2) (rd a0 (iadd .i64 z2 5))) (rd a0 (iadd .i64 z2 10))) (rd a0 (iadd .i64 z2 15)))) ?_
  refine gq 27 34 (P0 p0) ?_
  refine gq 28 35 (I8 z2) ?_
  refine gq 29 36 (I8 (iadd .i64 z2 20)) ?_
  refine gq 30 37 (P0 p0) ?_
  obtain ⟨x8,hx,h⟩:=ob h
  have hx:=of_some hx
  subst hx
  obtain ⟨i0_19,i1_19,h⟩:=oc2 h
  refine tgf 31 38 (P1 p0 (iadd .i64 z2 20)) (yi 113 112 25 1 .i64 (iadd .i64 z2 20) i0_19 i1_19) ?_
  refine tgt 32 39 _ (yA hs 1 112 (iadd .i64 z2 20) rfl i0_19 i1_19 .grow) ?_
  refine gq 33 40 (U8 (ixor .u64 (ixor .u64 (ixor .u64 (ixor .u64 (rd a0 z2) (rd a0 (iadd .i64 z2 5))) (rd a0 (iadd .i64 z2 10))) (rd a0 (iadd .i64 z2 15))) (rd a0 (iadd .i64 z2 20)))) ?_
  obtain ⟨i0_20,i1_20,h⟩:=oc2 h
  refine tgf 34 41 (P1 b1 z2) (yi 148 112 5 1 .i64 z2 i0_20 i1_20) ?_
  obtain ⟨x9,hx,h⟩:=ob h
  refine go 35 (oA 112 x9 z2 hs 0 rfl (by cases hx; kernel_rfl) i0_20 i1_20 fun w kp hs=>⟨⟨fun hf=>absurd hf (by decide),.all _ _⟩,?_⟩)
  refine gf (j14 _ _ ?_)
  refine iN (T s11 (xn 2 fun _ j21=>?_))
  refine nq 0 [(42,I8 (iadd .i64 z2 1)),(4,I8 (iadd .i64 z2 1))] ?_
  refine fin (j21 _ _ ?_)
  exact tn (kl0 _ _ ⟨n,ls n,(iadd .i64 z2 1),(wr z3 z2 x9),h,(hs.conv rfl),eg⟩)
  refine tb 0 5 (df hc) ?_
  refine fj j9 s8 (xs fun _ s22=>(cf (xexit (tx (tx (iH ?_))))))
  obtain rfl:=of_some h
  exact exq_n (nn0 _ _ ⟨(hs.conv rfl),eg⟩)
 clear hs h hy
 rintro a w ⟨hs,g7,rfl⟩
 have h:=hk0
 refine T s3 (xs fun _ s23=>(xn 2 fun _ j24=>?_))
 refine tkt 0 43 _ (yWe 148 hs 0 .grow) ?_
 refine so 1 (oWe 148 .u64 y4 hs 0 fun w kp hs=>?_)
 refine fj j24 s23 (xret ?_)
 obtain rfl:=of_some h
 exact qq _ _ (pr (rr [.cell 2 148] [ag .u64 y4] (.cons (rcN 5 hs 0 rfl (enc_len _ _)) .nil)) ⟨cr,(dr [0,1] hs)⟩)
theorem math_bits_RotateLeft64.ok {K:Nat}{a0 a1 r0:Int}(h:math_bits_RotateLeft64.f K a0 a1=some r0) (w0:World):Ret Tryd.prog 116 #[U8 a0,I8 a1] w0 (U8 r0):=by
 refine calls_k Tryd.func116 rfl fun Q qq=>?_
 have hs:=St.start w0
 refine wc (a':=(fu 15 [U8 a0,I8 a1])) ?_
 refine xs fun _ s1=>?_
 refine xn 1 fun _ j2=>?_
 refine qo 0 4 (U8 0) ?_
 refine fj j2 s1 (xs fun _ s3=>(xn 4 fun _ j4=>?_))
 refine nq 0 [(6,I8 a1),(7,U8 (iconv .u64 a1)),(8,U8 (iand .u64 (iconv .u64 a1) 63))] ?_
 obtain ⟨x1,hx,h⟩:=ob h
 refine tkf 3 5 (U8 x1) (yn hx) ?_
 refine fj j4 s3 (xs fun _ s5=>(xn 9 fun _ j6=>?_))
 refine nq 0 [(9,U8 a0),(10,U8 x1)] ?_
 obtain ⟨h0,h⟩:=oc h
 refine tkf 2 11 (U8 (ishl .u64 a0 x1)) (ysl 112 .u64 h0) ?_
 refine nq 3 [(12,U8 a0),(13,U8 x1),(14,U8 (isub .u64 64 x1))] ?_
 obtain ⟨h0,h⟩:=oc h
 refine tkf 6 15 (U8 (ishr .u64 a0 (isub .u64 64 x1))) (ysr 112 .u64 h0) ?_
 refine qo 7 16 (U8 (ior .u64 (ishl .u64 a0 x1) (ishr .u64 a0 (isub .u64 64 x1)))) ?_
 obtain ⟨x2,hx,h⟩:=ob h
 refine tkf 8 4 (U8 x2) (yn hx) ?_
 refine fj j6 s5 (xret ?_)
 obtain rfl:=of_some h
 exact qq _ _ (pt [4] [U8 x2] ⟨cr,hs.none⟩)
end Go.Proofs.YtemdbgmldljbpaaDoor
