/- own -/
import Derived.Test.YtemdbgmldljbpaaDoorMh
import Derived.Test.YtemdbgmldljbpaaDoorProg
import Derived.Test.YtemdbgmldljbpaaDoorYF0
import Derived.Test.YtemdbgmldljbpaaDoorYX3
set_option linter.unusedVariables false
set_option linter.unusedSimpArgs false
set_option maxRecDepth 100000
set_option maxHeartbeats 4000000
namespace Go.Proofs.YtemdbgmldljbpaaDoor
open Go.Mx
attribute [local irreducible] wpOp
theorem keccak_round.ok {K:Nat}{a0:Arr 25}{a1:Int}{rp:Arr 25}{p0:Nat}(h:keccak_round.f K a0 a1=some rp) (w0:World) (hg1:RowL CV w0 (some ⟨1,0,none⟩) 1 1 [tab_1]) (hg2:RowL CV w0 (some ⟨2,0,none⟩) 1 1 [tab_2]) (hb:w0.heap[p0]? = some (.cells (enc .u64 a0).toArray 113 (0,0))) (fhg1:¬ (Ent.rowL CV (some ⟨1,0,none⟩) 1 1 ([tab_1])).foot p0) (fhg2:¬ (Ent.rowL CV (some ⟨2,0,none⟩) 1 1 ([tab_2])).foot p0):Calls Tryd.prog 111 #[P0 p0,U8 a1] w0 fun e w'=>e = .returned (.tuple #[])∧St w0 [p0] [.blk p0 (enc .u64 rp) 113] [] w':=by
 refine calls_kn Tryd.func111 rfl fun Q qq qn=>?_
 have hs:=St.startX hb (allX_cons (RowP.ent hg1) fhg1 (allX_cons (RowP.ent hg2) fhg2 allX_nil))
 refine wc (a':=(fu 114 [P0 p0,U8 a1])) ?_
 refine xs fun _ s1=>?_
 refine xn 4 fun _ j2=>?_
 refine qo 0 14 (P0 p0) ?_
 obtain ⟨r1,hg,h⟩:=ob h
 refine wpS.only 1 (oX 15 hs 0 rfl (keccak_columns.ok hg _ (hs.blkAt 0 rfl)) ?_)
 intro w kp hs
 have hs:=hs.conv (L':=[.blk p0 (enc .u64 a0) 113]) rfl
 refine ⟨fun _=>trivial,?_⟩
 refine so 2 (oNe 4 148 .u64 (zeroA 5) hs fun b2 w gw hs=>?_)
 refine so 3 (oWe 148 .u64 r1 hs 0 fun w kp hs=>?_)
 refine fj j2 s1 (xs fun _ s3=>(xs fun _ s4=>(xn 1 fun _ j5=>?_)))
 refine qo 0 16 (I8 0) ?_
 refine fj j5 s4 (?_)
 obtain ⟨y5,hy,hk0⟩:=ob h
 refine wp_exq (N:=fun a w=>St w0 [p0] [.blk b2 (enc .u64 r1) 148,.blk p0 (enc .u64 y5) 113] [.rowL CV (some ⟨1,0,none⟩) 1 1 ([tab_1]),.rowL CV (some ⟨2,0,none⟩) 1 1 ([tab_2])] w∧∃ g7,a=fr g7 116 [(0,[P0 p0,U8 a1])]) (fun N0 nn0=>?_) ?_
 clear hk0
 refine xb ?_
 refine wp_loop_k (fun n a w=>∃ z3 z4,keccak_round.l0 K n r1 z3 z4=some y5∧St w0 [p0] [.blk b2 (enc .u64 r1) 148,.blk p0 (enc .u64 z4) 113] [.rowL CV (some ⟨1,0,none⟩) 1 1 ([tab_1]),.rowL CV (some ⟨2,0,none⟩) 1 1 ([tab_2])] w∧∃ g6,a=fr g6 116 [(0,[P0 p0,U8 a1]),(4,[P0 b2]),(16,[I8 z3])]) K ⟨0,a0,hy,hs.conv rfl,eg⟩ ?_
 clear hs h hy
 rintro n a w ⟨z3,z4,h,hs,g6,rfl⟩ KL0 kl0
 cases n with
 | zero=>exact nomatch (show none=some _ from h)
 | succ n=>
  refine xs fun _ s8=>?_
  refine xn 1 fun _ j9=>?_
  obtain ⟨hc,h⟩|⟨hc,h⟩:=of_if h
  refine tb 0 17 (dt hc) ?_
  refine fj j9 s8 (xs fun _ s10=>(ct (xk (T s10 (xs fun _ s11=>(xb (xs fun _ s12=>(xn 2 fun _ j13=>?_))))))))
  refine nq 0 [(18,I8 z3),(5,I8 z3)] ?_
  refine fj j13 s12 (xs fun _ s14=>?_)
  refine rg [] (fun k=>True) 13 fun _ j15=>?_
  have hs:=hs.drawn1
  refine gq 0 19 (I8 z3) ?_
  refine gq 1 20 (I8 (iadd .i64 z3 4)) ?_
  refine gq 2 21 (I8 (irem .i64 (iadd .i64 z3 4) 5)) ?_
  obtain ⟨x6,hx,h⟩:=ob h
  have hx:=of_some hx
  subst hx
  obtain ⟨i0_16,i1_16,h⟩:=oc2 h
  refine tgf 3 22 (.pointer (some ⟨b2,0+((irem .i64 (iadd .i64 z3 4) 5):Int).toNat*1,none⟩)) (yi 148 112 5 1 .i64 (irem .i64 (iadd .i64 z3 4) 5) i0_16 i1_16) ?_
  refine tgt 4 23 _ (yA hs 0 112 (irem .i64 (iadd .i64 z3 4) 5) rfl i0_16 i1_16 .grow) ?_
  refine gq 5 24 (I8 z3) ?_
  refine gq 6 25 (I8 (iadd .i64 z3 1)) ?_
  refine gq 7 26 (I8 (irem .i64 (iadd .i64 z3 1) 5)) ?_
  obtain ⟨x7,hx,h⟩:=ob h
  have hx:=of_some hx
  subst hx
  obtain ⟨i0_17,i1_17,h⟩:=oc2 h
  refine tgf 8 27 (.pointer (some ⟨b2,0+((irem .i64 (iadd .i64 z3 1) 5):Int).toNat*1,none⟩)) (yi 148 112 5 1 .i64 (irem .i64 (iadd .i64 z3 1) 5) i0_17 i1_17) ?_
  refine tgt 9 28 _ (yA hs 0 112 (irem .i64 (iadd .i64 z3 1) 5) rfl i0_17 i1_17 .grow) ?_
  obtain ⟨r8,hg,h⟩:=ob h
  refine go 10 (oC 29 hs (math_bits_RotateLeft64.ok hg _) fun w gw hs=>⟨.of gw,?_⟩)
  refine gq 11 30 (U8 (ixor .u64 (rd r1 (irem .i64 (iadd .i64 z3 4) 5)) r8)) ?_
  obtain ⟨x9,hx,h⟩:=ob h
  refine tgf 12 6 (U8 x9) (yn hx) ?_
  refine gf (j15 _ _ ?_)
  refine T s14 (xs fun _ s18=>(xn 1 fun _ j19=>?_))
  refine qo 0 7 (I8 0) ?_
  refine fj j19 s18 (?_)
  obtain ⟨y12,hy,hk1⟩:=ob h
  refine wp_exq (N:=fun a w=>St w0 [p0] [.blk b2 (enc .u64 r1) 148,.blk p0 (enc .u64 y12) 113] [.rowL CV (some ⟨1,0,none⟩) 1 1 ([tab_1]),.rowL CV (some ⟨2,0,none⟩) 1 1 ([tab_2])] w∧∃ g21,a=fr g21 116 [(0,[P0 p0,U8 a1]),(4,[P0 b2]),(16,[I8 z3])]) (fun N1 nn1=>?_) ?_
  clear hk1
  refine xb ?_
  refine wp_loop_k (fun n a w=>∃ z10 z11,keccak_round.l1 K n z3 x9 z10 z11=some y12∧St w0 [p0] [.blk b2 (enc .u64 r1) 148,.blk p0 (enc .u64 z11) 113] [.rowL CV (some ⟨1,0,none⟩) 1 1 ([tab_1]),.rowL CV (some ⟨2,0,none⟩) 1 1 ([tab_2])] w∧∃ g20,a=fr g20 116 [(0,[P0 p0,U8 a1]),(4,[P0 b2,I8 z3,U8 x9,I8 z10]),(16,[I8 z3])]) K ⟨0,z4,hy,hs.conv rfl,eg⟩ ?_
  clear hs h hy
  rintro n a w ⟨z10,z11,h,hs,g20,rfl⟩ KL1 kl1
  cases n with
  | zero=>exact nomatch (show none=some _ from h)
  | succ n=>
   refine xs fun _ s22=>?_
   refine xs fun _ s23=>?_
   refine xn 2 fun _ j24=>?_
   refine qo 0 31 (I8 z10) ?_
   obtain ⟨hc,h⟩|⟨hc,h⟩:=of_if h
   refine tb 1 32 (dt hc) ?_
   refine fj j24 s23 (ct (xk (T s22 (xs fun _ s25=>(xb ?_)))))
   refine rg [11] (fun k=>True) 12 fun _ j26=>?_
   have hs:=hs.drawn1
   refine gq 0 35 (P0 p0) ?_
   refine gq 1 36 (I8 z3) ?_
   refine gq 2 37 (I8 z10) ?_
   refine gq 3 38 (I8 (iadd .i64 z3 z10)) ?_
   refine gq 4 39 (P0 p0) ?_
   obtain ⟨x13,hx,h⟩:=ob h
   have hx:=of_some hx
   subst hx
   obtain ⟨i0_27,i1_27,h⟩:=oc2 h
   refine tgf 5 40 (P1 p0 (iadd .i64 z3 z10)) (yi 113 112 25 1 .i64 (iadd .i64 z3 z10) i0_27 i1_27) ?_
   refine tgt 6 41 _ (yA hs 1 112 (iadd .i64 z3 z10) rfl i0_27 i1_27 .grow) ?_
   refine gq 7 42 (U8 x9) ?_
   refine gq 8 43 (U8 (ixor .u64 (rd z11 (iadd .i64 z3 z10)) x9)) ?_
   refine gq 9 44 (P0 p0) ?_
   obtain ⟨x14,hx,h⟩:=ob h
   have hx:=of_some hx
   subst hx
   obtain ⟨i0_28,i1_28,h⟩:=oc2 h
   refine tgf 10 45 (P1 p0 (iadd .i64 z3 z10)) (yi 113 112 25 1 .i64 (iadd .i64 z3 z10) i0_28 i1_28) ?_
   obtain ⟨x15,hx,h⟩:=ob h
   refine go 11 (oA 112 x15 (iadd .i64 z3 z10) hs 1 rfl (by cases hx; kernel_rfl) i0_28 i1_28 fun w kp hs=>⟨⟨fun hf=>absurd hf (by decide),.all _ _⟩,?_⟩)
   refine gf (j26 _ _ ?_)
   refine iN (T s25 (xn 3 fun _ j29=>?_))
   refine nq 0 [(33,I8 z10),(34,I8 (iadd .i64 z10 5))] ?_
   obtain ⟨x16,hx,h⟩:=ob h
   refine tkf 2 7 (I8 x16) (yn hx) ?_
   refine fin (j29 _ _ ?_)
   exact tn (kl1 _ _ ⟨n,ls n,x16,(wr z11 (iadd .i64 z3 z10) x15),h,(hs.conv rfl),eg⟩)
   refine tb 1 32 (df hc) ?_
   refine fj j24 s23 (cf (xexit (tx (tx (iH ?_)))))
   obtain rfl:=of_some h
   exact exq_n (nn1 _ _ ⟨(hs.conv rfl),eg⟩)
  clear hs h hy
  rintro a w ⟨hs,g21,rfl⟩
  have h:=hk1
  refine iN (T s11 (xn 2 fun _ j30=>?_))
  refine nq 0 [(46,I8 (iadd .i64 z3 1)),(16,I8 (iadd .i64 z3 1))] ?_
  refine fin (j30 _ _ ?_)
  exact tn (kl0 _ _ ⟨n,ls n,(iadd .i64 z3 1),y12,h,(hs.conv rfl),eg⟩)
  refine tb 0 17 (df hc) ?_
  refine fj j9 s8 (xs fun _ s31=>(cf (xexit (tx (tx (iH ?_))))))
  obtain rfl:=of_some h
  exact exq_n (nn0 _ _ ⟨(hs.conv rfl),eg⟩)
 clear hs h hy
 rintro a w ⟨hs,g7,rfl⟩
 have h:=hk0
 refine T s3 (xs fun _ s32=>(xn 5 fun _ j33=>?_))
 refine nq 0 [(47,P0 p0),(48,P0 p0)] ?_
 refine tkf 2 49 (P1 p0 1) (yi 113 112 25 1 .i64 1 (by decide) (by decide)) ?_
 refine tkt 3 50 _ (yA hs 1 112 1 rfl (by decide) (by decide) .grow) ?_
 obtain ⟨x17,hx,h⟩:=ob h
 refine tkf 4 8 (U8 x17) (yn hx) ?_
 refine fj j33 s32 (xs fun _ s35=>(xs fun _ s36=>(xn 2 fun _ j37=>?_)))
 refine tkt 0 51 _ (yLA (C:=CV) 151 0 (rR 0 hs) rfl (by decide) (by decide)) ?_
 refine qo 1 52 (I8 0) ?_
 refine fj j37 s36 (?_)
 obtain ⟨y21,hy,hk2⟩:=ob h
 refine wp_exq (N:=fun a w=>St w0 [p0] [.blk b2 (enc .u64 r1) 148,.blk p0 (enc .u64 y21) 113] [.rowL CV (some ⟨1,0,none⟩) 1 1 ([tab_1]),.rowL CV (some ⟨2,0,none⟩) 1 1 ([tab_2])] w∧∃ g39,a=fr g39 116 [(0,[P0 p0,U8 a1])]) (fun N2 nn2=>?_) ?_
 clear hk2
 refine xb ?_
 refine wp_loop_k (fun n a w=>∃ z18 z19 z20,keccak_round.l2 K n z18 z19 z20=some y21∧St w0 [p0] [.blk b2 (enc .u64 r1) 148,.blk p0 (enc .u64 z20) 113] [.rowL CV (some ⟨1,0,none⟩) 1 1 ([tab_1]),.rowL CV (some ⟨2,0,none⟩) 1 1 ([tab_2])] w∧∃ g38,a=fr g38 116 [(0,[P0 p0,U8 a1]),(8,[U8 z18]),(51,[ag .i64 tab_1,I8 z19])]) K ⟨x17,0,y5,hy,hs.conv rfl,eg⟩ ?_
 clear hs h hy
 rintro n a w ⟨z18,z19,z20,h,hs,g38,rfl⟩ KL2 kl2
 cases n with
 | zero=>exact nomatch (show none=some _ from h)
 | succ n=>
  refine xs fun _ s40=>?_
  refine xn 1 fun _ j41=>?_
  obtain ⟨hc,h⟩|⟨hc,h⟩:=of_if h
  refine tb 0 53 (dt hc) ?_
  refine fj j41 s40 (xs fun _ s42=>(ct (xk (T s42 (xs fun _ s43=>(xb (xs fun _ s44=>(xn 4 fun _ j45=>?_))))))))
  refine qo 0 54 (I8 z19) ?_
  obtain ⟨h0,h1,h⟩:=oc2 h
  refine tkf 1 55 (I8 (rd tab_1 z19)) (yt 151 3 .i64 h0 h1) ?_
  refine qo 2 9 (I8 z19) ?_
  obtain ⟨x22,hx,h⟩:=ob h
  refine tkf 3 10 (I8 x22) (yn hx) ?_
  refine fj j45 s44 (?_)
  refine rg [14] (fun k=>True) 16 fun _ j46=>?_
  have hs:=hs.drawn1
  refine gq 0 56 (P0 p0) ?_
  refine gq 1 57 (I8 x22) ?_
  refine gq 2 58 (U8 z18) ?_
  refine gq 3 59 (I8 z19) ?_
  obtain ⟨i0_47,i1_47,h⟩:=oc2 h
  refine tgf 4 60 (P1 2 z19) (yi 151 3 24 1 .i64 z19 i0_47 i1_47) ?_
  refine tgt 5 61 (I8 (rd tab_2 z19)) (yld_loadG (e:=3) (x:=z19) (rR 1 hs) (by kernel_rfl) (by kernel_rfl) i0_47 i1_47) ?_
  refine gq 7 63 (P0 p0) ?_
  refine gq 8 64 (I8 x22) ?_
  refine gq 9 65 (P0 p0) ?_
  obtain ⟨i0_48,i1_48,h⟩:=oc2 h
  refine tgf 10 66 (P1 p0 x22) (yi 113 112 25 1 .i64 x22 i0_48 i1_48) ?_
  refine tgt 11 67 _ (yA hs 1 112 x22 rfl i0_48 i1_48 .grow) ?_
  refine gq 12 68 (P0 p0) ?_
  obtain ⟨r23,hg,h⟩:=ob h
  refine go 6 (oC 62 hs (math_bits_RotateLeft64.ok hg _) fun w gw hs=>⟨.of gw,?_⟩)
  obtain ⟨i0_49,i1_49,h⟩:=oc2 h
  refine tgf 13 69 (P1 p0 x22) (yi 113 112 25 1 .i64 x22 i0_49 i1_49) ?_
  refine go 14 (oA 112 r23 x22 hs 1 rfl (by kernel_rfl) i0_49 i1_49 fun w kp hs=>⟨⟨fun hf=>absurd hf (by decide),.all _ _⟩,?_⟩)
  obtain ⟨x24,hx,h⟩:=ob h
  refine tgf 15 8 (U8 x24) (yn hx) ?_
  refine gf (j46 _ _ ?_)
  refine iN (T s43 (xn 2 fun _ j50=>?_))
  refine nq 0 [(70,I8 (iadd .i64 z19 1)),(52,I8 (iadd .i64 z19 1))] ?_
  refine fin (j50 _ _ ?_)
  exact tn (kl2 _ _ ⟨n,ls n,x24,(iadd .i64 z19 1),(wr z20 x22 r23),h,(hs.conv rfl),eg⟩)
  refine tb 0 53 (df hc) ?_
  refine fj j41 s40 (xs fun _ s51=>(cf (xexit (tx (tx (iH ?_))))))
  obtain rfl:=of_some h
  exact exq_n (nn2 _ _ ⟨(hs.conv rfl),eg⟩)
 clear hs h hy
 rintro a w ⟨hs,g39,rfl⟩
 have h:=hk2
 refine T s35 (xs fun _ s52=>(xs fun _ s53=>(xn 1 fun _ j54=>?_)))
 refine qo 0 11 (I8 0) ?_
 refine fj j54 s53 (?_)
 obtain ⟨y27,hy,hk3⟩:=ob h
 refine wp_exq (N:=fun a w=>St w0 [p0] [.blk b2 (enc .u64 r1) 148,.blk p0 (enc .u64 y27) 113] [.rowL CV (some ⟨1,0,none⟩) 1 1 ([tab_1]),.rowL CV (some ⟨2,0,none⟩) 1 1 ([tab_2])] w∧∃ g56,a=fr g56 116 [(0,[P0 p0,U8 a1])]) (fun N3 nn3=>?_) ?_
 clear hk3
 refine xb ?_
 refine wp_loop_k (fun n a w=>∃ z25 z26,keccak_round.l3 K n z25 z26=some y27∧St w0 [p0] [.blk b2 (enc .u64 r1) 148,.blk p0 (enc .u64 z26) 113] [.rowL CV (some ⟨1,0,none⟩) 1 1 ([tab_1]),.rowL CV (some ⟨2,0,none⟩) 1 1 ([tab_2])] w∧∃ g55,a=fr g55 116 [(0,[P0 p0,U8 a1]),(11,[I8 z25])]) K ⟨0,y21,hy,hs.conv rfl,eg⟩ ?_
 clear hs h hy
 rintro n a w ⟨z25,z26,h,hs,g55,rfl⟩ KL3 kl3
 cases n with
 | zero=>exact nomatch (show none=some _ from h)
 | succ n=>
  refine xs fun _ s57=>?_
  refine xs fun _ s58=>?_
  refine xn 2 fun _ j59=>?_
  refine qo 0 71 (I8 z25) ?_
  obtain ⟨hc,h⟩|⟨hc,h⟩:=of_if h
  refine tb 1 72 (dt hc) ?_
  refine fj j59 s58 (ct (xk (T s57 (xs fun _ s60=>(xb (xs fun _ s61=>(xn 10 fun _ j62=>?_)))))))
  refine nq 0 [(75,P0 p0),(76,P0 p0),(77,I8 z25),(78,I8 z25),(79,I8 (iadd .i64 z25 5))] ?_
  obtain ⟨b0_63,b1_63,h⟩:=oc2 h
  obtain ⟨b2_63,b3_63,h⟩:=oc2 h
  refine tkf 5 80 (.slice (some ⟨p0,0+(z25:Int).toNat*1,none⟩) (((iadd .i64 z25 5):Int).toNat-(z25:Int).toNat) (25-(z25:Int).toNat)) (ysA 113 112 25 .i64 .i64 z25 (iadd .i64 z25 5) b0_63 b1_63 b2_63 b3_63) ?_
  obtain ⟨h0,h⟩:=oc h
  have i0_64:=b0_63
  have i1_64:(z25:Int)+((5:Nat):Int)≤((25:Nat):Int):=by have:=b2_63; omega
  refine tkf 6 81 (P1 p0 z25) (yld_toArr (t:=148) (e:=112) (n:=5) (len:=((iadd .i64 z25 5):Int).toNat-(z25:Int).toNat) (c:=25-(z25:Int).toNat) (by kernel_rfl) (by kernel_rfl) h0) ?_
  refine tkt 7 82 (ag .u64 (subA 5 z26 z25)) (yld_loadSub (e:=148) (m:=5) (x:=z25) hs 1 rfl (by kernel_rfl) (by kernel_rfl) (by kernel_rfl) i0_64 i1_64 .grow) ?_
  refine so 8 (oNe 12 148 .u64 (zeroA 5) hs fun b28 w gw hs=>?_)
  refine so 9 (oWe 148 .u64 (subA 5 z26 z25) hs 0 fun w kp hs=>?_)
  refine fj j62 s61 (xs fun _ s65=>(xn 1 fun _ j66=>?_))
  refine qo 0 83 (I8 0) ?_
  refine fj j66 s65 (?_)
  obtain ⟨y31,hy,hk4⟩:=ob h
  refine wp_exq (N:=fun a w=>St w0 [p0] [.blk b28 (enc .u64 (subA 5 z26 z25)) 148,.blk b2 (enc .u64 r1) 148,.blk p0 (enc .u64 y31) 113] [.rowL CV (some ⟨1,0,none⟩) 1 1 ([tab_1]),.rowL CV (some ⟨2,0,none⟩) 1 1 ([tab_2])] w∧∃ g68,a=fr g68 116 [(0,[P0 p0,U8 a1]),(11,[I8 z25])]) (fun N4 nn4=>?_) ?_
  clear hk4
  refine xb ?_
  refine wp_loop_k (fun n a w=>∃ z29 z30,keccak_round.l4 K n z25 z26 z29 z30=some y31∧St w0 [p0] [.blk b28 (enc .u64 (subA 5 z26 z25)) 148,.blk b2 (enc .u64 r1) 148,.blk p0 (enc .u64 z30) 113] [.rowL CV (some ⟨1,0,none⟩) 1 1 ([tab_1]),.rowL CV (some ⟨2,0,none⟩) 1 1 ([tab_2])] w∧∃ g67,a=fr g67 116 [(0,[P0 p0,U8 a1]),(11,[I8 z25,P0 b28]),(83,[I8 z29])]) K ⟨0,z26,hy,hs.conv rfl,eg⟩ ?_
  clear hs h hy
  rintro n a w ⟨z29,z30,h,hs,g67,rfl⟩ KL4 kl4
  cases n with
  | zero=>exact nomatch (show none=some _ from h)
  | succ n=>
   refine xs fun _ s69=>?_
   refine xn 1 fun _ j70=>?_
   obtain ⟨hc,h⟩|⟨hc,h⟩:=of_if h
   refine tb 0 84 (dt hc) ?_
   refine fj j70 s69 (xs fun _ s71=>(ct (xk (T s71 (xs fun _ s72=>(xb (xs fun _ s73=>(xn 2 fun _ j74=>?_))))))))
   refine nq 0 [(85,I8 z29),(13,I8 z29)] ?_
   refine fj j74 s73 (?_)
   refine rg [21] (fun k=>True) 22 fun _ j75=>?_
   have hs:=hs.drawn1
   refine gq 0 86 (P0 p0) ?_
   refine gq 1 87 (I8 z25) ?_
   refine gq 2 88 (I8 z29) ?_
   refine gq 3 89 (I8 (iadd .i64 z25 z29)) ?_
   refine gq 4 90 (I8 z29) ?_
   obtain ⟨i0_76,i1_76,h⟩:=oc2 h
   refine tgf 5 91 (P1 b28 z29) (yi 148 112 5 1 .i64 z29 i0_76 i1_76) ?_
   refine tgt 6 92 _ (yA hs 0 112 z29 rfl i0_76 i1_76 .grow) ?_
   refine gq 7 93 (I8 z29) ?_
   refine gq 8 94 (I8 (iadd .i64 z29 2)) ?_
   refine gq 9 95 (I8 (irem .i64 (iadd .i64 z29 2) 5)) ?_
   obtain ⟨x32,hx,h⟩:=ob h
   have hx:=of_some hx
   subst hx
   obtain ⟨i0_77,i1_77,h⟩:=oc2 h
   refine tgf 10 96 (.pointer (some ⟨b28,0+((irem .i64 (iadd .i64 z29 2) 5):Int).toNat*1,none⟩)) (yi 148 112 5 1 .i64 (irem .i64 (iadd .i64 z29 2) 5) i0_77 i1_77) ?_
   refine tgt 11 97 _ (yA hs 0 112 (irem .i64 (iadd .i64 z29 2) 5) rfl i0_77 i1_77 .grow) ?_
   refine gq 12 98 (I8 z29) ?_
   refine gq 13 99 (I8 (iadd .i64 z29 1)) ?_
   refine gq 14 100 (I8 (irem .i64 (iadd .i64 z29 1) 5)) ?_
   obtain ⟨x33,hx,h⟩:=ob h
   have hx:=of_some hx
   subst hx
   obtain ⟨i0_78,i1_78,h⟩:=oc2 h
   refine tgf 15 101 (.pointer (some ⟨b28,0+((irem .i64 (iadd .i64 z29 1) 5):Int).toNat*1,none⟩)) (yi 148 112 5 1 .i64 (irem .i64 (iadd .i64 z29 1) 5) i0_78 i1_78) ?_
   refine tgt 16 102 _ (yA hs 0 112 (irem .i64 (iadd .i64 z29 1) 5) rfl i0_78 i1_78 .grow) ?_
   refine gq 17 103 (U8 (iandn .u64 (rd (subA 5 z26 z25) (irem .i64 (iadd .i64 z29 2) 5)) (rd (subA 5 z26 z25) (irem .i64 (iadd .i64 z29 1) 5)))) ?_
   refine gq 18 104 (U8 (ixor .u64 (rd (subA 5 z26 z25) z29) (iandn .u64 (rd (subA 5 z26 z25) (irem .i64 (iadd .i64 z29 2) 5)) (rd (subA 5 z26 z25) (irem .i64 (iadd .i64 z29 1) 5))))) ?_
   refine gq 19 105 (P0 p0) ?_
   obtain ⟨x34,hx,h⟩:=ob h
   have hx:=of_some hx
   subst hx
   obtain ⟨i0_79,i1_79,h⟩:=oc2 h
   refine tgf 20 106 (P1 p0 (iadd .i64 z25 z29)) (yi 113 112 25 1 .i64 (iadd .i64 z25 z29) i0_79 i1_79) ?_
   obtain ⟨x35,hx,h⟩:=ob h
   refine go 21 (oA 112 x35 (iadd .i64 z25 z29) hs 2 rfl (by cases hx; kernel_rfl) i0_79 i1_79 fun w kp hs=>⟨⟨fun hf=>absurd hf (by decide),.all _ _⟩,?_⟩)
   refine gf (j75 _ _ ?_)
   refine iN (T s72 (xn 2 fun _ j80=>?_))
   refine nq 0 [(107,I8 (iadd .i64 z29 1)),(83,I8 (iadd .i64 z29 1))] ?_
   refine fin (j80 _ _ ?_)
   exact tn (kl4 _ _ ⟨n,ls n,(iadd .i64 z29 1),(wr z30 (iadd .i64 z25 z29) x35),h,(hs.conv rfl),eg⟩)
   refine tb 0 84 (df hc) ?_
   refine fj j70 s69 (xs fun _ s81=>(cf (xexit (tx (tx (iH ?_))))))
   obtain rfl:=of_some h
   exact exq_n (nn4 _ _ ⟨(hs.conv rfl),eg⟩)
  clear hs h hy
  rintro a w ⟨hs,g68,rfl⟩
  have h:=hk4
  refine iN (T s60 (xn 3 fun _ j82=>?_))
  refine nq 0 [(73,I8 z25),(74,I8 (iadd .i64 z25 5))] ?_
  obtain ⟨x36,hx,h⟩:=ob h
  refine tkf 2 11 (I8 x36) (yn hx) ?_
  refine fin (j82 _ _ ?_)
  exact tn (kl3 _ _ ⟨n,ls n,x36,y31,h,(dr [0,1,1] hs),eg⟩)
  refine tb 1 72 (df hc) ?_
  refine fj j59 s58 (cf (xexit (tx (tx (iH ?_)))))
  obtain rfl:=of_some h
  exact exq_n (nn3 _ _ ⟨(hs.conv rfl),eg⟩)
 clear hs h hy
 rintro a w ⟨hs,g56,rfl⟩
 have h:=hk3
 refine T s52 (?_)
 refine rg [8] (fun k=>True) 9 fun _ j83=>?_
 have hs:=hs.drawn1
 refine gq 0 108 (P0 p0) ?_
 refine gq 1 109 (P0 p0) ?_
 refine tgf 2 110 (P1 p0 0) (yi 113 112 25 1 .i64 0 (by decide) (by decide)) ?_
 refine tgt 3 111 _ (yA hs 1 112 0 rfl (by decide) (by decide) .grow) ?_
 refine gq 4 112 (U8 a1) ?_
 refine gq 5 113 (U8 (ixor .u64 (rd y27 0) a1)) ?_
 refine gq 6 114 (P0 p0) ?_
 refine tgf 7 115 (P1 p0 0) (yi 113 112 25 1 .i64 0 (by decide) (by decide)) ?_
 obtain ⟨x37,hx,h⟩:=ob h
 refine go 8 (oA 112 x37 0 hs 1 rfl (by cases hx; kernel_rfl) (by decide) (by decide) fun w kp hs=>⟨⟨fun hf=>absurd hf (by decide),.all _ _⟩,?_⟩)
 refine gf (j83 _ _ ?_)
 obtain rfl:=of_some h
 exact qn _ _ (pn (rr [] [] .nil) ⟨cr,(pz (dr [0,1] hs))⟩)
theorem keccak_Permute.ok {K:Nat}{a0 r0:Arr 25}(h:keccak_Permute.f K a0=some r0) (w0:World) (hg0:RowL CW w0 (some ⟨0,0,none⟩) 1 1 [tab_0]) (hg1:RowL CV w0 (some ⟨1,0,none⟩) 1 1 [tab_1]) (hg2:RowL CV w0 (some ⟨2,0,none⟩) 1 1 [tab_2]):Ret Tryd.prog 102 #[ag .u64 a0] w0 (ag .u64 r0):=by
 refine calls_k Tryd.func102 rfl fun Q qq=>?_
 have hs:=St.startR (all_cons (RowP.ent hg0) (all_cons (RowP.ent hg1) (all_cons (RowP.ent hg2) all_nil)))
 refine wc (a':=(fu 12 [ag .u64 a0])) ?_
 refine xs fun _ s1=>?_
 refine xn 2 fun _ j2=>?_
 refine so 0 (oBe 1 113 .u64 a0 hs fun b1 w gw hs=>?_)
 refine so 1 (oNe 2 113 .u64 (zeroA 25) hs fun b2 w gw hs=>?_)
 refine fj j2 s1 (xs fun _ s3=>(xs fun _ s4=>(xn 2 fun _ j5=>?_)))
 refine tkt 0 5 _ (yLA (C:=CW) 144 0 (rR 0 hs) rfl (by decide) (by decide)) ?_
 refine qo 1 6 (I8 0) ?_
 refine fj j5 s4 (?_)
 obtain ⟨y5,hy,hk0⟩:=ob h
 refine wp_exq (N:=fun a w=>St w0 [] [.blk b2 (enc .u64 (zeroA 25)) 113,.blk b1 (enc .u64 y5) 113] [.rowL CW (some ⟨0,0,none⟩) 1 1 ([tab_0]),.rowL CV (some ⟨1,0,none⟩) 1 1 ([tab_1]),.rowL CV (some ⟨2,0,none⟩) 1 1 ([tab_2])] w∧∃ g7,a=fr g7 13 [(1,[P0 b1,P0 b2])]) (fun N0 nn0=>?_) ?_
 clear hk0
 refine xb ?_
 refine wp_loop_k (fun n a w=>∃ z3 z4,keccak_Permute.l0 K n z3 z4=some y5∧St w0 [] [.blk b2 (enc .u64 (zeroA 25)) 113,.blk b1 (enc .u64 z4) 113] [.rowL CW (some ⟨0,0,none⟩) 1 1 ([tab_0]),.rowL CV (some ⟨1,0,none⟩) 1 1 ([tab_1]),.rowL CV (some ⟨2,0,none⟩) 1 1 ([tab_2])] w∧∃ g6,a=fr g6 13 [(1,[P0 b1,P0 b2]),(5,[ag .u64 tab_0,I8 z3])]) K ⟨0,a0,hy,hs.conv rfl,eg⟩ ?_
 clear hs h hy
 rintro n a w ⟨z3,z4,h,hs,g6,rfl⟩ KL0 kl0
 cases n with
 | zero=>exact nomatch (show none=some _ from h)
 | succ n=>
  refine xs fun _ s8=>?_
  refine xn 1 fun _ j9=>?_
  obtain ⟨hc,h⟩|⟨hc,h⟩:=of_if h
  refine tb 0 7 (dt hc) ?_
  refine fj j9 s8 (xs fun _ s10=>(ct (xk (T s10 (xs fun _ s11=>(xb (xs fun _ s12=>(xn 2 fun _ j13=>?_))))))))
  obtain ⟨h0,h1,h⟩:=oc2 h
  refine tkf 0 8 (U8 (rd tab_0 z3)) (yt 144 112 .i64 h0 h1) ?_
  obtain ⟨x6,hx,h⟩:=ob h
  refine tkf 1 4 (U8 x6) (yn hx) ?_
  refine fj j13 s12 (xn 2 fun _ j14=>?_)
  refine qo 0 9 (U8 x6) ?_
  obtain ⟨r7,hg,h⟩:=ob h
  refine wpS.only 1 (oX 10 hs 1 rfl (keccak_round.ok hg _ (rR 1 hs) (rR 2 hs) (hs.blkAt 1 rfl) (hs.farR 1 1 rfl rfl) (hs.farR 1 2 rfl rfl)) ?_)
  intro w kp hs
  have hs:=hs.conv (L':=[.blk b2 (enc .u64 (zeroA 25)) 113,.blk b1 (enc .u64 r7) 113]) rfl
  refine ⟨fun _=>trivial,?_⟩
  refine fin (j14 _ _ (iN (T s11 (xn 2 fun _ j15=>?_))))
  refine nq 0 [(11,I8 (iadd .i64 z3 1)),(6,I8 (iadd .i64 z3 1))] ?_
  refine fin (j15 _ _ ?_)
  exact tn (kl0 _ _ ⟨n,ls n,(iadd .i64 z3 1),r7,h,(hs.conv rfl),eg⟩)
  refine tb 0 7 (df hc) ?_
  refine fj j9 s8 (xs fun _ s16=>(cf (xexit (tx (tx (iH ?_))))))
  obtain rfl:=of_some h
  exact exq_n (nn0 _ _ ⟨(hs.conv rfl),eg⟩)
 clear hs h hy
 rintro a w ⟨hs,g7,rfl⟩
 have h:=hk0
 refine T s3 (xs fun _ s17=>(xn 2 fun _ j18=>?_))
 refine tkt 0 12 _ (yWe 113 hs 1 .grow) ?_
 refine so 1 (oWe 113 .u64 y5 hs 0 fun w kp hs=>?_)
 refine fj j18 s17 (xret ?_)
 obtain rfl:=of_some h
 exact qq _ _ (pr (rr [.cell 2 113] [ag .u64 y5] (.cons (rcN 25 hs 0 rfl (enc_len _ _)) .nil)) ⟨cr,hs.none⟩)
theorem keccak_Absorb.ok {K:Nat}{a0_0:Int}{a0_1:Arr 25}{a0_2:Int}{a0_3:Bool}{a1:List Int}{r0_0:Int}{r0_1:Arr 25}{r0_2:Int}{r0_3:Bool}{a1_A:Option Addr}{a1_n a1_c:Nat}(h:keccak_Absorb.f K a0_0 a0_1 a0_2 a0_3 a1=some (r0_0,r0_1,r0_2,r0_3)) (w0:World) (hp1:RowL CB w0 a1_A a1_n a1_c a1) (hg0:RowL CW w0 (some ⟨0,0,none⟩) 1 1 [tab_0]) (hg1:RowL CV w0 (some ⟨1,0,none⟩) 1 1 [tab_1]) (hg2:RowL CV w0 (some ⟨2,0,none⟩) 1 1 [tab_2]):Ret Tryd.prog 78 #[.agg (vl [I8 a0_0]++enc .u64 a0_1++vl [I8 a0_2,.bool a0_3]).toArray,.slice a1_A a1_n a1_c] w0 (.agg (vl [I8 r0_0]++enc .u64 r0_1++vl [I8 r0_2,.bool r0_3]).toArray):=by
 refine calls_k Tryd.func78 rfl fun Q qq=>?_
 have hs:=St.startR (all_cons (RowP.ent hp1) (all_cons (RowP.ent hg0) (all_cons (RowP.ent hg1) (all_cons (RowP.ent hg2) all_nil))))
 refine wc (a':=(fu 38 [.agg (vl [I8 a0_0]++enc .u64 a0_1++vl [I8 a0_2,.bool a0_3]).toArray,.slice a1_A a1_n a1_c])) ?_
 refine xs fun _ s1=>?_
 refine xn 2 fun _ j2=>?_
 refine so 0 (oB 2 115 (.agg (vl [I8 a0_0]++enc .u64 a0_1++vl [I8 a0_2,.bool a0_3]).toArray) hs (vl [I8 a0_0]++enc .u64 a0_1++vl [I8 a0_2,.bool a0_3]) fun b1 w gw hs=>?_)
 refine so 1 (oN 4 115 hs (vl [I8 0]++enc .u64 (zeroA 25)++vl [I8 0,.bool false]) (.agg (vl [I8 0]++enc .u64 (zeroA 25)++vl [I8 0,.bool false]).toArray) fun b2 w gw hs=>?_)
 refine fj j2 s1 (xs fun _ s3=>(xs fun _ s4=>(xn 2 fun _ j5=>?_)))
 refine qo 0 7 (.pointer (some ⟨b1,27,none⟩)) ?_
 cases a0_3 with
 | true=>
  have h:=of_if_t h
  refine tkt 1 8 _ (yv hs 1 27 4 rfl (get_post 1 rfl rfl) .grow) ?_
  refine fj j5 s4 (ct (xs fun _ s6=>(xn 2 fun _ j7=>?_)))
  refine tkt 0 9 _ (yWs 28 115 hs 1 .grow) ?_
  refine so 1 (oW 28 115 (.agg (vl [I8 a0_0]++enc .u64 a0_1++vl [I8 a0_2,.bool true]).toArray) (vl [I8 a0_0]++enc .u64 a0_1++vl [I8 a0_2,.bool true]) hs 0 rfl (by simp [enc_len]) (by simp [enc_len]) (one_app (one_app (by simp [Value.oneCell']) (fun u hu=>enc_one _ _ u hu)) (by simp [Value.oneCell'])) fun w kp hs=>?_)
  refine fj j7 s6 (xret (tr ?_))
  obtain ⟨rfl,rfl,rfl,rfl⟩:=os4 h
  exact qq _ _ (pr (rr [.cell 4 115] [.agg (vl [I8 a0_0]++enc .u64 a0_1++vl [I8 a0_2,.bool true]).toArray] (.cons (rcN 28 hs 0 rfl (by simp [enc_len])) .nil)) ⟨cr,hs.none⟩)
 | false=>
  have h:=of_if_f h
  refine tkt 1 8 _ (yv hs 1 27 4 rfl (get_post 1 rfl rfl) .grow) ?_
  refine fj j5 s4 (cf (xk (T s3 (xs fun _ s8=>(xn 4 fun _ j9=>?_)))))
  refine qo 0 10 (P0 b1) ?_
  refine tkt 1 11 _ (yv hs 1 0 3 rfl (get_pre rfl) .grow) ?_
  obtain ⟨r3,hg,h⟩:=ob h
  refine so 2 (oC 12 hs (keccak_rate.ok hg _) fun w gw hs=>?_)
  refine qo 3 5 (I8 r3) ?_
  refine fj j9 s8 (xs fun _ s10=>(xs fun _ s11=>(xn 3 fun _ j12=>?_)))
  refine qo 0 13 (.slice a1_A a1_n a1_c) ?_
  refine tkf 1 14 (I8 (a1.length:Int)) (yl (rR 0 hs)) ?_
  refine qo 2 15 (I8 0) ?_
  refine fj j12 s11 (?_)
  obtain ⟨⟨y6_0,y6_1,y6_2,y6_3⟩,hy,hk0⟩:=ob h
  refine wp_exq (N:=fun a w=>St w0 [] [.blk b2 (vl [I8 0]++enc .u64 (zeroA 25)++vl [I8 0,.bool false]) 115,.blk b1 (vl [I8 y6_0]++enc .u64 y6_1++vl [I8 y6_2,.bool y6_3]) 115] [.rowL CB a1_A a1_n a1_c a1,.rowL CW (some ⟨0,0,none⟩) 1 1 ([tab_0]),.rowL CV (some ⟨1,0,none⟩) 1 1 ([tab_1]),.rowL CV (some ⟨2,0,none⟩) 1 1 ([tab_2])] w∧∃ g14,a=fr g14 40 [(2,[P0 b1]),(4,[P0 b2])]) (fun N0 nn0=>?_) ?_
  clear hk0
  refine xb ?_
  refine wp_loop_k (fun n a w=>∃ z4 z5_0 z5_1 z5_2 z5_3,keccak_Absorb.l0 K n a1 r3 z4 z5_0 z5_1 z5_2 z5_3=some (y6_0,y6_1,y6_2,y6_3)∧St w0 [] [.blk b2 (vl [I8 0]++enc .u64 (zeroA 25)++vl [I8 0,.bool false]) 115,.blk b1 (vl [I8 z5_0]++enc .u64 z5_1++vl [I8 z5_2,.bool z5_3]) 115] [.rowL CB a1_A a1_n a1_c a1,.rowL CW (some ⟨0,0,none⟩) 1 1 ([tab_0]),.rowL CV (some ⟨1,0,none⟩) 1 1 ([tab_1]),.rowL CV (some ⟨2,0,none⟩) 1 1 ([tab_2])] w∧∃ g13,a=fr g13 40 [(1,[.slice a1_A a1_n a1_c,P0 b1]),(4,[P0 b2,I8 r3]),(14,[I8 (a1.length:Int),I8 z4])]) K ⟨0,a0_0,a0_1,a0_2,false,hy,hs.conv rfl,eg⟩ ?_
  clear hs h hy
  rintro n a w ⟨z4,z5_0,z5_1,z5_2,z5_3,h,hs,g13,rfl⟩ KL0 kl0
  cases n with
  | zero=>exact nomatch (show none=some _ from h)
  | succ n=>
   refine xs fun _ s15=>?_
   refine xn 1 fun _ j16=>?_
   obtain ⟨hc,h⟩|⟨hc,h⟩:=of_if h
   refine tb 0 16 (dt hc) ?_
   refine fj j16 s15 (xs fun _ s17=>(ct (xk (T s17 (?_)))))
   obtain ⟨⟨y7_0,y7_1,y7_2,y7_3⟩,hj,h⟩:=ob h
   refine xs fun _ s19=>wp_join (N:=fun a w=>St w0 [] [.blk b2 (vl [I8 0]++enc .u64 (zeroA 25)++vl [I8 0,.bool false]) 115,.blk b1 (vl [I8 y7_0]++enc .u64 y7_1++vl [I8 y7_2,.bool y7_3]) 115] [.rowL CB a1_A a1_n a1_c a1,.rowL CW (some ⟨0,0,none⟩) 1 1 ([tab_0]),.rowL CV (some ⟨1,0,none⟩) 1 1 ([tab_1]),.rowL CV (some ⟨2,0,none⟩) 1 1 ([tab_2])] w∧∃ g18,a=fr g18 40 [(1,[.slice a1_A a1_n a1_c,P0 b1]),(4,[P0 b2,I8 r3]),(14,[I8 (a1.length:Int),I8 z4])]) (fun N nj=>?_) ?_
   clear h
   have h:=hj
   refine xb (xs fun _ s20=>(xn 2 fun _ j21=>?_))
   refine nq 0 [(17,I8 z4),(6,I8 z4)] ?_
   refine fj j21 s20 (xs fun _ s22=>?_)
   refine rg [6] (fun k=>True) 7 fun _ j23=>?_
   have hs:=hs.drawn1
   refine gq 0 18 (.pointer (some ⟨b1,26,none⟩)) ?_
   refine tgt 1 19 _ (yv hs 1 26 3 rfl (get_post 0 rfl rfl) .grow) ?_
   refine gq 2 20 (.slice a1_A a1_n a1_c) ?_
   refine gq 3 21 (I8 z4) ?_
   obtain ⟨h0,h1,h⟩:=oc2 h
   have i0_24:=h0
   have i1_24:=h1
   refine tgf 4 22 (PA CB a1_A z4) (yiL (C:=CB) 24 5 .i64 z4 (rR 0 hs) h0 h1) ?_
   refine tgt 5 23 _ (yL (C:=CB) 5 z4 (rR 0 hs) rfl i0_24 i1_24) ?_
   obtain ⟨⟨r8_0,r8_1,r8_2,r8_3⟩,hg,h⟩:=ob h
   refine wpG.only 6 (by kernel_rfl) (oX 24 hs 1 rfl (keccak_xor.ok hg _ (hs.blkAt 1 rfl)) ?_)
   intro w kp hs
   have hs:=hs.conv (L':=[.blk b2 (vl [I8 0]++enc .u64 (zeroA 25)++vl [I8 0,.bool false]) 115,.blk b1 (vl [I8 r8_0]++enc .u64 r8_1++vl [I8 r8_2,.bool r8_3]) 115]) rfl
   refine ⟨⟨fun hf=>absurd hf (by decide),.all _ _⟩,?_⟩
   refine gf (j23 _ _ ?_)
   refine T s22 (xs fun _ s25=>(xn 5 fun _ j26=>?_))
   refine qo 0 25 (.pointer (some ⟨b1,26,none⟩)) ?_
   refine tkt 1 26 _ (yv hs 1 26 3 rfl (get_post 0 rfl rfl) .grow) ?_
   refine nq 2 [(27,I8 (iadd .i64 r8_2 1)),(28,.pointer (some ⟨b1,26,none⟩))] ?_
   obtain ⟨x9,hx,h⟩:=ob h
   refine wpS.only 4 (oQ (he:=by cases hx; kernel_rfl) 3 (I8 x9) 26 hs 1 rfl rfl (by simp [enc_len]) (set_post 0 rfl) ?_)
   intro w kp hs
   try dsimp only [List.set] at hs
   refine ⟨fun _=>trivial,?_⟩
   refine fj j26 s25 (xs fun _ s27=>(xn 4 fun _ j28=>?_))
   refine qo 0 29 (.pointer (some ⟨b1,26,none⟩)) ?_
   refine tkt 1 30 _ (yv hs 1 26 3 rfl (get_post 0 rfl rfl) .grow) ?_
   refine qo 2 31 (I8 r3) ?_
   obtain ⟨hc,h⟩|⟨hc,h⟩:=of_if h
   refine tb 3 32 (et hc) ?_
   refine fj j28 s27 (ct (xn 7 fun _ j29=>?_))
   refine qo 0 33 (.pointer (some ⟨b1,1,none⟩)) ?_
   refine tkt 1 34 (ag .u64 r8_1) (yN hs 1 1 25 113 rfl (mid_of rfl) (enc_len _ _) .grow) ?_
   obtain ⟨r10,hg,h⟩:=ob h
   refine so 2 (oC 35 hs (keccak_Permute.ok hg _ (rR 1 hs) (rR 2 hs) (rR 3 hs)) fun w gw hs=>?_)
   refine qo 3 36 (.pointer (some ⟨b1,1,none⟩)) ?_
   refine so 4 (oM 113 (ag .u64 r10) 1 25 (enc .u64 r10) hs 1 rfl (enc_len _ _) (by simp [enc_len]) (enc_one _ _) (splice_row rfl) fun w kp hs=>?_)
   refine qo 5 37 (.pointer (some ⟨b1,26,none⟩)) ?_
   refine wpS.only 6 (oQ 3 (I8 0) 26 hs 1 rfl rfl (by simp [enc_len]) (set_post 0 rfl) ?_)
   intro w kp hs
   try dsimp only [List.set] at hs
   refine ⟨fun _=>trivial,?_⟩
   refine fin (j29 _ _ (iN ?_))
   obtain ⟨rfl,rfl,rfl,rfl⟩:=os4 h
   exact nj _ _ ⟨(hs.conv rfl),eg⟩
   refine tb 3 32 (ef hc) ?_
   refine fj j28 s27 (cf (xk (iN ?_)))
   obtain ⟨rfl,rfl,rfl,rfl⟩:=os4 h
   exact nj _ _ ⟨(hs.conv rfl),eg⟩
   clear hj hs
   rintro a w ⟨hs,g18,rfl⟩
   refine T s19 (xn 2 fun _ j30=>?_)
   refine nq 0 [(38,I8 (iadd .i64 z4 1)),(15,I8 (iadd .i64 z4 1))] ?_
   refine fin (j30 _ _ ?_)
   exact tn (kl0 _ _ ⟨n,ls n,(iadd .i64 z4 1),y7_0,y7_1,y7_2,y7_3,h,(hs.conv rfl),eg⟩)
   refine tb 0 16 (df hc) ?_
   refine fj j16 s15 (xs fun _ s31=>(cf (xexit (tx (tx (iH ?_))))))
   obtain ⟨rfl,rfl,rfl,rfl⟩:=os4 h
   exact exq_n (nn0 _ _ ⟨(hs.conv rfl),eg⟩)
  clear hs h hy
  rintro a w ⟨hs,g14,rfl⟩
  have h:=hk0
  refine T s10 (xs fun _ s32=>(xn 2 fun _ j33=>?_))
  refine tkt 0 39 _ (yWs 28 115 hs 1 .grow) ?_
  refine so 1 (oW 28 115 (.agg (vl [I8 y6_0]++enc .u64 y6_1++vl [I8 y6_2,.bool y6_3]).toArray) (vl [I8 y6_0]++enc .u64 y6_1++vl [I8 y6_2,.bool y6_3]) hs 0 rfl (by simp [enc_len]) (by simp [enc_len]) (one_app (one_app (by simp [Value.oneCell']) (fun u hu=>enc_one _ _ u hu)) (by simp [Value.oneCell'])) fun w kp hs=>?_)
  refine fj j33 s32 (xret ?_)
  obtain ⟨rfl,rfl,rfl,rfl⟩:=os4 h
  exact qq _ _ (pr (rr [.cell 4 115] [.agg (vl [I8 y6_0]++enc .u64 y6_1++vl [I8 y6_2,.bool y6_3]).toArray] (.cons (rcN 28 hs 0 rfl (by simp [enc_len])) .nil)) ⟨cr,hs.none⟩)
theorem keccak_turned.ok {K:Nat}{a0_0:Int}{a0_1:Arr 25}{a0_2:Int}{a0_3:Bool}{r0_0:Int}{r0_1:Arr 25}{r0_2:Int}{r0_3:Bool}(h:keccak_turned.f K a0_0 a0_1 a0_2 a0_3=some (r0_0,r0_1,r0_2,r0_3)) (w0:World) (hg0:RowL CW w0 (some ⟨0,0,none⟩) 1 1 [tab_0]) (hg1:RowL CV w0 (some ⟨1,0,none⟩) 1 1 [tab_1]) (hg2:RowL CV w0 (some ⟨2,0,none⟩) 1 1 [tab_2]):Ret Tryd.prog 103 #[.agg (vl [I8 a0_0]++enc .u64 a0_1++vl [I8 a0_2,.bool a0_3]).toArray] w0 (.agg (vl [I8 r0_0]++enc .u64 r0_1++vl [I8 r0_2,.bool r0_3]).toArray):=by
 refine calls_k Tryd.func103 rfl fun Q qq=>?_
 have hs:=St.startR (all_cons (RowP.ent hg0) (all_cons (RowP.ent hg1) (all_cons (RowP.ent hg2) all_nil)))
 refine wc (a':=(fu 27 [.agg (vl [I8 a0_0]++enc .u64 a0_1++vl [I8 a0_2,.bool a0_3]).toArray])) ?_
 refine xs fun _ s1=>?_
 refine xn 2 fun _ j2=>?_
 refine so 0 (oB 1 115 (.agg (vl [I8 a0_0]++enc .u64 a0_1++vl [I8 a0_2,.bool a0_3]).toArray) hs (vl [I8 a0_0]++enc .u64 a0_1++vl [I8 a0_2,.bool a0_3]) fun b1 w gw hs=>?_)
 refine so 1 (oN 2 115 hs (vl [I8 0]++enc .u64 (zeroA 25)++vl [I8 0,.bool false]) (.agg (vl [I8 0]++enc .u64 (zeroA 25)++vl [I8 0,.bool false]).toArray) fun b2 w gw hs=>?_)
 refine fj j2 s1 (xs fun _ s3=>(xn 1 fun _ j4=>?_))
 refine qo 0 3 (U1 31) ?_
 refine fj j4 s3 (?_)
 obtain ⟨y3,hj,h⟩:=ob h
 refine xs fun _ s6=>wp_join (N:=fun a w=>St w0 [] [.blk b2 (vl [I8 0]++enc .u64 (zeroA 25)++vl [I8 0,.bool false]) 115,.blk b1 (vl [I8 a0_0]++enc .u64 a0_1++vl [I8 a0_2,.bool a0_3]) 115] [.rowL CW (some ⟨0,0,none⟩) 1 1 ([tab_0]),.rowL CV (some ⟨1,0,none⟩) 1 1 ([tab_1]),.rowL CV (some ⟨2,0,none⟩) 1 1 ([tab_2])] w∧∃ g5,a=fr g5 28 [(1,[P0 b1,P0 b2,U1 y3])]) (fun N nj=>?_) ?_
 clear h
 have h:=hj
 refine xs fun _ s7=>?_
 refine xn 8 fun _ j8=>?_
 refine qo 0 4 (P0 b1) ?_
 refine tkt 1 5 _ (yv hs 1 0 3 rfl (get_pre rfl) .grow) ?_
 obtain ⟨hc,h⟩|⟨hc,h⟩:=of_if h
 refine tb 2 6 (et hc) ?_
 refine nq 3 [(7,.bool true),(8,undef),(9,undef),(10,undef),(11,.bool true)] ?_
 refine fj j8 s7 (ct (xn 1 fun _ j9=>?_))
 refine qo 0 3 (U1 6) ?_
 refine fin (j9 _ _ ?_)
 obtain rfl:=of_some h
 exact nj _ _ ⟨(hs.conv rfl),eg⟩
 refine tb 2 6 (ef hc) ?_
 refine nq 3 [(7,.bool false),(8,P0 b1)] ?_
 refine tkt 5 9 _ (yv hs 1 0 3 rfl (get_pre rfl) .grow) ?_
 obtain ⟨hc,h⟩|⟨hc,h⟩:=of_if h
 refine tb 6 10 (et hc) ?_
 refine qo 7 11 (.bool true) ?_
 refine fj j8 s7 (ct (xn 1 fun _ j10=>?_))
 refine qo 0 3 (U1 6) ?_
 refine fin (j10 _ _ ?_)
 obtain rfl:=of_some h
 exact nj _ _ ⟨(hs.conv rfl),eg⟩
 refine tb 6 10 (ef hc) ?_
 refine qo 7 11 (.bool false) ?_
 refine fj j8 s7 (cf (xk ?_))
 obtain rfl:=of_some h
 exact nj _ _ ⟨(hs.conv rfl),eg⟩
 clear hj hs
 rintro a w ⟨hs,g5,rfl⟩
 refine T s6 (xs fun _ s11=>(xn 4 fun _ j12=>?_))
 refine qo 0 12 (.pointer (some ⟨b1,26,none⟩)) ?_
 refine tkt 1 13 _ (yv hs 1 26 3 rfl (get_post 0 rfl rfl) .grow) ?_
 refine qo 2 14 (U1 y3) ?_
 obtain ⟨⟨r4_0,r4_1,r4_2,r4_3⟩,hg,h⟩:=ob h
 refine wpS.only 3 (oX 15 hs 1 rfl (keccak_xor.ok hg _ (hs.blkAt 1 rfl)) ?_)
 intro w kp hs
 have hs:=hs.conv (L':=[.blk b2 (vl [I8 0]++enc .u64 (zeroA 25)++vl [I8 0,.bool false]) 115,.blk b1 (vl [I8 r4_0]++enc .u64 r4_1++vl [I8 r4_2,.bool r4_3]) 115]) rfl
 refine ⟨fun _=>trivial,?_⟩
 refine fj j12 s11 (xs fun _ s13=>(xn 5 fun _ j14=>?_))
 refine qo 0 16 (P0 b1) ?_
 refine tkt 1 17 _ (yv hs 1 0 3 rfl (get_pre rfl) .grow) ?_
 obtain ⟨r5,hg,h⟩:=ob h
 refine so 2 (oC 18 hs (keccak_rate.ok hg _) fun w gw hs=>?_)
 refine qo 3 19 (I8 (isub .i64 r5 1)) ?_
 obtain ⟨⟨r6_0,r6_1,r6_2,r6_3⟩,hg,h⟩:=ob h
 refine wpS.only 4 (oX 20 hs 1 rfl (keccak_xor.ok hg _ (hs.blkAt 1 rfl)) ?_)
 intro w kp hs
 have hs:=hs.conv (L':=[.blk b2 (vl [I8 0]++enc .u64 (zeroA 25)++vl [I8 0,.bool false]) 115,.blk b1 (vl [I8 r6_0]++enc .u64 r6_1++vl [I8 r6_2,.bool r6_3]) 115]) rfl
 refine ⟨fun _=>trivial,?_⟩
 refine fj j14 s13 (xs fun _ s15=>(xn 9 fun _ j16=>?_))
 refine qo 0 21 (.pointer (some ⟨b1,1,none⟩)) ?_
 refine tkt 1 22 (ag .u64 r6_1) (yN hs 1 1 25 113 rfl (mid_of rfl) (enc_len _ _) .grow) ?_
 obtain ⟨r7,hg,h⟩:=ob h
 refine so 2 (oC 23 hs (keccak_Permute.ok hg _ (rR 0 hs) (rR 1 hs) (rR 2 hs)) fun w gw hs=>?_)
 refine qo 3 24 (.pointer (some ⟨b1,1,none⟩)) ?_
 refine so 4 (oM 113 (ag .u64 r7) 1 25 (enc .u64 r7) hs 1 rfl (enc_len _ _) (by simp [enc_len]) (enc_one _ _) (splice_row rfl) fun w kp hs=>?_)
 refine qo 5 25 (.pointer (some ⟨b1,26,none⟩)) ?_
 refine wpS.only 6 (oQ 3 (I8 0) 26 hs 1 rfl rfl (by simp [enc_len]) (set_post 0 rfl) ?_)
 intro w kp hs
 try dsimp only [List.set] at hs
 refine ⟨fun _=>trivial,?_⟩
 refine qo 7 26 (.pointer (some ⟨b1,27,none⟩)) ?_
 refine wpS.only 8 (oQ 4 (.bool true) 27 hs 1 rfl rfl (by simp [enc_len]) (set_post 1 rfl) ?_)
 intro w kp hs
 try dsimp only [List.set] at hs
 refine ⟨fun _=>trivial,?_⟩
 refine fj j16 s15 (xs fun _ s17=>(xn 2 fun _ j18=>?_))
 refine tkt 0 27 _ (yWs 28 115 hs 1 .grow) ?_
 refine so 1 (oW 28 115 (.agg (vl [I8 r6_0]++enc .u64 r7++vl [I8 0,.bool true]).toArray) (vl [I8 r6_0]++enc .u64 r7++vl [I8 0,.bool true]) hs 0 rfl (by simp [enc_len]) (by simp [enc_len]) (one_app (one_app (by simp [Value.oneCell']) (fun u hu=>enc_one _ _ u hu)) (by simp [Value.oneCell'])) fun w kp hs=>?_)
 refine fj j18 s17 (xret ?_)
 obtain ⟨rfl,rfl,rfl,rfl⟩:=os4 h
 exact qq _ _ (pr (rr [.cell 2 115] [.agg (vl [I8 r6_0]++enc .u64 r7++vl [I8 0,.bool true]).toArray] (.cons (rcN 28 hs 0 rfl (by simp [enc_len])) .nil)) ⟨cr,hs.none⟩)
end Go.Proofs.YtemdbgmldljbpaaDoor
