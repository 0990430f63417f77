/- own -/
import Derived.Test.YtemdbgmldljbpaaDoorMh
import Derived.Test.YtemdbgmldljbpaaDoorProg
import Derived.Test.YtemdbgmldljbpaaDoorLKemShares
import Derived.Test.YtemdbgmldljbpaaDoorYX0
import Derived.Test.YtemdbgmldljbpaaDoorYX1
import Derived.Test.YtemdbgmldljbpaaDoorYX10
import Derived.Test.YtemdbgmldljbpaaDoorYX11
import Derived.Test.YtemdbgmldljbpaaDoorYX12
import Derived.Test.YtemdbgmldljbpaaDoorYX13
import Derived.Test.YtemdbgmldljbpaaDoorYX2
import Derived.Test.YtemdbgmldljbpaaDoorYX3
import Derived.Test.YtemdbgmldljbpaaDoorYX4
import Derived.Test.YtemdbgmldljbpaaDoorYX5
import Derived.Test.YtemdbgmldljbpaaDoorYX6
import Derived.Test.YtemdbgmldljbpaaDoorYX7
import Derived.Test.YtemdbgmldljbpaaDoorYX8
import Derived.Test.YtemdbgmldljbpaaDoorYX9
set_option linter.unusedVariables false
set_option linter.unusedSimpArgs false
set_option maxRecDepth 100000
set_option maxHeartbeats 4000000
namespace Go.Proofs.YtemdbgmldljbpaaDoor
open Go.Mx
attribute [local irreducible] wpOp
theorem law27_KemShares.ok {K:Nat}{a0:Int}{a1 a2 a3:Arr 32}{r0:Bool}(h:law27_KemShares.f K a0 a1 a2 a3=some r0) (w0:World) (hg0:RowL CW w0 (some ⟨0,0,none⟩) 1 1 [tab_0]) (hg1:RowL CV w0 (some ⟨1,0,none⟩) 1 1 [tab_1]) (hg2:RowL CV w0 (some ⟨2,0,none⟩) 1 1 [tab_2]):Ret Tryd.prog 7 #[U1 a0,ag .u8 a1,ag .u8 a2,ag .u8 a3] w0 (.bool r0):=by
 refine calls_k Tryd.func7 rfl fun Q qq=>?_
 have hs:=St.startR (all_cons (RowP.ent hg0) (all_cons (RowP.ent hg1) (all_cons (RowP.ent hg2) all_nil)))
 refine wc (a':=(fu 103 [U1 a0,ag .u8 a1,ag .u8 a2,ag .u8 a3])) ?_
 refine xs fun _ s1=>?_
 refine xn 4 fun _ j2=>?_
 refine so 0 (oBe 5 53 .u8 a1 hs fun b1 w gw hs=>?_)
 refine so 1 (oBe 6 53 .u8 a2 hs fun b2 w gw hs=>?_)
 refine so 2 (oBe 7 53 .u8 a3 hs fun b3 w gw hs=>?_)
 refine qo 3 8 (.bool false) ?_
 refine fj j2 s1 (xs fun _ s3=>(xn 6 fun _ j4=>?_))
 refine nq 0 [(23,U1 a0),(24,U1 (irem .u8 a0 3)),(25,.agg #[I8 0,I8 0,I8 0,I8 0,I8 0])] ?_
 obtain ⟨⟨r4_0,r4_1,r4_2,r4_3,r4_4⟩,hg,h⟩:=ob h
 refine so 3 (oC 26 hs (law27_kind.ok hg _) fun w gw hs=>?_)
 refine so 4 (oNa 9 23 hs [I8 0,I8 0,I8 0,I8 0,I8 0] fun b5 w gw hs=>?_)
 refine so 5 (oWa 23 [I8 r4_0,I8 r4_1,I8 r4_2,I8 r4_3,I8 r4_4] hs 0 fun w kp hs=>?_)
 refine fj j4 s3 (xs fun _ s5=>?_)
 refine rg [] (fun k=>True) 11 fun _ j6=>?_
 have hs:=hs.drawn1
 refine tgt 0 28 _ (yWs 5 23 hs 0 .grow) ?_
 refine tgf 1 29 (.slice (some ⟨b1,0+(0:Int).toNat*1,none⟩) ((32:Int).toNat-(0:Int).toNat) (32-(0:Int).toNat)) (ysA2 53 5 32 Option.none Option.none 0 32 (.inl ⟨rfl,rfl⟩) (.inl ⟨rfl,rfl⟩) (by decide) (by decide) (by decide) (by decide)) ?_
 refine tgf 2 30 (.slice (some ⟨b2,0+(0:Int).toNat*1,none⟩) ((32:Int).toNat-(0:Int).toNat) (32-(0:Int).toNat)) (ysA2 53 5 32 Option.none Option.none 0 32 (.inl ⟨rfl,rfl⟩) (.inl ⟨rfl,rfl⟩) (by decide) (by decide) (by decide) (by decide)) ?_
 obtain ⟨⟨r6,r7,r8⟩,hg,h⟩:=ob h
 refine wpG.only 3 (by kernel_rfl) (oH 31 hs (kem_Keys.ok hg _ (hs.rowB (lo:=0) (hi:=32) 3 rfl (by decide) (by decide) (by decide)) (hs.rowB (lo:=0) (hi:=32) 2 rfl (by decide) (by decide) (by decide)) (rR 0 hs) (rR 1 hs) (rR 2 hs)) ?_)
 rintro ⟨⟨r6_A,r6_n,r6_c⟩,⟨r7_A,r7_n,r7_c⟩⟩ w gw hs
 have hs:=hs.conv (L':=[.ownL CB r6_A r6_n r6_c r6 5,.ownL CB r7_A r7_n r7_c r7 5,.blk b5 ([I8 r4_0,I8 r4_1,I8 r4_2,I8 r4_3,I8 r4_4]) 23,.blk b3 (enc .u8 a3) 53,.blk b2 (enc .u8 a2) 53,.blk b1 (enc .u8 a1) 53]) rfl
 refine ⟨.of gw,?_⟩
 refine gq 4 27 (.tuple #[.slice r6_A r6_n r6_c,.slice r7_A r7_n r7_c,I8 r8]) ?_
 refine gq 5 32 (.slice r6_A r6_n r6_c) ?_
 refine gq 6 33 (.slice r7_A r7_n r7_c) ?_
 refine gq 7 34 (I8 r8) ?_
 refine gq 8 10 (.slice r6_A r6_n r6_c) ?_
 refine gq 9 11 (.slice r7_A r7_n r7_c) ?_
 refine gq 10 12 (I8 r8) ?_
 refine gf (j6 _ _ ?_)
 refine T s5 (xs fun _ s9=>(xs fun _ s10=>(xn 2 fun _ j11=>?_)))
 refine qo 0 35 (I8 r8) ?_
 obtain ⟨hc,h⟩|⟨hc,h⟩:=of_if h
 refine tb 1 36 (nf hc) ?_
 refine fj j11 s10 (cf (xk (T s9 (xs fun _ s12=>?_))))
 refine rg [] (fun k=>True) 11 fun _ j13=>?_
 have hs:=hs.drawn1
 refine tgt 0 51 _ (yWs 5 23 hs 2 .grow) ?_
 refine gq 1 52 (.slice r6_A r6_n r6_c) ?_
 refine tgf 2 53 (.slice (some ⟨b3,0+(0:Int).toNat*1,none⟩) ((32:Int).toNat-(0:Int).toNat) (32-(0:Int).toNat)) (ysA2 53 5 32 Option.none Option.none 0 32 (.inl ⟨rfl,rfl⟩) (.inl ⟨rfl,rfl⟩) (by decide) (by decide) (by decide) (by decide)) ?_
 obtain ⟨⟨r9,r10,r11⟩,hg,h⟩:=ob h
 refine wpG.only 3 (by kernel_rfl) (oH 54 hs (kem_Seal.ok hg _ (rL 0 hs) (hs.rowB (lo:=0) (hi:=32) 3 rfl (by decide) (by decide) (by decide)) (rR 0 hs) (rR 1 hs) (rR 2 hs)) ?_)
 rintro ⟨⟨r9_A,r9_n,r9_c⟩,⟨r10_A,r10_n,r10_c⟩⟩ w gw hs
 have hs:=hs.conv (L':=[.rowL CB r9_A r9_n r9_c r9,.ownL CB r10_A r10_n r10_c r10 5,.ownL CB r6_A r6_n r6_c r6 5,.ownL CB r7_A r7_n r7_c r7 5,.blk b5 ([I8 r4_0,I8 r4_1,I8 r4_2,I8 r4_3,I8 r4_4]) 23,.blk b3 (enc .u8 a3) 53,.blk b2 (enc .u8 a2) 53,.blk b1 (enc .u8 a1) 53]) rfl
 have hs:=hs.toR 0 rfl
 refine ⟨.of gw,?_⟩
 refine gq 4 50 (.tuple #[.slice r9_A r9_n r9_c,.slice r10_A r10_n r10_c,I8 r11]) ?_
 refine gq 5 55 (.slice r9_A r9_n r9_c) ?_
 refine gq 6 56 (.slice r10_A r10_n r10_c) ?_
 refine gq 7 57 (I8 r11) ?_
 refine gq 8 13 (.slice r9_A r9_n r9_c) ?_
 refine gq 9 14 (.slice r10_A r10_n r10_c) ?_
 refine gq 10 15 (I8 r11) ?_
 refine gf (j13 _ _ ?_)
 refine T s12 (xs fun _ s15=>(xn 9 fun _ j16=>?_))
 refine tkt 0 59 _ (yWs 5 23 hs 3 .grow) ?_
 refine nq 1 [(60,.slice r7_A r7_n r7_c),(61,.slice r10_A r10_n r10_c)] ?_
 obtain ⟨⟨r12,r13⟩,hg,h⟩:=ob h
 refine wpS.only 3 (oH 62 hs (kem_Open.ok hg _ (rL 2 hs) (rL 0 hs) (rR 1 hs) (rR 2 hs) (rR 3 hs)) ?_)
 rintro ⟨r12_A,r12_n,r12_c⟩ w gw hs
 have hs:=hs.conv (L':=[.rowL CB r12_A r12_n r12_c r12,.ownL CB r10_A r10_n r10_c r10 5,.ownL CB r6_A r6_n r6_c r6 5,.ownL CB r7_A r7_n r7_c r7 5,.blk b5 ([I8 r4_0,I8 r4_1,I8 r4_2,I8 r4_3,I8 r4_4]) 23,.blk b3 (enc .u8 a3) 53,.blk b2 (enc .u8 a2) 53,.blk b1 (enc .u8 a1) 53]) rfl
 have hs:=hs.toR 0 rfl
 refine ⟨fun _=>trivial,?_⟩
 refine nq 4 [(58,.tuple #[.slice r12_A r12_n r12_c,I8 r13]),(63,.slice r12_A r12_n r12_c),(64,I8 r13),(16,.slice r12_A r12_n r12_c),(17,I8 r13)] ?_
 refine fj j16 s15 (xs fun _ s17=>(xs fun _ s18=>(xn 16 fun _ j19=>?_)))
 refine qo 0 65 (I8 r11) ?_
 obtain ⟨hc,h⟩|⟨hc,h⟩:=of_if h
 refine tb 1 66 (nf hc) ?_
 refine nq 2 [(67,.bool false),(68,I8 r13)] ?_
 obtain ⟨hc,h⟩|⟨hc,h⟩:=of_if h
 refine tb 4 69 (nf hc) ?_
 refine nq 5 [(70,.bool false),(71,.bool false),(72,.slice r9_A r9_n r9_c)] ?_
 refine tkf 8 73 (I8 (r9.length:Int)) (yl (rR 1 hs)) ?_
 obtain ⟨hc,h⟩|⟨hc,h⟩:=of_if h
 refine tb 9 74 (nf hc) ?_
 refine nq 10 [(75,.bool false),(76,.bool false),(77,.slice r12_A r12_n r12_c)] ?_
 refine tkf 13 78 (I8 (r12.length:Int)) (yl (rR 0 hs)) ?_
 obtain ⟨hc,h⟩|⟨hc,h⟩:=of_if h
 refine tb 14 79 (nf hc) ?_
 refine qo 15 80 (.bool false) ?_
 refine fj j19 s18 (cf (xk (T s17 (xs fun _ s20=>(xs fun _ s21=>(xn 3 fun _ j22=>?_))))))
 refine nq 0 [(81,.slice r9_A r9_n r9_c),(82,.slice r12_A r12_n r12_c)] ?_
 obtain ⟨r14,hg,h⟩:=ob h
 cases r14 with
 | true=>
  have h:=of_if_t h
  refine so 2 (oC 83 hs (ref01_Same.ok hg _ (rR 1 hs) (rR 0 hs)) fun w gw hs=>?_)
  refine fj j22 s21 (ct (xs fun _ s23=>(xn 2 fun _ j24=>?_)))
  obtain ⟨r15,hg,h⟩:=ob h
  refine so 0 (oC 84 hs (law27_awake.ok hg _ (rR 2 hs) (rR 3 hs) (rR 4 hs)) fun w gw hs=>?_)
  refine qo 1 8 (.bool r15) ?_
  refine fj j24 s23 (xret (tr ?_))
  obtain rfl:=of_some h
  exact qq _ _ (pt [8] [.bool r15] ⟨cr,hs.none⟩)
 | false=>
  have h:=of_if_f h
  refine so 2 (oC 83 hs (ref01_Same.ok hg _ (rR 1 hs) (rR 0 hs)) fun w gw hs=>?_)
  refine fj j22 s21 (cf (xk (T s20 (xs fun _ s25=>(xn 9 fun _ j26=>?_)))))
  refine tkt 0 86 _ (yWs 5 23 hs 3 .grow) ?_
  obtain ⟨⟨r16,r17,r18⟩,hg,h⟩:=ob h
  refine so 1 (oC 87 hs (ref26_Sizes.ok hg _) fun w gw hs=>?_)
  refine nq 2 [(85,.tuple #[I8 r16,I8 r17,I8 r18]),(88,I8 r16),(89,I8 r17),(90,I8 r18),(18,I8 r16),(19,I8 r17),(20,I8 r18)] ?_
  refine fj j26 s25 (xs fun _ s27=>?_)
  refine rg [] (fun k=>True) 11 fun _ j28=>?_
  have hs:=hs.drawn1
  refine tgt 0 92 _ (yWs 5 23 hs 3 .grow) ?_
  refine gq 1 93 (.slice r7_A r7_n r7_c) ?_
  refine gq 2 94 (I8 r17) ?_
  obtain ⟨h0,h1,h⟩:=oc2 h
  refine tgf 3 95 (.slice r7_A (r17:Int).toNat r7_c) (yld_pre (C:=CB) (t:=24) (e:=5) (k:=.i64) (hi:=r17) (rL 2 hs) (by kernel_rfl) (by kernel_rfl) (by kernel_rfl) h0 h1) ?_
  have hs:=hs.preOwn 2 rfl h0 h1
  refine gq 4 96 (.slice r10_A r10_n r10_c) ?_
  obtain ⟨⟨r19,r20⟩,hg,h⟩:=ob h
  refine wpG.only 5 (by kernel_rfl) (oH 97 hs (ref26_Decrypt.ok hg _ (rL 2 hs) (rL 0 hs)) ?_)
  rintro ⟨r19_A,r19_n,r19_c⟩ w gw hs
  have hs:=hs.conv (L':=[.ownL CB r19_A r19_n r19_c r19 5,.ownL CB r10_A r10_n r10_c r10 5,.ownL CB r6_A r6_n r6_c r6 5,.ownL CB r7_A (r17:Int).toNat r7_c (r7.take (r17:Int).toNat) 5,.blk b5 ([I8 r4_0,I8 r4_1,I8 r4_2,I8 r4_3,I8 r4_4]) 23,.blk b3 (enc .u8 a3) 53,.blk b2 (enc .u8 a2) 53,.blk b1 (enc .u8 a1) 53]) rfl
  refine ⟨.of gw,?_⟩
  refine gq 6 91 (.tuple #[.slice r19_A r19_n r19_c,I8 r20]) ?_
  refine gq 7 98 (.slice r19_A r19_n r19_c) ?_
  refine gq 8 99 (I8 r20) ?_
  refine gq 9 21 (.slice r19_A r19_n r19_c) ?_
  refine gq 10 22 (I8 r20) ?_
  refine gf (j28 _ _ ?_)
  refine T s27 (xs fun _ s29=>(xn 8 fun _ j30=>?_))
  refine qo 0 100 (.slice r19_A r19_n r19_c) ?_
  refine tkf 1 101 (.slice (some ⟨b3,0+(0:Int).toNat*1,none⟩) ((32:Int).toNat-(0:Int).toNat) (32-(0:Int).toNat)) (ysA2 53 5 32 Option.none Option.none 0 32 (.inl ⟨rfl,rfl⟩) (.inl ⟨rfl,rfl⟩) (by decide) (by decide) (by decide) (by decide)) ?_
  obtain ⟨r21,hg,h⟩:=ob h
  cases r21 with
  | true=>
   have h:=of_if_t h
   refine so 2 (oC 102 hs (ref01_Same.ok hg _ (rL 0 hs) (hs.rowB (lo:=0) (hi:=32) 5 rfl (by decide) (by decide) (by decide))) fun w gw hs=>?_)
   refine nq 3 [(103,.bool false),(104,.bool false),(105,undef),(106,.bool false),(8,.bool false)] ?_
   refine fj j30 s29 (xret ?_)
   obtain rfl:=of_some h
   exact qq _ _ (pt [8] [.bool false] ⟨cr,hs.none⟩)
  | false=>
   have h:=of_if_f h
   refine so 2 (oC 102 hs (ref01_Same.ok hg _ (rL 0 hs) (hs.rowB (lo:=0) (hi:=32) 5 rfl (by decide) (by decide) (by decide))) fun w gw hs=>?_)
   refine nq 3 [(103,.bool true),(104,.bool true)] ?_
   obtain ⟨r22,hg,h⟩:=ob h
   refine so 5 (oC 105 hs (law27_awake.ok hg _ (rR 2 hs) (rR 3 hs) (rR 4 hs)) fun w gw hs=>?_)
   refine nq 6 [(106,.bool r22),(8,.bool r22)] ?_
   refine fj j30 s29 (xret ?_)
   obtain rfl:=of_some h
   exact qq _ _ (pt [8] [.bool r22] ⟨cr,hs.none⟩)
 refine tb 14 79 (nt hc) ?_
 refine qo 15 80 (.bool true) ?_
 refine fj j19 s18 (ct (xs fun _ s32=>(xn 1 fun _ j33=>?_)))
 refine qo 0 8 (.bool false) ?_
 refine fj j33 s32 (xret (tr ?_))
 obtain rfl:=of_some h
 exact qq _ _ (pt [8] [.bool false] ⟨cr,hs.none⟩)
 refine tb 9 74 (nt hc) ?_
 refine nq 10 [(75,.bool true),(76,.bool true),(77,undef),(78,undef),(79,undef),(80,.bool true)] ?_
 refine fj j19 s18 (ct (xs fun _ s34=>(xn 1 fun _ j35=>?_)))
 refine qo 0 8 (.bool false) ?_
 refine fj j35 s34 (xret (tr ?_))
 obtain rfl:=of_some h
 exact qq _ _ (pt [8] [.bool false] ⟨cr,hs.none⟩)
 refine tb 4 69 (nt hc) ?_
 refine nq 5 [(70,.bool true),(71,.bool true),(72,undef),(73,undef),(74,undef),(75,.bool true),(76,.bool true),(77,undef),(78,undef),(79,undef),(80,.bool true)] ?_
 refine fj j19 s18 (ct (xs fun _ s36=>(xn 1 fun _ j37=>?_)))
 refine qo 0 8 (.bool false) ?_
 refine fj j37 s36 (xret (tr ?_))
 obtain rfl:=of_some h
 exact qq _ _ (pt [8] [.bool false] ⟨cr,hs.none⟩)
 refine tb 1 66 (nt hc) ?_
 refine nq 2 [(67,.bool true),(68,undef),(69,undef),(70,.bool true),(71,.bool true),(72,undef),(73,undef),(74,undef),(75,.bool true),(76,.bool true),(77,undef),(78,undef),(79,undef),(80,.bool true)] ?_
 refine fj j19 s18 (ct (xs fun _ s38=>(xn 1 fun _ j39=>?_)))
 refine qo 0 8 (.bool false) ?_
 refine fj j39 s38 (xret (tr ?_))
 obtain rfl:=of_some h
 exact qq _ _ (pt [8] [.bool false] ⟨cr,hs.none⟩)
 refine tb 1 36 (nt hc) ?_
 refine fj j11 s10 (ct (xs fun _ s40=>(xn 14 fun _ j41=>?_)))
 refine qo 0 37 (I8 r8) ?_
 obtain ⟨hc,h⟩|⟨hc,h⟩:=of_if h
 refine tb 1 38 (et hc) ?_
 refine nq 2 [(39,.bool true),(40,.slice r6_A r6_n r6_c)] ?_
 refine tkf 4 41 (I8 (r6.length:Int)) (yl (rL 0 hs)) ?_
 refine qo 5 42 (.slice r7_A r7_n r7_c) ?_
 refine tkf 6 43 (I8 (r7.length:Int)) (yl (rL 1 hs)) ?_
 refine qo 7 44 (I8 (iadd .i64 (r6.length:Int) (r7.length:Int))) ?_
 obtain ⟨hc,h⟩|⟨hc,h⟩:=of_if h
 refine tb 8 45 (et hc) ?_
 refine nq 9 [(46,.bool true),(47,.bool true)] ?_
 obtain ⟨r23,hg,h⟩:=ob h
 refine so 11 (oC 48 hs (law27_awake.ok hg _ (rR 0 hs) (rR 1 hs) (rR 2 hs)) fun w gw hs=>?_)
 refine nq 12 [(49,.bool r23),(8,.bool r23)] ?_
 refine fj j41 s40 (xret (tr ?_))
 obtain rfl:=of_some h
 exact qq _ _ (pt [8] [.bool r23] ⟨cr,hs.none⟩)
 refine tb 8 45 (ef hc) ?_
 refine nq 9 [(46,.bool false),(47,.bool false),(48,undef),(49,.bool false),(8,.bool false)] ?_
 refine fj j41 s40 (xret (tr ?_))
 obtain rfl:=of_some h
 exact qq _ _ (pt [8] [.bool false] ⟨cr,hs.none⟩)
 refine tb 1 38 (ef hc) ?_
 refine nq 2 [(39,.bool false),(40,undef),(41,undef),(42,undef),(43,undef),(44,undef),(45,undef),(46,.bool false),(47,.bool false),(48,undef),(49,.bool false),(8,.bool false)] ?_
 refine fj j41 s40 (xret (tr ?_))
 obtain rfl:=of_some h
 exact qq _ _ (pt [8] [.bool false] ⟨cr,hs.none⟩)
end Go.Proofs.YtemdbgmldljbpaaDoor
