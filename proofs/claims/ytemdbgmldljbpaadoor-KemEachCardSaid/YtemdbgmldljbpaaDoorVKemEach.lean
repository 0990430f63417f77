/- own -/
import Derived.Test.YtemdbgmldljbpaaDoorMh
import Derived.Test.YtemdbgmldljbpaaDoorProg
import Derived.Test.YtemdbgmldljbpaaDoorLKemEach
import Derived.Test.YtemdbgmldljbpaaDoorYX0
import Derived.Test.YtemdbgmldljbpaaDoorYX1
import Derived.Test.YtemdbgmldljbpaaDoorYX2
import Derived.Test.YtemdbgmldljbpaaDoorYX3
import Derived.Test.YtemdbgmldljbpaaDoorYX4
import Derived.Test.YtemdbgmldljbpaaDoorYX5
import Derived.Test.YtemdbgmldljbpaaDoorYX6
import Derived.Test.YtemdbgmldljbpaaDoorYX7
import Derived.Test.YtemdbgmldljbpaaDoorYX8
import Derived.Test.YtemdbgmldljbpaaDoorYX9
set_option linter.unusedVariables false
set_option linter.unusedSimpArgs false
set_option maxRecDepth 100000
set_option maxHeartbeats 4000000
namespace Go.Proofs.YtemdbgmldljbpaaDoor
open Go.Mx
attribute [local irreducible] wpOp
theorem law27_KemEach.ok {K:Nat}{a0:Int}{a1 a2:Arr 32}{a3:List Int}{r0:Bool}{a3_A:Option Addr}{a3_n a3_c:Nat}(h:law27_KemEach.f K a0 a1 a2 a3=some r0) (w0:World) (hp3:RowL CB w0 a3_A a3_n a3_c a3) (hg0:RowL CW w0 (some ⟨0,0,none⟩) 1 1 [tab_0]) (hg1:RowL CV w0 (some ⟨1,0,none⟩) 1 1 [tab_1]) (hg2:RowL CV w0 (some ⟨2,0,none⟩) 1 1 [tab_2]):Ret Tryd.prog 6 #[U1 a0,ag .u8 a1,ag .u8 a2,.slice a3_A a3_n a3_c] w0 (.bool r0):=by
 refine calls_k Tryd.func6 rfl fun Q qq=>?_
 have hs:=St.startR (all_cons (RowP.ent hp3) (all_cons (RowP.ent hg0) (all_cons (RowP.ent hg1) (all_cons (RowP.ent hg2) all_nil))))
 refine wc (a':=(fu 100 [U1 a0,ag .u8 a1,ag .u8 a2,.slice a3_A a3_n a3_c])) ?_
 refine xs fun _ s1=>?_
 refine xn 3 fun _ j2=>?_
 refine so 0 (oBe 5 53 .u8 a1 hs fun b1 w gw hs=>?_)
 refine so 1 (oBe 6 53 .u8 a2 hs fun b2 w gw hs=>?_)
 refine qo 2 8 (.bool false) ?_
 refine fj j2 s1 (xs fun _ s3=>(xn 6 fun _ j4=>?_))
 refine nq 0 [(23,U1 a0),(24,U1 (irem .u8 a0 3)),(25,.agg #[I8 0,I8 0,I8 0,I8 0,I8 0])] ?_
 obtain ⟨⟨r3_0,r3_1,r3_2,r3_3,r3_4⟩,hg,h⟩:=ob h
 refine so 3 (oC 26 hs (law27_kind.ok hg _) fun w gw hs=>?_)
 refine so 4 (oNa 9 23 hs [I8 0,I8 0,I8 0,I8 0,I8 0] fun b4 w gw hs=>?_)
 refine so 5 (oWa 23 [I8 r3_0,I8 r3_1,I8 r3_2,I8 r3_3,I8 r3_4] hs 0 fun w kp hs=>?_)
 refine fj j4 s3 (xs fun _ s5=>(xs fun _ s6=>(xn 3 fun _ j7=>?_)))
 refine qo 0 27 (.slice a3_A a3_n a3_c) ?_
 refine tkf 1 28 (I8 (a3.length:Int)) (yl (rR 0 hs)) ?_
 obtain ⟨hc,h⟩|⟨hc,h⟩:=of_if h
 refine tb 2 29 (dt hc) ?_
 refine fj j7 s6 (ct (xs fun _ s8=>(xn 2 fun _ j9=>?_)))
 obtain ⟨r5,hg,h⟩:=ob h
 refine so 0 (oC 30 hs (law27_awake.ok hg _ (rR 1 hs) (rR 2 hs) (rR 3 hs)) fun w gw hs=>?_)
 refine qo 1 8 (.bool r5) ?_
 refine fj j9 s8 (xret (tr ?_))
 obtain rfl:=of_some h
 exact qq _ _ (pt [8] [.bool r5] ⟨cr,hs.none⟩)
 refine tb 2 29 (df hc) ?_
 refine fj j7 s6 (cf (xk (T s5 (xs fun _ s10=>?_))))
 refine rg [] (fun k=>True) 11 fun _ j11=>?_
 have hs:=hs.drawn1
 refine tgt 0 32 _ (yWs 5 23 hs 0 .grow) ?_
 refine tgf 1 33 (.slice (some ⟨b1,0+(0:Int).toNat*1,none⟩) ((32:Int).toNat-(0:Int).toNat) (32-(0:Int).toNat)) (ysA2 53 5 32 Option.none Option.none 0 32 (.inl ⟨rfl,rfl⟩) (.inl ⟨rfl,rfl⟩) (by decide) (by decide) (by decide) (by decide)) ?_
 refine tgf 2 34 (.slice (some ⟨b2,0+(0:Int).toNat*1,none⟩) ((32:Int).toNat-(0:Int).toNat) (32-(0:Int).toNat)) (ysA2 53 5 32 Option.none Option.none 0 32 (.inl ⟨rfl,rfl⟩) (.inl ⟨rfl,rfl⟩) (by decide) (by decide) (by decide) (by decide)) ?_
 obtain ⟨⟨r6,r7,r8⟩,hg,h⟩:=ob h
 refine wpG.only 3 (by kernel_rfl) (oH 35 hs (kem_Keys.ok hg _ (hs.rowB (lo:=0) (hi:=32) 2 rfl (by decide) (by decide) (by decide)) (hs.rowB (lo:=0) (hi:=32) 1 rfl (by decide) (by decide) (by decide)) (rR 1 hs) (rR 2 hs) (rR 3 hs)) ?_)
 rintro ⟨⟨r6_A,r6_n,r6_c⟩,⟨r7_A,r7_n,r7_c⟩⟩ w gw hs
 have hs:=hs.conv (L':=[.ownL CB r6_A r6_n r6_c r6 5,.ownL CB r7_A r7_n r7_c r7 5,.blk b4 ([I8 r3_0,I8 r3_1,I8 r3_2,I8 r3_3,I8 r3_4]) 23,.blk b2 (enc .u8 a2) 53,.blk b1 (enc .u8 a1) 53]) rfl
 refine ⟨.of gw,?_⟩
 refine gq 4 31 (.tuple #[.slice r6_A r6_n r6_c,.slice r7_A r7_n r7_c,I8 r8]) ?_
 refine gq 5 36 (.slice r6_A r6_n r6_c) ?_
 refine gq 6 37 (.slice r7_A r7_n r7_c) ?_
 refine gq 7 38 (I8 r8) ?_
 refine gq 8 10 (.slice r6_A r6_n r6_c) ?_
 refine gq 9 11 (.slice r7_A r7_n r7_c) ?_
 refine gq 10 12 (I8 r8) ?_
 refine gf (j11 _ _ ?_)
 refine T s10 (xs fun _ s14=>(xs fun _ s15=>(xn 2 fun _ j16=>?_)))
 refine qo 0 39 (I8 r8) ?_
 obtain ⟨hc,h⟩|⟨hc,h⟩:=of_if h
 refine tb 1 40 (nf hc) ?_
 refine fj j16 s15 (cf (xk (T s14 (xs fun _ s17=>(xn 9 fun _ j18=>?_)))))
 refine tkt 0 47 _ (yWs 5 23 hs 2 .grow) ?_
 obtain ⟨⟨r9,r10,r11⟩,hg,h⟩:=ob h
 refine so 1 (oC 48 hs (kem_Sizes.ok hg _) fun w gw hs=>?_)
 refine nq 2 [(46,.tuple #[I8 r9,I8 r10,I8 r11]),(49,I8 r9),(50,I8 r10),(51,I8 r11),(13,I8 r9),(14,I8 r10),(15,I8 r11)] ?_
 refine fj j18 s17 (xs fun _ s19=>(xs fun _ s20=>(xn 2 fun _ j21=>?_)))
 refine qo 0 52 (I8 r11) ?_
 obtain ⟨hc,h⟩|⟨hc,h⟩:=of_if h
 refine tb 1 53 (dt hc) ?_
 refine fj j21 s20 (ct (xs fun _ s22=>(xn 1 fun _ j23=>?_)))
 refine qo 0 8 (.bool false) ?_
 refine fj j23 s22 (xret (tr ?_))
 obtain rfl:=of_some h
 exact qq _ _ (pt [8] [.bool false] ⟨cr,hs.none⟩)
 refine tb 1 53 (df hc) ?_
 refine fj j21 s20 (cf (xk (T s19 (xs fun _ s24=>(xn 3 fun _ j25=>?_)))))
 refine qo 0 54 (I8 r11) ?_
 obtain ⟨h0,h1,h⟩:=oc2 h
 refine so 1 (oMk (C:=CB) 55 24 5 1 140737488355328 .i64 .i64 r11 hs h0 h1 (by decide) (by decide) fun s12_A s12_n s12_c w gw hs=>?_)
 refine qo 2 16 (.slice s12_A s12_n s12_c) ?_
 refine fj j25 s24 (xs fun _ s26=>(xn 3 fun _ j27=>?_))
 refine nq 0 [(56,.slice s12_A s12_n s12_c),(57,.slice a3_A a3_n a3_c)] ?_
 obtain ⟨hc_28,h⟩:=oc h
 refine so 2 (op_copyL (td:=24) (ts:=24) (ty:=3) (e:=5) (l:=(List.replicate (r11:Int).toNat (Cod.zero CB))) (m:=a3) (d:=(some 58)) (by kernel_rfl) hs 0 rfl (rR 0 hs) (by kernel_rfl) (by kernel_rfl) (by kernel_rfl) hc_28 fun w hs=>?_)
 refine fj j27 s26 (xs fun _ s29=>(xn 9 fun _ j30=>?_))
 refine tkt 0 60 _ (yWs 5 23 hs 3 .grow) ?_
 refine nq 1 [(61,.slice r7_A r7_n r7_c),(62,.slice s12_A s12_n s12_c)] ?_
 obtain ⟨⟨r13,r14⟩,hg,h⟩:=ob h
 refine wpS.only 3 (oH 63 hs (kem_Open.ok hg _ (rL 2 hs) (rL 0 hs) (rR 1 hs) (rR 2 hs) (rR 3 hs)) ?_)
 rintro ⟨r13_A,r13_n,r13_c⟩ w gw hs
 have hs:=hs.conv (L':=[.rowL CB r13_A r13_n r13_c r13,.ownL CB s12_A s12_n s12_c (cpL (List.replicate (r11:Int).toNat (Cod.zero CB)) a3) 5,.ownL CB r6_A r6_n r6_c r6 5,.ownL CB r7_A r7_n r7_c r7 5,.blk b4 ([I8 r3_0,I8 r3_1,I8 r3_2,I8 r3_3,I8 r3_4]) 23,.blk b2 (enc .u8 a2) 53,.blk b1 (enc .u8 a1) 53]) rfl
 have hs:=hs.toR 0 rfl
 refine ⟨fun _=>trivial,?_⟩
 refine nq 4 [(59,.tuple #[.slice r13_A r13_n r13_c,I8 r14]),(64,.slice r13_A r13_n r13_c),(65,I8 r14),(17,.slice r13_A r13_n r13_c),(18,I8 r14)] ?_
 refine fj j30 s29 (xs fun _ s31=>(xn 9 fun _ j32=>?_))
 refine tkt 0 67 _ (yWs 5 23 hs 3 .grow) ?_
 refine nq 1 [(68,.slice r7_A r7_n r7_c),(69,.slice s12_A s12_n s12_c)] ?_
 obtain ⟨⟨r15,r16⟩,hg,h⟩:=ob h
 refine wpS.only 3 (oH 70 hs (kem_Open.ok hg _ (rL 2 hs) (rL 0 hs) (rR 2 hs) (rR 3 hs) (rR 4 hs)) ?_)
 rintro ⟨r15_A,r15_n,r15_c⟩ w gw hs
 have hs:=hs.conv (L':=[.rowL CB r15_A r15_n r15_c r15,.ownL CB s12_A s12_n s12_c (cpL (List.replicate (r11:Int).toNat (Cod.zero CB)) a3) 5,.ownL CB r6_A r6_n r6_c r6 5,.ownL CB r7_A r7_n r7_c r7 5,.blk b4 ([I8 r3_0,I8 r3_1,I8 r3_2,I8 r3_3,I8 r3_4]) 23,.blk b2 (enc .u8 a2) 53,.blk b1 (enc .u8 a1) 53]) rfl
 have hs:=hs.toR 0 rfl
 refine ⟨fun _=>trivial,?_⟩
 refine nq 4 [(66,.tuple #[.slice r15_A r15_n r15_c,I8 r16]),(71,.slice r15_A r15_n r15_c),(72,I8 r16),(19,.slice r15_A r15_n r15_c),(20,I8 r16)] ?_
 refine fj j32 s31 (xs fun _ s33=>?_)
 refine rg [] (fun k=>True) 10 fun _ j34=>?_
 have hs:=hs.drawn1
 refine tgt 0 74 _ (yWs 5 23 hs 3 .grow) ?_
 refine gq 1 75 (.slice r7_A r7_n r7_c) ?_
 refine gq 2 76 (.slice s12_A s12_n s12_c) ?_
 have hs:=hs.freeze 0 rfl
 obtain ⟨h0,h1,h⟩:=oc2 h
 obtain ⟨h2,h⟩:=oc h
 obtain ⟨s17_A,hA⟩ : ∃ A,A=if s12_c=(1:Int).toNat then s12_A else adr s12_A ((1:Int).toNat*Cod.size CB):=⟨_,rfl⟩
 obtain ⟨s17_n,hn⟩ : ∃ n,n=(((cpL (List.replicate (r11:Int).toNat (Cod.zero CB)) a3).length:Int):Int).toNat-(1:Int).toNat:=⟨_,rfl⟩
 obtain ⟨s17_c,hc⟩ : ∃ c,c=s12_c-(1:Int).toNat:=⟨_,rfl⟩
 refine tgf 3 77 (.slice s17_A s17_n s17_c) (ysb (C:=CB) 24 5 (some (I8 1)) none 1 ((cpL (List.replicate (r11:Int).toNat (Cod.zero CB)) a3).length:Int) (rR 0 hs) (.inr ⟨_,rfl⟩) (.inl ⟨rfl,rfl⟩) h0 h1 h2 hA hn hc) ?_
 have hs:=hs.addSub (C:=CB) 0 rfl h0 h1 h2 hA hn hc
 obtain ⟨⟨r18,r19⟩,hg,h⟩:=ob h
 refine wpG.only 4 (by kernel_rfl) (oH 78 hs (kem_Open.ok hg _ (rL 1 hs) (rR 0 hs) (rR 5 hs) (rR 6 hs) (rR 7 hs)) ?_)
 rintro ⟨r18_A,r18_n,r18_c⟩ w gw hs
 have hs:=hs.conv (L':=[.rowL CB r18_A r18_n r18_c r18,.ownL CB r6_A r6_n r6_c r6 5,.ownL CB r7_A r7_n r7_c r7 5,.blk b4 ([I8 r3_0,I8 r3_1,I8 r3_2,I8 r3_3,I8 r3_4]) 23,.blk b2 (enc .u8 a2) 53,.blk b1 (enc .u8 a1) 53]) rfl
 have hs:=hs.toR 0 rfl
 refine ⟨.of gw,?_⟩
 refine gq 5 73 (.tuple #[.slice r18_A r18_n r18_c,I8 r19]) ?_
 refine gq 6 79 (.slice r18_A r18_n r18_c) ?_
 refine gq 7 80 (I8 r19) ?_
 refine gq 8 21 (.slice r18_A r18_n r18_c) ?_
 refine gq 9 22 (I8 r19) ?_
 refine gf (j34 _ _ ?_)
 refine T s33 (xs fun _ s35=>(xn 24 fun _ j36=>?_))
 refine qo 0 81 (I8 r14) ?_
 obtain ⟨hc,h⟩|⟨hc,h⟩:=of_if h
 refine tb 1 82 (et hc) ?_
 refine nq 2 [(83,.bool true),(84,I8 r16)] ?_
 obtain ⟨hc,h⟩|⟨hc,h⟩:=of_if h
 refine tb 4 85 (et hc) ?_
 refine nq 5 [(86,.bool true),(87,.bool true),(88,.slice r13_A r13_n r13_c)] ?_
 refine tkf 8 89 (I8 (r13.length:Int)) (yl (rR 4 hs)) ?_
 obtain ⟨hc,h⟩|⟨hc,h⟩:=of_if h
 refine tb 9 90 (et hc) ?_
 refine nq 10 [(91,.bool true),(92,.bool true),(93,.slice r13_A r13_n r13_c),(94,.slice r15_A r15_n r15_c)] ?_
 obtain ⟨r20,hg,h⟩:=ob h
 cases r20 with
 | true=>
  have h:=of_if_t h
  refine so 14 (oC 95 hs (ref01_Same.ok hg _ (rR 4 hs) (rR 3 hs)) fun w gw hs=>?_)
  refine nq 15 [(96,.bool true),(97,.bool true),(98,I8 r19)] ?_
  obtain ⟨hc,h⟩|⟨hc,h⟩:=of_if h
  refine tb 18 99 (et hc) ?_
  refine nq 19 [(100,.bool true),(101,.bool true)] ?_
  obtain ⟨r21,hg,h⟩:=ob h
  refine so 21 (oC 102 hs (law27_awake.ok hg _ (rR 6 hs) (rR 7 hs) (rR 8 hs)) fun w gw hs=>?_)
  refine nq 22 [(103,.bool r21),(8,.bool r21)] ?_
  refine fj j36 s35 (xret ?_)
  obtain rfl:=of_some h
  exact qq _ _ (pt [8] [.bool r21] ⟨cr,hs.none⟩)
  refine tb 18 99 (ef hc) ?_
  refine nq 19 [(100,.bool false),(101,.bool false),(102,undef),(103,.bool false),(8,.bool false)] ?_
  refine fj j36 s35 (xret ?_)
  obtain rfl:=of_some h
  exact qq _ _ (pt [8] [.bool false] ⟨cr,hs.none⟩)
 | false=>
  have h:=of_if_f h
  refine so 14 (oC 95 hs (ref01_Same.ok hg _ (rR 4 hs) (rR 3 hs)) fun w gw hs=>?_)
  refine nq 15 [(96,.bool false),(97,.bool false),(98,undef),(99,undef),(100,.bool false),(101,.bool false),(102,undef),(103,.bool false),(8,.bool false)] ?_
  refine fj j36 s35 (xret ?_)
  obtain rfl:=of_some h
  exact qq _ _ (pt [8] [.bool false] ⟨cr,hs.none⟩)
 refine tb 9 90 (ef hc) ?_
 refine nq 10 [(91,.bool false),(92,.bool false),(93,undef),(94,undef),(95,undef),(96,.bool false),(97,.bool false),(98,undef),(99,undef),(100,.bool false),(101,.bool false),(102,undef),(103,.bool false),(8,.bool false)] ?_
 refine fj j36 s35 (xret ?_)
 obtain rfl:=of_some h
 exact qq _ _ (pt [8] [.bool false] ⟨cr,hs.none⟩)
 refine tb 4 85 (ef hc) ?_
 refine nq 5 [(86,.bool false),(87,.bool false),(88,undef),(89,undef),(90,undef),(91,.bool false),(92,.bool false),(93,undef),(94,undef),(95,undef),(96,.bool false),(97,.bool false),(98,undef),(99,undef),(100,.bool false),(101,.bool false),(102,undef),(103,.bool false),(8,.bool false)] ?_
 refine fj j36 s35 (xret ?_)
 obtain rfl:=of_some h
 exact qq _ _ (pt [8] [.bool false] ⟨cr,hs.none⟩)
 refine tb 1 82 (ef hc) ?_
 refine nq 2 [(83,.bool false),(84,undef),(85,undef),(86,.bool false),(87,.bool false),(88,undef),(89,undef),(90,undef),(91,.bool false),(92,.bool false),(93,undef),(94,undef),(95,undef),(96,.bool false),(97,.bool false),(98,undef),(99,undef),(100,.bool false),(101,.bool false),(102,undef),(103,.bool false),(8,.bool false)] ?_
 refine fj j36 s35 (xret ?_)
 obtain rfl:=of_some h
 exact qq _ _ (pt [8] [.bool false] ⟨cr,hs.none⟩)
 refine tb 1 40 (nt hc) ?_
 refine fj j16 s15 (ct (xs fun _ s37=>(xn 6 fun _ j38=>?_)))
 refine qo 0 41 (I8 r8) ?_
 obtain ⟨hc,h⟩|⟨hc,h⟩:=of_if h
 refine tb 1 42 (et hc) ?_
 refine qo 2 43 (.bool true) ?_
 obtain ⟨r22,hg,h⟩:=ob h
 refine so 3 (oC 44 hs (law27_awake.ok hg _ (rR 1 hs) (rR 2 hs) (rR 3 hs)) fun w gw hs=>?_)
 refine nq 4 [(45,.bool r22),(8,.bool r22)] ?_
 refine fj j38 s37 (xret (tr ?_))
 obtain rfl:=of_some h
 exact qq _ _ (pt [8] [.bool r22] ⟨cr,hs.none⟩)
 refine tb 1 42 (ef hc) ?_
 refine nq 2 [(43,.bool false),(44,undef),(45,.bool false),(8,.bool false)] ?_
 refine fj j38 s37 (xret (tr ?_))
 obtain rfl:=of_some h
 exact qq _ _ (pt [8] [.bool false] ⟨cr,hs.none⟩)
end Go.Proofs.YtemdbgmldljbpaaDoor
