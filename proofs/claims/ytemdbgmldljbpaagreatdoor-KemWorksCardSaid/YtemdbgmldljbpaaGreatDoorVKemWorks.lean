/- own -/
import Derived.Test.YtemdbgmldljbpaaGreatDoorMh
import Derived.Test.YtemdbgmldljbpaaGreatDoorProg
import Derived.Test.YtemdbgmldljbpaaGreatDoorLKemWorks
import Derived.Test.YtemdbgmldljbpaaGreatDoorBX1
import Derived.Test.YtemdbgmldljbpaaGreatDoorBX10
import Derived.Test.YtemdbgmldljbpaaGreatDoorBX13
import Derived.Test.YtemdbgmldljbpaaGreatDoorBX16
import Derived.Test.YtemdbgmldljbpaaGreatDoorBX15
import Derived.Test.YtemdbgmldljbpaaGreatDoorBX3
import Derived.Test.YtemdbgmldljbpaaGreatDoorBX5
import Derived.Test.YtemdbgmldljbpaaGreatDoorBX7
import Derived.Test.YtemdbgmldljbpaaGreatDoorBX9
set_option linter.unusedVariables false
set_option linter.unusedSimpArgs false
set_option maxRecDepth 100000
set_option maxHeartbeats 4000000
namespace Go.Proofs.YtemdbgmldljbpaaGreatDoor
open Go.Mx
attribute [local irreducible] wpOp
theorem law27_KemWorks.ok {K:Nat}{a0 a1_0 a1_1 a1_2 a1_3 a1_4:Int}{a2 a3 a4 a5:List Int}{r0:Bool}{a2_A:Option Addr}{a2_n a2_c:Nat}{a3_A:Option Addr}{a3_n a3_c:Nat}{a4_A:Option Addr}{a4_n a4_c:Nat}{a5_A:Option Addr}{a5_n a5_c:Nat}(h:law27_KemWorks.f K a0 a1_0 a1_1 a1_2 a1_3 a1_4 a2 a3 a4 a5=some r0) (w0:World) (hp2:RowL CB w0 a2_A a2_n a2_c a2) (hp3:RowL CB w0 a3_A a3_n a3_c a3) (hp4:RowL CB w0 a4_A a4_n a4_c a4) (hp5:RowL CB w0 a5_A a5_n a5_c a5) (hg0:RowL CW w0 (some ⟨0,0,none⟩) 1 1 [tab_0]) (hg1:RowL CV w0 (some ⟨1,0,none⟩) 1 1 [tab_1]) (hg2:RowL CV w0 (some ⟨2,0,none⟩) 1 1 [tab_2]):Ret Tryz.prog 4 #[U1 a0,.agg #[I8 a1_0,I8 a1_1,I8 a1_2,I8 a1_3,I8 a1_4],.slice a2_A a2_n a2_c,.slice a3_A a3_n a3_c,.slice a4_A a4_n a4_c,.slice a5_A a5_n a5_c] w0 (.bool r0):=by
 refine calls_k Tryz.func4 rfl fun Q qq=>?_
 have hs:=St.startR (all_cons (RowP.ent hp2) (all_cons (RowP.ent hp3) (all_cons (RowP.ent hp4) (all_cons (RowP.ent hp5) (all_cons (RowP.ent hg0) (all_cons (RowP.ent hg1) (all_cons (RowP.ent hg2) all_nil)))))))
 refine wc (a':=(fu 130 [U1 a0,.agg #[I8 a1_0,I8 a1_1,I8 a1_2,I8 a1_3,I8 a1_4],.slice a2_A a2_n a2_c,.slice a3_A a3_n a3_c,.slice a4_A a4_n a4_c,.slice a5_A a5_n a5_c])) (xs fun _ s1=>(xn 2 fun _ j2=>(so 0 (oBa 7 23 hs [I8 a1_0,I8 a1_1,I8 a1_2,I8 a1_3,I8 a1_4] fun b1 w gw hs=>(qo 1 12 (.bool false) ?_)))))
 refine fj j2 s1 (xs fun _ s3=>(xn 4 fun _ j4=>(qo 0 31 (U1 a0) (tkt 1 32 _ (yWs 5 23 hs 0 .grow) ?_))))
 obtain ⟨⟨r2_0,r2_1,r2_2,r2_3,r2_4⟩,hg,h⟩:=ob h
 refine so 2 (oC 33 hs (law27_kind.ok hg _) fun w gw hs=>?_)
 refine so 3 (oWa 23 [I8 r2_0,I8 r2_1,I8 r2_2,I8 r2_3,I8 r2_4] hs 0 fun w kp hs=>?_)
 refine fj j4 s3 (xs fun _ s5=>(xs fun _ s6=>(xn 11 fun _ j7=>(nq 0 [(34,.slice a2_A a2_n a2_c),(35,.slice a3_A a3_n a3_c),(36,.slice a5_A a5_n a5_c)] (so 3 (oLt (C:=CS) 37 57 24 3 (.slice none 0 0) #[(0,.slice a2_A a2_n a2_c),(1,.slice a3_A a3_n a3_c),(2,.slice a5_A a5_n a5_c)] ([(a2_A,a2_n,a2_c),(a3_A,a3_n,a3_c),(a5_A,a5_n,a5_c)]:List HS) hs rfl (by decide) (by decide) fun s3_A s3_n s3_c w gw hs=>?_))))))
 obtain ⟨r4,hg,h⟩:=ob h
 cases r4 with
 | true=>
  have h:=of_if_t h
  refine so 4 (oC 38 hs (law27_few.ok hg _ (LLP.mk (rL 0 hs) (inn_cons (rR 0 hs) (inn_cons (rR 1 hs) (inn_cons (rR 3 hs) inn_nil))))) fun w gw hs=>?_)
  refine nq 5 [(39,.bool false),(40,.bool false),(41,.slice a4_A a4_n a4_c)] (tkf 8 42 (I8 (a4.length:Int)) (yl (rR 2 hs)) ?_)
  obtain ⟨hc,h⟩|⟨hc,h⟩:=of_if h
  refine tb 9 43 (dt hc) ?_
  refine qo 10 44 (.bool true) (fj j7 s6 (ct (xs fun _ s8=>(xn 2 fun _ j9=>?_))))
  obtain ⟨r5,hg,h⟩:=ob h
  refine so 0 (oC 45 hs (law27_awake.ok hg _ (rR 4 hs) (rR 5 hs) (rR 6 hs)) fun w gw hs=>?_)
  refine qo 1 12 (.bool r5) (fj j9 s8 (xret (tr ?_)))
  obtain rfl:=of_some h
  exact qq _ _ (pt [12] [.bool r5] ⟨cr,hs.none⟩)
  refine tb 9 43 (df hc) (qo 10 44 (.bool false) (fj j7 s6 (cf (xk (T s5 (xs fun _ s10=>(xn 9 fun _ j11=>(tkt 0 47 _ (yWs 5 23 hs 1 .grow) ?_))))))))
  obtain ⟨⟨r6,r7,r8⟩,hg,h⟩:=ob h
  refine so 1 (oC 48 hs (kem_Sizes.ok hg _) fun w gw hs=>?_)
  refine nq 2 [(46,.tuple #[I8 r6,I8 r7,I8 r8]),(49,I8 r6),(50,I8 r7),(51,I8 r8),(13,I8 r6),(14,I8 r7),(15,I8 r8)] (fj j11 s10 (xs fun _ s12=>(xn 9 fun _ j13=>(tkt 0 53 _ (yWs 5 23 hs 1 .grow) ?_))))
  obtain ⟨⟨r9,r10,r11⟩,hg,h⟩:=ob h
  refine so 1 (oC 54 hs (ref27_Sizes.ok hg _) fun w gw hs=>?_)
  refine nq 2 [(52,.tuple #[I8 r9,I8 r10,I8 r11]),(55,I8 r9),(56,I8 r10),(57,I8 r11),(16,I8 r9),(17,I8 r10),(18,I8 r11)] (fj j13 s12 (xs fun _ s14=>(xn 11 fun _ j15=>(tkt 0 59 _ (yWs 5 23 hs 1 .grow) (nq 1 [(60,.slice a2_A a2_n a2_c),(61,.slice a3_A a3_n a3_c)] ?_)))))
  obtain ⟨⟨r12,r13,r14⟩,hg,h⟩:=ob h
  refine wpS.only 3 (oH 62 hs (kem_Keys.ok hg _ (rR 0 hs) (rR 1 hs) (rR 4 hs) (rR 5 hs) (rR 6 hs)) ?_)
  rintro ⟨⟨r12_A,r12_n,r12_c⟩,⟨r13_A,r13_n,r13_c⟩⟩ w gw hs
  have hs:=hs.conv (L':=[.ownL CB r12_A r12_n r12_c r12 5,.ownL CB r13_A r13_n r13_c r13 5,.ownL CS s3_A s3_n s3_c ([(a2_A,a2_n,a2_c),(a3_A,a3_n,a3_c),(a5_A,a5_n,a5_c)]:List HS) 24,.blk b1 ([I8 r2_0,I8 r2_1,I8 r2_2,I8 r2_3,I8 r2_4]) 23]) rfl
  refine ⟨fun _=>trivial,?_⟩
  refine nq 4 [(58,.tuple #[.slice r12_A r12_n r12_c,.slice r13_A r13_n r13_c,I8 r14]),(63,.slice r12_A r12_n r12_c),(64,.slice r13_A r13_n r13_c),(65,I8 r14),(19,.slice r12_A r12_n r12_c),(20,.slice r13_A r13_n r13_c),(21,I8 r14)] (fj j15 s14 (xs fun _ s16=>(xn 11 fun _ j17=>(tkt 0 67 _ (yWs 5 23 hs 3 .grow) (nq 1 [(68,.slice a2_A a2_n a2_c),(69,.slice a3_A a3_n a3_c)] ?_)))))
  obtain ⟨⟨r15,r16,r17⟩,hg,h⟩:=ob h
  refine wpS.only 3 (oH 70 hs (ref27_Keys.ok hg _ (rR 0 hs) (rR 1 hs)) ?_)
  rintro ⟨⟨r15_A,r15_n,r15_c⟩,⟨r16_A,r16_n,r16_c⟩⟩ w gw hs
  have hs:=hs.conv (L':=[.ownL CB r15_A r15_n r15_c r15 5,.ownL CB r16_A r16_n r16_c r16 5,.ownL CB r12_A r12_n r12_c r12 5,.ownL CB r13_A r13_n r13_c r13 5,.ownL CS s3_A s3_n s3_c ([(a2_A,a2_n,a2_c),(a3_A,a3_n,a3_c),(a5_A,a5_n,a5_c)]:List HS) 24,.blk b1 ([I8 r2_0,I8 r2_1,I8 r2_2,I8 r2_3,I8 r2_4]) 23]) rfl
  refine ⟨fun _=>trivial,?_⟩
  refine nq 4 [(66,.tuple #[.slice r15_A r15_n r15_c,.slice r16_A r16_n r16_c,I8 r17]),(71,.slice r15_A r15_n r15_c),(72,.slice r16_A r16_n r16_c),(73,I8 r17),(22,.slice r15_A r15_n r15_c),(23,.slice r16_A r16_n r16_c),(24,I8 r17)] (fj j17 s16 (xs fun _ s18=>(xn 11 fun _ j19=>(tkt 0 75 _ (yWs 5 23 hs 5 .grow) (nq 1 [(76,.slice a4_A a4_n a4_c),(77,.slice a5_A a5_n a5_c)] ?_)))))
  obtain ⟨⟨r18,r19,r20⟩,hg,h⟩:=ob h
  refine wpS.only 3 (oH 78 hs (kem_Seal.ok hg _ (rR 2 hs) (rR 3 hs) (rR 4 hs) (rR 5 hs) (rR 6 hs)) ?_)
  rintro ⟨⟨r18_A,r18_n,r18_c⟩,⟨r19_A,r19_n,r19_c⟩⟩ w gw hs
  have hs:=hs.conv (L':=[.rowL CB r18_A r18_n r18_c r18,.ownL CB r19_A r19_n r19_c r19 5,.ownL CB r15_A r15_n r15_c r15 5,.ownL CB r16_A r16_n r16_c r16 5,.ownL CB r12_A r12_n r12_c r12 5,.ownL CB r13_A r13_n r13_c r13 5,.ownL CS s3_A s3_n s3_c ([(a2_A,a2_n,a2_c),(a3_A,a3_n,a3_c),(a5_A,a5_n,a5_c)]:List HS) 24,.blk b1 ([I8 r2_0,I8 r2_1,I8 r2_2,I8 r2_3,I8 r2_4]) 23]) rfl
  have hs:=hs.toR 0 rfl
  refine ⟨fun _=>trivial,?_⟩
  refine nq 4 [(74,.tuple #[.slice r18_A r18_n r18_c,.slice r19_A r19_n r19_c,I8 r20]),(79,.slice r18_A r18_n r18_c),(80,.slice r19_A r19_n r19_c),(81,I8 r20),(25,.slice r18_A r18_n r18_c),(26,.slice r19_A r19_n r19_c),(27,I8 r20)] (fj j19 s18 (xs fun _ s20=>(xn 11 fun _ j21=>(tkt 0 83 _ (yWs 5 23 hs 6 .grow) (nq 1 [(84,.slice a4_A a4_n a4_c),(85,.slice a5_A a5_n a5_c)] ?_)))))
  obtain ⟨⟨r21,r22,r23⟩,hg,h⟩:=ob h
  refine wpS.only 3 (oH 86 hs (ref27_Seal.ok hg _ (rR 3 hs) (rR 4 hs)) ?_)
  rintro ⟨⟨r21_A,r21_n,r21_c⟩,⟨r22_A,r22_n,r22_c⟩⟩ w gw hs
  have hs:=hs.conv (L':=[.rowL CB r21_A r21_n r21_c r21,.ownL CB r22_A r22_n r22_c r22 5,.ownL CB r19_A r19_n r19_c r19 5,.ownL CB r15_A r15_n r15_c r15 5,.ownL CB r16_A r16_n r16_c r16 5,.ownL CB r12_A r12_n r12_c r12 5,.ownL CB r13_A r13_n r13_c r13 5,.ownL CS s3_A s3_n s3_c ([(a2_A,a2_n,a2_c),(a3_A,a3_n,a3_c),(a5_A,a5_n,a5_c)]:List HS) 24,.blk b1 ([I8 r2_0,I8 r2_1,I8 r2_2,I8 r2_3,I8 r2_4]) 23]) rfl
  have hs:=hs.toR 0 rfl
  refine ⟨fun _=>trivial,?_⟩
  refine nq 4 [(82,.tuple #[.slice r21_A r21_n r21_c,.slice r22_A r22_n r22_c,I8 r23]),(87,.slice r21_A r21_n r21_c),(88,.slice r22_A r22_n r22_c),(89,I8 r23),(28,.slice r21_A r21_n r21_c),(29,.slice r22_A r22_n r22_c),(30,I8 r23)] (fj j21 s20 (xs fun _ s22=>(xn 47 fun _ j23=>(nq 0 [(90,I8 r6),(91,I8 r9)] ?_))))
  obtain ⟨hc,h⟩|⟨hc,h⟩:=of_if h
  refine tb 2 92 (et hc) ?_
  refine nq 3 [(93,.bool true),(94,I8 r7),(95,I8 r10)] ?_
  obtain ⟨hc,h⟩|⟨hc,h⟩:=of_if h
  refine tb 6 96 (et hc) ?_
  refine nq 7 [(97,.bool true),(98,.bool true),(99,I8 r8),(100,I8 r11)] ?_
  obtain ⟨hc,h⟩|⟨hc,h⟩:=of_if h
  refine tb 11 101 (et hc) ?_
  refine nq 12 [(102,.bool true),(103,.bool true),(104,.slice r12_A r12_n r12_c),(105,.slice r15_A r15_n r15_c)] ?_
  obtain ⟨r24,hg,h⟩:=ob h
  cases r24 with
  | true=>
   have h:=of_if_t h
   refine so 16 (oC 106 hs (ref01_Same.ok hg _ (rL 4 hs) (rL 2 hs)) fun w gw hs=>?_)
   refine nq 17 [(107,.bool true),(108,.bool true),(109,.slice r13_A r13_n r13_c),(110,.slice r16_A r16_n r16_c)] ?_
   obtain ⟨r25,hg,h⟩:=ob h
   cases r25 with
   | true=>
    have h:=of_if_t h
    refine so 21 (oC 111 hs (ref01_Same.ok hg _ (rL 5 hs) (rL 3 hs)) fun w gw hs=>?_)
    refine nq 22 [(112,.bool true),(113,.bool true),(114,I8 r14),(115,I8 r17)] ?_
    obtain ⟨hc,h⟩|⟨hc,h⟩:=of_if h
    refine tb 26 116 (et hc) ?_
    refine nq 27 [(117,.bool true),(118,.bool true),(119,.slice r18_A r18_n r18_c),(120,.slice r21_A r21_n r21_c)] ?_
    obtain ⟨r26,hg,h⟩:=ob h
    cases r26 with
    | true=>
     have h:=of_if_t h
     refine so 31 (oC 121 hs (ref01_Same.ok hg _ (rR 1 hs) (rR 0 hs)) fun w gw hs=>?_)
     refine nq 32 [(122,.bool true),(123,.bool true),(124,.slice r19_A r19_n r19_c),(125,.slice r22_A r22_n r22_c)] ?_
     obtain ⟨r27,hg,h⟩:=ob h
     cases r27 with
     | true=>
      have h:=of_if_t h
      refine so 36 (oC 126 hs (ref01_Same.ok hg _ (rL 1 hs) (rL 0 hs)) fun w gw hs=>?_)
      refine nq 37 [(127,.bool true),(128,.bool true),(129,I8 r20),(130,I8 r23)] ?_
      obtain ⟨hc,h⟩|⟨hc,h⟩:=of_if h
      refine tb 41 131 (et hc) ?_
      refine nq 42 [(132,.bool true),(133,.bool true)] ?_
      obtain ⟨r28,hg,h⟩:=ob h
      refine so 44 (oC 134 hs (law27_awake.ok hg _ (rR 6 hs) (rR 7 hs) (rR 8 hs)) fun w gw hs=>?_)
      refine nq 45 [(135,.bool r28),(12,.bool r28)] (fj j23 s22 (xret ?_))
      obtain rfl:=of_some h
      exact qq _ _ (pt [12] [.bool r28] ⟨cr,hs.none⟩)
      refine tb 41 131 (ef hc) (nq 42 [(132,.bool false),(133,.bool false),(134,undef),(135,.bool false),(12,.bool false)] (fj j23 s22 (xret ?_)))
      obtain rfl:=of_some h
      exact qq _ _ (pt [12] [.bool false] ⟨cr,hs.none⟩)
     | false=>
      have h:=of_if_f h
      refine so 36 (oC 126 hs (ref01_Same.ok hg _ (rL 1 hs) (rL 0 hs)) fun w gw hs=>?_)
      refine nq 37 [(127,.bool false),(128,.bool false),(129,undef),(130,undef),(131,undef),(132,.bool false),(133,.bool false),(134,undef),(135,.bool false),(12,.bool false)] (fj j23 s22 (xret ?_))
      obtain rfl:=of_some h
      exact qq _ _ (pt [12] [.bool false] ⟨cr,hs.none⟩)
    | false=>
     have h:=of_if_f h
     refine so 31 (oC 121 hs (ref01_Same.ok hg _ (rR 1 hs) (rR 0 hs)) fun w gw hs=>?_)
     refine nq 32 [(122,.bool false),(123,.bool false),(124,undef),(125,undef),(126,undef),(127,.bool false),(128,.bool false),(129,undef),(130,undef),(131,undef),(132,.bool false),(133,.bool false),(134,undef),(135,.bool false),(12,.bool false)] (fj j23 s22 (xret ?_))
     obtain rfl:=of_some h
     exact qq _ _ (pt [12] [.bool false] ⟨cr,hs.none⟩)
    refine tb 26 116 (ef hc) (nq 27 [(117,.bool false),(118,.bool false),(119,undef),(120,undef),(121,undef),(122,.bool false),(123,.bool false),(124,undef),(125,undef),(126,undef),(127,.bool false),(128,.bool false),(129,undef),(130,undef),(131,undef),(132,.bool false),(133,.bool false),(134,undef),(135,.bool false),(12,.bool false)] (fj j23 s22 (xret ?_)))
    obtain rfl:=of_some h
    exact qq _ _ (pt [12] [.bool false] ⟨cr,hs.none⟩)
   | false=>
    have h:=of_if_f h
    refine so 21 (oC 111 hs (ref01_Same.ok hg _ (rL 5 hs) (rL 3 hs)) fun w gw hs=>?_)
    refine nq 22 [(112,.bool false),(113,.bool false),(114,undef),(115,undef),(116,undef),(117,.bool false),(118,.bool false),(119,undef),(120,undef),(121,undef),(122,.bool false),(123,.bool false),(124,undef),(125,undef),(126,undef),(127,.bool false),(128,.bool false),(129,undef),(130,undef),(131,undef),(132,.bool false),(133,.bool false),(134,undef),(135,.bool false),(12,.bool false)] (fj j23 s22 (xret ?_))
    obtain rfl:=of_some h
    exact qq _ _ (pt [12] [.bool false] ⟨cr,hs.none⟩)
  | false=>
   have h:=of_if_f h
   refine so 16 (oC 106 hs (ref01_Same.ok hg _ (rL 4 hs) (rL 2 hs)) fun w gw hs=>?_)
   refine nq 17 [(107,.bool false),(108,.bool false),(109,undef),(110,undef),(111,undef),(112,.bool false),(113,.bool false),(114,undef),(115,undef),(116,undef),(117,.bool false),(118,.bool false),(119,undef),(120,undef),(121,undef),(122,.bool false),(123,.bool false),(124,undef),(125,undef),(126,undef),(127,.bool false),(128,.bool false),(129,undef),(130,undef),(131,undef),(132,.bool false),(133,.bool false),(134,undef),(135,.bool false),(12,.bool false)] (fj j23 s22 (xret ?_))
   obtain rfl:=of_some h
   exact qq _ _ (pt [12] [.bool false] ⟨cr,hs.none⟩)
  refine tb 11 101 (ef hc) (nq 12 [(102,.bool false),(103,.bool false),(104,undef),(105,undef),(106,undef),(107,.bool false),(108,.bool false),(109,undef),(110,undef),(111,undef),(112,.bool false),(113,.bool false),(114,undef),(115,undef),(116,undef),(117,.bool false),(118,.bool false),(119,undef),(120,undef),(121,undef),(122,.bool false),(123,.bool false),(124,undef),(125,undef),(126,undef),(127,.bool false),(128,.bool false),(129,undef),(130,undef),(131,undef),(132,.bool false),(133,.bool false),(134,undef),(135,.bool false),(12,.bool false)] (fj j23 s22 (xret ?_)))
  obtain rfl:=of_some h
  exact qq _ _ (pt [12] [.bool false] ⟨cr,hs.none⟩)
  refine tb 6 96 (ef hc) (nq 7 [(97,.bool false),(98,.bool false),(99,undef),(100,undef),(101,undef),(102,.bool false),(103,.bool false),(104,undef),(105,undef),(106,undef),(107,.bool false),(108,.bool false),(109,undef),(110,undef),(111,undef),(112,.bool false),(113,.bool false),(114,undef),(115,undef),(116,undef),(117,.bool false),(118,.bool false),(119,undef),(120,undef),(121,undef),(122,.bool false),(123,.bool false),(124,undef),(125,undef),(126,undef),(127,.bool false),(128,.bool false),(129,undef),(130,undef),(131,undef),(132,.bool false),(133,.bool false),(134,undef),(135,.bool false),(12,.bool false)] (fj j23 s22 (xret ?_)))
  obtain rfl:=of_some h
  exact qq _ _ (pt [12] [.bool false] ⟨cr,hs.none⟩)
  refine tb 2 92 (ef hc) (nq 3 [(93,.bool false),(94,undef),(95,undef),(96,undef),(97,.bool false),(98,.bool false),(99,undef),(100,undef),(101,undef),(102,.bool false),(103,.bool false),(104,undef),(105,undef),(106,undef),(107,.bool false),(108,.bool false),(109,undef),(110,undef),(111,undef),(112,.bool false),(113,.bool false),(114,undef),(115,undef),(116,undef),(117,.bool false),(118,.bool false),(119,undef),(120,undef),(121,undef),(122,.bool false),(123,.bool false),(124,undef),(125,undef),(126,undef),(127,.bool false),(128,.bool false),(129,undef),(130,undef),(131,undef),(132,.bool false),(133,.bool false),(134,undef),(135,.bool false),(12,.bool false)] (fj j23 s22 (xret ?_)))
  obtain rfl:=of_some h
  exact qq _ _ (pt [12] [.bool false] ⟨cr,hs.none⟩)
 | false=>
  have h:=of_if_f h
  refine so 4 (oC 38 hs (law27_few.ok hg _ (LLP.mk (rL 0 hs) (inn_cons (rR 0 hs) (inn_cons (rR 1 hs) (inn_cons (rR 3 hs) inn_nil))))) fun w gw hs=>?_)
  refine nq 5 [(39,.bool true),(40,.bool true),(41,undef),(42,undef),(43,undef),(44,.bool true)] (fj j7 s6 (ct (xs fun _ s24=>(xn 2 fun _ j25=>?_))))
  obtain ⟨r29,hg,h⟩:=ob h
  refine so 0 (oC 45 hs (law27_awake.ok hg _ (rR 4 hs) (rR 5 hs) (rR 6 hs)) fun w gw hs=>?_)
  refine qo 1 12 (.bool r29) (fj j25 s24 (xret (tr ?_)))
  obtain rfl:=of_some h
  exact qq _ _ (pt [12] [.bool r29] ⟨cr,hs.none⟩)
end Go.Proofs.YtemdbgmldljbpaaGreatDoor
