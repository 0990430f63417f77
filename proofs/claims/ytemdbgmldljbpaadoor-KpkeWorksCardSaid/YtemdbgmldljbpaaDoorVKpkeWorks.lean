/- own -/
import Derived.Test.YtemdbgmldljbpaaDoorMh
import Derived.Test.YtemdbgmldljbpaaDoorProg
import Derived.Test.YtemdbgmldljbpaaDoorLKpkeWorks
import Derived.Test.YtemdbgmldljbpaaDoorZX0
import Derived.Test.YtemdbgmldljbpaaDoorZX3
import Derived.Test.YtemdbgmldljbpaaDoorZX12
import Derived.Test.YtemdbgmldljbpaaDoorZX13
import Derived.Test.YtemdbgmldljbpaaDoorZX14
import Derived.Test.YtemdbgmldljbpaaDoorZX15
import Derived.Test.YtemdbgmldljbpaaDoorZX16
import Derived.Test.YtemdbgmldljbpaaDoorZX6
import Derived.Test.YtemdbgmldljbpaaDoorZX7
import Derived.Test.YtemdbgmldljbpaaDoorZX8
import Derived.Test.YtemdbgmldljbpaaDoorZX9
set_option linter.unusedVariables false
set_option linter.unusedSimpArgs false
set_option maxRecDepth 100000
set_option maxHeartbeats 4000000
namespace Go.Proofs.YtemdbgmldljbpaaDoor
open Go.Mx
attribute [local irreducible] wpOp
theorem law26_KpkeWorks.ok {K:Nat}{a0 a1_0 a1_1 a1_2 a1_3 a1_4:Int}{a2 a3 a4 a5 a6 a7:List Int}{r0:Bool}{a2_A:Option Addr}{a2_n a2_c:Nat}{a3_A:Option Addr}{a3_n a3_c:Nat}{a4_A:Option Addr}{a4_n a4_c:Nat}{a5_A:Option Addr}{a5_n a5_c:Nat}{a6_A:Option Addr}{a6_n a6_c:Nat}{a7_A:Option Addr}{a7_n a7_c:Nat}(h:law26_KpkeWorks.f K a0 a1_0 a1_1 a1_2 a1_3 a1_4 a2 a3 a4 a5 a6 a7=some r0) (w0:World) (hp2:RowL CB w0 a2_A a2_n a2_c a2) (hp3:RowL CB w0 a3_A a3_n a3_c a3) (hp4:RowL CB w0 a4_A a4_n a4_c a4) (hp5:RowL CB w0 a5_A a5_n a5_c a5) (hp6:RowL CB w0 a6_A a6_n a6_c a6) (hp7:RowL CB w0 a7_A a7_n a7_c a7) (hg0:RowL CW w0 (some ⟨0,0,none⟩) 1 1 [tab_0]) (hg1:RowL CV w0 (some ⟨1,0,none⟩) 1 1 [tab_1]) (hg2:RowL CV w0 (some ⟨2,0,none⟩) 1 1 [tab_2]):Ret Tryd.prog 4 #[U1 a0,.agg #[I8 a1_0,I8 a1_1,I8 a1_2,I8 a1_3,I8 a1_4],.slice a2_A a2_n a2_c,.slice a3_A a3_n a3_c,.slice a4_A a4_n a4_c,.slice a5_A a5_n a5_c,.slice a6_A a6_n a6_c,.slice a7_A a7_n a7_c] w0 (.bool r0):=by
 refine calls_k Tryd.func4 rfl fun Q qq=>?_
 have hs:=St.startR (all_cons (RowP.ent hp2) (all_cons (RowP.ent hp3) (all_cons (RowP.ent hp4) (all_cons (RowP.ent hp5) (all_cons (RowP.ent hp6) (all_cons (RowP.ent hp7) (all_cons (RowP.ent hg0) (all_cons (RowP.ent hg1) (all_cons (RowP.ent hg2) all_nil)))))))))
 refine wc (a':=(fu 124 [U1 a0,.agg #[I8 a1_0,I8 a1_1,I8 a1_2,I8 a1_3,I8 a1_4],.slice a2_A a2_n a2_c,.slice a3_A a3_n a3_c,.slice a4_A a4_n a4_c,.slice a5_A a5_n a5_c,.slice a6_A a6_n a6_c,.slice a7_A a7_n a7_c])) ?_
 refine xs fun _ s1=>?_
 refine xn 2 fun _ j2=>?_
 refine so 0 (oB 9 23 (.agg #[I8 a1_0,I8 a1_1,I8 a1_2,I8 a1_3,I8 a1_4]) hs ([I8 a1_0,I8 a1_1,I8 a1_2,I8 a1_3,I8 a1_4]) fun b1 w gw hs=>?_)
 refine qo 1 16 (.bool false) ?_
 refine fj j2 s1 (xs fun _ s3=>(xn 4 fun _ j4=>?_))
 refine qo 0 31 (U1 a0) ?_
 refine tkt 1 32 (.agg #[I8 a1_0,I8 a1_1,I8 a1_2,I8 a1_3,I8 a1_4]) (yW hs 0 5 23 rfl (by simp [enc_len]) .grow) ?_
 obtain ⟨⟨r2_0,r2_1,r2_2,r2_3,r2_4⟩,hg,h⟩:=ob h
 refine so 2 (oC 33 hs (law26_kind.ok hg _) fun w gw hs=>?_)
 refine so 3 (oWa 23 [I8 r2_0,I8 r2_1,I8 r2_2,I8 r2_3,I8 r2_4] hs 0 fun w kp hs=>?_)
 refine fj j4 s3 (xs fun _ s5=>(xs fun _ s6=>(xn 17 fun _ j7=>?_)))
 refine nq 0 [(34,.slice a2_A a2_n a2_c),(35,.slice a5_A a5_n a5_c),(36,.slice a6_A a6_n a6_c)] ?_
 refine so 3 (oLt (C:=CS) 37 59 24 3 (.slice none 0 0) #[(0,.slice a2_A a2_n a2_c),(1,.slice a5_A a5_n a5_c),(2,.slice a6_A a6_n a6_c)] ([(a2_A,a2_n,a2_c),(a5_A,a5_n,a5_c),(a6_A,a6_n,a6_c)]:List HS) hs rfl (by decide) (by decide) fun s3_A s3_n s3_c w gw hs=>?_)
 obtain ⟨r4,hg,h⟩:=ob h
 cases r4 with
 | true=>
  have h:=of_if_t h
  refine so 4 (oC 38 hs (law26_few.ok hg _ (LLP.mk (hs.rowL 0 rfl) (inn_cons (hs.rowR 0 rfl) (inn_cons (hs.rowR 3 rfl) (inn_cons (hs.rowR 4 rfl) inn_nil))))) fun w gw hs=>?_)
  refine nq 5 [(39,.bool false),(40,.bool false),(41,.slice a3_A a3_n a3_c)] ?_
  refine tkf 8 42 (I8 (a3.length:Int)) (yl (hs.rowR 1 rfl)) ?_
  refine qo 9 43 (.slice a4_A a4_n a4_c) ?_
  refine tkf 10 44 (I8 (a4.length:Int)) (yl (hs.rowR 2 rfl)) ?_
  refine nq 11 [(45,I8 (iadd .i64 (a3.length:Int) (a4.length:Int))),(46,.slice a7_A a7_n a7_c)] ?_
  refine tkf 13 47 (I8 (a7.length:Int)) (yl (hs.rowR 5 rfl)) ?_
  refine qo 14 48 (I8 (iadd .i64 (iadd .i64 (a3.length:Int) (a4.length:Int)) (a7.length:Int))) ?_
  obtain ⟨hc,h⟩|⟨hc,h⟩:=of_if h
  refine tb 15 49 (dt hc) ?_
  refine qo 16 50 (.bool true) ?_
  refine fj j7 s6 (ct (xs fun _ s8=>(xn 2 fun _ j9=>?_)))
  obtain ⟨r5,hg,h⟩:=ob h
  refine so 0 (oC 51 hs (law26_awake.ok hg _ (hs.rowR 6 rfl) (hs.rowR 7 rfl) (hs.rowR 8 rfl)) fun w gw hs=>?_)
  refine qo 1 16 (.bool r5) ?_
  refine fj j9 s8 (xret (tr ?_))
  obtain rfl:=of_some h
  exact qq _ _ (pt [16] [.bool r5] ⟨cr,hs.none⟩)
  refine tb 15 49 (df hc) ?_
  refine qo 16 50 (.bool false) ?_
  refine fj j7 s6 (cf (xk (T s5 (xs fun _ s10=>(xn 10 fun _ j11=>?_)))))
  refine tkt 0 53 (.agg #[I8 r2_0,I8 r2_1,I8 r2_2,I8 r2_3,I8 r2_4]) (yW hs 1 5 23 rfl (by simp [enc_len]) .grow) ?_
  refine qo 1 54 (.slice a2_A a2_n a2_c) ?_
  obtain ⟨⟨r6,r7,r8⟩,hg,h⟩:=ob h
  refine wpS.only 2 (oH 55 hs (kpke_Keys.ok hg _ (hs.rowR 0 rfl) (hs.rowR 6 rfl) (hs.rowR 7 rfl) (hs.rowR 8 rfl)) ?_)
  rintro ⟨⟨r6_A,r6_n,r6_c⟩,⟨r7_A,r7_n,r7_c⟩⟩ w gw hs
  have hs:=hs.conv (L':=[.ownL CB r6_A r6_n r6_c r6 5,.ownL CB r7_A r7_n r7_c r7 5,.ownL CS s3_A s3_n s3_c ([(a2_A,a2_n,a2_c),(a5_A,a5_n,a5_c),(a6_A,a6_n,a6_c)]:List HS) 24,.blk b1 ([I8 r2_0,I8 r2_1,I8 r2_2,I8 r2_3,I8 r2_4]) 23]) rfl
  refine ⟨fun _=>trivial,?_⟩
  refine nq 3 [(52,.tuple #[.slice r6_A r6_n r6_c,.slice r7_A r7_n r7_c,I8 r8]),(56,.slice r6_A r6_n r6_c),(57,.slice r7_A r7_n r7_c),(58,I8 r8),(17,.slice r6_A r6_n r6_c),(18,.slice r7_A r7_n r7_c),(19,I8 r8)] ?_
  refine fj j11 s10 (xs fun _ s12=>(xn 10 fun _ j13=>?_))
  refine tkt 0 60 (.agg #[I8 r2_0,I8 r2_1,I8 r2_2,I8 r2_3,I8 r2_4]) (yW hs 3 5 23 rfl (by simp [enc_len]) .grow) ?_
  refine qo 1 61 (.slice a2_A a2_n a2_c) ?_
  obtain ⟨⟨r9,r10,r11⟩,hg,h⟩:=ob h
  refine wpS.only 2 (oH 62 hs (ref26_Keys.ok hg _ (hs.rowR 0 rfl)) ?_)
  rintro ⟨⟨r9_A,r9_n,r9_c⟩,⟨r10_A,r10_n,r10_c⟩⟩ w gw hs
  have hs:=hs.conv (L':=[.ownL CB r9_A r9_n r9_c r9 5,.ownL CB r10_A r10_n r10_c r10 5,.ownL CB r6_A r6_n r6_c r6 5,.ownL CB r7_A r7_n r7_c r7 5,.ownL CS s3_A s3_n s3_c ([(a2_A,a2_n,a2_c),(a5_A,a5_n,a5_c),(a6_A,a6_n,a6_c)]:List HS) 24,.blk b1 ([I8 r2_0,I8 r2_1,I8 r2_2,I8 r2_3,I8 r2_4]) 23]) rfl
  refine ⟨fun _=>trivial,?_⟩
  refine nq 3 [(59,.tuple #[.slice r9_A r9_n r9_c,.slice r10_A r10_n r10_c,I8 r11]),(63,.slice r9_A r9_n r9_c),(64,.slice r10_A r10_n r10_c),(65,I8 r11),(20,.slice r9_A r9_n r9_c),(21,.slice r10_A r10_n r10_c),(22,I8 r11)] ?_
  refine fj j13 s12 (xs fun _ s14=>(xn 10 fun _ j15=>?_))
  refine tkt 0 67 (.agg #[I8 r2_0,I8 r2_1,I8 r2_2,I8 r2_3,I8 r2_4]) (yW hs 5 5 23 rfl (by simp [enc_len]) .grow) ?_
  refine nq 1 [(68,.slice a3_A a3_n a3_c),(69,.slice a5_A a5_n a5_c),(70,.slice a6_A a6_n a6_c)] ?_
  obtain ⟨⟨r12,r13⟩,hg,h⟩:=ob h
  refine wpS.only 4 (oH 71 hs (kpke_Encrypt.ok hg _ (hs.rowR 1 rfl) (hs.rowR 3 rfl) (hs.rowR 4 rfl) (hs.rowR 6 rfl) (hs.rowR 7 rfl) (hs.rowR 8 rfl)) ?_)
  rintro ⟨r12_A,r12_n,r12_c⟩ w gw hs
  have hs:=hs.conv (L':=[.ownL CB r12_A r12_n r12_c r12 5,.ownL CB r9_A r9_n r9_c r9 5,.ownL CB r10_A r10_n r10_c r10 5,.ownL CB r6_A r6_n r6_c r6 5,.ownL CB r7_A r7_n r7_c r7 5,.ownL CS s3_A s3_n s3_c ([(a2_A,a2_n,a2_c),(a5_A,a5_n,a5_c),(a6_A,a6_n,a6_c)]:List HS) 24,.blk b1 ([I8 r2_0,I8 r2_1,I8 r2_2,I8 r2_3,I8 r2_4]) 23]) rfl
  refine ⟨fun _=>trivial,?_⟩
  refine nq 5 [(66,.tuple #[.slice r12_A r12_n r12_c,I8 r13]),(72,.slice r12_A r12_n r12_c),(73,I8 r13),(23,.slice r12_A r12_n r12_c),(24,I8 r13)] ?_
  refine fj j15 s14 (xs fun _ s16=>(xn 10 fun _ j17=>?_))
  refine tkt 0 75 (.agg #[I8 r2_0,I8 r2_1,I8 r2_2,I8 r2_3,I8 r2_4]) (yW hs 6 5 23 rfl (by simp [enc_len]) .grow) ?_
  refine nq 1 [(76,.slice a3_A a3_n a3_c),(77,.slice a5_A a5_n a5_c),(78,.slice a6_A a6_n a6_c)] ?_
  obtain ⟨⟨r14,r15⟩,hg,h⟩:=ob h
  refine wpS.only 4 (oH 79 hs (ref26_Encrypt.ok hg _ (hs.rowR 1 rfl) (hs.rowR 3 rfl) (hs.rowR 4 rfl)) ?_)
  rintro ⟨r14_A,r14_n,r14_c⟩ w gw hs
  have hs:=hs.conv (L':=[.ownL CB r14_A r14_n r14_c r14 5,.ownL CB r12_A r12_n r12_c r12 5,.ownL CB r9_A r9_n r9_c r9 5,.ownL CB r10_A r10_n r10_c r10 5,.ownL CB r6_A r6_n r6_c r6 5,.ownL CB r7_A r7_n r7_c r7 5,.ownL CS s3_A s3_n s3_c ([(a2_A,a2_n,a2_c),(a5_A,a5_n,a5_c),(a6_A,a6_n,a6_c)]:List HS) 24,.blk b1 ([I8 r2_0,I8 r2_1,I8 r2_2,I8 r2_3,I8 r2_4]) 23]) rfl
  refine ⟨fun _=>trivial,?_⟩
  refine nq 5 [(74,.tuple #[.slice r14_A r14_n r14_c,I8 r15]),(80,.slice r14_A r14_n r14_c),(81,I8 r15),(25,.slice r14_A r14_n r14_c),(26,I8 r15)] ?_
  refine fj j17 s16 (xs fun _ s18=>(xn 9 fun _ j19=>?_))
  refine tkt 0 83 (.agg #[I8 r2_0,I8 r2_1,I8 r2_2,I8 r2_3,I8 r2_4]) (yW hs 7 5 23 rfl (by simp [enc_len]) .grow) ?_
  refine nq 1 [(84,.slice a4_A a4_n a4_c),(85,.slice a7_A a7_n a7_c)] ?_
  obtain ⟨⟨r16,r17⟩,hg,h⟩:=ob h
  refine wpS.only 3 (oH 86 hs (kpke_Decrypt.ok hg _ (hs.rowR 2 rfl) (hs.rowR 5 rfl)) ?_)
  rintro ⟨r16_A,r16_n,r16_c⟩ w gw hs
  have hs:=hs.conv (L':=[.ownL CB r16_A r16_n r16_c r16 5,.ownL CB r14_A r14_n r14_c r14 5,.ownL CB r12_A r12_n r12_c r12 5,.ownL CB r9_A r9_n r9_c r9 5,.ownL CB r10_A r10_n r10_c r10 5,.ownL CB r6_A r6_n r6_c r6 5,.ownL CB r7_A r7_n r7_c r7 5,.ownL CS s3_A s3_n s3_c ([(a2_A,a2_n,a2_c),(a5_A,a5_n,a5_c),(a6_A,a6_n,a6_c)]:List HS) 24,.blk b1 ([I8 r2_0,I8 r2_1,I8 r2_2,I8 r2_3,I8 r2_4]) 23]) rfl
  refine ⟨fun _=>trivial,?_⟩
  refine nq 4 [(82,.tuple #[.slice r16_A r16_n r16_c,I8 r17]),(87,.slice r16_A r16_n r16_c),(88,I8 r17),(27,.slice r16_A r16_n r16_c),(28,I8 r17)] ?_
  refine fj j19 s18 (xs fun _ s20=>(xn 9 fun _ j21=>?_))
  refine tkt 0 90 (.agg #[I8 r2_0,I8 r2_1,I8 r2_2,I8 r2_3,I8 r2_4]) (yW hs 8 5 23 rfl (by simp [enc_len]) .grow) ?_
  refine nq 1 [(91,.slice a4_A a4_n a4_c),(92,.slice a7_A a7_n a7_c)] ?_
  obtain ⟨⟨r18,r19⟩,hg,h⟩:=ob h
  refine wpS.only 3 (oH 93 hs (ref26_Decrypt.ok hg _ (hs.rowR 2 rfl) (hs.rowR 5 rfl)) ?_)
  rintro ⟨r18_A,r18_n,r18_c⟩ w gw hs
  have hs:=hs.conv (L':=[.ownL CB r18_A r18_n r18_c r18 5,.ownL CB r16_A r16_n r16_c r16 5,.ownL CB r14_A r14_n r14_c r14 5,.ownL CB r12_A r12_n r12_c r12 5,.ownL CB r9_A r9_n r9_c r9 5,.ownL CB r10_A r10_n r10_c r10 5,.ownL CB r6_A r6_n r6_c r6 5,.ownL CB r7_A r7_n r7_c r7 5,.ownL CS s3_A s3_n s3_c ([(a2_A,a2_n,a2_c),(a5_A,a5_n,a5_c),(a6_A,a6_n,a6_c)]:List HS) 24,.blk b1 ([I8 r2_0,I8 r2_1,I8 r2_2,I8 r2_3,I8 r2_4]) 23]) rfl
  refine ⟨fun _=>trivial,?_⟩
  refine nq 4 [(89,.tuple #[.slice r18_A r18_n r18_c,I8 r19]),(94,.slice r18_A r18_n r18_c),(95,I8 r19),(29,.slice r18_A r18_n r18_c),(30,I8 r19)] ?_
  refine fj j21 s20 (xs fun _ s22=>(xn 37 fun _ j23=>?_))
  refine nq 0 [(96,.slice r6_A r6_n r6_c),(97,.slice r9_A r9_n r9_c)] ?_
  obtain ⟨r20,hg,h⟩:=ob h
  cases r20 with
  | true=>
   have h:=of_if_t h
   refine so 2 (oC 98 hs (ref01_Same.ok hg _ (hs.rowL 6 rfl) (hs.rowL 4 rfl)) fun w gw hs=>?_)
   refine nq 3 [(99,.bool true),(100,.slice r7_A r7_n r7_c),(101,.slice r10_A r10_n r10_c)] ?_
   obtain ⟨r21,hg,h⟩:=ob h
   cases r21 with
   | true=>
    have h:=of_if_t h
    refine so 6 (oC 102 hs (ref01_Same.ok hg _ (hs.rowL 7 rfl) (hs.rowL 5 rfl)) fun w gw hs=>?_)
    refine nq 7 [(103,.bool true),(104,.bool true),(105,I8 r8),(106,I8 r11)] ?_
    obtain ⟨hc,h⟩|⟨hc,h⟩:=of_if h
    refine tb 11 107 (et hc) ?_
    refine nq 12 [(108,.bool true),(109,.bool true),(110,.slice r12_A r12_n r12_c),(111,.slice r14_A r14_n r14_c)] ?_
    obtain ⟨r22,hg,h⟩:=ob h
    cases r22 with
    | true=>
     have h:=of_if_t h
     refine so 16 (oC 112 hs (ref01_Same.ok hg _ (hs.rowL 3 rfl) (hs.rowL 2 rfl)) fun w gw hs=>?_)
     refine nq 17 [(113,.bool true),(114,.bool true),(115,I8 r13),(116,I8 r15)] ?_
     obtain ⟨hc,h⟩|⟨hc,h⟩:=of_if h
     refine tb 21 117 (et hc) ?_
     refine nq 22 [(118,.bool true),(119,.bool true),(120,.slice r16_A r16_n r16_c),(121,.slice r18_A r18_n r18_c)] ?_
     obtain ⟨r23,hg,h⟩:=ob h
     cases r23 with
     | true=>
      have h:=of_if_t h
      refine so 26 (oC 122 hs (ref01_Same.ok hg _ (hs.rowL 1 rfl) (hs.rowL 0 rfl)) fun w gw hs=>?_)
      refine nq 27 [(123,.bool true),(124,.bool true),(125,I8 r17),(126,I8 r19)] ?_
      obtain ⟨hc,h⟩|⟨hc,h⟩:=of_if h
      refine tb 31 127 (et hc) ?_
      refine nq 32 [(128,.bool true),(129,.bool true)] ?_
      obtain ⟨r24,hg,h⟩:=ob h
      refine so 34 (oC 130 hs (law26_awake.ok hg _ (hs.rowR 6 rfl) (hs.rowR 7 rfl) (hs.rowR 8 rfl)) fun w gw hs=>?_)
      refine nq 35 [(131,.bool r24),(16,.bool r24)] ?_
      refine fj j23 s22 (xret ?_)
      obtain rfl:=of_some h
      exact qq _ _ (pt [16] [.bool r24] ⟨cr,hs.none⟩)
      refine tb 31 127 (ef hc) ?_
      refine nq 32 [(128,.bool false),(129,.bool false),(130,undef),(131,.bool false),(16,.bool false)] ?_
      refine fj j23 s22 (xret ?_)
      obtain rfl:=of_some h
      exact qq _ _ (pt [16] [.bool false] ⟨cr,hs.none⟩)
     | false=>
      have h:=of_if_f h
      refine so 26 (oC 122 hs (ref01_Same.ok hg _ (hs.rowL 1 rfl) (hs.rowL 0 rfl)) fun w gw hs=>?_)
      refine nq 27 [(123,.bool false),(124,.bool false),(125,undef),(126,undef),(127,undef),(128,.bool false),(129,.bool false),(130,undef),(131,.bool false),(16,.bool false)] ?_
      refine fj j23 s22 (xret ?_)
      obtain rfl:=of_some h
      exact qq _ _ (pt [16] [.bool false] ⟨cr,hs.none⟩)
     refine tb 21 117 (ef hc) ?_
     refine nq 22 [(118,.bool false),(119,.bool false),(120,undef),(121,undef),(122,undef),(123,.bool false),(124,.bool false),(125,undef),(126,undef),(127,undef),(128,.bool false),(129,.bool false),(130,undef),(131,.bool false),(16,.bool false)] ?_
     refine fj j23 s22 (xret ?_)
     obtain rfl:=of_some h
     exact qq _ _ (pt [16] [.bool false] ⟨cr,hs.none⟩)
    | false=>
     have h:=of_if_f h
     refine so 16 (oC 112 hs (ref01_Same.ok hg _ (hs.rowL 3 rfl) (hs.rowL 2 rfl)) fun w gw hs=>?_)
     refine nq 17 [(113,.bool false),(114,.bool false),(115,undef),(116,undef),(117,undef),(118,.bool false),(119,.bool false),(120,undef),(121,undef),(122,undef),(123,.bool false),(124,.bool false),(125,undef),(126,undef),(127,undef),(128,.bool false),(129,.bool false),(130,undef),(131,.bool false),(16,.bool false)] ?_
     refine fj j23 s22 (xret ?_)
     obtain rfl:=of_some h
     exact qq _ _ (pt [16] [.bool false] ⟨cr,hs.none⟩)
    refine tb 11 107 (ef hc) ?_
    refine nq 12 [(108,.bool false),(109,.bool false),(110,undef),(111,undef),(112,undef),(113,.bool false),(114,.bool false),(115,undef),(116,undef),(117,undef),(118,.bool false),(119,.bool false),(120,undef),(121,undef),(122,undef),(123,.bool false),(124,.bool false),(125,undef),(126,undef),(127,undef),(128,.bool false),(129,.bool false),(130,undef),(131,.bool false),(16,.bool false)] ?_
    refine fj j23 s22 (xret ?_)
    obtain rfl:=of_some h
    exact qq _ _ (pt [16] [.bool false] ⟨cr,hs.none⟩)
   | false=>
    have h:=of_if_f h
    refine so 6 (oC 102 hs (ref01_Same.ok hg _ (hs.rowL 7 rfl) (hs.rowL 5 rfl)) fun w gw hs=>?_)
    refine nq 7 [(103,.bool false),(104,.bool false),(105,undef),(106,undef),(107,undef),(108,.bool false),(109,.bool false),(110,undef),(111,undef),(112,undef),(113,.bool false),(114,.bool false),(115,undef),(116,undef),(117,undef),(118,.bool false),(119,.bool false),(120,undef),(121,undef),(122,undef),(123,.bool false),(124,.bool false),(125,undef),(126,undef),(127,undef),(128,.bool false),(129,.bool false),(130,undef),(131,.bool false),(16,.bool false)] ?_
    refine fj j23 s22 (xret ?_)
    obtain rfl:=of_some h
    exact qq _ _ (pt [16] [.bool false] ⟨cr,hs.none⟩)
  | false=>
   have h:=of_if_f h
   refine so 2 (oC 98 hs (ref01_Same.ok hg _ (hs.rowL 6 rfl) (hs.rowL 4 rfl)) fun w gw hs=>?_)
   refine nq 3 [(99,.bool false),(100,undef),(101,undef),(102,undef),(103,.bool false),(104,.bool false),(105,undef),(106,undef),(107,undef),(108,.bool false),(109,.bool false),(110,undef),(111,undef),(112,undef),(113,.bool false),(114,.bool false),(115,undef),(116,undef),(117,undef),(118,.bool false),(119,.bool false),(120,undef),(121,undef),(122,undef),(123,.bool false),(124,.bool false),(125,undef),(126,undef),(127,undef),(128,.bool false),(129,.bool false),(130,undef),(131,.bool false),(16,.bool false)] ?_
   refine fj j23 s22 (xret ?_)
   obtain rfl:=of_some h
   exact qq _ _ (pt [16] [.bool false] ⟨cr,hs.none⟩)
 | false=>
  have h:=of_if_f h
  refine so 4 (oC 38 hs (law26_few.ok hg _ (LLP.mk (hs.rowL 0 rfl) (inn_cons (hs.rowR 0 rfl) (inn_cons (hs.rowR 3 rfl) (inn_cons (hs.rowR 4 rfl) inn_nil))))) fun w gw hs=>?_)
  refine nq 5 [(39,.bool true),(40,.bool true),(41,undef),(42,undef),(43,undef),(44,undef),(45,undef),(46,undef),(47,undef),(48,undef),(49,undef),(50,.bool true)] ?_
  refine fj j7 s6 (ct (xs fun _ s24=>(xn 2 fun _ j25=>?_)))
  obtain ⟨r25,hg,h⟩:=ob h
  refine so 0 (oC 51 hs (law26_awake.ok hg _ (hs.rowR 6 rfl) (hs.rowR 7 rfl) (hs.rowR 8 rfl)) fun w gw hs=>?_)
  refine qo 1 16 (.bool r25) ?_
  refine fj j25 s24 (xret (tr ?_))
  obtain rfl:=of_some h
  exact qq _ _ (pt [16] [.bool r25] ⟨cr,hs.none⟩)
end Go.Proofs.YtemdbgmldljbpaaDoor
