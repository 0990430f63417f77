/- own -/
import Derived.Test.YtemdbgmldljbpaaGreatDoorMh
import Derived.Test.YtemdbgmldljbpaaGreatDoorProg
import Derived.Test.YtemdbgmldljbpaaGreatDoorLKemOpens
import Derived.Test.YtemdbgmldljbpaaGreatDoorBX1
import Derived.Test.YtemdbgmldljbpaaGreatDoorBX12
import Derived.Test.YtemdbgmldljbpaaGreatDoorBX14
import Derived.Test.YtemdbgmldljbpaaGreatDoorBX17
import Derived.Test.YtemdbgmldljbpaaGreatDoorBX18
import Derived.Test.YtemdbgmldljbpaaGreatDoorBX3
import Derived.Test.YtemdbgmldljbpaaGreatDoorBX5
import Derived.Test.YtemdbgmldljbpaaGreatDoorBX7
import Derived.Test.YtemdbgmldljbpaaGreatDoorBX9
set_option linter.unusedVariables false
set_option linter.unusedSimpArgs false
set_option maxRecDepth 100000
set_option maxHeartbeats 4000000
namespace Go.Proofs.YtemdbgmldljbpaaGreatDoor
open Go.Mx
attribute [local irreducible] wpOp
theorem law27_KemOpens.ok {K:Nat}{a0 a1_0 a1_1 a1_2 a1_3 a1_4:Int}{a2 a3:List Int}{r0:Bool}{a2_A:Option Addr}{a2_n a2_c:Nat}{a3_A:Option Addr}{a3_n a3_c:Nat}(h:law27_KemOpens.f K a0 a1_0 a1_1 a1_2 a1_3 a1_4 a2 a3=some r0) (w0:World) (hp2:RowL CB w0 a2_A a2_n a2_c a2) (hp3:RowL CB w0 a3_A a3_n a3_c a3) (hg0:RowL CW w0 (some ⟨0,0,none⟩) 1 1 [tab_0]) (hg1:RowL CV w0 (some ⟨1,0,none⟩) 1 1 [tab_1]) (hg2:RowL CV w0 (some ⟨2,0,none⟩) 1 1 [tab_2]):Ret Tryz.prog 3 #[U1 a0,.agg #[I8 a1_0,I8 a1_1,I8 a1_2,I8 a1_3,I8 a1_4],.slice a2_A a2_n a2_c,.slice a3_A a3_n a3_c] w0 (.bool r0):=by
 refine calls_k Tryz.func3 rfl fun Q qq=>?_
 have hs:=St.startR (all_cons (RowP.ent hp2) (all_cons (RowP.ent hp3) (all_cons (RowP.ent hg0) (all_cons (RowP.ent hg1) (all_cons (RowP.ent hg2) all_nil)))))
 refine wc (a':=(fu 44 [U1 a0,.agg #[I8 a1_0,I8 a1_1,I8 a1_2,I8 a1_3,I8 a1_4],.slice a2_A a2_n a2_c,.slice a3_A a3_n a3_c])) (xs fun _ s1=>(xn 2 fun _ j2=>(so 0 (oBa 5 23 hs [I8 a1_0,I8 a1_1,I8 a1_2,I8 a1_3,I8 a1_4] fun b1 w gw hs=>(qo 1 8 (.bool false) ?_)))))
 refine fj j2 s1 (xs fun _ s3=>(xn 4 fun _ j4=>(qo 0 13 (U1 a0) (tkt 1 14 _ (yWs 5 23 hs 0 .grow) ?_))))
 obtain ⟨⟨r2_0,r2_1,r2_2,r2_3,r2_4⟩,hg,h⟩:=ob h
 refine so 2 (oC 15 hs (law27_kind.ok hg _) fun w gw hs=>?_)
 refine so 3 (oWa 23 [I8 r2_0,I8 r2_1,I8 r2_2,I8 r2_3,I8 r2_4] hs 0 fun w kp hs=>?_)
 refine fj j4 s3 (xs fun _ s5=>(xs fun _ s6=>(xn 6 fun _ j7=>(qo 0 16 (.slice a2_A a2_n a2_c) (tkf 1 17 (I8 (a2.length:Int)) (yl (rR 0 hs)) (qo 2 18 (.slice a3_A a3_n a3_c) (tkf 3 19 (I8 (a3.length:Int)) (yl (rR 1 hs)) ?_)))))))
 refine qo 4 20 (I8 (iadd .i64 (a2.length:Int) (a3.length:Int))) ?_
 obtain ⟨hc,h⟩|⟨hc,h⟩:=of_if h
 refine tb 5 21 (dt hc) ?_
 refine fj j7 s6 (ct (xs fun _ s8=>(xn 2 fun _ j9=>?_)))
 obtain ⟨r3,hg,h⟩:=ob h
 refine so 0 (oC 22 hs (law27_awake.ok hg _ (rR 2 hs) (rR 3 hs) (rR 4 hs)) fun w gw hs=>?_)
 refine qo 1 8 (.bool r3) (fj j9 s8 (xret (tr ?_)))
 obtain rfl:=of_some h
 exact qq _ _ (pt [8] [.bool r3] ⟨cr,hs.none⟩)
 refine tb 5 21 (df hc) (fj j7 s6 (cf (xk (T s5 (xs fun _ s10=>(xn 9 fun _ j11=>(tkt 0 24 _ (yWs 5 23 hs 0 .grow) (nq 1 [(25,.slice a2_A a2_n a2_c),(26,.slice a3_A a3_n a3_c)] ?_))))))))
 obtain ⟨⟨r4,r5⟩,hg,h⟩:=ob h
 refine wpS.only 3 (oH 27 hs (kem_Open.ok hg _ (rR 0 hs) (rR 1 hs) (rR 2 hs) (rR 3 hs) (rR 4 hs)) ?_)
 rintro ⟨r4_A,r4_n,r4_c⟩ w gw hs
 have hs:=hs.conv (L':=[.rowL CB r4_A r4_n r4_c r4,.blk b1 ([I8 r2_0,I8 r2_1,I8 r2_2,I8 r2_3,I8 r2_4]) 23]) rfl
 have hs:=hs.toR 0 rfl
 refine ⟨fun _=>trivial,?_⟩
 refine nq 4 [(23,.tuple #[.slice r4_A r4_n r4_c,I8 r5]),(28,.slice r4_A r4_n r4_c),(29,I8 r5),(9,.slice r4_A r4_n r4_c),(10,I8 r5)] (fj j11 s10 (xs fun _ s12=>(xn 9 fun _ j13=>(tkt 0 31 _ (yWs 5 23 hs 0 .grow) (nq 1 [(32,.slice a2_A a2_n a2_c),(33,.slice a3_A a3_n a3_c)] ?_)))))
 obtain ⟨⟨r6,r7⟩,hg,h⟩:=ob h
 refine wpS.only 3 (oH 34 hs (ref27_Open.ok hg _ (rR 1 hs) (rR 2 hs)) ?_)
 rintro ⟨r6_A,r6_n,r6_c⟩ w gw hs
 have hs:=hs.conv (L':=[.rowL CB r6_A r6_n r6_c r6,.blk b1 ([I8 r2_0,I8 r2_1,I8 r2_2,I8 r2_3,I8 r2_4]) 23]) rfl
 have hs:=hs.toR 0 rfl
 refine ⟨fun _=>trivial,?_⟩
 refine nq 4 [(30,.tuple #[.slice r6_A r6_n r6_c,I8 r7]),(35,.slice r6_A r6_n r6_c),(36,I8 r7),(11,.slice r6_A r6_n r6_c),(12,I8 r7)] (fj j13 s12 (xs fun _ s14=>(xn 12 fun _ j15=>(nq 0 [(37,.slice r4_A r4_n r4_c),(38,.slice r6_A r6_n r6_c)] ?_))))
 obtain ⟨r8,hg,h⟩:=ob h
 cases r8 with
 | true=>
  have h:=of_if_t h
  refine so 2 (oC 39 hs (ref01_Same.ok hg _ (rR 1 hs) (rR 0 hs)) fun w gw hs=>?_)
  refine nq 3 [(40,.bool true),(41,I8 r5),(42,I8 r7)] ?_
  obtain ⟨hc,h⟩|⟨hc,h⟩:=of_if h
  refine tb 6 43 (et hc) ?_
  refine nq 7 [(44,.bool true),(45,.bool true)] ?_
  obtain ⟨r9,hg,h⟩:=ob h
  refine so 9 (oC 46 hs (law27_awake.ok hg _ (rR 4 hs) (rR 5 hs) (rR 6 hs)) fun w gw hs=>?_)
  refine nq 10 [(47,.bool r9),(8,.bool r9)] (fj j15 s14 (xret ?_))
  obtain rfl:=of_some h
  exact qq _ _ (pt [8] [.bool r9] ⟨cr,hs.none⟩)
  refine tb 6 43 (ef hc) (nq 7 [(44,.bool false),(45,.bool false),(46,undef),(47,.bool false),(8,.bool false)] (fj j15 s14 (xret ?_)))
  obtain rfl:=of_some h
  exact qq _ _ (pt [8] [.bool false] ⟨cr,hs.none⟩)
 | false=>
  have h:=of_if_f h
  refine so 2 (oC 39 hs (ref01_Same.ok hg _ (rR 1 hs) (rR 0 hs)) fun w gw hs=>?_)
  refine nq 3 [(40,.bool false),(41,undef),(42,undef),(43,undef),(44,.bool false),(45,.bool false),(46,undef),(47,.bool false),(8,.bool false)] (fj j15 s14 (xret ?_))
  obtain rfl:=of_some h
  exact qq _ _ (pt [8] [.bool false] ⟨cr,hs.none⟩)
end Go.Proofs.YtemdbgmldljbpaaGreatDoor
