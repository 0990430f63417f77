/- own -/
import Derived.Test.YtemdbgmldljbpaaGreatDoorMh
import Derived.Test.YtemdbgmldljbpaaGreatDoorProg
import Derived.Test.YtemdbgmldljbpaaGreatDoorBF0
import Derived.Test.YtemdbgmldljbpaaGreatDoorBX1
import Derived.Test.YtemdbgmldljbpaaGreatDoorBFKemWorks
import Derived.Test.YtemdbgmldljbpaaGreatDoorBX3
import Derived.Test.YtemdbgmldljbpaaGreatDoorBX5
set_option linter.unusedVariables false
set_option linter.unusedSimpArgs false
set_option maxRecDepth 100000
set_option maxHeartbeats 4000000
namespace Go.Proofs.YtemdbgmldljbpaaGreatDoor
open Go.Mx
attribute [local irreducible] wpOp
theorem ref26_Known.ok {K:Nat}{a0_0 a0_1 a0_2 a0_3 a0_4:Int}{r0:Bool}(h:ref26_Known.f K a0_0 a0_1 a0_2 a0_3 a0_4=some r0) (w0:World):Ret Tryz.prog 32 #[.agg #[I8 a0_0,I8 a0_1,I8 a0_2,I8 a0_3,I8 a0_4]] w0 (.bool r0):=by
 refine calls_k Tryz.func32 rfl fun Q qq=>?_
 have hs:=St.start w0
 refine wc (a':=(fu 33 [.agg #[I8 a0_0,I8 a0_1,I8 a0_2,I8 a0_3,I8 a0_4]])) (xs fun _ s1=>(xn 2 fun _ j2=>(so 0 (oBa 1 23 hs [I8 a0_0,I8 a0_1,I8 a0_2,I8 a0_3,I8 a0_4] fun b1 w gw hs=>(qo 1 2 (.bool false) ?_)))))
 refine fj j2 s1 (xs fun _ s3=>(xn 7 fun _ j4=>?_))
 obtain ⟨⟨r2_0,r2_1,r2_2,r2_3,r2_4,r3⟩,hg,h⟩:=ob h
 refine so 0 (oC 10 hs (ref26_Set.ok hg _) fun w gw hs=>?_)
 refine nq 1 [(9,.tuple #[.agg #[I8 r2_0,I8 r2_1,I8 r2_2,I8 r2_3,I8 r2_4],.bool r3]),(11,.agg #[I8 r2_0,I8 r2_1,I8 r2_2,I8 r2_3,I8 r2_4]),(12,.bool r3)] (so 4 (oNa 3 23 hs [I8 0,I8 0,I8 0,I8 0,I8 0] fun b4 w gw hs=>(so 5 (oWa 23 [I8 r2_0,I8 r2_1,I8 r2_2,I8 r2_3,I8 r2_4] hs 0 fun w kp hs=>(qo 6 4 (.bool r3) (fj j4 s3 (xs fun _ s5=>(xn 7 fun _ j6=>?_))))))))
 obtain ⟨⟨r5_0,r5_1,r5_2,r5_3,r5_4,r6⟩,hg,h⟩:=ob h
 refine so 0 (oC 14 hs (ref26_Set.ok hg _) fun w gw hs=>?_)
 refine nq 1 [(13,.tuple #[.agg #[I8 r5_0,I8 r5_1,I8 r5_2,I8 r5_3,I8 r5_4],.bool r6]),(15,.agg #[I8 r5_0,I8 r5_1,I8 r5_2,I8 r5_3,I8 r5_4]),(16,.bool r6)] (so 4 (oNa 5 23 hs [I8 0,I8 0,I8 0,I8 0,I8 0] fun b7 w gw hs=>(so 5 (oWa 23 [I8 r5_0,I8 r5_1,I8 r5_2,I8 r5_3,I8 r5_4] hs 0 fun w kp hs=>(qo 6 6 (.bool r6) (fj j6 s5 (xs fun _ s7=>(xn 7 fun _ j8=>?_))))))))
 obtain ⟨⟨r8_0,r8_1,r8_2,r8_3,r8_4,r9⟩,hg,h⟩:=ob h
 refine so 0 (oC 18 hs (ref26_Set.ok hg _) fun w gw hs=>?_)
 refine nq 1 [(17,.tuple #[.agg #[I8 r8_0,I8 r8_1,I8 r8_2,I8 r8_3,I8 r8_4],.bool r9]),(19,.agg #[I8 r8_0,I8 r8_1,I8 r8_2,I8 r8_3,I8 r8_4]),(20,.bool r9)] (so 4 (oNa 7 23 hs [I8 0,I8 0,I8 0,I8 0,I8 0] fun b10 w gw hs=>(so 5 (oWa 23 [I8 r8_0,I8 r8_1,I8 r8_2,I8 r8_3,I8 r8_4] hs 0 fun w kp hs=>(qo 6 8 (.bool r9) (fj j8 s7 (xs fun _ s9=>(xn 14 fun _ j10=>?_))))))))
 refine tkt 0 21 _ (yWs 5 23 hs 3 .grow) (tkt 1 22 _ (yWs 5 23 hs 2 .grow) ?_)
 rcases of_ifb h with ⟨hc,h⟩ | ⟨hc,h⟩
 refine tkf 2 23 (.bool true) (yld_bb hc (yld_eqS (fs:=[Field.mk "K" 3 0 false "" "" 0,Field.mk "Eta1" 3 1 false "" "" 8,Field.mk "Eta2" 3 2 false "" "" 16,Field.mk "Du" 3 3 false "" "" 24,Field.mk "Dv" 3 4 false "" "" 32]) (xs:=[I8 a0_0,I8 a0_1,I8 a0_2,I8 a0_3,I8 a0_4]) (ys:=[I8 r2_0,I8 r2_1,I8 r2_2,I8 r2_3,I8 r2_4]) (t:=23) (.tmp 21) (.tmp 22) (by kernel_rfl) (by kernel_rfl) (by kernel_rfl) (by kernel_rfl) (.cons rfl (fun w=>Go.Mx.run_part1 (by kernel_rfl) rfl) (fun w=>Go.Mx.run_part1 (by kernel_rfl) rfl) (fun w=>Go.Mx.run_equalIn_int (by kernel_rfl)) (.cons rfl (fun w=>Go.Mx.run_part1 (by kernel_rfl) rfl) (fun w=>Go.Mx.run_part1 (by kernel_rfl) rfl) (fun w=>Go.Mx.run_equalIn_int (by kernel_rfl)) (.cons rfl (fun w=>Go.Mx.run_part1 (by kernel_rfl) rfl) (fun w=>Go.Mx.run_part1 (by kernel_rfl) rfl) (fun w=>Go.Mx.run_equalIn_int (by kernel_rfl)) (.cons rfl (fun w=>Go.Mx.run_part1 (by kernel_rfl) rfl) (fun w=>Go.Mx.run_part1 (by kernel_rfl) rfl) (fun w=>Go.Mx.run_equalIn_int (by kernel_rfl)) (.cons rfl (fun w=>Go.Mx.run_part1 (by kernel_rfl) rfl) (fun w=>Go.Mx.run_part1 (by kernel_rfl) rfl) (fun w=>Go.Mx.run_equalIn_int (by kernel_rfl)) .nil))))))) ?_
 refine nq 3 [(24,.bool true),(25,undef),(26,undef),(27,undef),(28,.bool true),(29,.bool true),(30,undef),(31,undef),(32,undef),(33,.bool true),(2,.bool true)] (fj j10 s9 (xret ?_))
 obtain rfl:=of_some h
 exact qq _ _ (pt [2] [.bool true] ⟨cr,hs.none⟩)
 refine tkf 2 23 (.bool false) (yld_bb hc (yld_eqS (fs:=[Field.mk "K" 3 0 false "" "" 0,Field.mk "Eta1" 3 1 false "" "" 8,Field.mk "Eta2" 3 2 false "" "" 16,Field.mk "Du" 3 3 false "" "" 24,Field.mk "Dv" 3 4 false "" "" 32]) (xs:=[I8 a0_0,I8 a0_1,I8 a0_2,I8 a0_3,I8 a0_4]) (ys:=[I8 r2_0,I8 r2_1,I8 r2_2,I8 r2_3,I8 r2_4]) (t:=23) (.tmp 21) (.tmp 22) (by kernel_rfl) (by kernel_rfl) (by kernel_rfl) (by kernel_rfl) (.cons rfl (fun w=>Go.Mx.run_part1 (by kernel_rfl) rfl) (fun w=>Go.Mx.run_part1 (by kernel_rfl) rfl) (fun w=>Go.Mx.run_equalIn_int (by kernel_rfl)) (.cons rfl (fun w=>Go.Mx.run_part1 (by kernel_rfl) rfl) (fun w=>Go.Mx.run_part1 (by kernel_rfl) rfl) (fun w=>Go.Mx.run_equalIn_int (by kernel_rfl)) (.cons rfl (fun w=>Go.Mx.run_part1 (by kernel_rfl) rfl) (fun w=>Go.Mx.run_part1 (by kernel_rfl) rfl) (fun w=>Go.Mx.run_equalIn_int (by kernel_rfl)) (.cons rfl (fun w=>Go.Mx.run_part1 (by kernel_rfl) rfl) (fun w=>Go.Mx.run_part1 (by kernel_rfl) rfl) (fun w=>Go.Mx.run_equalIn_int (by kernel_rfl)) (.cons rfl (fun w=>Go.Mx.run_part1 (by kernel_rfl) rfl) (fun w=>Go.Mx.run_part1 (by kernel_rfl) rfl) (fun w=>Go.Mx.run_equalIn_int (by kernel_rfl)) .nil))))))) (qo 3 24 (.bool false) (tkt 4 25 _ (yWs 5 23 hs 3 .grow) (tkt 5 26 _ (yWs 5 23 hs 1 .grow) ?_)))
 rcases of_ifb h with ⟨hc,h⟩ | ⟨hc,h⟩
 refine tkf 6 27 (.bool true) (yld_bb hc (yld_eqS (fs:=[Field.mk "K" 3 0 false "" "" 0,Field.mk "Eta1" 3 1 false "" "" 8,Field.mk "Eta2" 3 2 false "" "" 16,Field.mk "Du" 3 3 false "" "" 24,Field.mk "Dv" 3 4 false "" "" 32]) (xs:=[I8 a0_0,I8 a0_1,I8 a0_2,I8 a0_3,I8 a0_4]) (ys:=[I8 r5_0,I8 r5_1,I8 r5_2,I8 r5_3,I8 r5_4]) (t:=23) (.tmp 25) (.tmp 26) (by kernel_rfl) (by kernel_rfl) (by kernel_rfl) (by kernel_rfl) (.cons rfl (fun w=>Go.Mx.run_part1 (by kernel_rfl) rfl) (fun w=>Go.Mx.run_part1 (by kernel_rfl) rfl) (fun w=>Go.Mx.run_equalIn_int (by kernel_rfl)) (.cons rfl (fun w=>Go.Mx.run_part1 (by kernel_rfl) rfl) (fun w=>Go.Mx.run_part1 (by kernel_rfl) rfl) (fun w=>Go.Mx.run_equalIn_int (by kernel_rfl)) (.cons rfl (fun w=>Go.Mx.run_part1 (by kernel_rfl) rfl) (fun w=>Go.Mx.run_part1 (by kernel_rfl) rfl) (fun w=>Go.Mx.run_equalIn_int (by kernel_rfl)) (.cons rfl (fun w=>Go.Mx.run_part1 (by kernel_rfl) rfl) (fun w=>Go.Mx.run_part1 (by kernel_rfl) rfl) (fun w=>Go.Mx.run_equalIn_int (by kernel_rfl)) (.cons rfl (fun w=>Go.Mx.run_part1 (by kernel_rfl) rfl) (fun w=>Go.Mx.run_part1 (by kernel_rfl) rfl) (fun w=>Go.Mx.run_equalIn_int (by kernel_rfl)) .nil))))))) ?_
 refine nq 7 [(28,.bool true),(29,.bool true),(30,undef),(31,undef),(32,undef),(33,.bool true),(2,.bool true)] (fj j10 s9 (xret ?_))
 obtain rfl:=of_some h
 exact qq _ _ (pt [2] [.bool true] ⟨cr,hs.none⟩)
 refine tkf 6 27 (.bool false) (yld_bb hc (yld_eqS (fs:=[Field.mk "K" 3 0 false "" "" 0,Field.mk "Eta1" 3 1 false "" "" 8,Field.mk "Eta2" 3 2 false "" "" 16,Field.mk "Du" 3 3 false "" "" 24,Field.mk "Dv" 3 4 false "" "" 32]) (xs:=[I8 a0_0,I8 a0_1,I8 a0_2,I8 a0_3,I8 a0_4]) (ys:=[I8 r5_0,I8 r5_1,I8 r5_2,I8 r5_3,I8 r5_4]) (t:=23) (.tmp 25) (.tmp 26) (by kernel_rfl) (by kernel_rfl) (by kernel_rfl) (by kernel_rfl) (.cons rfl (fun w=>Go.Mx.run_part1 (by kernel_rfl) rfl) (fun w=>Go.Mx.run_part1 (by kernel_rfl) rfl) (fun w=>Go.Mx.run_equalIn_int (by kernel_rfl)) (.cons rfl (fun w=>Go.Mx.run_part1 (by kernel_rfl) rfl) (fun w=>Go.Mx.run_part1 (by kernel_rfl) rfl) (fun w=>Go.Mx.run_equalIn_int (by kernel_rfl)) (.cons rfl (fun w=>Go.Mx.run_part1 (by kernel_rfl) rfl) (fun w=>Go.Mx.run_part1 (by kernel_rfl) rfl) (fun w=>Go.Mx.run_equalIn_int (by kernel_rfl)) (.cons rfl (fun w=>Go.Mx.run_part1 (by kernel_rfl) rfl) (fun w=>Go.Mx.run_part1 (by kernel_rfl) rfl) (fun w=>Go.Mx.run_equalIn_int (by kernel_rfl)) (.cons rfl (fun w=>Go.Mx.run_part1 (by kernel_rfl) rfl) (fun w=>Go.Mx.run_part1 (by kernel_rfl) rfl) (fun w=>Go.Mx.run_equalIn_int (by kernel_rfl)) .nil))))))) (nq 7 [(28,.bool false),(29,.bool false)] (tkt 9 30 _ (yWs 5 23 hs 3 .grow) (tkt 10 31 _ (yWs 5 23 hs 0 .grow) (tkf 11 32 (.bool ((a0_0 == r8_0) && ((a0_1 == r8_1) && ((a0_2 == r8_2) && ((a0_3 == r8_3) && ((a0_4 == r8_4) && true)))))) (yld_eqS (fs:=[Field.mk "K" 3 0 false "" "" 0,Field.mk "Eta1" 3 1 false "" "" 8,Field.mk "Eta2" 3 2 false "" "" 16,Field.mk "Du" 3 3 false "" "" 24,Field.mk "Dv" 3 4 false "" "" 32]) (xs:=[I8 a0_0,I8 a0_1,I8 a0_2,I8 a0_3,I8 a0_4]) (ys:=[I8 r8_0,I8 r8_1,I8 r8_2,I8 r8_3,I8 r8_4]) (t:=23) (.tmp 30) (.tmp 31) (by kernel_rfl) (by kernel_rfl) (by kernel_rfl) (by kernel_rfl) (.cons rfl (fun w=>Go.Mx.run_part1 (by kernel_rfl) rfl) (fun w=>Go.Mx.run_part1 (by kernel_rfl) rfl) (fun w=>Go.Mx.run_equalIn_int (by kernel_rfl)) (.cons rfl (fun w=>Go.Mx.run_part1 (by kernel_rfl) rfl) (fun w=>Go.Mx.run_part1 (by kernel_rfl) rfl) (fun w=>Go.Mx.run_equalIn_int (by kernel_rfl)) (.cons rfl (fun w=>Go.Mx.run_part1 (by kernel_rfl) rfl) (fun w=>Go.Mx.run_part1 (by kernel_rfl) rfl) (fun w=>Go.Mx.run_equalIn_int (by kernel_rfl)) (.cons rfl (fun w=>Go.Mx.run_part1 (by kernel_rfl) rfl) (fun w=>Go.Mx.run_part1 (by kernel_rfl) rfl) (fun w=>Go.Mx.run_equalIn_int (by kernel_rfl)) (.cons rfl (fun w=>Go.Mx.run_part1 (by kernel_rfl) rfl) (fun w=>Go.Mx.run_part1 (by kernel_rfl) rfl) (fun w=>Go.Mx.run_equalIn_int (by kernel_rfl)) .nil)))))) ?_))))
 refine nq 12 [(33,.bool ((a0_0 == r8_0) && ((a0_1 == r8_1) && ((a0_2 == r8_2) && ((a0_3 == r8_3) && ((a0_4 == r8_4) && true)))))),(2,.bool ((a0_0 == r8_0) && ((a0_1 == r8_1) && ((a0_2 == r8_2) && ((a0_3 == r8_3) && ((a0_4 == r8_4) && true))))))] (fj j10 s9 (xret ?_))
 obtain rfl:=of_some h
 exact qq _ _ (pt [2] [.bool ((a0_0 == r8_0) && ((a0_1 == r8_1) && ((a0_2 == r8_2) && ((a0_3 == r8_3) && ((a0_4 == r8_4) && true)))))] ⟨cr,hs.none⟩)
theorem ref26_Sizes.ok {K:Nat}{a0_0 a0_1 a0_2 a0_3 a0_4 r0 r1 r2:Int}(h:ref26_Sizes.f K a0_0 a0_1 a0_2 a0_3 a0_4=some (r0,r1,r2)) (w0:World):Ret Tryz.prog 20 #[.agg #[I8 a0_0,I8 a0_1,I8 a0_2,I8 a0_3,I8 a0_4]] w0 (.tuple #[I8 r0,I8 r1,I8 r2]):=by
 refine calls_k Tryz.func20 rfl fun Q qq=>?_
 have hs:=St.start w0
 refine wc (a':=(fu 23 [.agg #[I8 a0_0,I8 a0_1,I8 a0_2,I8 a0_3,I8 a0_4]])) (xs fun _ s1=>(xn 4 fun _ j2=>(so 0 (oBa 1 23 hs [I8 a0_0,I8 a0_1,I8 a0_2,I8 a0_3,I8 a0_4] fun b1 w gw hs=>(nq 1 [(2,I8 0),(3,I8 0),(4,I8 0)] ?_)))))
 refine fj j2 s1 (xs fun _ s3=>(xs fun _ s4=>(xn 3 fun _ j5=>(tkt 0 5 _ (yWs 5 23 hs 0 .grow) ?_))))
 obtain ⟨r2,hg,h⟩:=ob h
 cases r2 with
 | true=>
  have h:=of_if_t h
  refine so 1 (oC 6 hs (ref26_Known.ok hg _) fun w gw hs=>?_)
  refine qo 2 7 (.bool false) (fj j5 s4 (cf (xk (T s3 (xs fun _ s6=>?_)))))
  refine rg [] (fun k=>True) 19 fun _ j7=>?_
  have hs:=hs.drawn1
  refine gq 0 8 (P0 b1) (tgt 1 9 _ (yv hs 0 0 3 rfl (by rfl) .grow) (gq 2 10 (I8 (imul .i64 384 a0_0)) (gq 3 11 (I8 (iadd .i64 (imul .i64 384 a0_0) 32)) (gq 4 12 (P0 b1) ?_))))
  refine tgt 5 13 _ (yv hs 0 0 3 rfl (by rfl) .grow) (gq 6 14 (I8 (imul .i64 384 a0_0)) (gq 7 15 (.pointer (some ⟨b1,3,none⟩)) (tgt 8 16 _ (yv hs 0 3 3 rfl (by rfl) .grow) (gq 9 17 (P0 b1) ?_))))
  refine tgt 10 18 _ (yv hs 0 0 3 rfl (by rfl) .grow) (gq 11 19 (I8 (imul .i64 a0_3 a0_0)) (gq 12 20 (.pointer (some ⟨b1,4,none⟩)) (tgt 13 21 _ (yv hs 0 4 3 rfl (by rfl) .grow) (gq 14 22 (I8 (iadd .i64 (imul .i64 a0_3 a0_0) a0_4)) ?_))))
  refine gq 15 23 (I8 (imul .i64 32 (iadd .i64 (imul .i64 a0_3 a0_0) a0_4))) ?_
  obtain ⟨x3,hx,h⟩:=ob h
  refine tgf 16 2 (I8 x3) (yn hx) ?_
  obtain ⟨x4,hx,h⟩:=ob h
  refine tgf 17 3 (I8 x4) (yn hx) ?_
  obtain ⟨x5,hx,h⟩:=ob h
  refine tgf 18 4 (I8 x5) (yn hx) (gf (j7 _ _ (T s6 (xret ?_))))
  obtain ⟨rfl,rfl,rfl⟩:=os3 h
  exact qq _ _ (pt [2,3,4] [I8 x3,I8 x4,I8 x5] ⟨cr,hs.none⟩)
 | false=>
  have h:=of_if_f h
  refine so 1 (oC 6 hs (ref26_Known.ok hg _) fun w gw hs=>?_)
  refine qo 2 7 (.bool true) (fj j5 s4 (ct (xs fun _ s8=>(xn 3 fun _ j9=>(nq 0 [(2,I8 0),(3,I8 0),(4,I8 0)] (fj j9 s8 (xret (tr ?_))))))))
  obtain ⟨rfl,rfl,rfl⟩:=os3 h
  exact qq _ _ (pt [2,3,4] [I8 0,I8 0,I8 0] ⟨cr,hs.none⟩)
theorem ref08_Rate.ok {K:Nat}{a0 r0:Int}(h:ref08_Rate.f K a0=some r0) (w0:World):Ret Tryz.prog 87 #[I8 a0] w0 (I8 r0):=by
 refine calls_k Tryz.func87 rfl fun Q qq=>?_
 have hs:=St.start w0
 refine wc (a':=(fu 10 [I8 a0])) (xs fun _ s1=>(xn 1 fun _ j2=>(qo 0 2 (I8 0) (fj j2 s1 (xs fun _ s3=>(xs fun _ s4=>(xn 1 fun _ j5=>?_)))))))
 refine qo 0 3 (I8 a0) (fj j5 s4 (xb (xs fun _ s6=>(xs fun _ s7=>(xn 2 fun _ j8=>?_)))))
 obtain ⟨hc,h⟩|⟨hc,h⟩:=of_if h
 refine tb 0 5 (et hc) ?_
 refine qo 1 4 (.bool true) (fj j8 s7 (ct (xk (T s6 (ct (xs fun _ s9=>(xn 1 fun _ j10=>(qo 0 2 (I8 136) (fj j10 s9 (xret (iR (tr ?_))))))))))))
 obtain rfl:=of_some h
 exact qq _ _ (pt [2] [I8 136] ⟨cr,hs.none⟩)
 refine tb 0 5 (ef hc) (qo 1 4 (.bool false) (fj j8 s7 (cf (xn 2 fun _ j11=>?_))))
 obtain ⟨hc,h⟩|⟨hc,h⟩:=of_if h
 refine tb 0 6 (et hc) ?_
 refine qo 1 4 (.bool true) (fj j11 s6 (ct (xs fun _ s12=>(xn 1 fun _ j13=>(qo 0 2 (I8 136) (fj j13 s12 (xret (iR (tr ?_)))))))))
 obtain rfl:=of_some h
 exact qq _ _ (pt [2] [I8 136] ⟨cr,hs.none⟩)
 refine tb 0 6 (ef hc) (qo 1 4 (.bool false) (fj j11 s6 (cf (xs fun _ s14=>(xn 2 fun _ j15=>?_)))))
 obtain ⟨hc,h⟩|⟨hc,h⟩:=of_if h
 refine tb 0 8 (et hc) ?_
 refine qo 1 7 (.bool true) (fj j15 s14 (ct (xs fun _ s16=>(xn 1 fun _ j17=>(qo 0 2 (I8 72) (fj j17 s16 (xret (iR (tr ?_)))))))))
 obtain rfl:=of_some h
 exact qq _ _ (pt [2] [I8 72] ⟨cr,hs.none⟩)
 refine tb 0 8 (ef hc) (qo 1 7 (.bool false) (fj j15 s14 (cf (xs fun _ s18=>(xn 2 fun _ j19=>?_)))))
 obtain ⟨hc,h⟩|⟨hc,h⟩:=of_if h
 refine tb 0 10 (et hc) ?_
 refine qo 1 9 (.bool true) (fj j19 s18 (ct (xs fun _ s20=>(xn 1 fun _ j21=>(qo 0 2 (I8 168) (fj j21 s20 (xret (iR (tr ?_)))))))))
 obtain rfl:=of_some h
 exact qq _ _ (pt [2] [I8 168] ⟨cr,hs.none⟩)
 refine tb 0 10 (ef hc) (qo 1 9 (.bool false) (fj j19 s18 (cf (xk (iN (T s3 (xs fun _ s22=>(xn 1 fun _ j23=>(qo 0 2 (I8 0) (fj j23 s22 (xret ?_)))))))))))
 obtain rfl:=of_some h
 exact qq _ _ (pt [2] [I8 0] ⟨cr,hs.none⟩)
theorem ref08_New.ok {K:Nat}{a0 r0_0:Int}{r0_1:Arr 25}{r0_2:Int}{r0_3:Bool}{r1:Int}(h:ref08_New.f K a0=some (r0_0,r0_1,r0_2,r0_3,r1)) (w0:World):Ret Tryz.prog 56 #[I8 a0] w0 (.tuple #[.agg (vl [I8 r0_0]++enc .u64 r0_1++vl [I8 r0_2,.bool r0_3]).toArray,I8 r1]):=by
 refine calls_k Tryz.func56 rfl fun Q qq=>?_
 have hs:=St.start w0
 refine wc (a':=(fu 9 [I8 a0])) (xs fun _ s1=>(xn 2 fun _ j2=>(so 0 (oN 2 88 hs (vl [I8 0]++enc .u64 (zeroA 25)++vl [I8 0,.bool false]) (.agg (vl [I8 0]++enc .u64 (zeroA 25)++vl [I8 0,.bool false]).toArray) fun b1 w gw hs=>(qo 1 3 (I8 0) ?_)))))
 refine fj j2 s1 (xs fun _ s3=>(xs fun _ s4=>(xn 3 fun _ j5=>(qo 0 4 (I8 a0) ?_))))
 obtain ⟨r2,hg,h⟩:=ob h
 refine so 1 (oC 5 hs (ref08_Rate.ok hg _) fun w gw hs=>?_)
 obtain ⟨hc,h⟩|⟨hc,h⟩:=of_if h
 refine tb 2 6 (et hc) ?_
 refine fj j5 s4 (ct (xs fun _ s6=>(xn 3 fun _ j7=>(qo 0 7 (.agg (vl [I8 0]++enc .u64 (zeroA 25)++vl [I8 0,.bool false]).toArray) (so 1 (oW 28 88 (.agg (vl [I8 0]++enc .u64 (zeroA 25)++vl [I8 0,.bool false]).toArray) (vl [I8 0]++enc .u64 (zeroA 25)++vl [I8 0,.bool false]) hs 0 rfl (by simp [enc_len]) (by simp [enc_len]) (one_app (one_app (by simp [Value.oneCell']) (fun u hu=>enc_one _ _ u hu)) (by simp [Value.oneCell'])) fun w kp hs=>(qo 2 3 (I8 9) (fj j7 s6 (xret (tr ?_))))))))))
 obtain ⟨rfl,rfl,rfl,rfl,rfl⟩:=os5 h
 exact qq _ _ (pr (rr [.cell 2 88,.tmp 3] [.agg (vl [I8 0]++enc .u64 (zeroA 25)++vl [I8 0,.bool false]).toArray,I8 9] (.cons (rcN 28 hs 0 rfl (by simp [enc_len])) (.cons rt .nil))) ⟨cr,hs.none⟩)
 refine tb 2 6 (ef hc) (fj j5 s4 (cf (xk (T s3 (xs fun _ s8=>(xn 4 fun _ j9=>(nq 0 [(8,I8 a0),(9,.agg (vl [I8 a0]++enc .u64 (zeroA 25)++vl [I8 0,.bool false]).toArray)] (so 2 (oW 28 88 (.agg (vl [I8 a0]++enc .u64 (zeroA 25)++vl [I8 0,.bool false]).toArray) (vl [I8 a0]++enc .u64 (zeroA 25)++vl [I8 0,.bool false]) hs 0 rfl (by simp [enc_len]) (by simp [enc_len]) (one_app (one_app (by simp [Value.oneCell']) (fun u hu=>enc_one _ _ u hu)) (by simp [Value.oneCell'])) fun w kp hs=>(qo 3 3 (I8 0) ?_))))))))))
 refine fj j9 s8 (xret ?_)
 obtain ⟨rfl,rfl,rfl,rfl,rfl⟩:=os5 h
 exact qq _ _ (pr (rr [.cell 2 88,.tmp 3] [.agg (vl [I8 a0]++enc .u64 (zeroA 25)++vl [I8 0,.bool false]).toArray,I8 0] (.cons (rcN 28 hs 0 rfl (by simp [enc_len])) (.cons rt .nil))) ⟨cr,hs.none⟩)
theorem ref08_constants.ok {K:Nat}{r0:Arr 24}(h:ref08_constants.f K=some r0) (w0:World):Ret Tryz.prog 106 #[] w0 (ag .u64 r0):=by
 refine calls_k Tryz.func106 rfl fun Q qq=>?_
 have hs:=St.start w0
 refine wc (a':=(fu 32 [])) (xs fun _ s1=>(xn 1 fun _ j2=>(so 0 (oNe 0 129 .u64 (zeroA 24) hs fun b1 w gw hs=>(fj j2 s1 (xs fun _ s3=>(xn 1 fun _ j4=>?_)))))))
 refine so 0 (oNe 1 129 .u64 (zeroA 24) hs fun b2 w gw hs=>?_)
 refine fj j4 s3 (xs fun _ s5=>(xn 1 fun _ j6=>(qo 0 2 (U8 1) (fj j6 s5 (xs fun _ s7=>(xs fun _ s8=>(xn 1 fun _ j9=>(qo 0 3 (I8 0) (fj j9 s8 (?_))))))))))
 obtain ⟨y6,hy,hk0⟩:=ob h
 refine wp_exq (N:=fun a w=>St w0 [] [.blk b2 (enc .u64 y6) 129,.blk b1 (enc .u64 (zeroA 24)) 129] [] w∧∃ g11,a=fr g11 32 [(0,[P0 b1,P0 b2])]) (fun N0 nn0=>?_) ?_
 clear hk0
 refine xb ?_
 refine wp_loop_k (fun n a w=>∃ z3 z4 z5,ref08_constants.l0 K n z3 z4 z5=some y6∧St w0 [] [.blk b2 (enc .u64 z5) 129,.blk b1 (enc .u64 (zeroA 24)) 129] [] w∧∃ g10,a=fr g10 32 [(0,[P0 b1,P0 b2,U8 z3,I8 z4])]) K ⟨1,0,(zeroA 24),hy,hs.conv rfl,eg⟩ ?_
 clear hs h hy
 rintro n a w ⟨z3,z4,z5,h,hs,g10,rfl⟩ KL0 kl0
 cases n with
 | zero=>exact nomatch (show none=some _ from h)
 | succ n=>
  refine xs fun _ s12=>(xs fun _ s13=>(xn 2 fun _ j14=>(qo 0 4 (I8 z4) ?_)))
  obtain ⟨hc,h⟩|⟨hc,h⟩:=of_if h
  refine tb 1 5 (dt hc) ?_
  refine fj j14 s13 (ct (xk (T s12 (?_))))
  obtain ⟨⟨y7,y8⟩,hj,h⟩:=ob h
  refine xs fun _ s16=>wp_join (N:=fun a w=>St w0 [] [.blk b2 (enc .u64 y8) 129,.blk b1 (enc .u64 (zeroA 24)) 129] [] w∧∃ g15,a=fr g15 32 [(0,[P0 b1,P0 b2,U8 y7,I8 z4])]) (fun N nj=>?_) ?_
  clear h
  have h:=hj
  refine xb ?_
  obtain ⟨y9,hj,h⟩:=ob h
  refine xs fun _ s18=>wp_join (N:=fun a w=>St w0 [] [.blk b2 (enc .u64 y9) 129,.blk b1 (enc .u64 (zeroA 24)) 129] [] w∧∃ g17,a=fr g17 32 [(0,[P0 b1,P0 b2,U8 z3,I8 z4])]) (fun N nj=>?_) ?_
  clear h
  have h:=hj
  refine xs fun _ s19=>(xn 3 fun _ j20=>(nq 0 [(8,U8 z3),(9,U8 (iand .u64 z3 1))] ?_))
  obtain ⟨hc,h⟩|⟨hc,h⟩:=of_if h
  refine tb 2 10 (et hc) ?_
  refine fj j20 s19 (ct ?_)
  refine rg [13] (fun k=>True) 14 fun _ j21=>?_
  have hs:=hs.drawn1
  refine gq 0 11 (I8 z4) (gq 1 12 (I8 (iquo .i64 z4 7)) (gq 2 13 (I8 z4) (gq 3 14 (I8 (iquo .i64 z4 7)) ?_)))
  obtain ⟨x10,hx,h⟩:=ob h
  have hx:=of_some hx
  subst hx
  obtain ⟨i0_22,i1_22,h⟩:=oc2 h
  refine tgf 4 15 (P1 b2 (iquo .i64 z4 7)) (yi 129 85 24 1 .i64 (iquo .i64 z4 7) i0_22 i1_22) (tgt 5 16 _ (yA hs 0 85 (iquo .i64 z4 7) rfl i0_22 i1_22 .grow) (gq 6 17 (I8 z4) (gq 7 18 (I8 (irem .i64 z4 7)) ?_)))
  obtain ⟨h0,h⟩:=oc h
  refine tgf 8 19 (U8 (ishl .u64 1 (irem .i64 z4 7))) (ysl 140 .i64 h0) (gq 9 20 (U8 (isub .u64 (ishl .u64 1 (irem .i64 z4 7)) 1)) ?_)
  obtain ⟨h0,h⟩:=oc h
  refine tgf 10 21 (U8 (ishl .u64 1 (isub .u64 (ishl .u64 1 (irem .i64 z4 7)) 1))) (ysl 85 .u64 h0) (gq 11 22 (U8 (ior .u64 (rd z5 (iquo .i64 z4 7)) (ishl .u64 1 (isub .u64 (ishl .u64 1 (irem .i64 z4 7)) 1)))) ?_)
  obtain ⟨x11,hx,h⟩:=ob h
  have hx:=of_some hx
  subst hx
  obtain ⟨i0_23,i1_23,h⟩:=oc2 h
  refine tgf 12 23 (P1 b2 (iquo .i64 z4 7)) (yi 129 85 24 1 .i64 (iquo .i64 z4 7) i0_23 i1_23) ?_
  obtain ⟨x12,hx,h⟩:=ob h
  refine go 13 (oA 85 x12 (iquo .i64 z4 7) hs 0 rfl (by cases hx; kernel_rfl) i0_23 i1_23 fun w kp hs=>⟨⟨fun hf=>absurd hf (by decide),.all _ _⟩,?_⟩)
  refine gf (j21 _ _ ?_)
  obtain rfl:=of_some h
  exact nj _ _ ⟨(hs.conv rfl),eg⟩
  refine tb 2 10 (ef hc) (fj j20 s19 (cf (xk ?_)))
  obtain rfl:=of_some h
  exact nj _ _ ⟨(hs.conv rfl),eg⟩
  clear hj hs
  rintro a w ⟨hs,g17,rfl⟩
  refine T s18 (xs fun _ s24=>(xn 3 fun _ j25=>(nq 0 [(24,U8 z3),(25,U8 (imul .u64 z3 2))] ?_)))
  obtain ⟨x13,hx,h⟩:=ob h
  refine tkf 2 2 (U8 x13) (yn hx) (fj j25 s24 (xs fun _ s26=>(xn 2 fun _ j27=>(qo 0 26 (U8 x13) ?_))))
  obtain ⟨hc,h⟩|⟨hc,h⟩:=of_if h
  refine tb 1 27 (dt hc) ?_
  refine fj j27 s26 (ct (xn 4 fun _ j28=>(nq 0 [(28,U8 x13),(29,U8 (iand .u64 x13 255)),(30,U8 (ixor .u64 (iand .u64 x13 255) 113))] ?_)))
  obtain ⟨x14,hx,h⟩:=ob h
  refine tkf 3 2 (U8 x14) (yn hx) (fin (j28 _ _ (iN ?_)))
  obtain ⟨rfl,rfl⟩:=os2 h
  exact nj _ _ ⟨(hs.conv rfl),eg⟩
  refine tb 1 27 (df hc) (fj j27 s26 (cf (xk (iN ?_))))
  obtain ⟨rfl,rfl⟩:=os2 h
  exact nj _ _ ⟨(hs.conv rfl),eg⟩
  clear hj hs
  rintro a w ⟨hs,g15,rfl⟩
  refine T s16 (xn 3 fun _ j29=>(nq 0 [(6,I8 z4),(7,I8 (iadd .i64 z4 1))] ?_))
  obtain ⟨x15,hx,h⟩:=ob h
  refine tkf 2 3 (I8 x15) (yn hx) (fin (j29 _ _ ?_))
  exact tn (kl0 _ _ ⟨n,ls n,y7,x15,y8,h,(hs.conv rfl),eg⟩)
  refine tb 1 5 (df hc) (fj j14 s13 (cf (xexit (tx (tx (iH ?_))))))
  obtain rfl:=of_some h
  exact exq_n (nn0 _ _ ⟨(hs.conv rfl),eg⟩)
 clear hs h hy
 rintro a w ⟨hs,g11,rfl⟩
 have h:=hk0
 refine T s7 (xs fun _ s30=>(xn 2 fun _ j31=>(tkt 0 31 _ (yWe 129 hs 0 .grow) (so 1 (oWe 129 .u64 y6 hs 1 fun w kp hs=>(fj j31 s30 (xret ?_)))))))
 obtain rfl:=of_some h
 exact qq _ _ (pr (rr [.cell 0 129] [ag .u64 y6] (.cons (rcN 24 hs 1 rfl (enc_len _ _)) .nil)) ⟨cr,hs.none⟩)
theorem ref08_left.ok {K:Nat}{a0 a1 r0:Int}(h:ref08_left.f K a0 a1=some r0) (w0:World):Ret Tryz.prog 114 #[U8 a0,I8 a1] w0 (U8 r0):=by
 refine calls_k Tryz.func114 rfl fun Q qq=>?_
 have hs:=St.start w0
 refine wc (a':=(fu 13 [U8 a0,I8 a1])) (xs fun _ s1=>(xn 1 fun _ j2=>(qo 0 4 (U8 0) (fj j2 s1 (xs fun _ s3=>(xn 3 fun _ j4=>?_))))))
 refine nq 0 [(5,I8 a1),(6,I8 (irem .i64 a1 64))] ?_
 obtain ⟨x1,hx,h⟩:=ob h
 refine tkf 2 1 (I8 x1) (yn hx) (fj j4 s3 (xs fun _ s5=>?_))
 refine rg [] (fun k=>True) 9 fun _ j6=>?_
 have hs:=hs.drawn1
 refine gq 0 7 (U8 a0) (gq 1 8 (I8 x1) ?_)
 obtain ⟨h0,h⟩:=oc h
 refine tgf 2 9 (U8 (ishl .u64 a0 x1)) (ysl 85 .i64 h0) (gq 3 10 (U8 a0) (gq 4 11 (I8 x1) (gq 5 12 (I8 (isub .i64 64 x1)) ?_)))
 obtain ⟨h0,h⟩:=oc h
 refine tgf 6 13 (U8 (ishr .u64 a0 (isub .i64 64 x1))) (ysr 85 .i64 h0) (gq 7 14 (U8 (ior .u64 (ishl .u64 a0 x1) (ishr .u64 a0 (isub .i64 64 x1)))) ?_)
 obtain ⟨x2,hx,h⟩:=ob h
 refine tgf 8 4 (U8 x2) (yn hx) (gf (j6 _ _ (T s5 (xret ?_))))
 obtain rfl:=of_some h
 exact qq _ _ (pt [4] [U8 x2] ⟨cr,hs.none⟩)
theorem ref08_move.ok {K:Nat}{a0 r0:Arr 25}(h:ref08_move.f K a0=some r0) (w0:World):Ret Tryz.prog 107 #[ag .u64 a0] w0 (ag .u64 r0):=by
 refine calls_k Tryz.func107 rfl fun Q qq=>?_
 have hs:=St.start w0
 refine wc (a':=(fu 43 [ag .u64 a0])) (xs fun _ s1=>(xn 2 fun _ j2=>(so 0 (oBe 1 86 .u64 a0 hs fun b1 w gw hs=>(so 1 (oNe 2 86 .u64 (zeroA 25) hs fun b2 w gw hs=>?_))))))
 refine fj j2 s1 (xs fun _ s3=>(xn 1 fun _ j4=>(so 0 (oNe 3 86 .u64 (zeroA 25) hs fun b3 w gw hs=>(fj j4 s3 (xs fun _ s5=>(xn 4 fun _ j6=>(tkf 0 9 (P1 b1 0) (yi 86 85 25 1 .i64 0 (by decide) (by decide)) (tkt 1 10 _ (yA hs 2 85 0 rfl (by decide) (by decide) .grow) ?_)))))))))
 refine tkf 2 11 (P1 b3 0) (yi 86 85 25 1 .i64 0 (by decide) (by decide)) ?_
 obtain ⟨x4,hx,h⟩:=ob h
 refine so 3 (oA 85 x4 0 hs 0 rfl (by cases hx; kernel_rfl) (by decide) (by decide) fun w kp hs=>?_)
 refine fj j6 s5 (xs fun _ s9=>(xn 1 fun _ j10=>(qo 0 4 (I8 1) (fj j10 s9 (xs fun _ s11=>(xn 1 fun _ j12=>(qo 0 5 (I8 0) (fj j12 s11 (xs fun _ s13=>(xs fun _ s14=>(xn 1 fun _ j15=>?_)))))))))))
 refine qo 0 6 (I8 0) (fj j15 s14 (?_))
 obtain ⟨y9,hy,hk0⟩:=ob h
 refine wp_exq (N:=fun a w=>St w0 [] [.blk b3 (enc .u64 y9) 86,.blk b2 (enc .u64 (zeroA 25)) 86,.blk b1 (enc .u64 a0) 86] [] w∧∃ g17,a=fr g17 44 [(2,[P0 b2,P0 b3])]) (fun N0 nn0=>?_) ?_
 clear hk0
 refine xb ?_
 refine wp_loop_k (fun n a w=>∃ z5 z6 z7 z8,ref08_move.l0 K n a0 z5 z6 z7 z8=some y9∧St w0 [] [.blk b3 (enc .u64 z8) 86,.blk b2 (enc .u64 (zeroA 25)) 86,.blk b1 (enc .u64 a0) 86] [] w∧∃ g16,a=fr g16 44 [(1,[P0 b1,P0 b2,P0 b3,I8 z5,I8 z6,I8 z7])]) K ⟨1,0,0,(wr (zeroA 25) 0 x4),hy,hs.conv rfl,eg⟩ ?_
 clear hs h hy
 rintro n a w ⟨z5,z6,z7,z8,h,hs,g16,rfl⟩ KL0 kl0
 cases n with
 | zero=>exact nomatch (show none=some _ from h)
 | succ n=>
  refine xs fun _ s18=>(xs fun _ s19=>(xn 2 fun _ j20=>(qo 0 12 (I8 z7) ?_)))
  obtain ⟨hc,h⟩|⟨hc,h⟩:=of_if h
  refine tb 1 13 (dt hc) ?_
  refine fj j20 s19 (ct (xk (T s18 (xs fun _ s21=>(xb (xs fun _ s22=>(xn 2 fun _ j23=>(nq 0 [(16,I8 z6),(7,I8 z6)] (fj j23 s22 (xs fun _ s24=>(xn 7 fun _ j25=>(nq 0 [(17,I8 z5),(18,I8 (imul .i64 2 z5)),(19,I8 z6),(20,I8 (imul .i64 3 z6)),(21,I8 (iadd .i64 (imul .i64 2 z5) (imul .i64 3 z6))),(22,I8 (irem .i64 (iadd .i64 (imul .i64 2 z5) (imul .i64 3 z6)) 5))] ?_))))))))))))
  obtain ⟨x10,hx,h⟩:=ob h
  refine tkf 6 8 (I8 x10) (yn hx) (fj j25 s24 (xs fun _ s26=>(xn 19 fun _ j27=>(nq 0 [(23,I8 z6),(24,I8 x10),(25,I8 (imul .i64 5 x10)),(26,I8 (iadd .i64 z6 (imul .i64 5 x10))),(27,I8 z5),(28,I8 z6),(29,I8 (imul .i64 5 z6)),(30,I8 (iadd .i64 z5 (imul .i64 5 z6)))] ?_))))
  obtain ⟨x11,hx,h⟩:=ob h
  have hx:=of_some hx
  subst hx
  obtain ⟨i0_28,i1_28,h⟩:=oc2 h
  refine tkf 8 31 (.pointer (some ⟨b1,0+((iadd .i64 z5 (imul .i64 5 z6)):Int).toNat*1,none⟩)) (yi 86 85 25 1 .i64 (iadd .i64 z5 (imul .i64 5 z6)) i0_28 i1_28) (tkt 9 32 _ (yA hs 2 85 (iadd .i64 z5 (imul .i64 5 z6)) rfl i0_28 i1_28 .grow) (nq 10 [(33,I8 z7),(34,I8 (iadd .i64 z7 1)),(35,I8 z7),(36,I8 (iadd .i64 z7 2)),(37,I8 (imul .i64 (iadd .i64 z7 1) (iadd .i64 z7 2))),(38,I8 (iquo .i64 (imul .i64 (iadd .i64 z7 1) (iadd .i64 z7 2)) 2))] ?_))
  obtain ⟨r12,hg,h⟩:=ob h
  refine so 16 (oC 39 hs (ref08_left.ok hg _) fun w gw hs=>?_)
  obtain ⟨x13,hx,h⟩:=ob h
  have hx:=of_some hx
  subst hx
  obtain ⟨i0_29,i1_29,h⟩:=oc2 h
  refine tkf 17 40 (.pointer (some ⟨b3,0+((iadd .i64 z6 (imul .i64 5 x10)):Int).toNat*1,none⟩)) (yi 86 85 25 1 .i64 (iadd .i64 z6 (imul .i64 5 x10)) i0_29 i1_29) (so 18 (oA 85 r12 (iadd .i64 z6 (imul .i64 5 x10)) hs 0 rfl (by kernel_rfl) i0_29 i1_29 fun w kp hs=>(fj j27 s26 (xs fun _ s30=>(xn 2 fun _ j31=>(nq 0 [(41,I8 z6),(4,I8 z6)] (fj j31 s30 (xn 2 fun _ j32=>?_))))))))
  refine nq 0 [(42,I8 x10),(5,I8 x10)] (fin (j32 _ _ (iN (T s21 (xn 3 fun _ j33=>(nq 0 [(14,I8 z7),(15,I8 (iadd .i64 z7 1))] ?_))))))
  obtain ⟨x14,hx,h⟩:=ob h
  refine tkf 2 6 (I8 x14) (yn hx) (fin (j33 _ _ ?_))
  exact tn (kl0 _ _ ⟨n,ls n,z6,x10,x14,(wr z8 (iadd .i64 z6 (imul .i64 5 x10)) r12),h,(hs.conv rfl),eg⟩)
  refine tb 1 13 (df hc) (fj j20 s19 (cf (xexit (tx (tx (iH ?_))))))
  obtain rfl:=of_some h
  exact exq_n (nn0 _ _ ⟨(hs.conv rfl),eg⟩)
 clear hs h hy
 rintro a w ⟨hs,g17,rfl⟩
 have h:=hk0
 refine T s13 (xs fun _ s34=>(xn 2 fun _ j35=>(tkt 0 43 _ (yWe 86 hs 0 .grow) (so 1 (oWe 86 .u64 y9 hs 1 fun w kp hs=>(fj j35 s34 (xret ?_)))))))
 obtain rfl:=of_some h
 exact qq _ _ (pr (rr [.cell 2 86] [ag .u64 y9] (.cons (rcN 25 hs 1 rfl (enc_len _ _)) .nil)) ⟨cr,hs.none⟩)
theorem ref08_spread.ok {K:Nat}{a0 r0:Arr 25}(h:ref08_spread.f K a0=some r0) (w0:World):Ret Tryz.prog 108 #[ag .u64 a0] w0 (ag .u64 r0):=by
 refine calls_k Tryz.func108 rfl fun Q qq=>?_
 have hs:=St.start w0
 refine wc (a':=(fu 43 [ag .u64 a0])) (xs fun _ s1=>(xn 2 fun _ j2=>(so 0 (oBe 1 86 .u64 a0 hs fun b1 w gw hs=>(so 1 (oNe 2 86 .u64 (zeroA 25) hs fun b2 w gw hs=>?_))))))
 refine fj j2 s1 (xs fun _ s3=>(xn 1 fun _ j4=>(so 0 (oNe 3 144 .u64 (zeroA 5) hs fun b3 w gw hs=>(fj j4 s3 (xs fun _ s5=>(xs fun _ s6=>(xn 1 fun _ j7=>(qo 0 4 (I8 0) (fj j7 s6 (?_)))))))))))
 obtain ⟨y6,hy,hk0⟩:=ob h
 refine wp_exq (N:=fun a w=>St w0 [] [.blk b3 (enc .u64 y6) 144,.blk b2 (enc .u64 (zeroA 25)) 86,.blk b1 (enc .u64 a0) 86] [] w∧∃ g9,a=fr g9 44 [(1,[P0 b1,P0 b2,P0 b3])]) (fun N0 nn0=>?_) ?_
 clear hk0
 refine xb ?_
 refine wp_loop_k (fun n a w=>∃ z4 z5,ref08_spread.l0 K n a0 z4 z5=some y6∧St w0 [] [.blk b3 (enc .u64 z5) 144,.blk b2 (enc .u64 (zeroA 25)) 86,.blk b1 (enc .u64 a0) 86] [] w∧∃ g8,a=fr g8 44 [(1,[P0 b1,P0 b2,P0 b3,I8 z4])]) K ⟨0,(zeroA 5),hy,hs.conv rfl,eg⟩ ?_
 clear hs h hy
 rintro n a w ⟨z4,z5,h,hs,g8,rfl⟩ KL0 kl0
 cases n with
 | zero=>exact nomatch (show none=some _ from h)
 | succ n=>
  refine xs fun _ s10=>(xs fun _ s11=>(xn 2 fun _ j12=>(qo 0 6 (I8 z4) ?_)))
  obtain ⟨hc,h⟩|⟨hc,h⟩:=of_if h
  refine tb 1 7 (dt hc) ?_
  refine fj j12 s11 (ct (xk (T s10 (xs fun _ s13=>(xb ?_)))))
  refine rg [11] (fun k=>True) 12 fun _ j14=>?_
  have hs:=hs.drawn1
  refine gq 0 10 (I8 z4) (gq 1 11 (I8 (irem .i64 z4 5)) (gq 2 12 (I8 z4) (gq 3 13 (I8 (irem .i64 z4 5)) ?_)))
  obtain ⟨x7,hx,h⟩:=ob h
  have hx:=of_some hx
  subst hx
  obtain ⟨i0_15,i1_15,h⟩:=oc2 h
  refine tgf 4 14 (P1 b3 (irem .i64 z4 5)) (yi 144 85 5 1 .i64 (irem .i64 z4 5) i0_15 i1_15) (tgt 5 15 _ (yA hs 0 85 (irem .i64 z4 5) rfl i0_15 i1_15 .grow) (gq 6 16 (I8 z4) ?_))
  obtain ⟨i0_16,i1_16,h⟩:=oc2 h
  refine tgf 7 17 (P1 b1 z4) (yi 86 85 25 1 .i64 z4 i0_16 i1_16) (tgt 8 18 _ (yA hs 2 85 z4 rfl i0_16 i1_16 .grow) (gq 9 19 (U8 (ixor .u64 (rd z5 (irem .i64 z4 5)) (rd a0 z4))) ?_))
  obtain ⟨x8,hx,h⟩:=ob h
  have hx:=of_some hx
  subst hx
  obtain ⟨i0_17,i1_17,h⟩:=oc2 h
  refine tgf 10 20 (P1 b3 (irem .i64 z4 5)) (yi 144 85 5 1 .i64 (irem .i64 z4 5) i0_17 i1_17) ?_
  obtain ⟨x9,hx,h⟩:=ob h
  refine go 11 (oA 85 x9 (irem .i64 z4 5) hs 0 rfl (by cases hx; kernel_rfl) i0_17 i1_17 fun w kp hs=>⟨⟨fun hf=>absurd hf (by decide),.all _ _⟩,?_⟩)
  refine gf (j14 _ _ ?_)
  refine iN (T s13 (xn 3 fun _ j18=>?_))
  refine nq 0 [(8,I8 z4),(9,I8 (iadd .i64 z4 1))] ?_
  obtain ⟨x10,hx,h⟩:=ob h
  refine tkf 2 4 (I8 x10) (yn hx) (fin (j18 _ _ ?_))
  exact tn (kl0 _ _ ⟨n,ls n,x10,(wr z5 (irem .i64 z4 5) x9),h,(hs.conv rfl),eg⟩)
  refine tb 1 7 (df hc) (fj j12 s11 (cf (xexit (tx (tx (iH ?_))))))
  obtain rfl:=of_some h
  exact exq_n (nn0 _ _ ⟨(hs.conv rfl),eg⟩)
 clear hs h hy
 rintro a w ⟨hs,g9,rfl⟩
 have h:=hk0
 refine T s5 (xs fun _ s19=>(xs fun _ s20=>(xn 1 fun _ j21=>(qo 0 5 (I8 0) (fj j21 s20 (?_))))))
 obtain ⟨y13,hy,hk1⟩:=ob h
 refine wp_exq (N:=fun a w=>St w0 [] [.blk b3 (enc .u64 y6) 144,.blk b2 (enc .u64 (zeroA 25)) 86,.blk b1 (enc .u64 y13) 86] [] w∧∃ g23,a=fr g23 44 [(1,[P0 b1,P0 b2])]) (fun N1 nn1=>?_) ?_
 clear hk1
 refine xb ?_
 refine wp_loop_k (fun n a w=>∃ z11 z12,ref08_spread.l1 K n y6 z11 z12=some y13∧St w0 [] [.blk b3 (enc .u64 y6) 144,.blk b2 (enc .u64 (zeroA 25)) 86,.blk b1 (enc .u64 z12) 86] [] w∧∃ g22,a=fr g22 44 [(1,[P0 b1,P0 b2,P0 b3]),(5,[I8 z11])]) K ⟨0,a0,hy,hs.conv rfl,eg⟩ ?_
 clear hs h hy
 rintro n a w ⟨z11,z12,h,hs,g22,rfl⟩ KL1 kl1
 cases n with
 | zero=>exact nomatch (show none=some _ from h)
 | succ n=>
  refine xs fun _ s24=>(xs fun _ s25=>(xn 2 fun _ j26=>(qo 0 21 (I8 z11) ?_)))
  obtain ⟨hc,h⟩|⟨hc,h⟩:=of_if h
  refine tb 1 22 (dt hc) ?_
  refine fj j26 s25 (ct (xk (T s24 (xs fun _ s27=>(xb ?_)))))
  refine rg [18] (fun k=>True) 19 fun _ j28=>?_
  have hs:=hs.drawn1
  refine gq 0 25 (I8 z11) (gq 1 26 (I8 z11) ?_)
  obtain ⟨i0_29,i1_29,h⟩:=oc2 h
  refine tgf 2 27 (P1 b1 z11) (yi 86 85 25 1 .i64 z11 i0_29 i1_29) (tgt 3 28 _ (yA hs 2 85 z11 rfl i0_29 i1_29 .grow) (gq 4 29 (I8 z11) (gq 5 30 (I8 (iadd .i64 z11 4)) (gq 6 31 (I8 (irem .i64 (iadd .i64 z11 4) 5)) ?_))))
  obtain ⟨x14,hx,h⟩:=ob h
  have hx:=of_some hx
  subst hx
  obtain ⟨i0_30,i1_30,h⟩:=oc2 h
  refine tgf 7 32 (.pointer (some ⟨b3,0+((irem .i64 (iadd .i64 z11 4) 5):Int).toNat*1,none⟩)) (yi 144 85 5 1 .i64 (irem .i64 (iadd .i64 z11 4) 5) i0_30 i1_30) (tgt 8 33 _ (yA hs 0 85 (irem .i64 (iadd .i64 z11 4) 5) rfl i0_30 i1_30 .grow) (gq 9 34 (U8 (ixor .u64 (rd z12 z11) (rd y6 (irem .i64 (iadd .i64 z11 4) 5)))) (gq 10 35 (I8 z11) (gq 11 36 (I8 (iadd .i64 z11 1)) ?_))))
  refine gq 12 37 (I8 (irem .i64 (iadd .i64 z11 1) 5)) ?_
  obtain ⟨x15,hx,h⟩:=ob h
  have hx:=of_some hx
  subst hx
  obtain ⟨i0_31,i1_31,h⟩:=oc2 h
  refine tgf 13 38 (.pointer (some ⟨b3,0+((irem .i64 (iadd .i64 z11 1) 5):Int).toNat*1,none⟩)) (yi 144 85 5 1 .i64 (irem .i64 (iadd .i64 z11 1) 5) i0_31 i1_31) (tgt 14 39 _ (yA hs 0 85 (irem .i64 (iadd .i64 z11 1) 5) rfl i0_31 i1_31 .grow) ?_)
  obtain ⟨r16,hg,h⟩:=ob h
  refine go 15 (oC 40 hs (ref08_left.ok hg _) fun w gw hs=>⟨.of gw,?_⟩)
  refine gq 16 41 (U8 (ixor .u64 (ixor .u64 (rd z12 z11) (rd y6 (irem .i64 (iadd .i64 z11 4) 5))) r16)) ?_
  obtain ⟨i0_32,i1_32,h⟩:=oc2 h
  refine tgf 17 42 (P1 b1 z11) (yi 86 85 25 1 .i64 z11 i0_32 i1_32) ?_
  obtain ⟨x17,hx,h⟩:=ob h
  refine go 18 (oA 85 x17 z11 hs 2 rfl (by cases hx; kernel_rfl) i0_32 i1_32 fun w kp hs=>⟨⟨fun hf=>absurd hf (by decide),.all _ _⟩,?_⟩)
  refine gf (j28 _ _ ?_)
  refine iN (T s27 (xn 3 fun _ j33=>?_))
  refine nq 0 [(23,I8 z11),(24,I8 (iadd .i64 z11 1))] ?_
  obtain ⟨x18,hx,h⟩:=ob h
  refine tkf 2 5 (I8 x18) (yn hx) (fin (j33 _ _ ?_))
  exact tn (kl1 _ _ ⟨n,ls n,x18,(wr z12 z11 x17),h,(hs.conv rfl),eg⟩)
  refine tb 1 22 (df hc) (fj j26 s25 (cf (xexit (tx (tx (iH ?_))))))
  obtain rfl:=of_some h
  exact exq_n (nn1 _ _ ⟨(hs.conv rfl),eg⟩)
 clear hs h hy
 rintro a w ⟨hs,g23,rfl⟩
 have h:=hk1
 refine T s19 (xs fun _ s34=>(xn 2 fun _ j35=>(tkt 0 43 _ (yWe 86 hs 2 .grow) (so 1 (oWe 86 .u64 y13 hs 1 fun w kp hs=>(fj j35 s34 (xret ?_)))))))
 obtain rfl:=of_some h
 exact qq _ _ (pr (rr [.cell 2 86] [ag .u64 y13] (.cons (rcN 25 hs 1 rfl (enc_len _ _)) .nil)) ⟨cr,hs.none⟩)
theorem ref08_Permute.ok {K:Nat}{a0 r0:Arr 25}(h:ref08_Permute.f K a0=some r0) (w0:World):Ret Tryz.prog 88 #[ag .u64 a0] w0 (ag .u64 r0):=by
 refine calls_k Tryz.func88 rfl fun Q qq=>?_
 have hs:=St.start w0
 refine wc (a':=(fu 52 [ag .u64 a0])) (xs fun _ s1=>(xn 2 fun _ j2=>(so 0 (oBe 1 86 .u64 a0 hs fun b1 w gw hs=>(so 1 (oNe 2 86 .u64 (zeroA 25) hs fun b2 w gw hs=>?_))))))
 refine fj j2 s1 (xs fun _ s3=>(xn 3 fun _ j4=>?_))
 obtain ⟨r3,hg,h⟩:=ob h
 refine so 0 (oC 8 hs (ref08_constants.ok hg _) fun w gw hs=>?_)
 refine so 1 (oNe 3 129 .u64 (zeroA 24) hs fun b4 w gw hs=>?_)
 refine so 2 (oWe 129 .u64 r3 hs 0 fun w kp hs=>?_)
 refine fj j4 s3 (xs fun _ s5=>(xs fun _ s6=>(xn 1 fun _ j7=>(qo 0 4 (I8 0) (fj j7 s6 (?_))))))
 obtain ⟨y7,hy,hk0⟩:=ob h
 refine wp_exq (N:=fun a w=>St w0 [] [.blk b4 (enc .u64 r3) 129,.blk b2 (enc .u64 (zeroA 25)) 86,.blk b1 (enc .u64 y7) 86] [] w∧∃ g9,a=fr g9 53 [(1,[P0 b1,P0 b2])]) (fun N0 nn0=>?_) ?_
 clear hk0
 refine xb ?_
 refine wp_loop_k (fun n a w=>∃ z5 z6,ref08_Permute.l0 K n r3 z5 z6=some y7∧St w0 [] [.blk b4 (enc .u64 r3) 129,.blk b2 (enc .u64 (zeroA 25)) 86,.blk b1 (enc .u64 z6) 86] [] w∧∃ g8,a=fr g8 53 [(1,[P0 b1,P0 b2,P0 b4,I8 z5])]) K ⟨0,a0,hy,hs.conv rfl,eg⟩ ?_
 clear hs h hy
 rintro n a w ⟨z5,z6,h,hs,g8,rfl⟩ KL0 kl0
 cases n with
 | zero=>exact nomatch (show none=some _ from h)
 | succ n=>
  refine xs fun _ s10=>(xs fun _ s11=>(xn 2 fun _ j12=>(qo 0 9 (I8 z5) ?_)))
  obtain ⟨hc,h⟩|⟨hc,h⟩:=of_if h
  refine tb 1 10 (dt hc) ?_
  refine fj j12 s11 (ct (xk (T s10 (xs fun _ s13=>(xb (xs fun _ s14=>(xn 5 fun _ j15=>(tkt 0 13 _ (yWe 86 hs 2 .grow) ?_))))))))
  obtain ⟨r8,hg,h⟩:=ob h
  refine so 1 (oC 14 hs (ref08_spread.ok hg _) fun w gw hs=>?_)
  obtain ⟨r9,hg,h⟩:=ob h
  refine so 2 (oC 15 hs (ref08_move.ok hg _) fun w gw hs=>?_)
  refine so 3 (oNe 5 86 .u64 (zeroA 25) hs fun b10 w gw hs=>?_)
  refine so 4 (oWe 86 .u64 r9 hs 0 fun w kp hs=>?_)
  refine fj j15 s14 (xs fun _ s16=>(xs fun _ s17=>(xn 1 fun _ j18=>(qo 0 6 (I8 0) (fj j18 s17 (?_))))))
  obtain ⟨y13,hy,hk1⟩:=ob h
  refine wp_exq (N:=fun a w=>St w0 [] [.blk b10 (enc .u64 r9) 86,.blk b4 (enc .u64 r3) 129,.blk b2 (enc .u64 (zeroA 25)) 86,.blk b1 (enc .u64 y13) 86] [] w∧∃ g20,a=fr g20 53 [(1,[P0 b1,P0 b2,P0 b4,I8 z5])]) (fun N1 nn1=>?_) ?_
  clear hk1
  refine xb ?_
  refine wp_loop_k (fun n a w=>∃ z11 z12,ref08_Permute.l1 K n r9 z11 z12=some y13∧St w0 [] [.blk b10 (enc .u64 r9) 86,.blk b4 (enc .u64 r3) 129,.blk b2 (enc .u64 (zeroA 25)) 86,.blk b1 (enc .u64 z12) 86] [] w∧∃ g19,a=fr g19 53 [(1,[P0 b1,P0 b2,P0 b4,I8 z5,P0 b10,I8 z11])]) K ⟨0,z6,hy,hs.conv rfl,eg⟩ ?_
  clear hs h hy
  rintro n a w ⟨z11,z12,h,hs,g19,rfl⟩ KL1 kl1
  cases n with
  | zero=>exact nomatch (show none=some _ from h)
  | succ n=>
   refine xs fun _ s21=>(xs fun _ s22=>(xn 2 fun _ j23=>(qo 0 16 (I8 z11) ?_)))
   obtain ⟨hc,h⟩|⟨hc,h⟩:=of_if h
   refine tb 1 17 (dt hc) ?_
   refine fj j23 s22 (ct (xk (T s21 (xs fun _ s24=>(xb (xs fun _ s25=>(xn 4 fun _ j26=>(nq 0 [(20,I8 z11),(21,I8 (iquo .i64 z11 5)),(22,I8 (imul .i64 (iquo .i64 z11 5) 5))] ?_))))))))
   obtain ⟨x14,hx,h⟩:=ob h
   refine tkf 3 7 (I8 x14) (yn hx) (fj j26 s25 (?_))
   refine rg [22] (fun k=>True) 23 fun _ j27=>?_
   have hs:=hs.drawn1
   refine gq 0 23 (I8 z11) (gq 1 24 (I8 z11) ?_)
   obtain ⟨i0_28,i1_28,h⟩:=oc2 h
   refine tgf 2 25 (P1 b10 z11) (yi 86 85 25 1 .i64 z11 i0_28 i1_28) (tgt 3 26 _ (yA hs 0 85 z11 rfl i0_28 i1_28 .grow) (gq 4 27 (I8 x14) (gq 5 28 (I8 z11) (gq 6 29 (I8 (iadd .i64 z11 1)) ?_))))
   refine gq 7 30 (I8 (irem .i64 (iadd .i64 z11 1) 5)) (gq 8 31 (I8 (iadd .i64 x14 (irem .i64 (iadd .i64 z11 1) 5))) ?_)
   obtain ⟨x15,hx,h⟩:=ob h
   have hx:=of_some hx
   subst hx
   obtain ⟨i0_29,i1_29,h⟩:=oc2 h
   refine tgf 9 32 (.pointer (some ⟨b10,0+((iadd .i64 x14 (irem .i64 (iadd .i64 z11 1) 5)):Int).toNat*1,none⟩)) (yi 86 85 25 1 .i64 (iadd .i64 x14 (irem .i64 (iadd .i64 z11 1) 5)) i0_29 i1_29) (tgt 10 33 _ (yA hs 0 85 (iadd .i64 x14 (irem .i64 (iadd .i64 z11 1) 5)) rfl i0_29 i1_29 .grow) (gq 11 34 (U8 (ixor .u64 (rd r9 (iadd .i64 x14 (irem .i64 (iadd .i64 z11 1) 5))) 18446744073709551615)) (gq 12 35 (I8 x14) (gq 13 36 (I8 z11) ?_))))
   refine gq 14 37 (I8 (iadd .i64 z11 2)) (gq 15 38 (I8 (irem .i64 (iadd .i64 z11 2) 5)) (gq 16 39 (I8 (iadd .i64 x14 (irem .i64 (iadd .i64 z11 2) 5))) ?_))
   obtain ⟨x16,hx,h⟩:=ob h
   have hx:=of_some hx
   subst hx
   obtain ⟨i0_30,i1_30,h⟩:=oc2 h
   refine tgf 17 40 (.pointer (some ⟨b10,0+((iadd .i64 x14 (irem .i64 (iadd .i64 z11 2) 5)):Int).toNat*1,none⟩)) (yi 86 85 25 1 .i64 (iadd .i64 x14 (irem .i64 (iadd .i64 z11 2) 5)) i0_30 i1_30) (tgt 18 41 _ (yA hs 0 85 (iadd .i64 x14 (irem .i64 (iadd .i64 z11 2) 5)) rfl i0_30 i1_30 .grow) (gq 19 42 (U8 (iand .u64 (ixor .u64 (rd r9 (iadd .i64 x14 (irem .i64 (iadd .i64 z11 1) 5))) 18446744073709551615) (rd r9 (iadd .i64 x14 (irem .i64 (iadd .i64 z11 2) 5))))) (gq 20 43 (U8 (ixor .u64 (rd r9 z11) (iand .u64 (ixor .u64 (rd r9 (iadd .i64 x14 (irem .i64 (iadd .i64 z11 1) 5))) 18446744073709551615) (rd r9 (iadd .i64 x14 (irem .i64 (iadd .i64 z11 2) 5)))))) ?_)))
   obtain ⟨i0_31,i1_31,h⟩:=oc2 h
   refine tgf 21 44 (P1 b1 z11) (yi 86 85 25 1 .i64 z11 i0_31 i1_31) ?_
   obtain ⟨x17,hx,h⟩:=ob h
   refine go 22 (oA 85 x17 z11 hs 3 rfl (by cases hx; kernel_rfl) i0_31 i1_31 fun w kp hs=>⟨⟨fun hf=>absurd hf (by decide),.all _ _⟩,?_⟩)
   refine gf (j27 _ _ ?_)
   refine iN (T s24 (xn 3 fun _ j32=>?_))
   refine nq 0 [(18,I8 z11),(19,I8 (iadd .i64 z11 1))] ?_
   obtain ⟨x18,hx,h⟩:=ob h
   refine tkf 2 6 (I8 x18) (yn hx) (fin (j32 _ _ ?_))
   exact tn (kl1 _ _ ⟨n,ls n,x18,(wr z12 z11 x17),h,(hs.conv rfl),eg⟩)
   refine tb 1 17 (df hc) (fj j23 s22 (cf (xexit (tx (tx (iH ?_))))))
   obtain rfl:=of_some h
   exact exq_n (nn1 _ _ ⟨(hs.conv rfl),eg⟩)
  clear hs h hy
  rintro a w ⟨hs,g20,rfl⟩
  have h:=hk1
  refine T s16 (?_)
  refine rg [7] (fun k=>True) 8 fun _ j33=>?_
  have hs:=hs.drawn1
  refine tgf 0 45 (P1 b1 0) (yi 86 85 25 1 .i64 0 (by decide) (by decide)) (tgt 1 46 _ (yA hs 3 85 0 rfl (by decide) (by decide) .grow) (gq 2 47 (I8 z5) ?_))
  obtain ⟨i0_35,i1_35,h⟩:=oc2 h
  refine tgf 3 48 (P1 b4 z5) (yi 129 85 24 1 .i64 z5 i0_35 i1_35) (tgt 4 49 _ (yA hs 1 85 z5 rfl i0_35 i1_35 .grow) (gq 5 50 (U8 (ixor .u64 (rd y13 0) (rd r3 z5))) (tgf 6 51 (P1 b1 0) (yi 86 85 25 1 .i64 0 (by decide) (by decide)) ?_)))
  obtain ⟨x19,hx,h⟩:=ob h
  refine go 7 (oA 85 x19 0 hs 3 rfl (by cases hx; kernel_rfl) (by decide) (by decide) fun w kp hs=>⟨⟨fun hf=>absurd hf (by decide),.all _ _⟩,?_⟩)
  refine gf (j33 _ _ ?_)
  refine iN (T s13 (xn 3 fun _ j37=>?_))
  refine nq 0 [(11,I8 z5),(12,I8 (iadd .i64 z5 1))] ?_
  obtain ⟨x20,hx,h⟩:=ob h
  refine tkf 2 4 (I8 x20) (yn hx) (fin (j37 _ _ ?_))
  exact tn (kl0 _ _ ⟨n,ls n,x20,(wr y13 0 x19),h,(dr [0,1,1,1] hs),eg⟩)
  refine tb 1 10 (df hc) (fj j12 s11 (cf (xexit (tx (tx (iH ?_))))))
  obtain rfl:=of_some h
  exact exq_n (nn0 _ _ ⟨(hs.conv rfl),eg⟩)
 clear hs h hy
 rintro a w ⟨hs,g9,rfl⟩
 have h:=hk0
 refine T s5 (xs fun _ s38=>(xn 2 fun _ j39=>(tkt 0 52 _ (yWe 86 hs 2 .grow) (so 1 (oWe 86 .u64 y7 hs 1 fun w kp hs=>(fj j39 s38 (xret ?_)))))))
 obtain rfl:=of_some h
 exact qq _ _ (pr (rr [.cell 2 86] [ag .u64 y7] (.cons (rcN 25 hs 1 rfl (enc_len _ _)) .nil)) ⟨cr,hs.none⟩)
theorem ref08_put.ok {K:Nat}{a0:Arr 25}{a1 a2:Int}{r0:Arr 25}(h:ref08_put.f K a0 a1 a2=some r0) (w0:World):Ret Tryz.prog 89 #[ag .u64 a0,I8 a1,U1 a2] w0 (ag .u64 r0):=by
 refine calls_k Tryz.func89 rfl fun Q qq=>?_
 have hs:=St.start w0
 refine wc (a':=(fu 19 [ag .u64 a0,I8 a1,U1 a2])) (xs fun _ s1=>(xn 2 fun _ j2=>(so 0 (oBe 3 86 .u64 a0 hs fun b1 w gw hs=>(so 1 (oNe 6 86 .u64 (zeroA 25) hs fun b2 w gw hs=>?_))))))
 refine fj j2 s1 (xs fun _ s3=>?_)
 refine rg [14] (fun k=>True) 15 fun _ j4=>?_
 have hs:=hs.drawn1
 refine gq 0 7 (I8 a1) (gq 1 8 (I8 (iquo .i64 a1 8)) (gq 2 9 (I8 a1) (gq 3 10 (I8 (iquo .i64 a1 8)) ?_)))
 obtain ⟨x3,hx,h⟩:=ob h
 have hx:=of_some hx
 subst hx
 obtain ⟨i0_5,i1_5,h⟩:=oc2 h
 refine tgf 4 11 (P1 b1 (iquo .i64 a1 8)) (yi 86 85 25 1 .i64 (iquo .i64 a1 8) i0_5 i1_5) (tgt 5 12 _ (yA hs 1 85 (iquo .i64 a1 8) rfl i0_5 i1_5 .grow) (gq 6 13 (U1 a2) (gq 7 14 (U8 (iconv .u64 a2)) (gq 8 15 (I8 a1) ?_))))
 refine gq 9 16 (I8 (irem .i64 a1 8)) (gq 10 17 (I8 (imul .i64 8 (irem .i64 a1 8))) ?_)
 obtain ⟨h0,h⟩:=oc h
 refine tgf 11 18 (U8 (ishl .u64 (iconv .u64 a2) (imul .i64 8 (irem .i64 a1 8)))) (ysl 85 .i64 h0) (gq 12 19 (U8 (ixor .u64 (rd a0 (iquo .i64 a1 8)) (ishl .u64 (iconv .u64 a2) (imul .i64 8 (irem .i64 a1 8))))) ?_)
 obtain ⟨x4,hx,h⟩:=ob h
 have hx:=of_some hx
 subst hx
 obtain ⟨i0_6,i1_6,h⟩:=oc2 h
 refine tgf 13 20 (P1 b1 (iquo .i64 a1 8)) (yi 86 85 25 1 .i64 (iquo .i64 a1 8) i0_6 i1_6) ?_
 obtain ⟨x5,hx,h⟩:=ob h
 refine go 14 (oA 85 x5 (iquo .i64 a1 8) hs 1 rfl (by cases hx; kernel_rfl) i0_6 i1_6 fun w kp hs=>⟨⟨fun hf=>absurd hf (by decide),.all _ _⟩,?_⟩)
 refine gf (j4 _ _ (T s3 (xs fun _ s7=>(xn 2 fun _ j8=>(tkt 0 21 _ (yWe 86 hs 1 .grow) (so 1 (oWe 86 .u64 (wr a0 (iquo .i64 a1 8) x5) hs 0 fun w kp hs=>(fj j8 s7 (xret ?_)))))))))
 obtain rfl:=of_some h
 exact qq _ _ (pr (rr [.cell 6 86] [ag .u64 (wr a0 (iquo .i64 a1 8) x5)] (.cons (rcN 25 hs 0 rfl (enc_len _ _)) .nil)) ⟨cr,hs.none⟩)
end Go.Proofs.YtemdbgmldljbpaaGreatDoor

/- own -/
set_option linter.unusedVariables false
set_option linter.unusedSimpArgs false
set_option maxRecDepth 100000
set_option maxHeartbeats 4000000
namespace Go.Proofs.YtemdbgmldljbpaaGreatDoor
open Go.Mx
attribute [local irreducible] wpOp
theorem law27_few.ok {K:Nat}{a0:List (List Int)}{r0:Bool}{a0_A:Option Addr}{a0_n a0_c:Nat}{a0_H:List HS}(h:law27_few.f K a0=some r0) (w0:World) (hp0:LLP CB w0 a0_A a0_n a0_c a0_H a0):Ret Tryz.prog 10 #[.slice a0_A a0_n a0_c] w0 (.bool r0):=by
 refine calls_k Tryz.func10 rfl fun Q qq=>?_
 have hs:=St.startR (all_cons (LLP.ent hp0) all_nil)
 refine wc (a':=(fu 14 [.slice a0_A a0_n a0_c])) (xs fun _ s1=>(xn 1 fun _ j2=>(qo 0 2 (.bool false) (fj j2 s1 (xs fun _ s3=>(xs fun _ s4=>(xn 3 fun _ j5=>?_)))))))
 refine qo 0 5 (.slice a0_A a0_n a0_c) (tkf 1 6 (I8 (a0.length:Int)) (ylLL (hs.rowLL 0 rfl)) (qo 2 7 (I8 0) (fj j5 s4 (?_))))
 obtain ⟨t0,hy,hk0⟩:=ob h
 refine wp_exq (N:=fun a w=>t0 = .inl ()∧St w0 [] [] [.rowLL CB a0_A a0_n a0_c a0_H a0] w∧∃ g7,a=fr g7 15 []) (fun N0 nn0=>?_) ?_
 refine xb ?_
 refine wp_loop_k (fun n a w=>∃ z1,law27_few.l0 K n a0 z1=some t0∧St w0 [] [] [.rowLL CB a0_A a0_n a0_c a0_H a0] w∧∃ g6,a=fr g6 15 [(5,[.slice a0_A a0_n a0_c,I8 (a0.length:Int),I8 z1])]) K ⟨0,hy,hs.conv rfl,eg⟩ ?_
 clear hs h hy
 rintro n a w ⟨z1,h,hs,g6,rfl⟩ KL0 kl0
 cases n with
 | zero=>exact nomatch (show none=some _ from h)
 | succ n=>
  refine xs fun _ s8=>(xn 1 fun _ j9=>?_)
  obtain ⟨hc,h⟩|⟨hc,h⟩:=of_if h
  refine tb 0 8 (dt hc) ?_
  refine fj j9 s8 (xs fun _ s10=>(ct (xk (T s10 (xs fun _ s11=>(xb (xs fun _ s12=>(xn 3 fun _ j13=>?_))))))))
  obtain ⟨h0,h1,h⟩:=oc2 h
  have i0_14:=h0
  have i1_14:=h1
  refine tkf 0 9 (PA CS a0_A z1) (yiLL (C:=CB) 57 24 .i64 z1 (hs.rowLL 0 rfl) h0 h1) ?_
  obtain ⟨s2_A,hA⟩ : ∃ A,A=(rdL CS a0_H z1).1:=⟨_,rfl⟩
  obtain ⟨s2_n,hn⟩ : ∃ n,n=(rdL CS a0_H z1).2.1:=⟨_,rfl⟩
  obtain ⟨s2_c,hc⟩ : ∃ c,c=(rdL CS a0_H z1).2.2:=⟨_,rfl⟩
  refine tkt 1 10 (.slice s2_A s2_n s2_c) (by subst hA hn hc; exact yLL (C:=CB) 24 z1 (hs.rowLL 0 rfl) i0_14 i1_14) ?_
  have hs:=hs.addInn (C:=CB) 0 rfl i0_14 i1_14 hA hn hc
  refine qo 2 4 (.slice s2_A s2_n s2_c) (fj j13 s12 (xs fun _ s15=>(xn 3 fun _ j16=>(qo 0 11 (.slice s2_A s2_n s2_c) (tkf 1 12 (I8 ((rdLL a0 z1).length:Int)) (yl (rR 0 hs)) ?_)))))
  obtain ⟨hc,h⟩|⟨hc,h⟩:=of_if h
  refine tb 2 13 (dt hc) ?_
  refine fj j16 s15 (ct (xs fun _ s17=>(xn 1 fun _ j18=>(qo 0 2 (.bool false) (fj j18 s17 (xret (iR (tr (tr (iR (exq_r (tr ?_))))))))))))
  obtain rfl:=of_some h
  have q0:=of_some hk0
  subst q0
  exact qq _ _ (pt [2] [.bool false] ⟨cr,hs.none⟩)
  refine tb 2 13 (df hc) (fj j16 s15 (cf (xk (iN (T s11 (xn 2 fun _ j19=>(nq 0 [(14,I8 (iadd .i64 z1 1)),(7,I8 (iadd .i64 z1 1))] (fin (j19 _ _ ?_)))))))))
  exact tn (kl0 _ _ ⟨n,ls n,(iadd .i64 z1 1),h,(pk [1] hs),eg⟩)
  refine tb 0 8 (df hc) (fj j9 s8 (xs fun _ s20=>(cf (xexit (tx (tx (iH ?_)))))))
  obtain rfl:=of_some h
  exact exq_n (nn0 _ _ ⟨rfl,(hs.conv rfl),eg⟩)
 clear hs h hy
 rintro a w ⟨rfl,hs,g7,rfl⟩
 have h:=hk0
 refine T s3 (xs fun _ s21=>(xn 1 fun _ j22=>(qo 0 2 (.bool true) (fj j22 s21 (xret ?_)))))
 obtain rfl:=of_some h
 exact qq _ _ (pt [2] [.bool true] ⟨cr,hs.none⟩)
theorem ref27_Sizes.ok {K:Nat}{a0_0 a0_1 a0_2 a0_3 a0_4 r0 r1 r2:Int}(h:ref27_Sizes.f K a0_0 a0_1 a0_2 a0_3 a0_4=some (r0,r1,r2)) (w0:World):Ret Tryz.prog 12 #[.agg #[I8 a0_0,I8 a0_1,I8 a0_2,I8 a0_3,I8 a0_4]] w0 (.tuple #[I8 r0,I8 r1,I8 r2]):=by
 refine calls_k Tryz.func12 rfl fun Q qq=>?_
 have hs:=St.start w0
 refine wc (a':=(fu 21 [.agg #[I8 a0_0,I8 a0_1,I8 a0_2,I8 a0_3,I8 a0_4]])) (xs fun _ s1=>(xn 4 fun _ j2=>(so 0 (oBa 1 23 hs [I8 a0_0,I8 a0_1,I8 a0_2,I8 a0_3,I8 a0_4] fun b1 w gw hs=>(nq 1 [(2,I8 0),(3,I8 0),(4,I8 0)] ?_)))))
 refine fj j2 s1 (xs fun _ s3=>(xn 9 fun _ j4=>(tkt 0 9 _ (yWs 5 23 hs 0 .grow) ?_)))
 obtain ⟨⟨r2,r3,r4⟩,hg,h⟩:=ob h
 refine so 1 (oC 10 hs (ref26_Sizes.ok hg _) fun w gw hs=>?_)
 refine nq 2 [(8,.tuple #[I8 r2,I8 r3,I8 r4]),(11,I8 r2),(12,I8 r3),(13,I8 r4),(5,I8 r2),(6,I8 r3),(7,I8 r4)] (fj j4 s3 (xs fun _ s5=>(xs fun _ s6=>(xn 2 fun _ j7=>(qo 0 14 (I8 r2) ?_)))))
 obtain ⟨hc,h⟩|⟨hc,h⟩:=of_if h
 refine tb 1 15 (et hc) ?_
 refine fj j7 s6 (ct (xs fun _ s8=>(xn 3 fun _ j9=>(nq 0 [(2,I8 0),(3,I8 0),(4,I8 0)] (fj j9 s8 (xret (tr ?_)))))))
 obtain ⟨rfl,rfl,rfl⟩:=os3 h
 exact qq _ _ (pt [2,3,4] [I8 0,I8 0,I8 0] ⟨cr,hs.none⟩)
 refine tb 1 15 (ef hc) (fj j7 s6 (cf (xk (T s5 (xs fun _ s10=>(xn 9 fun _ j11=>(nq 0 [(16,I8 r2),(17,I8 r2),(18,I8 r3),(19,I8 (iadd .i64 r2 r3)),(20,I8 (iadd .i64 (iadd .i64 r2 r3) 64)),(21,I8 r4),(2,I8 r2)] ?_)))))))
 obtain ⟨x5,hx,h⟩:=ob h
 refine tkf 7 3 (I8 x5) (yn hx) (qo 8 4 (I8 r4) (fj j11 s10 (xret ?_)))
 obtain ⟨rfl,rfl,rfl⟩:=os3 h
 exact qq _ _ (pt [2,3,4] [I8 r2,I8 x5,I8 r4] ⟨cr,hs.none⟩)
theorem kpke_expanded_s2.ok {K:Nat}{ca0 ca1 ca2 ca3 ca4:Int}{ca5:List Int}{y1:List (List (Arr 256))}{y2:Int}{ca5_A:Option Addr}{ca5_n ca5_c:Nat}(h:kpke_expanded_s2.f K ca0 ca1 ca2 ca3 ca4 ca5=some (y1,y2)){w0 w:World}{X:List Nat}{Lt Rt:List Ent}(hs:St w0 X Lt (.rowL CB ca5_A ca5_n ca5_c ca5::.rowL CW (some ⟨0,0,none⟩) 1 1 ([tab_0])::.rowL CV (some ⟨1,0,none⟩) 1 1 ([tab_1])::.rowL CV (some ⟨2,0,none⟩) 1 1 ([tab_2])::Rt) w):Calls Tryz.prog 60 #[.agg #[I8 ca0,I8 ca1,I8 ca2,I8 ca3,I8 ca4],.slice ca5_A ca5_n ca5_c,.bool false] w fun e w'=>∃ (y1_A:Option Addr) (y1_n:Nat) (y1_c:Nat) (y1_H:List HS),e = .returned (.tuple #[.slice y1_A y1_n y1_c,I8 y2])∧St w0 X (.ownL CS y1_A y1_n y1_c y1_H 97::Lt) (.inn CZ y1_H y1::.rowL CB ca5_A ca5_n ca5_c ca5::.rowL CW (some ⟨0,0,none⟩) 1 1 ([tab_0])::.rowL CV (some ⟨1,0,none⟩) 1 1 ([tab_1])::.rowL CV (some ⟨2,0,none⟩) 1 1 ([tab_2])::Rt) w':=by
 refine calls_k Tryz.func60 rfl fun Q qq=>?_
 refine wc (a':=(fu 55 [.agg #[I8 ca0,I8 ca1,I8 ca2,I8 ca3,I8 ca4],.slice ca5_A ca5_n ca5_c,.bool false])) (xs fun _ s1=>(xn 3 fun _ j2=>(so 0 (oBa 3 23 hs [I8 ca0,I8 ca1,I8 ca2,I8 ca3,I8 ca4] fun b3 w gw hs=>(nq 1 [(6,.slice none 0 0),(7,I8 0)] ?_)))))
 refine fj j2 s1 (xs fun _ s3=>(xn 4 fun _ j4=>(qo 0 15 (P0 b3) (tkt 1 16 _ (yv hs 0 0 3 rfl (by rfl) .grow) ?_))))
 obtain ⟨h0,h1,h⟩:=oc2 h
 refine so 2 (oMk (C:=CS) 17 94 97 24 5864062014805 .i64 .i64 ca0 hs h0 h1 (by decide) (by decide) fun s4_A s4_n s4_c w gw hs=>?_)
 have hs:=hs.addInns0 CZ 70 (ca0:Int).toNat
 refine qo 3 8 (.slice s4_A s4_n s4_c) (fj j4 s3 (xs fun _ s5=>(xs fun _ s6=>(xn 3 fun _ j7=>(qo 0 18 (.slice s4_A s4_n s4_c) (tkf 1 19 (I8 ((List.replicate (ca0:Int).toNat ([]:List (Arr 256))).length:Int)) (ylNN (⟨hs.rowL 1 rfl,hs.innsLen 0 rfl⟩ : NNP _ _ _ _ _ _)) (qo 2 20 (I8 0) ?_)))))))
 refine fj j7 s6 (?_)
 obtain ⟨t0,hy,hk0⟩:=ob h
 refine wp_exq (N:=fun a w=>∃ y7,∃ (y7_H:List HS),t0 = .inl y7∧St w0 X (.inns CZ 70 y7_H y7::.ownL CS s4_A s4_n s4_c y7_H 97::.blk b3 ([I8 ca0,I8 ca1,I8 ca2,I8 ca3,I8 ca4]) 23::Lt) (.rowL CB ca5_A ca5_n ca5_c ca5::.rowL CW (some ⟨0,0,none⟩) 1 1 ([tab_0])::.rowL CV (some ⟨1,0,none⟩) 1 1 ([tab_1])::.rowL CV (some ⟨2,0,none⟩) 1 1 ([tab_2])::Rt) w∧∃ g9,a=fr g9 58 [(8,[.slice s4_A s4_n s4_c])]) (fun N0 nn0=>?_) ?_
 refine xb ?_
 refine wp_loop_k (fun n a w=>∃ z5 z6,∃ (z6_H:List HS),kpke_expanded_s2.l0 K n ca0 ca5 z5 z6=some t0∧St w0 X (.inns CZ 70 z6_H z6::.ownL CS s4_A s4_n s4_c z6_H 97::.blk b3 ([I8 ca0,I8 ca1,I8 ca2,I8 ca3,I8 ca4]) 23::Lt) (.rowL CB ca5_A ca5_n ca5_c ca5::.rowL CW (some ⟨0,0,none⟩) 1 1 ([tab_0])::.rowL CV (some ⟨1,0,none⟩) 1 1 ([tab_1])::.rowL CV (some ⟨2,0,none⟩) 1 1 ([tab_2])::Rt) w∧∃ g8,a=fr g8 58 [(1,[.slice ca5_A ca5_n ca5_c,.bool false,P0 b3]),(8,[.slice s4_A s4_n s4_c]),(19,[I8 ((List.replicate (ca0:Int).toNat ([]:List (Arr 256))).length:Int),I8 z5])]) K ⟨0,(List.replicate (ca0:Int).toNat ([]:List (Arr 256))),(List.replicate (ca0:Int).toNat (Cod.zero CS)),hy,hs.conv rfl,eg⟩ ?_
 clear hs h hy
 rintro n a w ⟨z5,z6,z6_H,h,hs,g8,rfl⟩ KL0 kl0
 cases n with
 | zero=>exact nomatch (show none=some _ from h)
 | succ n=>
  refine xs fun _ s10=>(xn 1 fun _ j11=>?_)
  obtain ⟨hc,h⟩|⟨hc,h⟩:=of_if h
  refine tb 0 21 (dt hc) ?_
  refine fj j11 s10 (xs fun _ s12=>(ct (xk (T s12 (xs fun _ s13=>(xb (xs fun _ s14=>(xn 2 fun _ j15=>(nq 0 [(22,I8 z5),(9,I8 z5)] (fj j15 s14 (xs fun _ s16=>(xn 3 fun _ j17=>(qo 0 23 (P0 b3) (tkt 1 24 _ (yv hs 2 0 3 rfl (by rfl) .grow) ?_))))))))))))))
  refine qo 2 25 (I8 0) (fj j17 s16 (?_))
  obtain ⟨t1,hy,hk1⟩:=ob h
  refine wp_exq (N:=fun a w=>∃ y10,∃ (y10_H:List HS),t1 = .inl y10∧St w0 X (.inns CZ 70 y10_H y10::.ownL CS s4_A s4_n s4_c y10_H 97::.blk b3 ([I8 ca0,I8 ca1,I8 ca2,I8 ca3,I8 ca4]) 23::Lt) (.rowL CB ca5_A ca5_n ca5_c ca5::.rowL CW (some ⟨0,0,none⟩) 1 1 ([tab_0])::.rowL CV (some ⟨1,0,none⟩) 1 1 ([tab_1])::.rowL CV (some ⟨2,0,none⟩) 1 1 ([tab_2])::Rt) w∧∃ g19,a=fr g19 58 [(1,[.slice ca5_A ca5_n ca5_c,.bool false,P0 b3]),(8,[.slice s4_A s4_n s4_c]),(19,[I8 ((List.replicate (ca0:Int).toNat ([]:List (Arr 256))).length:Int),I8 z5])]) (fun N1 nn1=>?_) ?_
  refine xb ?_
  refine wp_loop_k (fun n a w=>∃ z8 z9,∃ (z9_H:List HS),kpke_expanded_s2.l1 K n ca0 ca5 z5 z8 z9=some t1∧St w0 X (.inns CZ 70 z9_H z9::.ownL CS s4_A s4_n s4_c z9_H 97::.blk b3 ([I8 ca0,I8 ca1,I8 ca2,I8 ca3,I8 ca4]) 23::Lt) (.rowL CB ca5_A ca5_n ca5_c ca5::.rowL CW (some ⟨0,0,none⟩) 1 1 ([tab_0])::.rowL CV (some ⟨1,0,none⟩) 1 1 ([tab_1])::.rowL CV (some ⟨2,0,none⟩) 1 1 ([tab_2])::Rt) w∧∃ g18,a=fr g18 58 [(1,[.slice ca5_A ca5_n ca5_c,.bool false,P0 b3]),(8,[.slice s4_A s4_n s4_c,I8 z5]),(19,[I8 ((List.replicate (ca0:Int).toNat ([]:List (Arr 256))).length:Int),I8 z5]),(24,[I8 ca0,I8 z8])]) K ⟨0,z6,z6_H,hy,hs.conv rfl,eg⟩ ?_
  clear hs h hy
  rintro n a w ⟨z8,z9,z9_H,h,hs,g18,rfl⟩ KL1 kl1
  cases n with
  | zero=>exact nomatch (show none=some _ from h)
  | succ n=>
   refine xs fun _ s20=>(xn 1 fun _ j21=>?_)
   obtain ⟨hc,h⟩|⟨hc,h⟩:=of_if h
   refine tb 0 26 (dt hc) ?_
   refine fj j21 s20 (xs fun _ s22=>(ct (xk (T s22 (xs fun _ s23=>(xb (xs fun _ s24=>(xn 2 fun _ j25=>(nq 0 [(27,I8 z8),(10,I8 z8)] (fj j25 s24 (xs fun _ s26=>(xn 6 fun _ j27=>(nq 0 [(28,I8 z5),(29,U1 (iconv .u8 z5)),(30,I8 z8),(31,U1 (iconv .u8 z8))] ?_)))))))))))))
   obtain ⟨x11,hx,h⟩:=ob h
   refine tkf 4 11 (U1 x11) (yn hx) ?_
   obtain ⟨x12,hx,h⟩:=ob h
   refine tkf 5 12 (U1 x12) (yn hx) (fj j27 s26 (xs fun _ s28=>(xs fun _ s29=>(xn 1 fun _ j30=>(qo 0 32 (.bool false) (fj j30 s29 (cf (xk (T s28 (xs fun _ s31=>(xn 10 fun _ j32=>(nq 0 [(36,.slice ca5_A ca5_n ca5_c),(37,U1 x11),(38,U1 x12)] ?_))))))))))))
   obtain ⟨⟨r13,r14⟩,hg,h⟩:=ob h
   refine so 3 (oC 39 hs (kpke_Parts.ok hg _ (rR 0 hs) (rR 1 hs) (rR 2 hs) (rR 3 hs)) fun w gw hs=>?_)
   refine nq 4 [(35,.tuple #[ag .i32 r13,I8 r14]),(40,ag .i32 r13),(41,I8 r14)] (so 7 (oNe 13 70 .i32 (zeroA 256) hs fun b15 w gw hs=>(so 8 (oWe 70 .i32 r13 hs 0 fun w kp hs=>(qo 9 14 (I8 r14) (fj j32 s31 (xs fun _ s33=>(xs fun _ s34=>(xn 2 fun _ j35=>?_)))))))))
   refine qo 0 42 (I8 r14) ?_
   obtain ⟨hc,h⟩|⟨hc,h⟩:=of_if h
   refine tb 1 43 (nf hc) ?_
   refine fj j35 s34 (cf (xk (T s33 (?_))))
   refine rg [8,10] (fun k=>True) 11 fun _ j36=>?_
   have hs:=hs.drawn1
   refine gq 0 45 (.slice s4_A s4_n s4_c) (gq 1 46 (I8 z5) (gq 2 47 (.slice s4_A s4_n s4_c) (gq 3 48 (I8 z5) ?_)))
   obtain ⟨h0,h1,h⟩:=oc2 h
   have i0_37:=h0
   have i1_37:=h1
   refine tgf 4 49 (PA CS s4_A z5) (yiNN 94 97 .i64 z5 (⟨hs.rowL 2 rfl,hs.innsLen 1 rfl⟩ : NNP _ _ _ _ _ _) h0 h1) ?_
   obtain ⟨s16_A,hA⟩ : ∃ A,A=(rdL CS z9_H z5).1:=⟨_,rfl⟩
   obtain ⟨s16_n,hn⟩ : ∃ n,n=(rdL CS z9_H z5).2.1:=⟨_,rfl⟩
   obtain ⟨s16_c,hc⟩ : ∃ c,c=(rdL CS z9_H z5).2.2:=⟨_,rfl⟩
   refine tgt 5 50 (.slice s16_A s16_n s16_c) (by subst hA hn hc; exact yld_loadNN (e:=97) (x:=z5) (⟨hs.rowL 2 rfl,hs.innsLen 1 rfl⟩ : NNP _ _ _ _ _ _) (by kernel_rfl) (by kernel_rfl) i0_37 i1_37) ?_
   have hs:=hs.front 1 rfl
   try dsimp only [List.eraseIdx] at hs
   obtain ⟨hl38,hs⟩:=hs.openI i0_37 i1_37 hA hn hc
   refine wpG.take [6,7,8,9,10] 6 true (some 51) (ag .i32 r13) (by kernel_rfl) (by kernel_rfl) (yWe 70 hs 2 .grow) ?_
   refine go 7 (oLL (C:=CZ) 52 97 70 1 (ag .i32 (zeroA 256)) #[(0,ag .i32 r13)] [r13] hs rfl rfl (by decide) (by decide) fun s17_A s17_n s17_c w gw hs=>⟨.of gw,?_⟩)
   obtain ⟨h0,h⟩:=oc h
   refine go 8 (oAp (C:=CZ) 53 97 97 70 1024 137438953472 hs 1 rfl (rL 0 hs) h0 (by decide) (by decide) fun s18_A s18_n s18_c w hs=>⟨⟨fun hf=>absurd hf (by decide),.all _ _⟩,?_⟩)
   obtain ⟨h0,h1,h⟩:=oc2 h
   have i0_39:=h0
   have i1_39:=h1
   refine tgf 9 54 (PA CS s4_A z5) (yiNN 94 97 .i64 z5 (⟨hs.rowL 4 rfl,hl38⟩ : NNP _ _ _ _ _ _) h0 h1) (go 10 (oL (C:=CS) 97 z5 ((s18_A,s18_n,s18_c):HS) hs 4 rfl i0_39 (by rw [hl38]; exact i1_39) fun w hs=>⟨⟨fun hf=>absurd hf (by decide),.all _ _⟩,?_⟩))
   have hs:=hs.front 2 rfl
   have hs:=hs.front 2 rfl
   try dsimp only [List.eraseIdx] at hs
   have hs:=hs.closeI (x:=z5) hl38 i0_37 i1_37
   refine gf (j36 _ _ ?_)
   refine iN (T s23 (xn 2 fun _ j40=>?_))
   refine nq 0 [(55,I8 (iadd .i64 z8 1)),(25,I8 (iadd .i64 z8 1))] (fin (j40 _ _ ?_))
   exact tn (kl1 _ _ ⟨n,ls n,(iadd .i64 z8 1),(wrL z9 z5 ((rdLL z9 z5)++([r13]:List (Arr 256)))),(wrL z9_H z5 ((s18_A,s18_n,s18_c):HS)),h,(dr [1,0,0,1,1] hs),eg⟩)
   refine tb 1 43 (nt hc) (fj j35 s34 (ct (xs fun _ s41=>(xn 3 fun _ j42=>(nq 0 [(44,I8 r14),(6,.slice none 0 0),(7,I8 r14)] (fj j42 s41 (xret (tr (iR (tr (tr (iR (exq_r (iR (tr (tr (iR (exq_r (tr ?_)))))))))))))))))))
   obtain rfl:=of_some h
   have q0:=of_some hk1
   subst q0
   obtain ⟨q0,qr0⟩:=Prod.mk.inj (of_some hk0)
   have q1:=qr0
   subst q0
   subst q1
   have hs:=hs.front 1 rfl
   try dsimp only [List.eraseIdx] at hs
   have hs:=hs.innsInn
   have hs:=(hs.addNilL CS 97).addInn0 CZ
   exact qq _ _ (pt [6,7] [.slice none 0 0,I8 r14] ⟨none,0,0,[],rfl,((dr [1,0,0,0] hs).pickR (pick_cons 0 rfl (pick_cons 2 rfl (pick_cons 3 rfl (pick_cons 4 rfl (pick_cons 5 rfl (fun _ he=>.tail _ (.tail _ (.tail _ (.tail _ (.tail _ (.tail _ he))))))))))))⟩)
   refine tb 0 26 (df hc) (fj j21 s20 (xs fun _ s43=>(cf (xexit (tx (tx (iH ?_)))))))
   obtain rfl:=of_some h
   exact exq_n (nn1 _ _ ⟨z9,z9_H,rfl,(hs.conv rfl),eg⟩)
  clear hs h hy
  rintro a w ⟨y10,y10_H,rfl,hs,g19,rfl⟩
  have h:=hk1
  refine iN (T s13 (xn 2 fun _ j44=>?_))
  refine nq 0 [(56,I8 (iadd .i64 z5 1)),(20,I8 (iadd .i64 z5 1))] (fin (j44 _ _ ?_))
  exact tn (kl0 _ _ ⟨n,ls n,(iadd .i64 z5 1),y10,y10_H,h,(hs.conv rfl),eg⟩)
  refine tb 0 21 (df hc) (fj j11 s10 (xs fun _ s45=>(cf (xexit (tx (tx (iH ?_)))))))
  obtain rfl:=of_some h
  exact exq_n (nn0 _ _ ⟨z6,z6_H,rfl,(hs.conv rfl),eg⟩)
 clear hs h hy
 rintro a w ⟨y7,y7_H,rfl,hs,g9,rfl⟩
 have h:=hk0
 refine T s5 (xs fun _ s46=>(xn 3 fun _ j47=>(nq 0 [(57,.slice s4_A s4_n s4_c),(6,.slice s4_A s4_n s4_c),(7,I8 0)] (fj j47 s46 (xret ?_)))))
 obtain ⟨rfl,rfl⟩:=os2 h
 have hs:=hs.innsInn
 exact qq _ _ (pt [6,7] [.slice s4_A s4_n s4_c,I8 0] ⟨s4_A,s4_n,s4_c,y7_H,rfl,(dr [1,0] hs)⟩)
theorem kpke_vector_dot_s.ok {K:Nat}{ca0 ca1:List (Arr 256)}{y1:Arr 256}{ca0_A:Option Addr}{ca0_n ca0_c:Nat}{ca1_A:Option Addr}{ca1_n ca1_c:Nat}(h:kpke_vector_dot_s.f K ca0 ca1=some y1){w0 w:World}{X:List Nat}{Lt Rt:List Ent}(hs:St w0 X (.ownL CZ ca0_A ca0_n ca0_c ca0 70::Lt) (.rowL CZ ca1_A ca1_n ca1_c ca1::Rt) w):Calls Tryz.prog 63 #[.slice ca0_A ca0_n ca0_c,.slice ca1_A ca1_n ca1_c] w fun e w'=>e = .returned (ag .i32 y1)∧St w0 X (.ownL CZ ca0_A ca0_n ca0_c ca0 70::Lt) (.rowL CZ ca1_A ca1_n ca1_c ca1::Rt) w':=by
 refine calls_k Tryz.func63 rfl fun Q qq=>?_
 refine wc (a':=(fu 23 [.slice ca0_A ca0_n ca0_c,.slice ca1_A ca1_n ca1_c])) (xs fun _ s1=>(xn 1 fun _ j2=>(so 0 (oNe 4 70 .i32 (zeroA 256) hs fun b2 w gw hs=>(fj j2 s1 (xs fun _ s3=>(xn 1 fun _ j4=>?_)))))))
 refine so 0 (oNe 5 70 .i32 (zeroA 256) hs fun b3 w gw hs=>?_)
 refine fj j4 s3 (xs fun _ s5=>(xs fun _ s6=>(xn 3 fun _ j7=>(qo 0 8 (.slice ca0_A ca0_n ca0_c) (tkf 1 9 (I8 (ca0.length:Int)) (yl (rL 2 hs)) (qo 2 10 (I8 0) (fj j7 s6 (?_))))))))
 obtain ⟨y6,hy,hk0⟩:=ob h
 refine wp_exq (N:=fun a w=>St w0 X (.blk b3 (enc .i32 y6) 70::.blk b2 (enc .i32 (zeroA 256)) 70::.ownL CZ ca0_A ca0_n ca0_c ca0 70::Lt) (.rowL CZ ca1_A ca1_n ca1_c ca1::Rt) w∧∃ g9,a=fr g9 25 [(4,[P0 b2,P0 b3])]) (fun N0 nn0=>?_) ?_
 clear hk0
 refine xb ?_
 refine wp_loop_k (fun n a w=>∃ z4 z5,kpke_vector_dot_s.l0 K n ca0 ca1 z4 z5=some y6∧St w0 X (.blk b3 (enc .i32 z5) 70::.blk b2 (enc .i32 (zeroA 256)) 70::.ownL CZ ca0_A ca0_n ca0_c ca0 70::Lt) (.rowL CZ ca1_A ca1_n ca1_c ca1::Rt) w∧∃ g8,a=fr g8 25 [(1,[.slice ca1_A ca1_n ca1_c]),(4,[P0 b2,P0 b3]),(8,[.slice ca0_A ca0_n ca0_c,I8 (ca0.length:Int),I8 z4])]) K ⟨0,(zeroA 256),hy,hs.conv rfl,eg⟩ ?_
 clear hs h hy
 rintro n a w ⟨z4,z5,h,hs,g8,rfl⟩ KL0 kl0
 cases n with
 | zero=>exact nomatch (show none=some _ from h)
 | succ n=>
  refine xs fun _ s10=>(xn 1 fun _ j11=>?_)
  obtain ⟨hc,h⟩|⟨hc,h⟩:=of_if h
  refine tb 0 11 (dt hc) ?_
  refine fj j11 s10 (xs fun _ s12=>(ct (xk (T s12 (xs fun _ s13=>(xb (xs fun _ s14=>(xn 6 fun _ j15=>(qo 0 12 (I8 z4) ?_)))))))))
  obtain ⟨h0,h1,h⟩:=oc2 h
  have i0_16:=h0
  have i1_16:=h1
  refine tkf 1 13 (PA CZ ca0_A z4) (yiL (C:=CZ) 97 70 .i64 z4 (rL 2 hs) h0 h1) (tkt 2 14 _ (yLA (C:=CZ) 70 z4 (rL 2 hs) rfl i0_16 i1_16) (so 3 (oNe 7 70 .i32 (zeroA 256) hs fun b7 w gw hs=>(qo 4 6 (I8 z4) (so 5 (oWe 70 .i32 (rdL CZ ca0 z4) hs 0 fun w kp hs=>?_))))))
  refine fj j15 s14 (?_)
  refine rg [8] (fun k=>True) 9 fun _ j17=>?_
  have hs:=hs.drawn1
  refine tgt 0 15 _ (yWe 70 hs 1 .grow) (tgt 1 16 _ (yWe 70 hs 0 .grow) (gq 2 17 (.slice ca1_A ca1_n ca1_c) (gq 3 18 (I8 z4) ?_)))
  obtain ⟨h0,h1,h⟩:=oc2 h
  have i0_18:=h0
  have i1_18:=h1
  refine tgf 4 19 (PA CZ ca1_A z4) (yiL (C:=CZ) 97 70 .i64 z4 (rR 0 hs) h0 h1) (tgt 5 20 _ (yLA (C:=CZ) 70 z4 (rR 0 hs) rfl i0_18 i1_18) ?_)
  obtain ⟨r8,hg,h⟩:=ob h
  refine go 6 (oC 21 hs (kq_Mul.ok hg _) fun w gw hs=>⟨.of gw,?_⟩)
  obtain ⟨r9,hg,h⟩:=ob h
  refine go 7 (oC 22 hs (kq_Add.ok hg _) fun w gw hs=>⟨.of gw,?_⟩)
  refine go 8 (oWe 70 .i32 r9 hs 1 fun w kp hs=>⟨⟨fun hf=>absurd hf (by decide),.all _ _⟩,?_⟩)
  refine gf (j17 _ _ ?_)
  refine iN (T s13 (xn 2 fun _ j19=>?_))
  refine nq 0 [(23,I8 (iadd .i64 z4 1)),(10,I8 (iadd .i64 z4 1))] (fin (j19 _ _ ?_))
  exact tn (kl0 _ _ ⟨n,ls n,(iadd .i64 z4 1),r9,h,(dr [0,1,1,1] hs),eg⟩)
  refine tb 0 11 (df hc) (fj j11 s10 (xs fun _ s20=>(cf (xexit (tx (tx (iH ?_)))))))
  obtain rfl:=of_some h
  exact exq_n (nn0 _ _ ⟨(hs.conv rfl),eg⟩)
 clear hs h hy
 rintro a w ⟨hs,g9,rfl⟩
 have h:=hk0
 refine T s5 (xs fun _ s21=>(xn 2 fun _ j22=>(tkt 0 24 _ (yWe 70 hs 0 .grow) (so 1 (oWe 70 .i32 y6 hs 1 fun w kp hs=>(fj j22 s21 (xret ?_)))))))
 obtain rfl:=of_some h
 exact qq _ _ (pr (rr [.cell 4 70] [ag .i32 y6] (.cons (rcN 256 hs 1 rfl (enc_len _ _)) .nil)) ⟨rfl,(dr [0,0,1] hs)⟩)
theorem kpke_Keys.ok {K:Nat}{a0_0 a0_1 a0_2 a0_3 a0_4:Int}{a1 r0 r1:List Int}{r2:Int}{a1_A:Option Addr}{a1_n a1_c:Nat}(h:kpke_Keys.f K a0_0 a0_1 a0_2 a0_3 a0_4 a1=some (r0,r1,r2)) (w0:World) (hp1:RowL CB w0 a1_A a1_n a1_c a1) (hg0:RowL CW w0 (some ⟨0,0,none⟩) 1 1 [tab_0]) (hg1:RowL CV w0 (some ⟨1,0,none⟩) 1 1 [tab_1]) (hg2:RowL CV w0 (some ⟨2,0,none⟩) 1 1 [tab_2]):Calls Tryz.prog 29 #[.agg #[I8 a0_0,I8 a0_1,I8 a0_2,I8 a0_3,I8 a0_4],.slice a1_A a1_n a1_c] w0 fun e w'=>∃ h:(Option Addr × Nat × Nat) × (Option Addr × Nat × Nat),e = .returned (.tuple #[.slice h.1.1 h.1.2.1 h.1.2.2,.slice h.2.1 h.2.2.1 h.2.2.2,I8 r2])∧St w0 [] [.ownL CB h.1.1 h.1.2.1 h.1.2.2 r0 5,.ownL CB h.2.1 h.2.2.1 h.2.2.2 r1 5] [] w':=by
 refine calls_k Tryz.func29 rfl fun Q qq=>?_
 have hs:=St.startR (all_cons (RowP.ent hp1) (all_cons (RowP.ent hg0) (all_cons (RowP.ent hg1) (all_cons (RowP.ent hg2) all_nil))))
 refine wc (a':=(fu 91 [.agg #[I8 a0_0,I8 a0_1,I8 a0_2,I8 a0_3,I8 a0_4],.slice a1_A a1_n a1_c])) (xs fun _ s1=>(xn 4 fun _ j2=>(so 0 (oBa 2 23 hs [I8 a0_0,I8 a0_1,I8 a0_2,I8 a0_3,I8 a0_4] fun b1 w gw hs=>(nq 1 [(4,.slice none 0 0),(5,.slice none 0 0),(6,I8 0)] ?_)))))
 refine fj j2 s1 (xs fun _ s3=>(xb (xs fun _ s4=>(xn 4 fun _ j5=>(tkt 0 18 _ (yWs 5 23 hs 0 .grow) ?_)))))
 obtain ⟨r2,hg,h⟩:=ob h
 cases r2 with
 | true=>
  have h:=of_if_t h
  refine so 1 (oC 19 hs (kpke_known.ok hg _) fun w gw hs=>?_)
  refine nq 2 [(20,.bool false),(17,.bool false)] (fj j5 s4 (cf (xs fun _ s6=>(xn 4 fun _ j7=>(qo 0 22 (.slice a1_A a1_n a1_c) (tkf 1 23 (I8 (a1.length:Int)) (yl (rR 0 hs)) ?_))))))
  obtain ⟨hc,h⟩|⟨hc,h⟩:=of_if h
  refine tb 2 24 (nf hc) ?_
  refine qo 3 21 (.bool false) (fj j7 s6 (cf (xk (iN (T s3 (xs fun _ s8=>(xn 13 fun _ j9=>(nq 0 [(26,.slice a1_A a1_n a1_c),(27,P0 b1)] (tkt 2 28 _ (yv hs 0 0 3 rfl (by rfl) .grow) (qo 3 29 (U1 (iconv .u8 a0_0)) ?_))))))))))
  refine so 4 (oLt (C:=CB) 30 24 5 1 (U1 0) #[(0,U1 (iconv .u8 a0_0))] [(iconv .u8 a0_0)] hs rfl (by decide) (by decide) fun s3_A s3_n s3_c w gw hs=>?_)
  refine so 5 (oLt (C:=CS) 31 57 24 2 (.slice none 0 0) #[(0,.slice a1_A a1_n a1_c),(1,.slice s3_A s3_n s3_c)] ([(a1_A,a1_n,a1_c),(s3_A,s3_n,s3_c)]:List HS) hs rfl (by decide) (by decide) fun s4_A s4_n s4_c w gw hs=>?_)
  obtain ⟨r5,hg,h⟩:=ob h
  refine wpS.only 6 (oH 32 hs (bits_Join.ok hg _ (LLP.mk (rL 0 hs) (inn_cons (rR 0 hs) (inn_cons (rL 1 hs) inn_nil)))) ?_)
  rintro ⟨r5_A,r5_n,r5_c⟩ w gw hs
  have hs:=hs.conv (L':=[.ownL CB r5_A r5_n r5_c r5 5,.ownL CS s4_A s4_n s4_c ([(a1_A,a1_n,a1_c),(s3_A,s3_n,s3_c)]:List HS) 24,.ownL CB s3_A s3_n s3_c ([(iconv .u8 a0_0)]:List Int) 5,.blk b1 ([I8 a0_0,I8 a0_1,I8 a0_2,I8 a0_3,I8 a0_4]) 23]) rfl
  refine ⟨fun _=>trivial,?_⟩
  obtain ⟨⟨r6,r7⟩,hg,h⟩:=ob h
  refine wpS.only 7 (oH 33 hs (keccak_Sum.ok hg _ (rL 0 hs) (rR 1 hs) (rR 2 hs) (rR 3 hs)) ?_)
  rintro ⟨r6_A,r6_n,r6_c⟩ w gw hs
  have hs:=hs.conv (L':=[.ownL CB r6_A r6_n r6_c r6 5,.ownL CB r5_A r5_n r5_c r5 5,.ownL CS s4_A s4_n s4_c ([(a1_A,a1_n,a1_c),(s3_A,s3_n,s3_c)]:List HS) 24,.ownL CB s3_A s3_n s3_c ([(iconv .u8 a0_0)]:List Int) 5,.blk b1 ([I8 a0_0,I8 a0_1,I8 a0_2,I8 a0_3,I8 a0_4]) 23]) rfl
  refine ⟨fun _=>trivial,?_⟩
  refine nq 8 [(25,.tuple #[.slice r6_A r6_n r6_c,I8 r7]),(34,.slice r6_A r6_n r6_c),(35,I8 r7),(7,.slice r6_A r6_n r6_c),(8,I8 r7)] (fj j9 s8 (xs fun _ s10=>?_))
  refine rg [] (fun k=>True) 6 fun _ j11=>?_
  have hs:=hs.drawn1
  refine gq 0 36 (.slice r6_A r6_n r6_c) ?_
  have hs:=hs.freeze 0 rfl
  obtain ⟨h0,h1,h⟩:=oc2 h
  obtain ⟨h2,h⟩:=oc h
  obtain ⟨s8_A,hA⟩ : ∃ A,A=if r6_c=(0:Int).toNat then r6_A else adr r6_A ((0:Int).toNat*Cod.size CB):=⟨_,rfl⟩
  obtain ⟨s8_n,hn⟩ : ∃ n,n=(32:Int).toNat-(0:Int).toNat:=⟨_,rfl⟩
  obtain ⟨s8_c,hc⟩ : ∃ c,c=r6_c-(0:Int).toNat:=⟨_,rfl⟩
  refine tgf 1 37 (.slice s8_A s8_n s8_c) (ysb (C:=CB) 24 5 none (some (I8 32)) 0 32 (rR 0 hs) (.inl ⟨rfl,rfl⟩) (.inr ⟨_,rfl⟩) h0 h1 h2 hA hn hc) ?_
  have hs:=hs.addSub (C:=CB) 0 rfl h0 h1 h2 hA hn hc
  refine gq 2 38 (.slice r6_A r6_n r6_c) ?_
  obtain ⟨h0,h1,h⟩:=oc2 h
  obtain ⟨h2,h⟩:=oc h
  obtain ⟨s9_A,hA⟩ : ∃ A,A=if r6_c=(32:Int).toNat then r6_A else adr r6_A ((32:Int).toNat*Cod.size CB):=⟨_,rfl⟩
  obtain ⟨s9_n,hn⟩ : ∃ n,n=((r6.length:Int):Int).toNat-(32:Int).toNat:=⟨_,rfl⟩
  obtain ⟨s9_c,hc⟩ : ∃ c,c=r6_c-(32:Int).toNat:=⟨_,rfl⟩
  refine tgf 3 39 (.slice s9_A s9_n s9_c) (ysb (C:=CB) 24 5 (some (I8 32)) none 32 (r6.length:Int) (rR 1 hs) (.inr ⟨_,rfl⟩) (.inl ⟨rfl,rfl⟩) h0 h1 h2 hA hn hc) ?_
  have hs:=hs.addSub (C:=CB) 1 rfl h0 h1 h2 hA hn hc
  refine gq 4 9 (.slice s8_A s8_n s8_c) (gq 5 10 (.slice s9_A s9_n s9_c) (gf (j11 _ _ (T s10 (xs fun _ s12=>(xn 8 fun _ j13=>(tkt 0 41 _ (yWs 5 23 hs 3 .grow) ?_)))))))
  refine qo 1 42 (.slice s8_A s8_n s8_c) ?_
  have hs:=hs.pickR (pick_cons 1 rfl (pick_cons 4 rfl (pick_cons 5 rfl (pick_cons 6 rfl (pick_cons 0 rfl (pick_cons 2 rfl (pick_cons 3 rfl pick_nil)))))))
  obtain ⟨⟨r10,r11⟩,hg,h⟩:=ob h
  refine wpS.only 2 (wpOp_call (d:=(some 43)) (by kernel_rfl) (fun _=>by kernel_rfl) (kpke_expanded_s2.ok hg hs) ?_)
  rintro e w ⟨y12_A,y12_n,y12_c,y12_H,rfl,hs⟩
  refine ⟨_,rfl,?_⟩
  refine ⟨fun _=>trivial,?_⟩
  refine nq 3 [(40,.tuple #[.slice y12_A y12_n y12_c,I8 r11]),(44,.slice y12_A y12_n y12_c),(45,I8 r11),(11,.slice y12_A y12_n y12_c),(6,I8 r11)] (fj j13 s12 (xs fun _ s14=>(xs fun _ s15=>(xn 2 fun _ j16=>(qo 0 46 (I8 r11) ?_)))))
  obtain ⟨hc,h⟩|⟨hc,h⟩:=of_if h
  refine tb 1 47 (nf hc) ?_
  refine fj j16 s15 (cf (xk (T s14 (xs fun _ s17=>(xn 8 fun _ j18=>(qo 0 49 (P0 b1) (tkt 1 50 _ (yv hs 4 0 3 rfl (by rfl) .grow) (qo 2 51 (.pointer (some ⟨b1,1,none⟩)) (tkt 3 52 _ (yv hs 4 1 3 rfl (by rfl) .grow) ?_)))))))))
  refine qo 4 53 (.slice s9_A s9_n s9_c) ?_
  obtain ⟨r16,hg,h⟩:=ob h
  refine wpS.only 5 (oH 54 hs (kpke_noises.ok hg _ (rR 5 hs) (rR 2 hs) (rR 3 hs) (rR 4 hs)) ?_)
  rintro ⟨r16_A,r16_n,r16_c⟩ w gw hs
  have hs:=hs.conv (L':=[.ownL CZ r16_A r16_n r16_c r16 70,.ownL CS y12_A y12_n y12_c y12_H 97,.ownL CB r5_A r5_n r5_c r5 5,.ownL CS s4_A s4_n s4_c ([(a1_A,a1_n,a1_c),(s3_A,s3_n,s3_c)]:List HS) 24,.ownL CB s3_A s3_n s3_c ([(iconv .u8 a0_0)]:List Int) 5,.blk b1 ([I8 a0_0,I8 a0_1,I8 a0_2,I8 a0_3,I8 a0_4]) 23]) rfl
  refine ⟨fun _=>trivial,?_⟩
  obtain ⟨r17,hg,h⟩:=ob h
  refine wpS.only 6 (oH 55 hs (kpke_vector_parts.ok hg _ (rL 0 hs)) ?_)
  rintro ⟨r17_A,r17_n,r17_c⟩ w gw hs
  have hs:=hs.conv (L':=[.ownL CZ r17_A r17_n r17_c r17 70,.ownL CZ r16_A r16_n r16_c r16 70,.ownL CS y12_A y12_n y12_c y12_H 97,.ownL CB r5_A r5_n r5_c r5 5,.ownL CS s4_A s4_n s4_c ([(a1_A,a1_n,a1_c),(s3_A,s3_n,s3_c)]:List HS) 24,.ownL CB s3_A s3_n s3_c ([(iconv .u8 a0_0)]:List Int) 5,.blk b1 ([I8 a0_0,I8 a0_1,I8 a0_2,I8 a0_3,I8 a0_4]) 23]) rfl
  refine ⟨fun _=>trivial,?_⟩
  refine qo 7 12 (.slice r17_A r17_n r17_c) (fj j18 s17 (xs fun _ s19=>(xn 10 fun _ j20=>(qo 0 56 (P0 b1) (tkt 1 57 _ (yv hs 6 0 3 rfl (by rfl) .grow) (qo 2 58 (.pointer (some ⟨b1,1,none⟩)) ?_))))))
  refine tkt 3 59 _ (yv hs 6 1 3 rfl (by rfl) .grow) (nq 4 [(60,.slice s9_A s9_n s9_c),(61,P0 b1)] (tkt 6 62 _ (yv hs 6 0 3 rfl (by rfl) .grow) ?_))
  obtain ⟨r18,hg,h⟩:=ob h
  refine wpS.only 7 (oH 63 hs (kpke_noises.ok hg _ (rR 5 hs) (rR 2 hs) (rR 3 hs) (rR 4 hs)) ?_)
  rintro ⟨r18_A,r18_n,r18_c⟩ w gw hs
  have hs:=hs.conv (L':=[.ownL CZ r18_A r18_n r18_c r18 70,.ownL CZ r17_A r17_n r17_c r17 70,.ownL CZ r16_A r16_n r16_c r16 70,.ownL CS y12_A y12_n y12_c y12_H 97,.ownL CB r5_A r5_n r5_c r5 5,.ownL CS s4_A s4_n s4_c ([(a1_A,a1_n,a1_c),(s3_A,s3_n,s3_c)]:List HS) 24,.ownL CB s3_A s3_n s3_c ([(iconv .u8 a0_0)]:List Int) 5,.blk b1 ([I8 a0_0,I8 a0_1,I8 a0_2,I8 a0_3,I8 a0_4]) 23]) rfl
  refine ⟨fun _=>trivial,?_⟩
  obtain ⟨r19,hg,h⟩:=ob h
  refine wpS.only 8 (oH 64 hs (kpke_vector_parts.ok hg _ (rL 0 hs)) ?_)
  rintro ⟨r19_A,r19_n,r19_c⟩ w gw hs
  have hs:=hs.conv (L':=[.ownL CZ r19_A r19_n r19_c r19 70,.ownL CZ r18_A r18_n r18_c r18 70,.ownL CZ r17_A r17_n r17_c r17 70,.ownL CZ r16_A r16_n r16_c r16 70,.ownL CS y12_A y12_n y12_c y12_H 97,.ownL CB r5_A r5_n r5_c r5 5,.ownL CS s4_A s4_n s4_c ([(a1_A,a1_n,a1_c),(s3_A,s3_n,s3_c)]:List HS) 24,.ownL CB s3_A s3_n s3_c ([(iconv .u8 a0_0)]:List Int) 5,.blk b1 ([I8 a0_0,I8 a0_1,I8 a0_2,I8 a0_3,I8 a0_4]) 23]) rfl
  refine ⟨fun _=>trivial,?_⟩
  refine qo 9 13 (.slice r19_A r19_n r19_c) (fj j20 s19 (xs fun _ s21=>(xn 3 fun _ j22=>(nq 0 [(65,.slice r17_A r17_n r17_c),(66,.func (.func 63) #[.slice r17_A r17_n r17_c] #[]),(14,.func (.func 63) #[.slice r17_A r17_n r17_c] #[])] (fj j22 s21 (xs fun _ s23=>(xs fun _ s24=>(xn 3 fun _ j25=>(qo 0 67 (.slice y12_A y12_n y12_c) ?_)))))))))
  refine tkf 1 68 (I8 (r10.length:Int)) (ylLL (LLP.mk (rL 4 hs) (hs.innR 0 rfl))) (qo 2 69 (I8 0) (fj j25 s24 (?_)))
  obtain ⟨y22,hy,hk0⟩:=ob h
  refine wp_exq (N:=fun a w=>St w0 [] [.ownL CZ r19_A r19_n r19_c y22 70,.ownL CZ r18_A r18_n r18_c r18 70,.ownL CZ r17_A r17_n r17_c r17 70,.ownL CZ r16_A r16_n r16_c r16 70,.ownL CS y12_A y12_n y12_c y12_H 97,.ownL CB r5_A r5_n r5_c r5 5,.ownL CS s4_A s4_n s4_c ([(a1_A,a1_n,a1_c),(s3_A,s3_n,s3_c)]:List HS) 24,.ownL CB s3_A s3_n s3_c ([(iconv .u8 a0_0)]:List Int) 5,.blk b1 ([I8 a0_0,I8 a0_1,I8 a0_2,I8 a0_3,I8 a0_4]) 23] [.inn CZ y12_H r10,.rowL CB s8_A s8_n s8_c (subL r6 0 32),.rowL CW (some ⟨0,0,none⟩) 1 1 ([tab_0]),.rowL CV (some ⟨1,0,none⟩) 1 1 ([tab_1]),.rowL CV (some ⟨2,0,none⟩) 1 1 ([tab_2]),.rowL CB s9_A s9_n s9_c (subL r6 32 (r6.length:Int)),.rowL CB r6_A r6_n r6_c r6,.rowL CB a1_A a1_n a1_c a1] w∧∃ g27,a=fr g27 93 [(4,[.slice none 0 0,.slice none 0 0,I8 r11]),(9,[.slice s8_A s8_n s8_c]),(12,[.slice r17_A r17_n r17_c,.slice r19_A r19_n r19_c])]) (fun N0 nn0=>?_) ?_
  clear hk0
  refine xb ?_
  refine wp_loop_k (fun n a w=>∃ z20 z21,kpke_Keys.l0 K n r10 r17 z20 z21=some y22∧St w0 [] [.ownL CZ r19_A r19_n r19_c z21 70,.ownL CZ r18_A r18_n r18_c r18 70,.ownL CZ r17_A r17_n r17_c r17 70,.ownL CZ r16_A r16_n r16_c r16 70,.ownL CS y12_A y12_n y12_c y12_H 97,.ownL CB r5_A r5_n r5_c r5 5,.ownL CS s4_A s4_n s4_c ([(a1_A,a1_n,a1_c),(s3_A,s3_n,s3_c)]:List HS) 24,.ownL CB s3_A s3_n s3_c ([(iconv .u8 a0_0)]:List Int) 5,.blk b1 ([I8 a0_0,I8 a0_1,I8 a0_2,I8 a0_3,I8 a0_4]) 23] [.inn CZ y12_H r10,.rowL CB s8_A s8_n s8_c (subL r6 0 32),.rowL CW (some ⟨0,0,none⟩) 1 1 ([tab_0]),.rowL CV (some ⟨1,0,none⟩) 1 1 ([tab_1]),.rowL CV (some ⟨2,0,none⟩) 1 1 ([tab_2]),.rowL CB s9_A s9_n s9_c (subL r6 32 (r6.length:Int)),.rowL CB r6_A r6_n r6_c r6,.rowL CB a1_A a1_n a1_c a1] w∧∃ g26,a=fr g26 93 [(4,[.slice none 0 0,.slice none 0 0,I8 r11]),(9,[.slice s8_A s8_n s8_c]),(12,[.slice r17_A r17_n r17_c,.slice r19_A r19_n r19_c,.func (.func 63) #[.slice r17_A r17_n r17_c] #[]]),(67,[.slice y12_A y12_n y12_c,I8 (r10.length:Int),I8 z20])]) K ⟨0,r19,hy,hs.conv rfl,eg⟩ ?_
  clear hs h hy
  rintro n a w ⟨z20,z21,h,hs,g26,rfl⟩ KL0 kl0
  cases n with
  | zero=>exact nomatch (show none=some _ from h)
  | succ n=>
   refine xs fun _ s28=>(xn 1 fun _ j29=>?_)
   obtain ⟨hc,h⟩|⟨hc,h⟩:=of_if h
   refine tb 0 70 (dt hc) ?_
   refine fj j29 s28 (xs fun _ s30=>(ct (xk (T s30 (xs fun _ s31=>(xb (xs fun _ s32=>(xn 5 fun _ j33=>(qo 0 71 (I8 z20) ?_)))))))))
   obtain ⟨h0,h1,h⟩:=oc2 h
   have i0_34:=h0
   have i1_34:=h1
   refine tkf 1 72 (PA CS y12_A z20) (yiLL (C:=CZ) 94 97 .i64 z20 (LLP.mk (rL 4 hs) (hs.innR 0 rfl)) h0 h1) ?_
   obtain ⟨s23_A,hA⟩ : ∃ A,A=(rdL CS y12_H z20).1:=⟨_,rfl⟩
   obtain ⟨s23_n,hn⟩ : ∃ n,n=(rdL CS y12_H z20).2.1:=⟨_,rfl⟩
   obtain ⟨s23_c,hc⟩ : ∃ c,c=(rdL CS y12_H z20).2.2:=⟨_,rfl⟩
   refine tkt 2 73 (.slice s23_A s23_n s23_c) (by subst hA hn hc; exact yLL (C:=CZ) 97 z20 (LLP.mk (rL 4 hs) (hs.innR 0 rfl)) i0_34 i1_34) ?_
   have hs:=hs.addInnI (C:=CZ) 0 rfl i0_34 i1_34 hA hn hc
   refine nq 3 [(15,I8 z20),(16,.slice s23_A s23_n s23_c)] (fj j33 s32 (?_))
   obtain ⟨y24,hj,h⟩:=ob h
   refine wp_join (N:=fun a w=>St w0 [] [.ownL CZ r19_A r19_n r19_c y24 70,.ownL CZ r18_A r18_n r18_c r18 70,.ownL CZ r17_A r17_n r17_c r17 70,.ownL CZ r16_A r16_n r16_c r16 70,.ownL CS y12_A y12_n y12_c y12_H 97,.ownL CB r5_A r5_n r5_c r5 5,.ownL CS s4_A s4_n s4_c ([(a1_A,a1_n,a1_c),(s3_A,s3_n,s3_c)]:List HS) 24,.ownL CB s3_A s3_n s3_c ([(iconv .u8 a0_0)]:List Int) 5,.blk b1 ([I8 a0_0,I8 a0_1,I8 a0_2,I8 a0_3,I8 a0_4]) 23] [.rowL CZ s23_A s23_n s23_c (rdLL r10 z20),.inn CZ y12_H r10,.rowL CB s8_A s8_n s8_c (subL r6 0 32),.rowL CW (some ⟨0,0,none⟩) 1 1 ([tab_0]),.rowL CV (some ⟨1,0,none⟩) 1 1 ([tab_1]),.rowL CV (some ⟨2,0,none⟩) 1 1 ([tab_2]),.rowL CB s9_A s9_n s9_c (subL r6 32 (r6.length:Int)),.rowL CB r6_A r6_n r6_c r6,.rowL CB a1_A a1_n a1_c a1] w∧∃ g35,a=fr g35 93 [(4,[.slice none 0 0,.slice none 0 0,I8 r11]),(9,[.slice s8_A s8_n s8_c]),(12,[.slice r17_A r17_n r17_c,.slice r19_A r19_n r19_c,.func (.func 63) #[.slice r17_A r17_n r17_c] #[]]),(67,[.slice y12_A y12_n y12_c,I8 (r10.length:Int),I8 z20])]) (fun N nj=>?_) ?_
   clear h
   have h:=hj
   refine rg [8,11] (fun k=>True) 12 fun _ j36=>?_
   have hs:=hs.drawn1
   refine gq 0 74 (.slice r19_A r19_n r19_c) (gq 1 75 (I8 z20) (gq 2 76 (.slice r19_A r19_n r19_c) (gq 3 77 (I8 z20) ?_)))
   obtain ⟨h0,h1,h⟩:=oc2 h
   have i0_37:=h0
   have i1_37:=h1
   refine tgf 4 78 (PA CZ r19_A z20) (yiL (C:=CZ) 97 70 .i64 z20 (rL 0 hs) h0 h1) (gq 6 80 (.func (.func 63) #[.slice r17_A r17_n r17_c] #[]) (gq 7 81 (.slice s23_A s23_n s23_c) ?_))
   refine wpG.many [5,8] (by kernel_rfl) (by decide) (forall_cons ?_ (forall_cons ?_ forall_nil))
   refine (op_val (d:=(some 79)) (v:=ag .i32 (rdL CZ z21 z20)) (by kernel_rfl) (yLA (C:=CZ) 70 z20 (rL 0 hs) rfl i0_37 i1_37) ⟨Cl.refl _,?_⟩)
   have hs:=hs.front 2 rfl
   try dsimp only [List.eraseIdx] at hs
   obtain ⟨r25,hg,h⟩:=ob h
   refine wpG.only 8 (by kernel_rfl) (wpOp_call (d:=(some 82)) (by kernel_rfl) (fun _=>by kernel_rfl) (kpke_vector_dot_s.ok hg hs) ?_)
   rintro e w ⟨rfl,hs⟩
   refine ⟨_,rfl,?_⟩
   refine ⟨⟨fun hf=>absurd hf (by decide),.all _ _⟩,?_⟩
   obtain ⟨r26,hg,h⟩:=ob h
   refine go 9 (oC 83 hs (kq_Add.ok hg _) fun w gw hs=>⟨.of gw,?_⟩)
   obtain ⟨h0,h1,h⟩:=oc2 h
   have i0_38:=h0
   have i1_38:=h1
   refine tgf 10 84 (PA CZ r19_A z20) (yiL (C:=CZ) 97 70 .i64 z20 (rL 1 hs) h0 h1) (go 11 (oL (C:=CZ) 70 z20 r26 hs 1 rfl i0_38 i1_38 fun w hs=>⟨⟨fun hf=>absurd hf (by decide),.all _ _⟩,(gf (j36 _ _ ?_))⟩))
   obtain rfl:=of_some h
   have hs:=hs.front 2 rfl
   have hs:=hs.front 2 rfl
   try dsimp only [List.eraseIdx] at hs
   exact nj _ _ ⟨(hs.conv rfl),eg⟩
   have hs:=hs.front 2 rfl
   try dsimp only [List.eraseIdx] at hs
   obtain ⟨r27,hg,h⟩:=ob h
   refine (wpOp_call (d:=(some 82)) (by kernel_rfl) (fun _=>by kernel_rfl) (kpke_vector_dot_s.ok hg hs) ?_)
   rintro e w ⟨rfl,hs⟩
   refine ⟨_,rfl,?_⟩
   refine ⟨⟨fun hf=>absurd hf (by decide),.all _ _⟩,?_⟩
   refine wpG.only 5 (by kernel_rfl) (op_val (d:=(some 79)) (v:=ag .i32 (rdL CZ z21 z20)) (by kernel_rfl) (yLA (C:=CZ) 70 z20 (rL 1 hs) rfl i0_37 i1_37) ⟨Cl.refl _,?_⟩)
   obtain ⟨r28,hg,h⟩:=ob h
   refine go 9 (oC 83 hs (kq_Add.ok hg _) fun w gw hs=>⟨.of gw,?_⟩)
   obtain ⟨h0,h1,h⟩:=oc2 h
   have i0_39:=h0
   have i1_39:=h1
   refine tgf 10 84 (PA CZ r19_A z20) (yiL (C:=CZ) 97 70 .i64 z20 (rL 1 hs) h0 h1) (go 11 (oL (C:=CZ) 70 z20 r28 hs 1 rfl i0_39 i1_39 fun w hs=>⟨⟨fun hf=>absurd hf (by decide),.all _ _⟩,(gf (j36 _ _ ?_))⟩))
   obtain rfl:=of_some h
   have hs:=hs.front 2 rfl
   have hs:=hs.front 2 rfl
   try dsimp only [List.eraseIdx] at hs
   exact nj _ _ ⟨(hs.conv rfl),eg⟩
   clear hj hs
   rintro a w ⟨hs,g35,rfl⟩
   refine iN (T s31 (xn 2 fun _ j40=>?_))
   refine nq 0 [(85,I8 (iadd .i64 z20 1)),(69,I8 (iadd .i64 z20 1))] (fin (j40 _ _ ?_))
   exact tn (kl0 _ _ ⟨n,ls n,(iadd .i64 z20 1),y24,h,(pk [1,2,3,4,5,6,7,8] hs),eg⟩)
   refine tb 0 70 (df hc) (fj j29 s28 (xs fun _ s41=>(cf (xexit (tx (tx (iH ?_)))))))
   obtain rfl:=of_some h
   exact exq_n (nn0 _ _ ⟨(hs.conv rfl),eg⟩)
  clear hs h hy
  rintro a w ⟨hs,g27,rfl⟩
  have h:=hk0
  refine T s23 (xs fun _ s42=>(xn 10 fun _ j43=>(qo 0 86 (.slice r19_A r19_n r19_c) ?_)))
  obtain ⟨r29,hg,h⟩:=ob h
  refine wpS.only 1 (oH 87 hs (kpke_vector_packed.ok hg _ (rL 0 hs)) ?_)
  rintro ⟨r29_A,r29_n,r29_c⟩ w gw hs
  have hs:=hs.conv (L':=[.ownL CB r29_A r29_n r29_c r29 5,.ownL CZ r19_A r19_n r19_c y22 70,.ownL CZ r18_A r18_n r18_c r18 70,.ownL CZ r17_A r17_n r17_c r17 70,.ownL CZ r16_A r16_n r16_c r16 70,.ownL CS y12_A y12_n y12_c y12_H 97,.ownL CB r5_A r5_n r5_c r5 5,.ownL CS s4_A s4_n s4_c ([(a1_A,a1_n,a1_c),(s3_A,s3_n,s3_c)]:List HS) 24,.ownL CB s3_A s3_n s3_c ([(iconv .u8 a0_0)]:List Int) 5,.blk b1 ([I8 a0_0,I8 a0_1,I8 a0_2,I8 a0_3,I8 a0_4]) 23]) rfl
  refine ⟨fun _=>trivial,?_⟩
  refine qo 2 88 (.slice s8_A s8_n s8_c) (so 3 (oLt (C:=CS) 89 57 24 2 (.slice none 0 0) #[(0,.slice r29_A r29_n r29_c),(1,.slice s8_A s8_n s8_c)] ([(r29_A,r29_n,r29_c),(s8_A,s8_n,s8_c)]:List HS) hs rfl (by decide) (by decide) fun s30_A s30_n s30_c w gw hs=>?_))
  obtain ⟨r31,hg,h⟩:=ob h
  refine wpS.only 4 (oH 90 hs (bits_Join.ok hg _ (LLP.mk (rL 0 hs) (inn_cons (rL 1 hs) (inn_cons (rR 1 hs) inn_nil)))) ?_)
  rintro ⟨r31_A,r31_n,r31_c⟩ w gw hs
  have hs:=hs.conv (L':=[.ownL CB r31_A r31_n r31_c r31 5,.ownL CS s30_A s30_n s30_c ([(r29_A,r29_n,r29_c),(s8_A,s8_n,s8_c)]:List HS) 24,.ownL CB r29_A r29_n r29_c r29 5,.ownL CZ r19_A r19_n r19_c y22 70,.ownL CZ r18_A r18_n r18_c r18 70,.ownL CZ r17_A r17_n r17_c r17 70,.ownL CZ r16_A r16_n r16_c r16 70,.ownL CS y12_A y12_n y12_c y12_H 97,.ownL CB r5_A r5_n r5_c r5 5,.ownL CS s4_A s4_n s4_c ([(a1_A,a1_n,a1_c),(s3_A,s3_n,s3_c)]:List HS) 24,.ownL CB s3_A s3_n s3_c ([(iconv .u8 a0_0)]:List Int) 5,.blk b1 ([I8 a0_0,I8 a0_1,I8 a0_2,I8 a0_3,I8 a0_4]) 23]) rfl
  refine ⟨fun _=>trivial,?_⟩
  refine qo 5 91 (.slice r17_A r17_n r17_c) ?_
  obtain ⟨r32,hg,h⟩:=ob h
  refine wpS.only 6 (oH 92 hs (kpke_vector_packed.ok hg _ (rL 5 hs)) ?_)
  rintro ⟨r32_A,r32_n,r32_c⟩ w gw hs
  have hs:=hs.conv (L':=[.ownL CB r32_A r32_n r32_c r32 5,.ownL CB r31_A r31_n r31_c r31 5,.ownL CS s30_A s30_n s30_c ([(r29_A,r29_n,r29_c),(s8_A,s8_n,s8_c)]:List HS) 24,.ownL CB r29_A r29_n r29_c r29 5,.ownL CZ r19_A r19_n r19_c y22 70,.ownL CZ r18_A r18_n r18_c r18 70,.ownL CZ r17_A r17_n r17_c r17 70,.ownL CZ r16_A r16_n r16_c r16 70,.ownL CS y12_A y12_n y12_c y12_H 97,.ownL CB r5_A r5_n r5_c r5 5,.ownL CS s4_A s4_n s4_c ([(a1_A,a1_n,a1_c),(s3_A,s3_n,s3_c)]:List HS) 24,.ownL CB s3_A s3_n s3_c ([(iconv .u8 a0_0)]:List Int) 5,.blk b1 ([I8 a0_0,I8 a0_1,I8 a0_2,I8 a0_3,I8 a0_4]) 23]) rfl
  refine ⟨fun _=>trivial,?_⟩
  refine nq 7 [(4,.slice r31_A r31_n r31_c),(5,.slice r32_A r32_n r32_c),(6,I8 0)] (fj j43 s42 (xret ?_))
  obtain ⟨rfl,rfl,rfl⟩:=os3 h
  have hs:=hs.front 1 rfl
  try dsimp only [List.eraseIdx] at hs
  exact qq _ _ (pt [4,5,6] [.slice r31_A r31_n r31_c,.slice r32_A r32_n r32_c,I8 0] ⟨⟨⟨r31_A,r31_n,r31_c⟩,⟨r32_A,r32_n,r32_c⟩⟩,cr,(pz (dr [1,1,0,0,0,0,0,0,0,0,0,0,0] hs))⟩)
  refine tb 1 47 (nt hc) (fj j16 s15 (ct (xs fun _ s44=>(xn 4 fun _ j45=>(nq 0 [(48,I8 r11),(4,.slice none 0 0),(5,.slice none 0 0),(6,I8 r11)] (fj j45 s44 (xret (tr ?_))))))))
  obtain ⟨rfl,rfl,rfl⟩:=os3 h
  have hs:=hs.addNilL CB 5
  have hs:=hs.addNilL CB 5
  exact qq _ _ (pt [4,5,6] [.slice none 0 0,.slice none 0 0,I8 r11] ⟨⟨⟨none,0,0⟩,⟨none,0,0⟩⟩,cr,(pz (dr [1,1,0,0,0,0,0] hs))⟩)
  refine tb 2 24 (nt hc) (qo 3 21 (.bool true) (fj j7 s6 (ct (xs fun _ s46=>(xn 3 fun _ j47=>(nq 0 [(4,.slice none 0 0),(5,.slice none 0 0),(6,I8 14)] (fj j47 s46 (xret (iR (tr ?_))))))))))
  obtain ⟨rfl,rfl,rfl⟩:=os3 h
  have hs:=hs.addNilL CB 5
  have hs:=hs.addNilL CB 5
  exact qq _ _ (pt [4,5,6] [.slice none 0 0,.slice none 0 0,I8 14] ⟨⟨⟨none,0,0⟩,⟨none,0,0⟩⟩,cr,(pz (dr [1,1,0] hs))⟩)
 | false=>
  have h:=of_if_f h
  refine so 1 (oC 19 hs (kpke_known.ok hg _) fun w gw hs=>?_)
  refine nq 2 [(20,.bool true),(17,.bool true)] (fj j5 s4 (ct (xs fun _ s48=>(xn 3 fun _ j49=>(nq 0 [(4,.slice none 0 0),(5,.slice none 0 0),(6,I8 9)] (fj j49 s48 (xret (iR (tr ?_)))))))))
  obtain ⟨rfl,rfl,rfl⟩:=os3 h
  have hs:=hs.addNilL CB 5
  have hs:=hs.addNilL CB 5
  exact qq _ _ (pt [4,5,6] [.slice none 0 0,.slice none 0 0,I8 9] ⟨⟨⟨none,0,0⟩,⟨none,0,0⟩⟩,cr,(pz (dr [1,1,0] hs))⟩)
theorem kem_Keys.ok {K:Nat}{a0_0 a0_1 a0_2 a0_3 a0_4:Int}{a1 a2 r0 r1:List Int}{r2:Int}{a1_A:Option Addr}{a1_n a1_c:Nat}{a2_A:Option Addr}{a2_n a2_c:Nat}(h:kem_Keys.f K a0_0 a0_1 a0_2 a0_3 a0_4 a1 a2=some (r0,r1,r2)) (w0:World) (hp1:RowL CB w0 a1_A a1_n a1_c a1) (hp2:RowL CB w0 a2_A a2_n a2_c a2) (hg0:RowL CW w0 (some ⟨0,0,none⟩) 1 1 [tab_0]) (hg1:RowL CV w0 (some ⟨1,0,none⟩) 1 1 [tab_1]) (hg2:RowL CV w0 (some ⟨2,0,none⟩) 1 1 [tab_2]):Calls Tryz.prog 13 #[.agg #[I8 a0_0,I8 a0_1,I8 a0_2,I8 a0_3,I8 a0_4],.slice a1_A a1_n a1_c,.slice a2_A a2_n a2_c] w0 fun e w'=>∃ h:(Option Addr × Nat × Nat) × (Option Addr × Nat × Nat),e = .returned (.tuple #[.slice h.1.1 h.1.2.1 h.1.2.2,.slice h.2.1 h.2.2.1 h.2.2.2,I8 r2])∧St w0 [] [.ownL CB h.1.1 h.1.2.1 h.1.2.2 r0 5,.ownL CB h.2.1 h.2.2.1 h.2.2.2 r1 5] [] w':=by
 refine calls_k Tryz.func13 rfl fun Q qq=>?_
 have hs:=St.startR (all_cons (RowP.ent hp1) (all_cons (RowP.ent hp2) (all_cons (RowP.ent hg0) (all_cons (RowP.ent hg1) (all_cons (RowP.ent hg2) all_nil)))))
 refine wc (a':=(fu 46 [.agg #[I8 a0_0,I8 a0_1,I8 a0_2,I8 a0_3,I8 a0_4],.slice a1_A a1_n a1_c,.slice a2_A a2_n a2_c])) (xs fun _ s1=>(xn 4 fun _ j2=>(so 0 (oBa 3 23 hs [I8 a0_0,I8 a0_1,I8 a0_2,I8 a0_3,I8 a0_4] fun b1 w gw hs=>(nq 1 [(6,.slice none 0 0),(7,.slice none 0 0),(8,I8 0)] ?_)))))
 refine fj j2 s1 (xs fun _ s3=>(xs fun _ s4=>(xn 9 fun _ j5=>(tkt 0 14 _ (yWs 5 23 hs 0 .grow) ?_))))
 obtain ⟨⟨r2,r3,r4⟩,hg,h⟩:=ob h
 refine so 1 (oC 15 hs (kem_Sizes.ok hg _) fun w gw hs=>?_)
 refine nq 2 [(13,.tuple #[I8 r2,I8 r3,I8 r4]),(16,I8 r2),(17,I8 r3),(18,I8 r4),(9,I8 r2),(10,I8 r3),(11,I8 r4)] (fj j5 s4 (xb (xs fun _ s6=>(xn 3 fun _ j7=>(qo 0 20 (I8 r2) ?_)))))
 obtain ⟨hc,h⟩|⟨hc,h⟩:=of_if h
 refine tb 1 21 (et hc) ?_
 refine qo 2 19 (.bool true) (fj j7 s6 (ct (xs fun _ s8=>(xn 3 fun _ j9=>(nq 0 [(6,.slice none 0 0),(7,.slice none 0 0),(8,I8 9)] (fj j9 s8 (xret (iR (tr ?_)))))))))
 obtain ⟨rfl,rfl,rfl⟩:=os3 h
 have hs:=hs.addNilL CB 5
 have hs:=hs.addNilL CB 5
 exact qq _ _ (pt [6,7,8] [.slice none 0 0,.slice none 0 0,I8 9] ⟨⟨⟨none,0,0⟩,⟨none,0,0⟩⟩,cr,(pz (dr [1,1,0] hs))⟩)
 refine tb 1 21 (ef hc) (qo 2 19 (.bool false) (fj j7 s6 (cf (xs fun _ s10=>(xn 9 fun _ j11=>(qo 0 23 (.slice a1_A a1_n a1_c) (tkf 1 24 (I8 (a1.length:Int)) (yl (rR 0 hs)) ?_)))))))
 obtain ⟨hc,h⟩|⟨hc,h⟩:=of_if h
 refine tb 2 25 (nf hc) ?_
 refine nq 3 [(26,.bool false),(27,.slice a2_A a2_n a2_c)] (tkf 5 28 (I8 (a2.length:Int)) (yl (rR 1 hs)) ?_)
 obtain ⟨hc,h⟩|⟨hc,h⟩:=of_if h
 refine tb 6 29 (nf hc) ?_
 refine nq 7 [(30,.bool false),(22,.bool false)] (fj j11 s10 (cf (xk (iN (T s3 (xs fun _ s12=>(xn 10 fun _ j13=>(tkt 0 32 _ (yWs 5 23 hs 0 .grow) (qo 1 33 (.slice a1_A a1_n a1_c) ?_)))))))))
 obtain ⟨⟨r5,r6,r7⟩,hg,h⟩:=ob h
 refine wpS.only 2 (oH 34 hs (kpke_Keys.ok hg _ (rR 0 hs) (rR 2 hs) (rR 3 hs) (rR 4 hs)) ?_)
 rintro ⟨⟨r5_A,r5_n,r5_c⟩,⟨r6_A,r6_n,r6_c⟩⟩ w gw hs
 have hs:=hs.conv (L':=[.ownL CB r5_A r5_n r5_c r5 5,.ownL CB r6_A r6_n r6_c r6 5,.blk b1 ([I8 a0_0,I8 a0_1,I8 a0_2,I8 a0_3,I8 a0_4]) 23]) rfl
 refine ⟨fun _=>trivial,?_⟩
 refine nq 3 [(31,.tuple #[.slice r5_A r5_n r5_c,.slice r6_A r6_n r6_c,I8 r7]),(35,.slice r5_A r5_n r5_c),(36,.slice r6_A r6_n r6_c),(37,I8 r7),(6,.slice r5_A r5_n r5_c),(12,.slice r6_A r6_n r6_c),(8,I8 r7)] (fj j13 s12 (xs fun _ s14=>(xs fun _ s15=>(xn 2 fun _ j16=>(qo 0 38 (I8 r7) ?_)))))
 obtain ⟨hc,h⟩|⟨hc,h⟩:=of_if h
 refine tb 1 39 (nf hc) ?_
 refine fj j16 s15 (cf (xk (T s14 (xs fun _ s17=>(xn 11 fun _ j18=>(nq 0 [(41,.slice r5_A r5_n r5_c),(42,.slice r6_A r6_n r6_c),(43,.slice r5_A r5_n r5_c),(44,.slice r5_A r5_n r5_c)] ?_))))))
 obtain ⟨r8,hg,h⟩:=ob h
 refine wpS.only 4 (oH 45 hs (kem_digest.ok hg _ (rL 0 hs) (rR 2 hs) (rR 3 hs) (rR 4 hs)) ?_)
 rintro ⟨r8_A,r8_n,r8_c⟩ w gw hs
 have hs:=hs.conv (L':=[.ownL CB r8_A r8_n r8_c r8 5,.ownL CB r5_A r5_n r5_c r5 5,.ownL CB r6_A r6_n r6_c r6 5,.blk b1 ([I8 a0_0,I8 a0_1,I8 a0_2,I8 a0_3,I8 a0_4]) 23]) rfl
 refine ⟨fun _=>trivial,?_⟩
 refine qo 5 46 (.slice a2_A a2_n a2_c) (so 6 (oLt (C:=CS) 47 57 24 4 (.slice none 0 0) #[(0,.slice r6_A r6_n r6_c),(1,.slice r5_A r5_n r5_c),(2,.slice r8_A r8_n r8_c),(3,.slice a2_A a2_n a2_c)] ([(r6_A,r6_n,r6_c),(r5_A,r5_n,r5_c),(r8_A,r8_n,r8_c),(a2_A,a2_n,a2_c)]:List HS) hs rfl (by decide) (by decide) fun s9_A s9_n s9_c w gw hs=>?_))
 obtain ⟨r10,hg,h⟩:=ob h
 refine wpS.only 7 (oH 48 hs (bits_Join.ok hg _ (LLP.mk (rL 0 hs) (inn_cons (rL 3 hs) (inn_cons (rL 2 hs) (inn_cons (rL 1 hs) (inn_cons (rR 1 hs) inn_nil)))))) ?_)
 rintro ⟨r10_A,r10_n,r10_c⟩ w gw hs
 have hs:=hs.conv (L':=[.ownL CB r10_A r10_n r10_c r10 5,.ownL CS s9_A s9_n s9_c ([(r6_A,r6_n,r6_c),(r5_A,r5_n,r5_c),(r8_A,r8_n,r8_c),(a2_A,a2_n,a2_c)]:List HS) 24,.ownL CB r8_A r8_n r8_c r8 5,.ownL CB r5_A r5_n r5_c r5 5,.ownL CB r6_A r6_n r6_c r6 5,.blk b1 ([I8 a0_0,I8 a0_1,I8 a0_2,I8 a0_3,I8 a0_4]) 23]) rfl
 refine ⟨fun _=>trivial,?_⟩
 refine nq 8 [(6,.slice r5_A r5_n r5_c),(7,.slice r10_A r10_n r10_c),(8,I8 0)] (fj j18 s17 (xret ?_))
 obtain ⟨rfl,rfl,rfl⟩:=os3 h
 have hs:=hs.front 3 rfl
 try dsimp only [List.eraseIdx] at hs
 exact qq _ _ (pt [6,7,8] [.slice r5_A r5_n r5_c,.slice r10_A r10_n r10_c,I8 0] ⟨⟨⟨r5_A,r5_n,r5_c⟩,⟨r10_A,r10_n,r10_c⟩⟩,cr,(pz (dr [1,1,0,0,0,0] hs))⟩)
 refine tb 1 39 (nt hc) (fj j16 s15 (ct (xs fun _ s19=>(xn 4 fun _ j20=>(nq 0 [(40,I8 r7),(6,.slice none 0 0),(7,.slice none 0 0),(8,I8 r7)] (fj j20 s19 (xret (tr ?_))))))))
 obtain ⟨rfl,rfl,rfl⟩:=os3 h
 have hs:=hs.addNilL CB 5
 have hs:=hs.addNilL CB 5
 exact qq _ _ (pt [6,7,8] [.slice none 0 0,.slice none 0 0,I8 r7] ⟨⟨⟨none,0,0⟩,⟨none,0,0⟩⟩,cr,(pz (dr [1,1,0,0,0] hs))⟩)
 refine tb 6 29 (nt hc) (nq 7 [(30,.bool true),(22,.bool true)] (fj j11 s10 (ct (xs fun _ s21=>(xn 3 fun _ j22=>(nq 0 [(6,.slice none 0 0),(7,.slice none 0 0),(8,I8 14)] (fj j22 s21 (xret (iR (tr ?_))))))))))
 obtain ⟨rfl,rfl,rfl⟩:=os3 h
 have hs:=hs.addNilL CB 5
 have hs:=hs.addNilL CB 5
 exact qq _ _ (pt [6,7,8] [.slice none 0 0,.slice none 0 0,I8 14] ⟨⟨⟨none,0,0⟩,⟨none,0,0⟩⟩,cr,(pz (dr [1,1,0] hs))⟩)
 refine tb 2 25 (nt hc) (nq 3 [(26,.bool true),(27,undef),(28,undef),(29,undef),(30,.bool true),(22,.bool true)] (fj j11 s10 (ct (xs fun _ s23=>(xn 3 fun _ j24=>(nq 0 [(6,.slice none 0 0),(7,.slice none 0 0),(8,I8 14)] (fj j24 s23 (xret (iR (tr ?_))))))))))
 obtain ⟨rfl,rfl,rfl⟩:=os3 h
 have hs:=hs.addNilL CB 5
 have hs:=hs.addNilL CB 5
 exact qq _ _ (pt [6,7,8] [.slice none 0 0,.slice none 0 0,I8 14] ⟨⟨⟨none,0,0⟩,⟨none,0,0⟩⟩,cr,(pz (dr [1,1,0] hs))⟩)
end Go.Proofs.YtemdbgmldljbpaaGreatDoor
