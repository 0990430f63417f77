/- own -/
import Derived.Test.YtemdbgmldljbpaaGreatDoorMh
import Derived.Test.YtemdbgmldljbpaaGreatDoorProg
import Derived.Test.YtemdbgmldljbpaaGreatDoorBF0
import Derived.Test.YtemdbgmldljbpaaGreatDoorBX1
set_option linter.unusedVariables false
set_option linter.unusedSimpArgs false
set_option maxRecDepth 100000
set_option maxHeartbeats 4000000
namespace Go.Proofs.YtemdbgmldljbpaaGreatDoor
open Go.Mx
attribute [local irreducible] wpOp
theorem ref26_Known.ok {K:Nat}{a0_0 a0_1 a0_2 a0_3 a0_4:Int}{r0:Bool}(h:ref26_Known.f K a0_0 a0_1 a0_2 a0_3 a0_4=some r0) (w0:World):Ret Tryz.prog 32 #[.agg #[I8 a0_0,I8 a0_1,I8 a0_2,I8 a0_3,I8 a0_4]] w0 (.bool r0):=by
 refine calls_k Tryz.func32 rfl fun Q qq=>?_
 have hs:=St.start w0
 refine wc (a':=(fu 33 [.agg #[I8 a0_0,I8 a0_1,I8 a0_2,I8 a0_3,I8 a0_4]])) (xs fun _ s1=>(xn 2 fun _ j2=>(so 0 (oBa 1 23 hs [I8 a0_0,I8 a0_1,I8 a0_2,I8 a0_3,I8 a0_4] fun b1 w gw hs=>(qo 1 2 (.bool false) ?_)))))
 refine fj j2 s1 (xs fun _ s3=>(xn 7 fun _ j4=>?_))
 obtain ⟨⟨r2_0,r2_1,r2_2,r2_3,r2_4,r3⟩,hg,h⟩:=ob h
 refine so 0 (oC 10 hs (ref26_Set.ok hg _) fun w gw hs=>?_)
 refine nq 1 [(9,.tuple #[.agg #[I8 r2_0,I8 r2_1,I8 r2_2,I8 r2_3,I8 r2_4],.bool r3]),(11,.agg #[I8 r2_0,I8 r2_1,I8 r2_2,I8 r2_3,I8 r2_4]),(12,.bool r3)] (so 4 (oNa 3 23 hs [I8 0,I8 0,I8 0,I8 0,I8 0] fun b4 w gw hs=>(so 5 (oWa 23 [I8 r2_0,I8 r2_1,I8 r2_2,I8 r2_3,I8 r2_4] hs 0 fun w kp hs=>(qo 6 4 (.bool r3) (fj j4 s3 (xs fun _ s5=>(xn 7 fun _ j6=>?_))))))))
 obtain ⟨⟨r5_0,r5_1,r5_2,r5_3,r5_4,r6⟩,hg,h⟩:=ob h
 refine so 0 (oC 14 hs (ref26_Set.ok hg _) fun w gw hs=>?_)
 refine nq 1 [(13,.tuple #[.agg #[I8 r5_0,I8 r5_1,I8 r5_2,I8 r5_3,I8 r5_4],.bool r6]),(15,.agg #[I8 r5_0,I8 r5_1,I8 r5_2,I8 r5_3,I8 r5_4]),(16,.bool r6)] (so 4 (oNa 5 23 hs [I8 0,I8 0,I8 0,I8 0,I8 0] fun b7 w gw hs=>(so 5 (oWa 23 [I8 r5_0,I8 r5_1,I8 r5_2,I8 r5_3,I8 r5_4] hs 0 fun w kp hs=>(qo 6 6 (.bool r6) (fj j6 s5 (xs fun _ s7=>(xn 7 fun _ j8=>?_))))))))
 obtain ⟨⟨r8_0,r8_1,r8_2,r8_3,r8_4,r9⟩,hg,h⟩:=ob h
 refine so 0 (oC 18 hs (ref26_Set.ok hg _) fun w gw hs=>?_)
 refine nq 1 [(17,.tuple #[.agg #[I8 r8_0,I8 r8_1,I8 r8_2,I8 r8_3,I8 r8_4],.bool r9]),(19,.agg #[I8 r8_0,I8 r8_1,I8 r8_2,I8 r8_3,I8 r8_4]),(20,.bool r9)] (so 4 (oNa 7 23 hs [I8 0,I8 0,I8 0,I8 0,I8 0] fun b10 w gw hs=>(so 5 (oWa 23 [I8 r8_0,I8 r8_1,I8 r8_2,I8 r8_3,I8 r8_4] hs 0 fun w kp hs=>(qo 6 8 (.bool r9) (fj j8 s7 (xs fun _ s9=>(xn 14 fun _ j10=>?_))))))))
 refine tkt 0 21 _ (yWs 5 23 hs 3 .grow) (tkt 1 22 _ (yWs 5 23 hs 2 .grow) ?_)
 rcases of_ifb h with ⟨hc,h⟩ | ⟨hc,h⟩
 refine tkf 2 23 (.bool true) (yld_bb hc (yld_eqS (fs:=[Field.mk "K" 3 0 false "" "" 0,Field.mk "Eta1" 3 1 false "" "" 8,Field.mk "Eta2" 3 2 false "" "" 16,Field.mk "Du" 3 3 false "" "" 24,Field.mk "Dv" 3 4 false "" "" 32]) (xs:=[I8 a0_0,I8 a0_1,I8 a0_2,I8 a0_3,I8 a0_4]) (ys:=[I8 r2_0,I8 r2_1,I8 r2_2,I8 r2_3,I8 r2_4]) (t:=23) (.tmp 21) (.tmp 22) (by kernel_rfl) (by kernel_rfl) (by kernel_rfl) (by kernel_rfl) (.cons rfl (fun w=>Go.Mx.run_part1 (by kernel_rfl) rfl) (fun w=>Go.Mx.run_part1 (by kernel_rfl) rfl) (fun w=>Go.Mx.run_equalIn_int (by kernel_rfl)) (.cons rfl (fun w=>Go.Mx.run_part1 (by kernel_rfl) rfl) (fun w=>Go.Mx.run_part1 (by kernel_rfl) rfl) (fun w=>Go.Mx.run_equalIn_int (by kernel_rfl)) (.cons rfl (fun w=>Go.Mx.run_part1 (by kernel_rfl) rfl) (fun w=>Go.Mx.run_part1 (by kernel_rfl) rfl) (fun w=>Go.Mx.run_equalIn_int (by kernel_rfl)) (.cons rfl (fun w=>Go.Mx.run_part1 (by kernel_rfl) rfl) (fun w=>Go.Mx.run_part1 (by kernel_rfl) rfl) (fun w=>Go.Mx.run_equalIn_int (by kernel_rfl)) (.cons rfl (fun w=>Go.Mx.run_part1 (by kernel_rfl) rfl) (fun w=>Go.Mx.run_part1 (by kernel_rfl) rfl) (fun w=>Go.Mx.run_equalIn_int (by kernel_rfl)) .nil))))))) ?_
 refine nq 3 [(24,.bool true),(25,undef),(26,undef),(27,undef),(28,.bool true),(29,.bool true),(30,undef),(31,undef),(32,undef),(33,.bool true),(2,.bool true)] (fj j10 s9 (xret ?_))
 obtain rfl:=of_some h
 exact qq _ _ (pt [2] [.bool true] ⟨cr,hs.none⟩)
 refine tkf 2 23 (.bool false) (yld_bb hc (yld_eqS (fs:=[Field.mk "K" 3 0 false "" "" 0,Field.mk "Eta1" 3 1 false "" "" 8,Field.mk "Eta2" 3 2 false "" "" 16,Field.mk "Du" 3 3 false "" "" 24,Field.mk "Dv" 3 4 false "" "" 32]) (xs:=[I8 a0_0,I8 a0_1,I8 a0_2,I8 a0_3,I8 a0_4]) (ys:=[I8 r2_0,I8 r2_1,I8 r2_2,I8 r2_3,I8 r2_4]) (t:=23) (.tmp 21) (.tmp 22) (by kernel_rfl) (by kernel_rfl) (by kernel_rfl) (by kernel_rfl) (.cons rfl (fun w=>Go.Mx.run_part1 (by kernel_rfl) rfl) (fun w=>Go.Mx.run_part1 (by kernel_rfl) rfl) (fun w=>Go.Mx.run_equalIn_int (by kernel_rfl)) (.cons rfl (fun w=>Go.Mx.run_part1 (by kernel_rfl) rfl) (fun w=>Go.Mx.run_part1 (by kernel_rfl) rfl) (fun w=>Go.Mx.run_equalIn_int (by kernel_rfl)) (.cons rfl (fun w=>Go.Mx.run_part1 (by kernel_rfl) rfl) (fun w=>Go.Mx.run_part1 (by kernel_rfl) rfl) (fun w=>Go.Mx.run_equalIn_int (by kernel_rfl)) (.cons rfl (fun w=>Go.Mx.run_part1 (by kernel_rfl) rfl) (fun w=>Go.Mx.run_part1 (by kernel_rfl) rfl) (fun w=>Go.Mx.run_equalIn_int (by kernel_rfl)) (.cons rfl (fun w=>Go.Mx.run_part1 (by kernel_rfl) rfl) (fun w=>Go.Mx.run_part1 (by kernel_rfl) rfl) (fun w=>Go.Mx.run_equalIn_int (by kernel_rfl)) .nil))))))) (qo 3 24 (.bool false) (tkt 4 25 _ (yWs 5 23 hs 3 .grow) (tkt 5 26 _ (yWs 5 23 hs 1 .grow) ?_)))
 rcases of_ifb h with ⟨hc,h⟩ | ⟨hc,h⟩
 refine tkf 6 27 (.bool true) (yld_bb hc (yld_eqS (fs:=[Field.mk "K" 3 0 false "" "" 0,Field.mk "Eta1" 3 1 false "" "" 8,Field.mk "Eta2" 3 2 false "" "" 16,Field.mk "Du" 3 3 false "" "" 24,Field.mk "Dv" 3 4 false "" "" 32]) (xs:=[I8 a0_0,I8 a0_1,I8 a0_2,I8 a0_3,I8 a0_4]) (ys:=[I8 r5_0,I8 r5_1,I8 r5_2,I8 r5_3,I8 r5_4]) (t:=23) (.tmp 25) (.tmp 26) (by kernel_rfl) (by kernel_rfl) (by kernel_rfl) (by kernel_rfl) (.cons rfl (fun w=>Go.Mx.run_part1 (by kernel_rfl) rfl) (fun w=>Go.Mx.run_part1 (by kernel_rfl) rfl) (fun w=>Go.Mx.run_equalIn_int (by kernel_rfl)) (.cons rfl (fun w=>Go.Mx.run_part1 (by kernel_rfl) rfl) (fun w=>Go.Mx.run_part1 (by kernel_rfl) rfl) (fun w=>Go.Mx.run_equalIn_int (by kernel_rfl)) (.cons rfl (fun w=>Go.Mx.run_part1 (by kernel_rfl) rfl) (fun w=>Go.Mx.run_part1 (by kernel_rfl) rfl) (fun w=>Go.Mx.run_equalIn_int (by kernel_rfl)) (.cons rfl (fun w=>Go.Mx.run_part1 (by kernel_rfl) rfl) (fun w=>Go.Mx.run_part1 (by kernel_rfl) rfl) (fun w=>Go.Mx.run_equalIn_int (by kernel_rfl)) (.cons rfl (fun w=>Go.Mx.run_part1 (by kernel_rfl) rfl) (fun w=>Go.Mx.run_part1 (by kernel_rfl) rfl) (fun w=>Go.Mx.run_equalIn_int (by kernel_rfl)) .nil))))))) ?_
 refine nq 7 [(28,.bool true),(29,.bool true),(30,undef),(31,undef),(32,undef),(33,.bool true),(2,.bool true)] (fj j10 s9 (xret ?_))
 obtain rfl:=of_some h
 exact qq _ _ (pt [2] [.bool true] ⟨cr,hs.none⟩)
 refine tkf 6 27 (.bool false) (yld_bb hc (yld_eqS (fs:=[Field.mk "K" 3 0 false "" "" 0,Field.mk "Eta1" 3 1 false "" "" 8,Field.mk "Eta2" 3 2 false "" "" 16,Field.mk "Du" 3 3 false "" "" 24,Field.mk "Dv" 3 4 false "" "" 32]) (xs:=[I8 a0_0,I8 a0_1,I8 a0_2,I8 a0_3,I8 a0_4]) (ys:=[I8 r5_0,I8 r5_1,I8 r5_2,I8 r5_3,I8 r5_4]) (t:=23) (.tmp 25) (.tmp 26) (by kernel_rfl) (by kernel_rfl) (by kernel_rfl) (by kernel_rfl) (.cons rfl (fun w=>Go.Mx.run_part1 (by kernel_rfl) rfl) (fun w=>Go.Mx.run_part1 (by kernel_rfl) rfl) (fun w=>Go.Mx.run_equalIn_int (by kernel_rfl)) (.cons rfl (fun w=>Go.Mx.run_part1 (by kernel_rfl) rfl) (fun w=>Go.Mx.run_part1 (by kernel_rfl) rfl) (fun w=>Go.Mx.run_equalIn_int (by kernel_rfl)) (.cons rfl (fun w=>Go.Mx.run_part1 (by kernel_rfl) rfl) (fun w=>Go.Mx.run_part1 (by kernel_rfl) rfl) (fun w=>Go.Mx.run_equalIn_int (by kernel_rfl)) (.cons rfl (fun w=>Go.Mx.run_part1 (by kernel_rfl) rfl) (fun w=>Go.Mx.run_part1 (by kernel_rfl) rfl) (fun w=>Go.Mx.run_equalIn_int (by kernel_rfl)) (.cons rfl (fun w=>Go.Mx.run_part1 (by kernel_rfl) rfl) (fun w=>Go.Mx.run_part1 (by kernel_rfl) rfl) (fun w=>Go.Mx.run_equalIn_int (by kernel_rfl)) .nil))))))) (nq 7 [(28,.bool false),(29,.bool false)] (tkt 9 30 _ (yWs 5 23 hs 3 .grow) (tkt 10 31 _ (yWs 5 23 hs 0 .grow) (tkf 11 32 (.bool ((a0_0 == r8_0) && ((a0_1 == r8_1) && ((a0_2 == r8_2) && ((a0_3 == r8_3) && ((a0_4 == r8_4) && true)))))) (yld_eqS (fs:=[Field.mk "K" 3 0 false "" "" 0,Field.mk "Eta1" 3 1 false "" "" 8,Field.mk "Eta2" 3 2 false "" "" 16,Field.mk "Du" 3 3 false "" "" 24,Field.mk "Dv" 3 4 false "" "" 32]) (xs:=[I8 a0_0,I8 a0_1,I8 a0_2,I8 a0_3,I8 a0_4]) (ys:=[I8 r8_0,I8 r8_1,I8 r8_2,I8 r8_3,I8 r8_4]) (t:=23) (.tmp 30) (.tmp 31) (by kernel_rfl) (by kernel_rfl) (by kernel_rfl) (by kernel_rfl) (.cons rfl (fun w=>Go.Mx.run_part1 (by kernel_rfl) rfl) (fun w=>Go.Mx.run_part1 (by kernel_rfl) rfl) (fun w=>Go.Mx.run_equalIn_int (by kernel_rfl)) (.cons rfl (fun w=>Go.Mx.run_part1 (by kernel_rfl) rfl) (fun w=>Go.Mx.run_part1 (by kernel_rfl) rfl) (fun w=>Go.Mx.run_equalIn_int (by kernel_rfl)) (.cons rfl (fun w=>Go.Mx.run_part1 (by kernel_rfl) rfl) (fun w=>Go.Mx.run_part1 (by kernel_rfl) rfl) (fun w=>Go.Mx.run_equalIn_int (by kernel_rfl)) (.cons rfl (fun w=>Go.Mx.run_part1 (by kernel_rfl) rfl) (fun w=>Go.Mx.run_part1 (by kernel_rfl) rfl) (fun w=>Go.Mx.run_equalIn_int (by kernel_rfl)) (.cons rfl (fun w=>Go.Mx.run_part1 (by kernel_rfl) rfl) (fun w=>Go.Mx.run_part1 (by kernel_rfl) rfl) (fun w=>Go.Mx.run_equalIn_int (by kernel_rfl)) .nil)))))) ?_))))
 refine nq 12 [(33,.bool ((a0_0 == r8_0) && ((a0_1 == r8_1) && ((a0_2 == r8_2) && ((a0_3 == r8_3) && ((a0_4 == r8_4) && true)))))),(2,.bool ((a0_0 == r8_0) && ((a0_1 == r8_1) && ((a0_2 == r8_2) && ((a0_3 == r8_3) && ((a0_4 == r8_4) && true))))))] (fj j10 s9 (xret ?_))
 obtain rfl:=of_some h
 exact qq _ _ (pt [2] [.bool ((a0_0 == r8_0) && ((a0_1 == r8_1) && ((a0_2 == r8_2) && ((a0_3 == r8_3) && ((a0_4 == r8_4) && true)))))] ⟨cr,hs.none⟩)
theorem ref26_Sizes.ok {K:Nat}{a0_0 a0_1 a0_2 a0_3 a0_4 r0 r1 r2:Int}(h:ref26_Sizes.f K a0_0 a0_1 a0_2 a0_3 a0_4=some (r0,r1,r2)) (w0:World):Ret Tryz.prog 20 #[.agg #[I8 a0_0,I8 a0_1,I8 a0_2,I8 a0_3,I8 a0_4]] w0 (.tuple #[I8 r0,I8 r1,I8 r2]):=by
 refine calls_k Tryz.func20 rfl fun Q qq=>?_
 have hs:=St.start w0
 refine wc (a':=(fu 23 [.agg #[I8 a0_0,I8 a0_1,I8 a0_2,I8 a0_3,I8 a0_4]])) (xs fun _ s1=>(xn 4 fun _ j2=>(so 0 (oBa 1 23 hs [I8 a0_0,I8 a0_1,I8 a0_2,I8 a0_3,I8 a0_4] fun b1 w gw hs=>(nq 1 [(2,I8 0),(3,I8 0),(4,I8 0)] ?_)))))
 refine fj j2 s1 (xs fun _ s3=>(xs fun _ s4=>(xn 3 fun _ j5=>(tkt 0 5 _ (yWs 5 23 hs 0 .grow) ?_))))
 obtain ⟨r2,hg,h⟩:=ob h
 cases r2 with
 | true=>
  have h:=of_if_t h
  refine so 1 (oC 6 hs (ref26_Known.ok hg _) fun w gw hs=>?_)
  refine qo 2 7 (.bool false) (fj j5 s4 (cf (xk (T s3 (xs fun _ s6=>?_)))))
  refine rg [] (fun k=>True) 19 fun _ j7=>?_
  have hs:=hs.drawn1
  refine gq 0 8 (P0 b1) (tgt 1 9 _ (yv hs 0 0 3 rfl (by rfl) .grow) (gq 2 10 (I8 (imul .i64 384 a0_0)) (gq 3 11 (I8 (iadd .i64 (imul .i64 384 a0_0) 32)) (gq 4 12 (P0 b1) ?_))))
  refine tgt 5 13 _ (yv hs 0 0 3 rfl (by rfl) .grow) (gq 6 14 (I8 (imul .i64 384 a0_0)) (gq 7 15 (.pointer (some ⟨b1,3,none⟩)) (tgt 8 16 _ (yv hs 0 3 3 rfl (by rfl) .grow) (gq 9 17 (P0 b1) ?_))))
  refine tgt 10 18 _ (yv hs 0 0 3 rfl (by rfl) .grow) (gq 11 19 (I8 (imul .i64 a0_3 a0_0)) (gq 12 20 (.pointer (some ⟨b1,4,none⟩)) (tgt 13 21 _ (yv hs 0 4 3 rfl (by rfl) .grow) (gq 14 22 (I8 (iadd .i64 (imul .i64 a0_3 a0_0) a0_4)) ?_))))
  refine gq 15 23 (I8 (imul .i64 32 (iadd .i64 (imul .i64 a0_3 a0_0) a0_4))) ?_
  obtain ⟨x3,hx,h⟩:=ob h
  refine tgf 16 2 (I8 x3) (yn hx) ?_
  obtain ⟨x4,hx,h⟩:=ob h
  refine tgf 17 3 (I8 x4) (yn hx) ?_
  obtain ⟨x5,hx,h⟩:=ob h
  refine tgf 18 4 (I8 x5) (yn hx) (gf (j7 _ _ (T s6 (xret ?_))))
  obtain ⟨rfl,rfl,rfl⟩:=os3 h
  exact qq _ _ (pt [2,3,4] [I8 x3,I8 x4,I8 x5] ⟨cr,hs.none⟩)
 | false=>
  have h:=of_if_f h
  refine so 1 (oC 6 hs (ref26_Known.ok hg _) fun w gw hs=>?_)
  refine qo 2 7 (.bool true) (fj j5 s4 (ct (xs fun _ s8=>(xn 3 fun _ j9=>(nq 0 [(2,I8 0),(3,I8 0),(4,I8 0)] (fj j9 s8 (xret (tr ?_))))))))
  obtain ⟨rfl,rfl,rfl⟩:=os3 h
  exact qq _ _ (pt [2,3,4] [I8 0,I8 0,I8 0] ⟨cr,hs.none⟩)
theorem ref08_Rate.ok {K:Nat}{a0 r0:Int}(h:ref08_Rate.f K a0=some r0) (w0:World):Ret Tryz.prog 87 #[I8 a0] w0 (I8 r0):=by
 refine calls_k Tryz.func87 rfl fun Q qq=>?_
 have hs:=St.start w0
 refine wc (a':=(fu 10 [I8 a0])) (xs fun _ s1=>(xn 1 fun _ j2=>(qo 0 2 (I8 0) (fj j2 s1 (xs fun _ s3=>(xs fun _ s4=>(xn 1 fun _ j5=>?_)))))))
 refine qo 0 3 (I8 a0) (fj j5 s4 (xb (xs fun _ s6=>(xs fun _ s7=>(xn 2 fun _ j8=>?_)))))
 obtain ⟨hc,h⟩|⟨hc,h⟩:=of_if h
 refine tb 0 5 (et hc) ?_
 refine qo 1 4 (.bool true) (fj j8 s7 (ct (xk (T s6 (ct (xs fun _ s9=>(xn 1 fun _ j10=>(qo 0 2 (I8 136) (fj j10 s9 (xret (iR (tr ?_))))))))))))
 obtain rfl:=of_some h
 exact qq _ _ (pt [2] [I8 136] ⟨cr,hs.none⟩)
 refine tb 0 5 (ef hc) (qo 1 4 (.bool false) (fj j8 s7 (cf (xn 2 fun _ j11=>?_))))
 obtain ⟨hc,h⟩|⟨hc,h⟩:=of_if h
 refine tb 0 6 (et hc) ?_
 refine qo 1 4 (.bool true) (fj j11 s6 (ct (xs fun _ s12=>(xn 1 fun _ j13=>(qo 0 2 (I8 136) (fj j13 s12 (xret (iR (tr ?_)))))))))
 obtain rfl:=of_some h
 exact qq _ _ (pt [2] [I8 136] ⟨cr,hs.none⟩)
 refine tb 0 6 (ef hc) (qo 1 4 (.bool false) (fj j11 s6 (cf (xs fun _ s14=>(xn 2 fun _ j15=>?_)))))
 obtain ⟨hc,h⟩|⟨hc,h⟩:=of_if h
 refine tb 0 8 (et hc) ?_
 refine qo 1 7 (.bool true) (fj j15 s14 (ct (xs fun _ s16=>(xn 1 fun _ j17=>(qo 0 2 (I8 72) (fj j17 s16 (xret (iR (tr ?_)))))))))
 obtain rfl:=of_some h
 exact qq _ _ (pt [2] [I8 72] ⟨cr,hs.none⟩)
 refine tb 0 8 (ef hc) (qo 1 7 (.bool false) (fj j15 s14 (cf (xs fun _ s18=>(xn 2 fun _ j19=>?_)))))
 obtain ⟨hc,h⟩|⟨hc,h⟩:=of_if h
 refine tb 0 10 (et hc) ?_
 refine qo 1 9 (.bool true) (fj j19 s18 (ct (xs fun _ s20=>(xn 1 fun _ j21=>(qo 0 2 (I8 168) (fj j21 s20 (xret (iR (tr ?_)))))))))
 obtain rfl:=of_some h
 exact qq _ _ (pt [2] [I8 168] ⟨cr,hs.none⟩)
 refine tb 0 10 (ef hc) (qo 1 9 (.bool false) (fj j19 s18 (cf (xk (iN (T s3 (xs fun _ s22=>(xn 1 fun _ j23=>(qo 0 2 (I8 0) (fj j23 s22 (xret ?_)))))))))))
 obtain rfl:=of_some h
 exact qq _ _ (pt [2] [I8 0] ⟨cr,hs.none⟩)
theorem ref08_New.ok {K:Nat}{a0 r0_0:Int}{r0_1:Arr 25}{r0_2:Int}{r0_3:Bool}{r1:Int}(h:ref08_New.f K a0=some (r0_0,r0_1,r0_2,r0_3,r1)) (w0:World):Ret Tryz.prog 56 #[I8 a0] w0 (.tuple #[.agg (vl [I8 r0_0]++enc .u64 r0_1++vl [I8 r0_2,.bool r0_3]).toArray,I8 r1]):=by
 refine calls_k Tryz.func56 rfl fun Q qq=>?_
 have hs:=St.start w0
 refine wc (a':=(fu 9 [I8 a0])) (xs fun _ s1=>(xn 2 fun _ j2=>(so 0 (oN 2 88 hs (vl [I8 0]++enc .u64 (zeroA 25)++vl [I8 0,.bool false]) (.agg (vl [I8 0]++enc .u64 (zeroA 25)++vl [I8 0,.bool false]).toArray) fun b1 w gw hs=>(qo 1 3 (I8 0) ?_)))))
 refine fj j2 s1 (xs fun _ s3=>(xs fun _ s4=>(xn 3 fun _ j5=>(qo 0 4 (I8 a0) ?_))))
 obtain ⟨r2,hg,h⟩:=ob h
 refine so 1 (oC 5 hs (ref08_Rate.ok hg _) fun w gw hs=>?_)
 obtain ⟨hc,h⟩|⟨hc,h⟩:=of_if h
 refine tb 2 6 (et hc) ?_
 refine fj j5 s4 (ct (xs fun _ s6=>(xn 3 fun _ j7=>(qo 0 7 (.agg (vl [I8 0]++enc .u64 (zeroA 25)++vl [I8 0,.bool false]).toArray) (so 1 (oW 28 88 (.agg (vl [I8 0]++enc .u64 (zeroA 25)++vl [I8 0,.bool false]).toArray) (vl [I8 0]++enc .u64 (zeroA 25)++vl [I8 0,.bool false]) hs 0 rfl (by simp [enc_len]) (by simp [enc_len]) (one_app (one_app (by simp [Value.oneCell']) (fun u hu=>enc_one _ _ u hu)) (by simp [Value.oneCell'])) fun w kp hs=>(qo 2 3 (I8 9) (fj j7 s6 (xret (tr ?_))))))))))
 obtain ⟨rfl,rfl,rfl,rfl,rfl⟩:=os5 h
 exact qq _ _ (pr (rr [.cell 2 88,.tmp 3] [.agg (vl [I8 0]++enc .u64 (zeroA 25)++vl [I8 0,.bool false]).toArray,I8 9] (.cons (rcN 28 hs 0 rfl (by simp [enc_len])) (.cons rt .nil))) ⟨cr,hs.none⟩)
 refine tb 2 6 (ef hc) (fj j5 s4 (cf (xk (T s3 (xs fun _ s8=>(xn 4 fun _ j9=>(nq 0 [(8,I8 a0),(9,.agg (vl [I8 a0]++enc .u64 (zeroA 25)++vl [I8 0,.bool false]).toArray)] (so 2 (oW 28 88 (.agg (vl [I8 a0]++enc .u64 (zeroA 25)++vl [I8 0,.bool false]).toArray) (vl [I8 a0]++enc .u64 (zeroA 25)++vl [I8 0,.bool false]) hs 0 rfl (by simp [enc_len]) (by simp [enc_len]) (one_app (one_app (by simp [Value.oneCell']) (fun u hu=>enc_one _ _ u hu)) (by simp [Value.oneCell'])) fun w kp hs=>(qo 3 3 (I8 0) ?_))))))))))
 refine fj j9 s8 (xret ?_)
 obtain ⟨rfl,rfl,rfl,rfl,rfl⟩:=os5 h
 exact qq _ _ (pr (rr [.cell 2 88,.tmp 3] [.agg (vl [I8 a0]++enc .u64 (zeroA 25)++vl [I8 0,.bool false]).toArray,I8 0] (.cons (rcN 28 hs 0 rfl (by simp [enc_len])) (.cons rt .nil))) ⟨cr,hs.none⟩)
theorem ref08_constants.ok {K:Nat}{r0:Arr 24}(h:ref08_constants.f K=some r0) (w0:World):Ret Tryz.prog 106 #[] w0 (ag .u64 r0):=by
 refine calls_k Tryz.func106 rfl fun Q qq=>?_
 have hs:=St.start w0
 refine wc (a':=(fu 32 [])) (xs fun _ s1=>(xn 1 fun _ j2=>(so 0 (oNe 0 129 .u64 (zeroA 24) hs fun b1 w gw hs=>(fj j2 s1 (xs fun _ s3=>(xn 1 fun _ j4=>?_)))))))
 refine so 0 (oNe 1 129 .u64 (zeroA 24) hs fun b2 w gw hs=>?_)
 refine fj j4 s3 (xs fun _ s5=>(xn 1 fun _ j6=>(qo 0 2 (U8 1) (fj j6 s5 (xs fun _ s7=>(xs fun _ s8=>(xn 1 fun _ j9=>(qo 0 3 (I8 0) (fj j9 s8 (?_))))))))))
 obtain ⟨y6,hy,hk0⟩:=ob h
 refine wp_exq (N:=fun a w=>St w0 [] [.blk b2 (enc .u64 y6) 129,.blk b1 (enc .u64 (zeroA 24)) 129] [] w∧∃ g11,a=fr g11 32 [(0,[P0 b1,P0 b2])]) (fun N0 nn0=>?_) ?_
 clear hk0
 refine xb ?_
 refine wp_loop_k (fun n a w=>∃ z3 z4 z5,ref08_constants.l0 K n z3 z4 z5=some y6∧St w0 [] [.blk b2 (enc .u64 z5) 129,.blk b1 (enc .u64 (zeroA 24)) 129] [] w∧∃ g10,a=fr g10 32 [(0,[P0 b1,P0 b2,U8 z3,I8 z4])]) K ⟨1,0,(zeroA 24),hy,hs.conv rfl,eg⟩ ?_
 clear hs h hy
 rintro n a w ⟨z3,z4,z5,h,hs,g10,rfl⟩ KL0 kl0
 cases n with
 | zero=>exact nomatch (show none=some _ from h)
 | succ n=>
  refine xs fun _ s12=>(xs fun _ s13=>(xn 2 fun _ j14=>(qo 0 4 (I8 z4) ?_)))
  obtain ⟨hc,h⟩|⟨hc,h⟩:=of_if h
  refine tb 1 5 (dt hc) ?_
  refine fj j14 s13 (ct (xk (T s12 (?_))))
  obtain ⟨⟨y7,y8⟩,hj,h⟩:=ob h
  refine xs fun _ s16=>wp_join (N:=fun a w=>St w0 [] [.blk b2 (enc .u64 y8) 129,.blk b1 (enc .u64 (zeroA 24)) 129] [] w∧∃ g15,a=fr g15 32 [(0,[P0 b1,P0 b2,U8 y7,I8 z4])]) (fun N nj=>?_) ?_
  clear h
  have h:=hj
  refine xb ?_
  obtain ⟨y9,hj,h⟩:=ob h
  refine xs fun _ s18=>wp_join (N:=fun a w=>St w0 [] [.blk b2 (enc .u64 y9) 129,.blk b1 (enc .u64 (zeroA 24)) 129] [] w∧∃ g17,a=fr g17 32 [(0,[P0 b1,P0 b2,U8 z3,I8 z4])]) (fun N nj=>?_) ?_
  clear h
  have h:=hj
  refine xs fun _ s19=>(xn 3 fun _ j20=>(nq 0 [(8,U8 z3),(9,U8 (iand .u64 z3 1))] ?_))
  obtain ⟨hc,h⟩|⟨hc,h⟩:=of_if h
  refine tb 2 10 (et hc) ?_
  refine fj j20 s19 (ct ?_)
  refine rg [13] (fun k=>True) 14 fun _ j21=>?_
  have hs:=hs.drawn1
  refine gq 0 11 (I8 z4) (gq 1 12 (I8 (iquo .i64 z4 7)) (gq 2 13 (I8 z4) (gq 3 14 (I8 (iquo .i64 z4 7)) ?_)))
  obtain ⟨x10,hx,h⟩:=ob h
  have hx:=of_some hx
  subst hx
  obtain ⟨i0_22,i1_22,h⟩:=oc2 h
  refine tgf 4 15 (P1 b2 (iquo .i64 z4 7)) (yi 129 85 24 1 .i64 (iquo .i64 z4 7) i0_22 i1_22) (tgt 5 16 _ (yA hs 0 85 (iquo .i64 z4 7) rfl i0_22 i1_22 .grow) (gq 6 17 (I8 z4) (gq 7 18 (I8 (irem .i64 z4 7)) ?_)))
  obtain ⟨h0,h⟩:=oc h
  refine tgf 8 19 (U8 (ishl .u64 1 (irem .i64 z4 7))) (ysl 140 .i64 h0) (gq 9 20 (U8 (isub .u64 (ishl .u64 1 (irem .i64 z4 7)) 1)) ?_)
  obtain ⟨h0,h⟩:=oc h
  refine tgf 10 21 (U8 (ishl .u64 1 (isub .u64 (ishl .u64 1 (irem .i64 z4 7)) 1))) (ysl 85 .u64 h0) (gq 11 22 (U8 (ior .u64 (rd z5 (iquo .i64 z4 7)) (ishl .u64 1 (isub .u64 (ishl .u64 1 (irem .i64 z4 7)) 1)))) ?_)
  obtain ⟨x11,hx,h⟩:=ob h
  have hx:=of_some hx
  subst hx
  obtain ⟨i0_23,i1_23,h⟩:=oc2 h
  refine tgf 12 23 (P1 b2 (iquo .i64 z4 7)) (yi 129 85 24 1 .i64 (iquo .i64 z4 7) i0_23 i1_23) ?_
  obtain ⟨x12,hx,h⟩:=ob h
  refine go 13 (oA 85 x12 (iquo .i64 z4 7) hs 0 rfl (by cases hx; kernel_rfl) i0_23 i1_23 fun w kp hs=>⟨⟨fun hf=>absurd hf (by decide),.all _ _⟩,?_⟩)
  refine gf (j21 _ _ ?_)
  obtain rfl:=of_some h
  exact nj _ _ ⟨(hs.conv rfl),eg⟩
  refine tb 2 10 (ef hc) (fj j20 s19 (cf (xk ?_)))
  obtain rfl:=of_some h
  exact nj _ _ ⟨(hs.conv rfl),eg⟩
  clear hj hs
  rintro a w ⟨hs,g17,rfl⟩
  refine T s18 (xs fun _ s24=>(xn 3 fun _ j25=>(nq 0 [(24,U8 z3),(25,U8 (imul .u64 z3 2))] ?_)))
  obtain ⟨x13,hx,h⟩:=ob h
  refine tkf 2 2 (U8 x13) (yn hx) (fj j25 s24 (xs fun _ s26=>(xn 2 fun _ j27=>(qo 0 26 (U8 x13) ?_))))
  obtain ⟨hc,h⟩|⟨hc,h⟩:=of_if h
  refine tb 1 27 (dt hc) ?_
  refine fj j27 s26 (ct (xn 4 fun _ j28=>(nq 0 [(28,U8 x13),(29,U8 (iand .u64 x13 255)),(30,U8 (ixor .u64 (iand .u64 x13 255) 113))] ?_)))
  obtain ⟨x14,hx,h⟩:=ob h
  refine tkf 3 2 (U8 x14) (yn hx) (fin (j28 _ _ (iN ?_)))
  obtain ⟨rfl,rfl⟩:=os2 h
  exact nj _ _ ⟨(hs.conv rfl),eg⟩
  refine tb 1 27 (df hc) (fj j27 s26 (cf (xk (iN ?_))))
  obtain ⟨rfl,rfl⟩:=os2 h
  exact nj _ _ ⟨(hs.conv rfl),eg⟩
  clear hj hs
  rintro a w ⟨hs,g15,rfl⟩
  refine T s16 (xn 3 fun _ j29=>(nq 0 [(6,I8 z4),(7,I8 (iadd .i64 z4 1))] ?_))
  obtain ⟨x15,hx,h⟩:=ob h
  refine tkf 2 3 (I8 x15) (yn hx) (fin (j29 _ _ ?_))
  exact tn (kl0 _ _ ⟨n,ls n,y7,x15,y8,h,(hs.conv rfl),eg⟩)
  refine tb 1 5 (df hc) (fj j14 s13 (cf (xexit (tx (tx (iH ?_))))))
  obtain rfl:=of_some h
  exact exq_n (nn0 _ _ ⟨(hs.conv rfl),eg⟩)
 clear hs h hy
 rintro a w ⟨hs,g11,rfl⟩
 have h:=hk0
 refine T s7 (xs fun _ s30=>(xn 2 fun _ j31=>(tkt 0 31 _ (yWe 129 hs 0 .grow) (so 1 (oWe 129 .u64 y6 hs 1 fun w kp hs=>(fj j31 s30 (xret ?_)))))))
 obtain rfl:=of_some h
 exact qq _ _ (pr (rr [.cell 0 129] [ag .u64 y6] (.cons (rcN 24 hs 1 rfl (enc_len _ _)) .nil)) ⟨cr,hs.none⟩)
theorem ref08_left.ok {K:Nat}{a0 a1 r0:Int}(h:ref08_left.f K a0 a1=some r0) (w0:World):Ret Tryz.prog 114 #[U8 a0,I8 a1] w0 (U8 r0):=by
 refine calls_k Tryz.func114 rfl fun Q qq=>?_
 have hs:=St.start w0
 refine wc (a':=(fu 13 [U8 a0,I8 a1])) (xs fun _ s1=>(xn 1 fun _ j2=>(qo 0 4 (U8 0) (fj j2 s1 (xs fun _ s3=>(xn 3 fun _ j4=>?_))))))
 refine nq 0 [(5,I8 a1),(6,I8 (irem .i64 a1 64))] ?_
 obtain ⟨x1,hx,h⟩:=ob h
 refine tkf 2 1 (I8 x1) (yn hx) (fj j4 s3 (xs fun _ s5=>?_))
 refine rg [] (fun k=>True) 9 fun _ j6=>?_
 have hs:=hs.drawn1
 refine gq 0 7 (U8 a0) (gq 1 8 (I8 x1) ?_)
 obtain ⟨h0,h⟩:=oc h
 refine tgf 2 9 (U8 (ishl .u64 a0 x1)) (ysl 85 .i64 h0) (gq 3 10 (U8 a0) (gq 4 11 (I8 x1) (gq 5 12 (I8 (isub .i64 64 x1)) ?_)))
 obtain ⟨h0,h⟩:=oc h
 refine tgf 6 13 (U8 (ishr .u64 a0 (isub .i64 64 x1))) (ysr 85 .i64 h0) (gq 7 14 (U8 (ior .u64 (ishl .u64 a0 x1) (ishr .u64 a0 (isub .i64 64 x1)))) ?_)
 obtain ⟨x2,hx,h⟩:=ob h
 refine tgf 8 4 (U8 x2) (yn hx) (gf (j6 _ _ (T s5 (xret ?_))))
 obtain rfl:=of_some h
 exact qq _ _ (pt [4] [U8 x2] ⟨cr,hs.none⟩)
theorem ref08_move.ok {K:Nat}{a0 r0:Arr 25}(h:ref08_move.f K a0=some r0) (w0:World):Ret Tryz.prog 107 #[ag .u64 a0] w0 (ag .u64 r0):=by
 refine calls_k Tryz.func107 rfl fun Q qq=>?_
 have hs:=St.start w0
 refine wc (a':=(fu 43 [ag .u64 a0])) (xs fun _ s1=>(xn 2 fun _ j2=>(so 0 (oBe 1 86 .u64 a0 hs fun b1 w gw hs=>(so 1 (oNe 2 86 .u64 (zeroA 25) hs fun b2 w gw hs=>?_))))))
 refine fj j2 s1 (xs fun _ s3=>(xn 1 fun _ j4=>(so 0 (oNe 3 86 .u64 (zeroA 25) hs fun b3 w gw hs=>(fj j4 s3 (xs fun _ s5=>(xn 4 fun _ j6=>(tkf 0 9 (P1 b1 0) (yi 86 85 25 1 .i64 0 (by decide) (by decide)) (tkt 1 10 _ (yA hs 2 85 0 rfl (by decide) (by decide) .grow) ?_)))))))))
 refine tkf 2 11 (P1 b3 0) (yi 86 85 25 1 .i64 0 (by decide) (by decide)) ?_
 obtain ⟨x4,hx,h⟩:=ob h
 refine so 3 (oA 85 x4 0 hs 0 rfl (by cases hx; kernel_rfl) (by decide) (by decide) fun w kp hs=>?_)
 refine fj j6 s5 (xs fun _ s9=>(xn 1 fun _ j10=>(qo 0 4 (I8 1) (fj j10 s9 (xs fun _ s11=>(xn 1 fun _ j12=>(qo 0 5 (I8 0) (fj j12 s11 (xs fun _ s13=>(xs fun _ s14=>(xn 1 fun _ j15=>?_)))))))))))
 refine qo 0 6 (I8 0) (fj j15 s14 (?_))
 obtain ⟨y9,hy,hk0⟩:=ob h
 refine wp_exq (N:=fun a w=>St w0 [] [.blk b3 (enc .u64 y9) 86,.blk b2 (enc .u64 (zeroA 25)) 86,.blk b1 (enc .u64 a0) 86] [] w∧∃ g17,a=fr g17 44 [(2,[P0 b2,P0 b3])]) (fun N0 nn0=>?_) ?_
 clear hk0
 refine xb ?_
 refine wp_loop_k (fun n a w=>∃ z5 z6 z7 z8,ref08_move.l0 K n a0 z5 z6 z7 z8=some y9∧St w0 [] [.blk b3 (enc .u64 z8) 86,.blk b2 (enc .u64 (zeroA 25)) 86,.blk b1 (enc .u64 a0) 86] [] w∧∃ g16,a=fr g16 44 [(1,[P0 b1,P0 b2,P0 b3,I8 z5,I8 z6,I8 z7])]) K ⟨1,0,0,(wr (zeroA 25) 0 x4),hy,hs.conv rfl,eg⟩ ?_
 clear hs h hy
 rintro n a w ⟨z5,z6,z7,z8,h,hs,g16,rfl⟩ KL0 kl0
 cases n with
 | zero=>exact nomatch (show none=some _ from h)
 | succ n=>
  refine xs fun _ s18=>(xs fun _ s19=>(xn 2 fun _ j20=>(qo 0 12 (I8 z7) ?_)))
  obtain ⟨hc,h⟩|⟨hc,h⟩:=of_if h
  refine tb 1 13 (dt hc) ?_
  refine fj j20 s19 (ct (xk (T s18 (xs fun _ s21=>(xb (xs fun _ s22=>(xn 2 fun _ j23=>(nq 0 [(16,I8 z6),(7,I8 z6)] (fj j23 s22 (xs fun _ s24=>(xn 7 fun _ j25=>(nq 0 [(17,I8 z5),(18,I8 (imul .i64 2 z5)),(19,I8 z6),(20,I8 (imul .i64 3 z6)),(21,I8 (iadd .i64 (imul .i64 2 z5) (imul .i64 3 z6))),(22,I8 (irem .i64 (iadd .i64 (imul .i64 2 z5) (imul .i64 3 z6)) 5))] ?_))))))))))))
  obtain ⟨x10,hx,h⟩:=ob h
  refine tkf 6 8 (I8 x10) (yn hx) (fj j25 s24 (xs fun _ s26=>(xn 19 fun _ j27=>(nq 0 [(23,I8 z6),(24,I8 x10),(25,I8 (imul .i64 5 x10)),(26,I8 (iadd .i64 z6 (imul .i64 5 x10))),(27,I8 z5),(28,I8 z6),(29,I8 (imul .i64 5 z6)),(30,I8 (iadd .i64 z5 (imul .i64 5 z6)))] ?_))))
  obtain ⟨x11,hx,h⟩:=ob h
  have hx:=of_some hx
  subst hx
  obtain ⟨i0_28,i1_28,h⟩:=oc2 h
  refine tkf 8 31 (.pointer (some ⟨b1,0+((iadd .i64 z5 (imul .i64 5 z6)):Int).toNat*1,none⟩)) (yi 86 85 25 1 .i64 (iadd .i64 z5 (imul .i64 5 z6)) i0_28 i1_28) (tkt 9 32 _ (yA hs 2 85 (iadd .i64 z5 (imul .i64 5 z6)) rfl i0_28 i1_28 .grow) (nq 10 [(33,I8 z7),(34,I8 (iadd .i64 z7 1)),(35,I8 z7),(36,I8 (iadd .i64 z7 2)),(37,I8 (imul .i64 (iadd .i64 z7 1) (iadd .i64 z7 2))),(38,I8 (iquo .i64 (imul .i64 (iadd .i64 z7 1) (iadd .i64 z7 2)) 2))] ?_))
  obtain ⟨r12,hg,h⟩:=ob h
  refine so 16 (oC 39 hs (ref08_left.ok hg _) fun w gw hs=>?_)
  obtain ⟨x13,hx,h⟩:=ob h
  have hx:=of_some hx
  subst hx
  obtain ⟨i0_29,i1_29,h⟩:=oc2 h
  refine tkf 17 40 (.pointer (some ⟨b3,0+((iadd .i64 z6 (imul .i64 5 x10)):Int).toNat*1,none⟩)) (yi 86 85 25 1 .i64 (iadd .i64 z6 (imul .i64 5 x10)) i0_29 i1_29) (so 18 (oA 85 r12 (iadd .i64 z6 (imul .i64 5 x10)) hs 0 rfl (by kernel_rfl) i0_29 i1_29 fun w kp hs=>(fj j27 s26 (xs fun _ s30=>(xn 2 fun _ j31=>(nq 0 [(41,I8 z6),(4,I8 z6)] (fj j31 s30 (xn 2 fun _ j32=>?_))))))))
  refine nq 0 [(42,I8 x10),(5,I8 x10)] (fin (j32 _ _ (iN (T s21 (xn 3 fun _ j33=>(nq 0 [(14,I8 z7),(15,I8 (iadd .i64 z7 1))] ?_))))))
  obtain ⟨x14,hx,h⟩:=ob h
  refine tkf 2 6 (I8 x14) (yn hx) (fin (j33 _ _ ?_))
  exact tn (kl0 _ _ ⟨n,ls n,z6,x10,x14,(wr z8 (iadd .i64 z6 (imul .i64 5 x10)) r12),h,(hs.conv rfl),eg⟩)
  refine tb 1 13 (df hc) (fj j20 s19 (cf (xexit (tx (tx (iH ?_))))))
  obtain rfl:=of_some h
  exact exq_n (nn0 _ _ ⟨(hs.conv rfl),eg⟩)
 clear hs h hy
 rintro a w ⟨hs,g17,rfl⟩
 have h:=hk0
 refine T s13 (xs fun _ s34=>(xn 2 fun _ j35=>(tkt 0 43 _ (yWe 86 hs 0 .grow) (so 1 (oWe 86 .u64 y9 hs 1 fun w kp hs=>(fj j35 s34 (xret ?_)))))))
 obtain rfl:=of_some h
 exact qq _ _ (pr (rr [.cell 2 86] [ag .u64 y9] (.cons (rcN 25 hs 1 rfl (enc_len _ _)) .nil)) ⟨cr,hs.none⟩)
theorem ref08_spread.ok {K:Nat}{a0 r0:Arr 25}(h:ref08_spread.f K a0=some r0) (w0:World):Ret Tryz.prog 108 #[ag .u64 a0] w0 (ag .u64 r0):=by
 refine calls_k Tryz.func108 rfl fun Q qq=>?_
 have hs:=St.start w0
 refine wc (a':=(fu 43 [ag .u64 a0])) (xs fun _ s1=>(xn 2 fun _ j2=>(so 0 (oBe 1 86 .u64 a0 hs fun b1 w gw hs=>(so 1 (oNe 2 86 .u64 (zeroA 25) hs fun b2 w gw hs=>?_))))))
 refine fj j2 s1 (xs fun _ s3=>(xn 1 fun _ j4=>(so 0 (oNe 3 144 .u64 (zeroA 5) hs fun b3 w gw hs=>(fj j4 s3 (xs fun _ s5=>(xs fun _ s6=>(xn 1 fun _ j7=>(qo 0 4 (I8 0) (fj j7 s6 (?_)))))))))))
 obtain ⟨y6,hy,hk0⟩:=ob h
 refine wp_exq (N:=fun a w=>St w0 [] [.blk b3 (enc .u64 y6) 144,.blk b2 (enc .u64 (zeroA 25)) 86,.blk b1 (enc .u64 a0) 86] [] w∧∃ g9,a=fr g9 44 [(1,[P0 b1,P0 b2,P0 b3])]) (fun N0 nn0=>?_) ?_
 clear hk0
 refine xb ?_
 refine wp_loop_k (fun n a w=>∃ z4 z5,ref08_spread.l0 K n a0 z4 z5=some y6∧St w0 [] [.blk b3 (enc .u64 z5) 144,.blk b2 (enc .u64 (zeroA 25)) 86,.blk b1 (enc .u64 a0) 86] [] w∧∃ g8,a=fr g8 44 [(1,[P0 b1,P0 b2,P0 b3,I8 z4])]) K ⟨0,(zeroA 5),hy,hs.conv rfl,eg⟩ ?_
 clear hs h hy
 rintro n a w ⟨z4,z5,h,hs,g8,rfl⟩ KL0 kl0
 cases n with
 | zero=>exact nomatch (show none=some _ from h)
 | succ n=>
  refine xs fun _ s10=>(xs fun _ s11=>(xn 2 fun _ j12=>(qo 0 6 (I8 z4) ?_)))
  obtain ⟨hc,h⟩|⟨hc,h⟩:=of_if h
  refine tb 1 7 (dt hc) ?_
  refine fj j12 s11 (ct (xk (T s10 (xs fun _ s13=>(xb ?_)))))
  refine rg [11] (fun k=>True) 12 fun _ j14=>?_
  have hs:=hs.drawn1
  refine gq 0 10 (I8 z4) (gq 1 11 (I8 (irem .i64 z4 5)) (gq 2 12 (I8 z4) (gq 3 13 (I8 (irem .i64 z4 5)) ?_)))
  obtain ⟨x7,hx,h⟩:=ob h
  have hx:=of_some hx
  subst hx
  obtain ⟨i0_15,i1_15,h⟩:=oc2 h
  refine tgf 4 14 (P1 b3 (irem .i64 z4 5)) (yi 144 85 5 1 .i64 (irem .i64 z4 5) i0_15 i1_15) (tgt 5 15 _ (yA hs 0 85 (irem .i64 z4 5) rfl i0_15 i1_15 .grow) (gq 6 16 (I8 z4) ?_))
  obtain ⟨i0_16,i1_16,h⟩:=oc2 h
  refine tgf 7 17 (P1 b1 z4) (yi 86 85 25 1 .i64 z4 i0_16 i1_16) (tgt 8 18 _ (yA hs 2 85 z4 rfl i0_16 i1_16 .grow) (gq 9 19 (U8 (ixor .u64 (rd z5 (irem .i64 z4 5)) (rd a0 z4))) ?_))
  obtain ⟨x8,hx,h⟩:=ob h
  have hx:=of_some hx
  subst hx
  obtain ⟨i0_17,i1_17,h⟩:=oc2 h
  refine tgf 10 20 (P1 b3 (irem .i64 z4 5)) (yi 144 85 5 1 .i64 (irem .i64 z4 5) i0_17 i1_17) ?_
  obtain ⟨x9,hx,h⟩:=ob h
  refine go 11 (oA 85 x9 (irem .i64 z4 5) hs 0 rfl (by cases hx; kernel_rfl) i0_17 i1_17 fun w kp hs=>⟨⟨fun hf=>absurd hf (by decide),.all _ _⟩,?_⟩)
  refine gf (j14 _ _ ?_)
  refine iN (T s13 (xn 3 fun _ j18=>?_))
  refine nq 0 [(8,I8 z4),(9,I8 (iadd .i64 z4 1))] ?_
  obtain ⟨x10,hx,h⟩:=ob h
  refine tkf 2 4 (I8 x10) (yn hx) (fin (j18 _ _ ?_))
  exact tn (kl0 _ _ ⟨n,ls n,x10,(wr z5 (irem .i64 z4 5) x9),h,(hs.conv rfl),eg⟩)
  refine tb 1 7 (df hc) (fj j12 s11 (cf (xexit (tx (tx (iH ?_))))))
  obtain rfl:=of_some h
  exact exq_n (nn0 _ _ ⟨(hs.conv rfl),eg⟩)
 clear hs h hy
 rintro a w ⟨hs,g9,rfl⟩
 have h:=hk0
 refine T s5 (xs fun _ s19=>(xs fun _ s20=>(xn 1 fun _ j21=>(qo 0 5 (I8 0) (fj j21 s20 (?_))))))
 obtain ⟨y13,hy,hk1⟩:=ob h
 refine wp_exq (N:=fun a w=>St w0 [] [.blk b3 (enc .u64 y6) 144,.blk b2 (enc .u64 (zeroA 25)) 86,.blk b1 (enc .u64 y13) 86] [] w∧∃ g23,a=fr g23 44 [(1,[P0 b1,P0 b2])]) (fun N1 nn1=>?_) ?_
 clear hk1
 refine xb ?_
 refine wp_loop_k (fun n a w=>∃ z11 z12,ref08_spread.l1 K n y6 z11 z12=some y13∧St w0 [] [.blk b3 (enc .u64 y6) 144,.blk b2 (enc .u64 (zeroA 25)) 86,.blk b1 (enc .u64 z12) 86] [] w∧∃ g22,a=fr g22 44 [(1,[P0 b1,P0 b2,P0 b3]),(5,[I8 z11])]) K ⟨0,a0,hy,hs.conv rfl,eg⟩ ?_
 clear hs h hy
 rintro n a w ⟨z11,z12,h,hs,g22,rfl⟩ KL1 kl1
 cases n with
 | zero=>exact nomatch (show none=some _ from h)
 | succ n=>
  refine xs fun _ s24=>(xs fun _ s25=>(xn 2 fun _ j26=>(qo 0 21 (I8 z11) ?_)))
  obtain ⟨hc,h⟩|⟨hc,h⟩:=of_if h
  refine tb 1 22 (dt hc) ?_
  refine fj j26 s25 (ct (xk (T s24 (xs fun _ s27=>(xb ?_)))))
  refine rg [18] (fun k=>True) 19 fun _ j28=>?_
  have hs:=hs.drawn1
  refine gq 0 25 (I8 z11) (gq 1 26 (I8 z11) ?_)
  obtain ⟨i0_29,i1_29,h⟩:=oc2 h
  refine tgf 2 27 (P1 b1 z11) (yi 86 85 25 1 .i64 z11 i0_29 i1_29) (tgt 3 28 _ (yA hs 2 85 z11 rfl i0_29 i1_29 .grow) (gq 4 29 (I8 z11) (gq 5 30 (I8 (iadd .i64 z11 4)) (gq 6 31 (I8 (irem .i64 (iadd .i64 z11 4) 5)) ?_))))
  obtain ⟨x14,hx,h⟩:=ob h
  have hx:=of_some hx
  subst hx
  obtain ⟨i0_30,i1_30,h⟩:=oc2 h
  refine tgf 7 32 (.pointer (some ⟨b3,0+((irem .i64 (iadd .i64 z11 4) 5):Int).toNat*1,none⟩)) (yi 144 85 5 1 .i64 (irem .i64 (iadd .i64 z11 4) 5) i0_30 i1_30) (tgt 8 33 _ (yA hs 0 85 (irem .i64 (iadd .i64 z11 4) 5) rfl i0_30 i1_30 .grow) (gq 9 34 (U8 (ixor .u64 (rd z12 z11) (rd y6 (irem .i64 (iadd .i64 z11 4) 5)))) (gq 10 35 (I8 z11) (gq 11 36 (I8 (iadd .i64 z11 1)) ?_))))
  refine gq 12 37 (I8 (irem .i64 (iadd .i64 z11 1) 5)) ?_
  obtain ⟨x15,hx,h⟩:=ob h
  have hx:=of_some hx
  subst hx
  obtain ⟨i0_31,i1_31,h⟩:=oc2 h
  refine tgf 13 38 (.pointer (some ⟨b3,0+((irem .i64 (iadd .i64 z11 1) 5):Int).toNat*1,none⟩)) (yi 144 85 5 1 .i64 (irem .i64 (iadd .i64 z11 1) 5) i0_31 i1_31) (tgt 14 39 _ (yA hs 0 85 (irem .i64 (iadd .i64 z11 1) 5) rfl i0_31 i1_31 .grow) ?_)
  obtain ⟨r16,hg,h⟩:=ob h
  refine go 15 (oC 40 hs (ref08_left.ok hg _) fun w gw hs=>⟨.of gw,?_⟩)
  refine gq 16 41 (U8 (ixor .u64 (ixor .u64 (rd z12 z11) (rd y6 (irem .i64 (iadd .i64 z11 4) 5))) r16)) ?_
  obtain ⟨i0_32,i1_32,h⟩:=oc2 h
  refine tgf 17 42 (P1 b1 z11) (yi 86 85 25 1 .i64 z11 i0_32 i1_32) ?_
  obtain ⟨x17,hx,h⟩:=ob h
  refine go 18 (oA 85 x17 z11 hs 2 rfl (by cases hx; kernel_rfl) i0_32 i1_32 fun w kp hs=>⟨⟨fun hf=>absurd hf (by decide),.all _ _⟩,?_⟩)
  refine gf (j28 _ _ ?_)
  refine iN (T s27 (xn 3 fun _ j33=>?_))
  refine nq 0 [(23,I8 z11),(24,I8 (iadd .i64 z11 1))] ?_
  obtain ⟨x18,hx,h⟩:=ob h
  refine tkf 2 5 (I8 x18) (yn hx) (fin (j33 _ _ ?_))
  exact tn (kl1 _ _ ⟨n,ls n,x18,(wr z12 z11 x17),h,(hs.conv rfl),eg⟩)
  refine tb 1 22 (df hc) (fj j26 s25 (cf (xexit (tx (tx (iH ?_))))))
  obtain rfl:=of_some h
  exact exq_n (nn1 _ _ ⟨(hs.conv rfl),eg⟩)
 clear hs h hy
 rintro a w ⟨hs,g23,rfl⟩
 have h:=hk1
 refine T s19 (xs fun _ s34=>(xn 2 fun _ j35=>(tkt 0 43 _ (yWe 86 hs 2 .grow) (so 1 (oWe 86 .u64 y13 hs 1 fun w kp hs=>(fj j35 s34 (xret ?_)))))))
 obtain rfl:=of_some h
 exact qq _ _ (pr (rr [.cell 2 86] [ag .u64 y13] (.cons (rcN 25 hs 1 rfl (enc_len _ _)) .nil)) ⟨cr,hs.none⟩)
theorem ref08_Permute.ok {K:Nat}{a0 r0:Arr 25}(h:ref08_Permute.f K a0=some r0) (w0:World):Ret Tryz.prog 88 #[ag .u64 a0] w0 (ag .u64 r0):=by
 refine calls_k Tryz.func88 rfl fun Q qq=>?_
 have hs:=St.start w0
 refine wc (a':=(fu 52 [ag .u64 a0])) (xs fun _ s1=>(xn 2 fun _ j2=>(so 0 (oBe 1 86 .u64 a0 hs fun b1 w gw hs=>(so 1 (oNe 2 86 .u64 (zeroA 25) hs fun b2 w gw hs=>?_))))))
 refine fj j2 s1 (xs fun _ s3=>(xn 3 fun _ j4=>?_))
 obtain ⟨r3,hg,h⟩:=ob h
 refine so 0 (oC 8 hs (ref08_constants.ok hg _) fun w gw hs=>?_)
 refine so 1 (oNe 3 129 .u64 (zeroA 24) hs fun b4 w gw hs=>?_)
 refine so 2 (oWe 129 .u64 r3 hs 0 fun w kp hs=>?_)
 refine fj j4 s3 (xs fun _ s5=>(xs fun _ s6=>(xn 1 fun _ j7=>(qo 0 4 (I8 0) (fj j7 s6 (?_))))))
 obtain ⟨y7,hy,hk0⟩:=ob h
 refine wp_exq (N:=fun a w=>St w0 [] [.blk b4 (enc .u64 r3) 129,.blk b2 (enc .u64 (zeroA 25)) 86,.blk b1 (enc .u64 y7) 86] [] w∧∃ g9,a=fr g9 53 [(1,[P0 b1,P0 b2])]) (fun N0 nn0=>?_) ?_
 clear hk0
 refine xb ?_
 refine wp_loop_k (fun n a w=>∃ z5 z6,ref08_Permute.l0 K n r3 z5 z6=some y7∧St w0 [] [.blk b4 (enc .u64 r3) 129,.blk b2 (enc .u64 (zeroA 25)) 86,.blk b1 (enc .u64 z6) 86] [] w∧∃ g8,a=fr g8 53 [(1,[P0 b1,P0 b2,P0 b4,I8 z5])]) K ⟨0,a0,hy,hs.conv rfl,eg⟩ ?_
 clear hs h hy
 rintro n a w ⟨z5,z6,h,hs,g8,rfl⟩ KL0 kl0
 cases n with
 | zero=>exact nomatch (show none=some _ from h)
 | succ n=>
  refine xs fun _ s10=>(xs fun _ s11=>(xn 2 fun _ j12=>(qo 0 9 (I8 z5) ?_)))
  obtain ⟨hc,h⟩|⟨hc,h⟩:=of_if h
  refine tb 1 10 (dt hc) ?_
  refine fj j12 s11 (ct (xk (T s10 (xs fun _ s13=>(xb (xs fun _ s14=>(xn 5 fun _ j15=>(tkt 0 13 _ (yWe 86 hs 2 .grow) ?_))))))))
  obtain ⟨r8,hg,h⟩:=ob h
  refine so 1 (oC 14 hs (ref08_spread.ok hg _) fun w gw hs=>?_)
  obtain ⟨r9,hg,h⟩:=ob h
  refine so 2 (oC 15 hs (ref08_move.ok hg _) fun w gw hs=>?_)
  refine so 3 (oNe 5 86 .u64 (zeroA 25) hs fun b10 w gw hs=>?_)
  refine so 4 (oWe 86 .u64 r9 hs 0 fun w kp hs=>?_)
  refine fj j15 s14 (xs fun _ s16=>(xs fun _ s17=>(xn 1 fun _ j18=>(qo 0 6 (I8 0) (fj j18 s17 (?_))))))
  obtain ⟨y13,hy,hk1⟩:=ob h
  refine wp_exq (N:=fun a w=>St w0 [] [.blk b10 (enc .u64 r9) 86,.blk b4 (enc .u64 r3) 129,.blk b2 (enc .u64 (zeroA 25)) 86,.blk b1 (enc .u64 y13) 86] [] w∧∃ g20,a=fr g20 53 [(1,[P0 b1,P0 b2,P0 b4,I8 z5])]) (fun N1 nn1=>?_) ?_
  clear hk1
  refine xb ?_
  refine wp_loop_k (fun n a w=>∃ z11 z12,ref08_Permute.l1 K n r9 z11 z12=some y13∧St w0 [] [.blk b10 (enc .u64 r9) 86,.blk b4 (enc .u64 r3) 129,.blk b2 (enc .u64 (zeroA 25)) 86,.blk b1 (enc .u64 z12) 86] [] w∧∃ g19,a=fr g19 53 [(1,[P0 b1,P0 b2,P0 b4,I8 z5,P0 b10,I8 z11])]) K ⟨0,z6,hy,hs.conv rfl,eg⟩ ?_
  clear hs h hy
  rintro n a w ⟨z11,z12,h,hs,g19,rfl⟩ KL1 kl1
  cases n with
  | zero=>exact nomatch (show none=some _ from h)
  | succ n=>
   refine xs fun _ s21=>(xs fun _ s22=>(xn 2 fun _ j23=>(qo 0 16 (I8 z11) ?_)))
   obtain ⟨hc,h⟩|⟨hc,h⟩:=of_if h
   refine tb 1 17 (dt hc) ?_
   refine fj j23 s22 (ct (xk (T s21 (xs fun _ s24=>(xb (xs fun _ s25=>(xn 4 fun _ j26=>(nq 0 [(20,I8 z11),(21,I8 (iquo .i64 z11 5)),(22,I8 (imul .i64 (iquo .i64 z11 5) 5))] ?_))))))))
   obtain ⟨x14,hx,h⟩:=ob h
   refine tkf 3 7 (I8 x14) (yn hx) (fj j26 s25 (?_))
   refine rg [22] (fun k=>True) 23 fun _ j27=>?_
   have hs:=hs.drawn1
   refine gq 0 23 (I8 z11) (gq 1 24 (I8 z11) ?_)
   obtain ⟨i0_28,i1_28,h⟩:=oc2 h
   refine tgf 2 25 (P1 b10 z11) (yi 86 85 25 1 .i64 z11 i0_28 i1_28) (tgt 3 26 _ (yA hs 0 85 z11 rfl i0_28 i1_28 .grow) (gq 4 27 (I8 x14) (gq 5 28 (I8 z11) (gq 6 29 (I8 (iadd .i64 z11 1)) ?_))))
   refine gq 7 30 (I8 (irem .i64 (iadd .i64 z11 1) 5)) (gq 8 31 (I8 (iadd .i64 x14 (irem .i64 (iadd .i64 z11 1) 5))) ?_)
   obtain ⟨x15,hx,h⟩:=ob h
   have hx:=of_some hx
   subst hx
   obtain ⟨i0_29,i1_29,h⟩:=oc2 h
   refine tgf 9 32 (.pointer (some ⟨b10,0+((iadd .i64 x14 (irem .i64 (iadd .i64 z11 1) 5)):Int).toNat*1,none⟩)) (yi 86 85 25 1 .i64 (iadd .i64 x14 (irem .i64 (iadd .i64 z11 1) 5)) i0_29 i1_29) (tgt 10 33 _ (yA hs 0 85 (iadd .i64 x14 (irem .i64 (iadd .i64 z11 1) 5)) rfl i0_29 i1_29 .grow) (gq 11 34 (U8 (ixor .u64 (rd r9 (iadd .i64 x14 (irem .i64 (iadd .i64 z11 1) 5))) 18446744073709551615)) (gq 12 35 (I8 x14) (gq 13 36 (I8 z11) ?_))))
   refine gq 14 37 (I8 (iadd .i64 z11 2)) (gq 15 38 (I8 (irem .i64 (iadd .i64 z11 2) 5)) (gq 16 39 (I8 (iadd .i64 x14 (irem .i64 (iadd .i64 z11 2) 5))) ?_))
   obtain ⟨x16,hx,h⟩:=ob h
   have hx:=of_some hx
   subst hx
   obtain ⟨i0_30,i1_30,h⟩:=oc2 h
   refine tgf 17 40 (.pointer (some ⟨b10,0+((iadd .i64 x14 (irem .i64 (iadd .i64 z11 2) 5)):Int).toNat*1,none⟩)) (yi 86 85 25 1 .i64 (iadd .i64 x14 (irem .i64 (iadd .i64 z11 2) 5)) i0_30 i1_30) (tgt 18 41 _ (yA hs 0 85 (iadd .i64 x14 (irem .i64 (iadd .i64 z11 2) 5)) rfl i0_30 i1_30 .grow) (gq 19 42 (U8 (iand .u64 (ixor .u64 (rd r9 (iadd .i64 x14 (irem .i64 (iadd .i64 z11 1) 5))) 18446744073709551615) (rd r9 (iadd .i64 x14 (irem .i64 (iadd .i64 z11 2) 5))))) (gq 20 43 (U8 (ixor .u64 (rd r9 z11) (iand .u64 (ixor .u64 (rd r9 (iadd .i64 x14 (irem .i64 (iadd .i64 z11 1) 5))) 18446744073709551615) (rd r9 (iadd .i64 x14 (irem .i64 (iadd .i64 z11 2) 5)))))) ?_)))
   obtain ⟨i0_31,i1_31,h⟩:=oc2 h
   refine tgf 21 44 (P1 b1 z11) (yi 86 85 25 1 .i64 z11 i0_31 i1_31) ?_
   obtain ⟨x17,hx,h⟩:=ob h
   refine go 22 (oA 85 x17 z11 hs 3 rfl (by cases hx; kernel_rfl) i0_31 i1_31 fun w kp hs=>⟨⟨fun hf=>absurd hf (by decide),.all _ _⟩,?_⟩)
   refine gf (j27 _ _ ?_)
   refine iN (T s24 (xn 3 fun _ j32=>?_))
   refine nq 0 [(18,I8 z11),(19,I8 (iadd .i64 z11 1))] ?_
   obtain ⟨x18,hx,h⟩:=ob h
   refine tkf 2 6 (I8 x18) (yn hx) (fin (j32 _ _ ?_))
   exact tn (kl1 _ _ ⟨n,ls n,x18,(wr z12 z11 x17),h,(hs.conv rfl),eg⟩)
   refine tb 1 17 (df hc) (fj j23 s22 (cf (xexit (tx (tx (iH ?_))))))
   obtain rfl:=of_some h
   exact exq_n (nn1 _ _ ⟨(hs.conv rfl),eg⟩)
  clear hs h hy
  rintro a w ⟨hs,g20,rfl⟩
  have h:=hk1
  refine T s16 (?_)
  refine rg [7] (fun k=>True) 8 fun _ j33=>?_
  have hs:=hs.drawn1
  refine tgf 0 45 (P1 b1 0) (yi 86 85 25 1 .i64 0 (by decide) (by decide)) (tgt 1 46 _ (yA hs 3 85 0 rfl (by decide) (by decide) .grow) (gq 2 47 (I8 z5) ?_))
  obtain ⟨i0_35,i1_35,h⟩:=oc2 h
  refine tgf 3 48 (P1 b4 z5) (yi 129 85 24 1 .i64 z5 i0_35 i1_35) (tgt 4 49 _ (yA hs 1 85 z5 rfl i0_35 i1_35 .grow) (gq 5 50 (U8 (ixor .u64 (rd y13 0) (rd r3 z5))) (tgf 6 51 (P1 b1 0) (yi 86 85 25 1 .i64 0 (by decide) (by decide)) ?_)))
  obtain ⟨x19,hx,h⟩:=ob h
  refine go 7 (oA 85 x19 0 hs 3 rfl (by cases hx; kernel_rfl) (by decide) (by decide) fun w kp hs=>⟨⟨fun hf=>absurd hf (by decide),.all _ _⟩,?_⟩)
  refine gf (j33 _ _ ?_)
  refine iN (T s13 (xn 3 fun _ j37=>?_))
  refine nq 0 [(11,I8 z5),(12,I8 (iadd .i64 z5 1))] ?_
  obtain ⟨x20,hx,h⟩:=ob h
  refine tkf 2 4 (I8 x20) (yn hx) (fin (j37 _ _ ?_))
  exact tn (kl0 _ _ ⟨n,ls n,x20,(wr y13 0 x19),h,(dr [0,1,1,1] hs),eg⟩)
  refine tb 1 10 (df hc) (fj j12 s11 (cf (xexit (tx (tx (iH ?_))))))
  obtain rfl:=of_some h
  exact exq_n (nn0 _ _ ⟨(hs.conv rfl),eg⟩)
 clear hs h hy
 rintro a w ⟨hs,g9,rfl⟩
 have h:=hk0
 refine T s5 (xs fun _ s38=>(xn 2 fun _ j39=>(tkt 0 52 _ (yWe 86 hs 2 .grow) (so 1 (oWe 86 .u64 y7 hs 1 fun w kp hs=>(fj j39 s38 (xret ?_)))))))
 obtain rfl:=of_some h
 exact qq _ _ (pr (rr [.cell 2 86] [ag .u64 y7] (.cons (rcN 25 hs 1 rfl (enc_len _ _)) .nil)) ⟨cr,hs.none⟩)
theorem ref08_put.ok {K:Nat}{a0:Arr 25}{a1 a2:Int}{r0:Arr 25}(h:ref08_put.f K a0 a1 a2=some r0) (w0:World):Ret Tryz.prog 89 #[ag .u64 a0,I8 a1,U1 a2] w0 (ag .u64 r0):=by
 refine calls_k Tryz.func89 rfl fun Q qq=>?_
 have hs:=St.start w0
 refine wc (a':=(fu 19 [ag .u64 a0,I8 a1,U1 a2])) (xs fun _ s1=>(xn 2 fun _ j2=>(so 0 (oBe 3 86 .u64 a0 hs fun b1 w gw hs=>(so 1 (oNe 6 86 .u64 (zeroA 25) hs fun b2 w gw hs=>?_))))))
 refine fj j2 s1 (xs fun _ s3=>?_)
 refine rg [14] (fun k=>True) 15 fun _ j4=>?_
 have hs:=hs.drawn1
 refine gq 0 7 (I8 a1) (gq 1 8 (I8 (iquo .i64 a1 8)) (gq 2 9 (I8 a1) (gq 3 10 (I8 (iquo .i64 a1 8)) ?_)))
 obtain ⟨x3,hx,h⟩:=ob h
 have hx:=of_some hx
 subst hx
 obtain ⟨i0_5,i1_5,h⟩:=oc2 h
 refine tgf 4 11 (P1 b1 (iquo .i64 a1 8)) (yi 86 85 25 1 .i64 (iquo .i64 a1 8) i0_5 i1_5) (tgt 5 12 _ (yA hs 1 85 (iquo .i64 a1 8) rfl i0_5 i1_5 .grow) (gq 6 13 (U1 a2) (gq 7 14 (U8 (iconv .u64 a2)) (gq 8 15 (I8 a1) ?_))))
 refine gq 9 16 (I8 (irem .i64 a1 8)) (gq 10 17 (I8 (imul .i64 8 (irem .i64 a1 8))) ?_)
 obtain ⟨h0,h⟩:=oc h
 refine tgf 11 18 (U8 (ishl .u64 (iconv .u64 a2) (imul .i64 8 (irem .i64 a1 8)))) (ysl 85 .i64 h0) (gq 12 19 (U8 (ixor .u64 (rd a0 (iquo .i64 a1 8)) (ishl .u64 (iconv .u64 a2) (imul .i64 8 (irem .i64 a1 8))))) ?_)
 obtain ⟨x4,hx,h⟩:=ob h
 have hx:=of_some hx
 subst hx
 obtain ⟨i0_6,i1_6,h⟩:=oc2 h
 refine tgf 13 20 (P1 b1 (iquo .i64 a1 8)) (yi 86 85 25 1 .i64 (iquo .i64 a1 8) i0_6 i1_6) ?_
 obtain ⟨x5,hx,h⟩:=ob h
 refine go 14 (oA 85 x5 (iquo .i64 a1 8) hs 1 rfl (by cases hx; kernel_rfl) i0_6 i1_6 fun w kp hs=>⟨⟨fun hf=>absurd hf (by decide),.all _ _⟩,?_⟩)
 refine gf (j4 _ _ (T s3 (xs fun _ s7=>(xn 2 fun _ j8=>(tkt 0 21 _ (yWe 86 hs 1 .grow) (so 1 (oWe 86 .u64 (wr a0 (iquo .i64 a1 8) x5) hs 0 fun w kp hs=>(fj j8 s7 (xret ?_)))))))))
 obtain rfl:=of_some h
 exact qq _ _ (pr (rr [.cell 6 86] [ag .u64 (wr a0 (iquo .i64 a1 8) x5)] (.cons (rcN 25 hs 0 rfl (enc_len _ _)) .nil)) ⟨cr,hs.none⟩)
end Go.Proofs.YtemdbgmldljbpaaGreatDoor

/- own -/
set_option linter.unusedVariables false
set_option linter.unusedSimpArgs false
set_option maxRecDepth 100000
set_option maxHeartbeats 4000000
namespace Go.Proofs.YtemdbgmldljbpaaGreatDoor
open Go.Mx
attribute [local irreducible] wpOp
theorem ref08_Squeeze.ok {K:Nat}{a0_0:Int}{a0_1:Arr 25}{a0_2:Int}{a0_3:Bool}{a1 r0_0:Int}{r0_1:Arr 25}{r0_2:Int}{r0_3:Bool}{r1:List Int}(h:ref08_Squeeze.f K a0_0 a0_1 a0_2 a0_3 a1=some (r0_0,r0_1,r0_2,r0_3,r1)) (w0:World):Calls Tryz.prog 57 #[.agg (vl [I8 a0_0]++enc .u64 a0_1++vl [I8 a0_2,.bool a0_3]).toArray,I8 a1] w0 fun e w'=>∃ h:(Option Addr × Nat × Nat),e = .returned (.tuple #[.agg (vl [I8 r0_0]++enc .u64 r0_1++vl [I8 r0_2,.bool r0_3]).toArray,.slice h.1 h.2.1 h.2.2])∧St w0 [] [.ownL CB h.1 h.2.1 h.2.2 r1 5] [] w':=by
 refine calls_k Tryz.func57 rfl fun Q qq=>?_
 have hs:=St.start w0
 refine wc (a':=(fu 71 [.agg (vl [I8 a0_0]++enc .u64 a0_1++vl [I8 a0_2,.bool a0_3]).toArray,I8 a1])) (xs fun _ s1=>(xn 3 fun _ j2=>(so 0 (oB 2 88 (.agg (vl [I8 a0_0]++enc .u64 a0_1++vl [I8 a0_2,.bool a0_3]).toArray) hs (vl [I8 a0_0]++enc .u64 a0_1++vl [I8 a0_2,.bool a0_3]) fun b1 w gw hs=>(so 1 (oN 4 88 hs (vl [I8 0]++enc .u64 (zeroA 25)++vl [I8 0,.bool false]) (.agg (vl [I8 0]++enc .u64 (zeroA 25)++vl [I8 0,.bool false]).toArray) fun b2 w gw hs=>?_))))))
 refine qo 2 5 (.slice none 0 0) (fj j2 s1 (xs fun _ s3=>(xs fun _ s4=>(xn 2 fun _ j5=>(qo 0 9 (I8 a1) ?_)))))
 obtain ⟨hc,h⟩|⟨hc,h⟩:=of_if h
 refine tb 1 10 (dt hc) ?_
 refine fj j5 s4 (ct (xs fun _ s6=>(xn 3 fun _ j7=>(tkt 0 11 _ (yWs 28 88 hs 1 .grow) (so 1 (oW 28 88 (.agg (vl [I8 a0_0]++enc .u64 a0_1++vl [I8 a0_2,.bool a0_3]).toArray) (vl [I8 a0_0]++enc .u64 a0_1++vl [I8 a0_2,.bool a0_3]) hs 0 rfl (by simp [enc_len]) (by simp [enc_len]) (one_app (one_app (by simp [Value.oneCell']) (fun u hu=>enc_one _ _ u hu)) (by simp [Value.oneCell'])) fun w kp hs=>(qo 2 5 (.slice none 0 0) (fj j7 s6 (xret (tr ?_))))))))))
 obtain ⟨rfl,rfl,rfl,rfl,rfl⟩:=os5 h
 have hs:=hs.addNilL CB 5
 exact qq _ _ (pr (rr [.cell 4 88,.tmp 5] [.agg (vl [I8 a0_0]++enc .u64 a0_1++vl [I8 a0_2,.bool a0_3]).toArray,.slice none 0 0] (.cons (rcN 28 hs 1 rfl (by simp [enc_len])) (.cons rt .nil))) ⟨⟨none,0,0⟩,cr,(dr [1,0,0] hs)⟩)
 refine tb 1 10 (df hc) (fj j5 s4 (cf (xk (T s3 (xs fun _ s8=>(xn 4 fun _ j9=>(qo 0 12 (P0 b1) (tkt 1 13 _ (yv hs 1 0 3 rfl (get_pre rfl) .grow) ?_))))))))
 obtain ⟨r3,hg,h⟩:=ob h
 refine so 2 (oC 14 hs (ref08_Rate.ok hg _) fun w gw hs=>?_)
 refine qo 3 6 (I8 r3) (fj j9 s8 (?_))
 obtain ⟨⟨y4_0,y4_1,y4_2,y4_3⟩,hj,h⟩:=ob h
 refine xs fun _ s11=>wp_join (N:=fun a w=>St w0 [] [.blk b2 (vl [I8 0]++enc .u64 (zeroA 25)++vl [I8 0,.bool false]) 88,.blk b1 (vl [I8 y4_0]++enc .u64 y4_1++vl [I8 y4_2,.bool y4_3]) 88] [] w∧∃ g10,a=fr g10 73 [(1,[I8 a1,P0 b1]),(4,[P0 b2,.slice none 0 0,I8 r3])]) (fun N nj=>?_) ?_
 clear h
 have h:=hj
 refine xs fun _ s12=>(xn 3 fun _ j13=>(qo 0 15 (.pointer (some ⟨b1,27,none⟩)) ?_))
 cases a0_3 with
 | true=>
  have h:=of_if_t h
  refine tkt 1 16 _ (yv hs 1 27 4 rfl (get_post 1 rfl rfl) .grow) (qo 2 17 (.bool false) (fj j13 s12 (cf (xk ?_))))
  obtain ⟨rfl,rfl,rfl,rfl⟩:=os4 h
  exact nj _ _ ⟨(hs.conv rfl),eg⟩
 | false=>
  have h:=of_if_f h
  refine tkt 1 16 _ (yv hs 1 27 4 rfl (get_post 1 rfl rfl) .grow) (qo 2 17 (.bool true) (fj j13 s12 (ct (xs fun _ s14=>(xn 1 fun _ j15=>(qo 0 7 (U1 31) (fj j15 s14 (?_))))))))
  obtain ⟨y5,hj,h⟩:=ob h
  refine xs fun _ s17=>wp_join (N:=fun a w=>St w0 [] [.blk b2 (vl [I8 0]++enc .u64 (zeroA 25)++vl [I8 0,.bool false]) 88,.blk b1 (vl [I8 a0_0]++enc .u64 a0_1++vl [I8 a0_2,.bool false]) 88] [] w∧∃ g16,a=fr g16 73 [(1,[I8 a1,P0 b1]),(4,[P0 b2,.slice none 0 0,I8 r3,U1 y5])]) (fun N nj=>?_) ?_
  clear h
  have h:=hj
  refine xs fun _ s18=>(xn 8 fun _ j19=>(qo 0 18 (P0 b1) (tkt 1 19 _ (yv hs 1 0 3 rfl (get_pre rfl) .grow) ?_)))
  obtain ⟨hc,h⟩|⟨hc,h⟩:=of_if h
  refine tb 2 20 (et hc) ?_
  refine nq 3 [(21,.bool true),(22,undef),(23,undef),(24,undef),(25,.bool true)] (fj j19 s18 (ct (xn 1 fun _ j20=>(qo 0 7 (U1 6) (fin (j20 _ _ ?_))))))
  obtain rfl:=of_some h
  exact nj _ _ ⟨(hs.conv rfl),eg⟩
  refine tb 2 20 (ef hc) (nq 3 [(21,.bool false),(22,P0 b1)] (tkt 5 23 _ (yv hs 1 0 3 rfl (get_pre rfl) .grow) ?_))
  obtain ⟨hc,h⟩|⟨hc,h⟩:=of_if h
  refine tb 6 24 (et hc) ?_
  refine qo 7 25 (.bool true) (fj j19 s18 (ct (xn 1 fun _ j21=>(qo 0 7 (U1 6) (fin (j21 _ _ ?_))))))
  obtain rfl:=of_some h
  exact nj _ _ ⟨(hs.conv rfl),eg⟩
  refine tb 6 24 (ef hc) (qo 7 25 (.bool false) (fj j19 s18 (cf (xk ?_))))
  obtain rfl:=of_some h
  exact nj _ _ ⟨(hs.conv rfl),eg⟩
  clear hj hs
  rintro a w ⟨hs,g16,rfl⟩
  refine T s17 (xs fun _ s22=>(xn 12 fun _ j23=>(qo 0 26 (.pointer (some ⟨b1,1,none⟩)) (tkt 1 27 (ag .u64 a0_1) (yN hs 1 1 25 86 rfl (mid_of rfl) (enc_len _ _) .grow) (qo 2 28 (.pointer (some ⟨b1,26,none⟩)) (tkt 3 29 _ (yv hs 1 26 3 rfl (get_post 0 rfl rfl) .grow) ?_))))))
  refine qo 4 30 (U1 y5) ?_
  obtain ⟨r6,hg,h⟩:=ob h
  refine so 5 (oC 31 hs (ref08_put.ok hg _) fun w gw hs=>?_)
  refine nq 6 [(32,I8 r3),(33,I8 (isub .i64 r3 1))] ?_
  obtain ⟨r7,hg,h⟩:=ob h
  refine so 8 (oC 34 hs (ref08_put.ok hg _) fun w gw hs=>?_)
  obtain ⟨r8,hg,h⟩:=ob h
  refine so 9 (oC 35 hs (ref08_Permute.ok hg _) fun w gw hs=>?_)
  refine qo 10 36 (.pointer (some ⟨b1,1,none⟩)) (so 11 (oM 86 (ag .u64 r8) 1 25 (enc .u64 r8) hs 1 rfl (enc_len _ _) (by simp [enc_len]) (enc_one _ _) (splice_row rfl) fun w kp hs=>(fj j23 s22 (xs fun _ s24=>(xn 2 fun _ j25=>(qo 0 37 (.pointer (some ⟨b1,26,none⟩)) ?_))))))
  refine wpS.only 1 (oQ 3 (I8 0) 26 hs 1 rfl rfl (by simp [enc_len]) (set_post 0 rfl) ?_)
  intro w kp hs
  try dsimp only [List.set] at hs
  refine ⟨fun _=>trivial,?_⟩
  refine fj j25 s24 (xn 2 fun _ j26=>(qo 0 38 (.pointer (some ⟨b1,27,none⟩)) ?_))
  refine wpS.only 1 (oQ 4 (.bool true) 27 hs 1 rfl rfl (by simp [enc_len]) (set_post 1 rfl) ?_)
  intro w kp hs
  try dsimp only [List.set] at hs
  refine ⟨fun _=>trivial,?_⟩
  refine fin (j26 _ _ ?_)
  obtain ⟨rfl,rfl,rfl,rfl⟩:=os4 h
  exact nj _ _ ⟨(hs.conv rfl),eg⟩
 clear hj hs
 rintro a w ⟨hs,g10,rfl⟩
 refine T s11 (xs fun _ s27=>(xn 1 fun _ j28=>(qo 0 8 (.slice none 0 0) (fj j28 s27 (xs fun _ s29=>?_)))))
 have hs:=hs.addNilL CB 5
 obtain ⟨⟨y11,y12_0,y12_1,y12_2,y12_3⟩,hy,hk0⟩:=ob h
 refine wp_exq (N:=fun a w=>∃ y11_A y11_n y11_c,St w0 [] [.ownL CB y11_A y11_n y11_c y11 5,.blk b2 (vl [I8 0]++enc .u64 (zeroA 25)++vl [I8 0,.bool false]) 88,.blk b1 (vl [I8 y12_0]++enc .u64 y12_1++vl [I8 y12_2,.bool y12_3]) 88] [] w∧∃ g31,a=fr g31 73 [(2,[P0 b1]),(4,[P0 b2,.slice none 0 0]),(8,[.slice y11_A y11_n y11_c])]) (fun N0 nn0=>?_) ?_
 clear hk0
 refine xb ?_
 refine wp_loop_k (fun n a w=>∃ z9 z10_0 z10_1 z10_2 z10_3,∃ z9_A z9_n z9_c,ref08_Squeeze.l0 K n a1 r3 z9 z10_0 z10_1 z10_2 z10_3=some (y11,y12_0,y12_1,y12_2,y12_3)∧St w0 [] [.ownL CB z9_A z9_n z9_c z9 5,.blk b2 (vl [I8 0]++enc .u64 (zeroA 25)++vl [I8 0,.bool false]) 88,.blk b1 (vl [I8 z10_0]++enc .u64 z10_1++vl [I8 z10_2,.bool z10_3]) 88] [] w∧∃ g30,a=fr g30 73 [(1,[I8 a1,P0 b1]),(4,[P0 b2,.slice none 0 0,I8 r3]),(8,[.slice z9_A z9_n z9_c])]) K ⟨([]:List Int),y4_0,y4_1,y4_2,y4_3,none,0,0,hy,hs.conv rfl,eg⟩ ?_
 clear hs h hy
 rintro n a w ⟨z9,z10_0,z10_1,z10_2,z10_3,z9_A,z9_n,z9_c,h,hs,g30,rfl⟩ KL0 kl0
 cases n with
 | zero=>exact nomatch (show none=some _ from h)
 | succ n=>
  refine xs fun _ s32=>(xs fun _ s33=>(xn 4 fun _ j34=>(qo 0 39 (.slice z9_A z9_n z9_c) (tkf 1 40 (I8 (z9.length:Int)) (yl (rL 0 hs)) ?_))))
  refine qo 2 41 (I8 a1) ?_
  obtain ⟨hc,h⟩|⟨hc,h⟩:=of_if h
  refine tb 3 42 (dt hc) ?_
  refine fj j34 s33 (ct (xk (T s32 (xb ?_))))
  obtain ⟨⟨y13_0,y13_1,y13_2,y13_3⟩,hj,h⟩:=ob h
  refine xs fun _ s36=>wp_join (N:=fun a w=>St w0 [] [.ownL CB z9_A z9_n z9_c z9 5,.blk b2 (vl [I8 0]++enc .u64 (zeroA 25)++vl [I8 0,.bool false]) 88,.blk b1 (vl [I8 y13_0]++enc .u64 y13_1++vl [I8 y13_2,.bool y13_3]) 88] [] w∧∃ g35,a=fr g35 73 [(1,[I8 a1,P0 b1]),(4,[P0 b2,.slice none 0 0,I8 r3]),(8,[.slice z9_A z9_n z9_c])]) (fun N nj=>?_) ?_
  clear h
  have h:=hj
  refine xs fun _ s37=>(xn 4 fun _ j38=>(qo 0 43 (.pointer (some ⟨b1,26,none⟩)) (tkt 1 44 _ (yv hs 2 26 3 rfl (get_post 0 rfl rfl) .grow) (qo 2 45 (I8 r3) ?_))))
  obtain ⟨hc,h⟩|⟨hc,h⟩:=of_if h
  refine tb 3 46 (et hc) ?_
  refine fj j38 s37 (ct (xs fun _ s39=>(xn 5 fun _ j40=>(qo 0 47 (.pointer (some ⟨b1,1,none⟩)) (tkt 1 48 (ag .u64 z10_1) (yN hs 2 1 25 86 rfl (mid_of rfl) (enc_len _ _) .grow) ?_)))))
  obtain ⟨r14,hg,h⟩:=ob h
  refine so 2 (oC 49 hs (ref08_Permute.ok hg _) fun w gw hs=>?_)
  refine qo 3 50 (.pointer (some ⟨b1,1,none⟩)) (so 4 (oM 86 (ag .u64 r14) 1 25 (enc .u64 r14) hs 2 rfl (enc_len _ _) (by simp [enc_len]) (enc_one _ _) (splice_row rfl) fun w kp hs=>(fj j40 s39 (xn 2 fun _ j41=>(qo 0 51 (.pointer (some ⟨b1,26,none⟩)) ?_)))))
  refine wpS.only 1 (oQ 3 (I8 0) 26 hs 2 rfl rfl (by simp [enc_len]) (set_post 0 rfl) ?_)
  intro w kp hs
  try dsimp only [List.set] at hs
  refine ⟨fun _=>trivial,?_⟩
  refine fin (j41 _ _ ?_)
  obtain ⟨rfl,rfl,rfl,rfl⟩:=os4 h
  exact nj _ _ ⟨(hs.conv rfl),eg⟩
  refine tb 3 46 (ef hc) (fj j38 s37 (cf (xk ?_)))
  obtain ⟨rfl,rfl,rfl,rfl⟩:=os4 h
  exact nj _ _ ⟨(hs.conv rfl),eg⟩
  clear hj hs
  rintro a w ⟨hs,g35,rfl⟩
  refine T s36 (xs fun _ s42=>?_)
  refine rg [14] (fun k=>True) 16 fun _ j43=>?_
  have hs:=hs.drawn1
  refine gq 0 52 (.slice z9_A z9_n z9_c) (gq 1 53 (.pointer (some ⟨b1,26,none⟩)) ?_)
  refine wpG.take [2,3,5,6,11,12,13,14,15] 2 true (some 54) (I8 y13_2) (by kernel_rfl) (by kernel_rfl) (yv hs 2 26 3 rfl (get_post 0 rfl rfl) .grow) ?_
  refine gq 3 55 (I8 (iquo .i64 y13_2 8)) (gq 4 56 (.pointer (some ⟨b1,1,none⟩)) ?_)
  obtain ⟨x15,hx,h⟩:=ob h
  have hx:=of_some hx
  subst hx
  obtain ⟨i0_44,i1_44,h⟩:=oc2 h
  refine tgf 5 57 (.pointer (some ⟨b1,1+((iquo .i64 y13_2 8):Int).toNat*1,none⟩)) (yi 86 85 25 1 .i64 (iquo .i64 y13_2 8) i0_44 i1_44) ?_
  refine wpG.take [6,11,12,13,14,15] 6 true (some 58) (U8 (rd y13_1 (iquo .i64 y13_2 8))) (by kernel_rfl) (by kernel_rfl) (yP 1 hs 2 85 (iquo .i64 y13_2 8) rfl i0_44 i1_44 (by simp [enc_len]) .grow) ?_
  refine gq 7 59 (.pointer (some ⟨b1,26,none⟩)) ?_
  refine wpG.take [8,9,10,11,12,13,14,15] 8 true (some 60) (I8 y13_2) (by kernel_rfl) (by kernel_rfl) (yv hs 2 26 3 rfl (get_post 0 rfl rfl) .grow) ?_
  refine gq 9 61 (I8 (irem .i64 y13_2 8)) (gq 10 62 (I8 (imul .i64 8 (irem .i64 y13_2 8))) ?_)
  obtain ⟨h0,h⟩:=oc h
  refine tgf 11 63 (U8 (ishr .u64 (rd y13_1 (iquo .i64 y13_2 8)) (imul .i64 8 (irem .i64 y13_2 8)))) (ysr 85 .i64 h0) (gq 12 64 (U1 (iconv .u8 (ishr .u64 (rd y13_1 (iquo .i64 y13_2 8)) (imul .i64 8 (irem .i64 y13_2 8))))) (go 13 (oLt (C:=CB) 65 24 5 1 (U1 0) #[(0,U1 (iconv .u8 (ishr .u64 (rd y13_1 (iquo .i64 y13_2 8)) (imul .i64 8 (irem .i64 y13_2 8)))))] [(iconv .u8 (ishr .u64 (rd y13_1 (iquo .i64 y13_2 8)) (imul .i64 8 (irem .i64 y13_2 8))))] hs rfl (by decide) (by decide) fun s16_A s16_n s16_c w gw hs=>⟨.of gw,?_⟩)))
  obtain ⟨h0,h⟩:=oc h
  refine go 14 (oAp (C:=CB) 66 24 24 5 1 140737488355328 hs 1 rfl (rL 0 hs) h0 (by decide) (by decide) fun s17_A s17_n s17_c w hs=>⟨⟨fun hf=>absurd hf (by decide),.all _ _⟩,?_⟩)
  refine gq 15 8 (.slice s17_A s17_n s17_c) (gf (j43 _ _ (T s42 (xn 5 fun _ j45=>(qo 0 67 (.pointer (some ⟨b1,26,none⟩)) (tkt 1 68 _ (yv hs 3 26 3 rfl (get_post 0 rfl rfl) .grow) ?_))))))
  refine nq 2 [(69,I8 (iadd .i64 y13_2 1)),(70,.pointer (some ⟨b1,26,none⟩))] ?_
  obtain ⟨x18,hx,h⟩:=ob h
  refine wpS.only 4 (oQ (he:=by cases hx; kernel_rfl) 3 (I8 x18) 26 hs 3 rfl rfl (by simp [enc_len]) (set_post 0 rfl) ?_)
  intro w kp hs
  try dsimp only [List.set] at hs
  refine ⟨fun _=>trivial,?_⟩
  refine fin (j45 _ _ (iN ?_))
  exact tn (kl0 _ _ ⟨n,ls n,(z9++([(iconv .u8 (ishr .u64 (rd y13_1 (iquo .i64 y13_2 8)) (imul .i64 8 (irem .i64 y13_2 8))))]:List Int)),y13_0,y13_1,x18,y13_3,s17_A,s17_n,s17_c,h,(dr [0,1,1,1] hs),eg⟩)
  refine tb 3 42 (df hc) (fj j34 s33 (cf (xexit (tx (tx (iH ?_))))))
  obtain ⟨rfl,rfl,rfl,rfl,rfl⟩:=os5 h
  exact exq_n (nn0 _ _ ⟨z9_A,z9_n,z9_c,(hs.conv rfl),eg⟩)
 clear hs h hy
 rintro a w ⟨y11_A,y11_n,y11_c,hs,g31,rfl⟩
 have h:=hk0
 refine T s29 (xs fun _ s46=>(xn 4 fun _ j47=>(tkt 0 71 _ (yWs 28 88 hs 2 .grow) (qo 1 72 (.slice y11_A y11_n y11_c) (so 2 (oW 28 88 (.agg (vl [I8 y12_0]++enc .u64 y12_1++vl [I8 y12_2,.bool y12_3]).toArray) (vl [I8 y12_0]++enc .u64 y12_1++vl [I8 y12_2,.bool y12_3]) hs 1 rfl (by simp [enc_len]) (by simp [enc_len]) (one_app (one_app (by simp [Value.oneCell']) (fun u hu=>enc_one _ _ u hu)) (by simp [Value.oneCell'])) fun w kp hs=>(qo 3 5 (.slice y11_A y11_n y11_c) ?_)))))))
 refine fj j47 s46 (xret ?_)
 obtain ⟨rfl,rfl,rfl,rfl,rfl⟩:=os5 h
 exact qq _ _ (pr (rr [.cell 4 88,.tmp 5] [.agg (vl [I8 y12_0]++enc .u64 y12_1++vl [I8 y12_2,.bool y12_3]).toArray,.slice y11_A y11_n y11_c] (.cons (rcN 28 hs 1 rfl (by simp [enc_len])) (.cons rt .nil))) ⟨⟨y11_A,y11_n,y11_c⟩,cr,(dr [1,0,0] hs)⟩)
theorem ref08_Absorb.ok {K:Nat}{a0_0:Int}{a0_1:Arr 25}{a0_2:Int}{a0_3:Bool}{a1:List Int}{r0_0:Int}{r0_1:Arr 25}{r0_2:Int}{r0_3:Bool}{a1_A:Option Addr}{a1_n a1_c:Nat}(h:ref08_Absorb.f K a0_0 a0_1 a0_2 a0_3 a1=some (r0_0,r0_1,r0_2,r0_3)) (w0:World) (hp1:RowL CB w0 a1_A a1_n a1_c a1):Ret Tryz.prog 58 #[.agg (vl [I8 a0_0]++enc .u64 a0_1++vl [I8 a0_2,.bool a0_3]).toArray,.slice a1_A a1_n a1_c] w0 (.agg (vl [I8 r0_0]++enc .u64 r0_1++vl [I8 r0_2,.bool r0_3]).toArray):=by
 refine calls_k Tryz.func58 rfl fun Q qq=>?_
 have hs:=St.startR (all_cons (RowP.ent hp1) all_nil)
 refine wc (a':=(fu 39 [.agg (vl [I8 a0_0]++enc .u64 a0_1++vl [I8 a0_2,.bool a0_3]).toArray,.slice a1_A a1_n a1_c])) (xs fun _ s1=>(xn 2 fun _ j2=>(so 0 (oB 2 88 (.agg (vl [I8 a0_0]++enc .u64 a0_1++vl [I8 a0_2,.bool a0_3]).toArray) hs (vl [I8 a0_0]++enc .u64 a0_1++vl [I8 a0_2,.bool a0_3]) fun b1 w gw hs=>(so 1 (oN 4 88 hs (vl [I8 0]++enc .u64 (zeroA 25)++vl [I8 0,.bool false]) (.agg (vl [I8 0]++enc .u64 (zeroA 25)++vl [I8 0,.bool false]).toArray) fun b2 w gw hs=>?_))))))
 refine fj j2 s1 (xs fun _ s3=>(xs fun _ s4=>(xn 2 fun _ j5=>(qo 0 6 (.pointer (some ⟨b1,27,none⟩)) ?_))))
 cases a0_3 with
 | true=>
  have h:=of_if_t h
  refine tkt 1 7 _ (yv hs 1 27 4 rfl (get_post 1 rfl rfl) .grow) (fj j5 s4 (ct (xs fun _ s6=>(xn 2 fun _ j7=>(tkt 0 8 _ (yWs 28 88 hs 1 .grow) (so 1 (oW 28 88 (.agg (vl [I8 a0_0]++enc .u64 a0_1++vl [I8 a0_2,.bool true]).toArray) (vl [I8 a0_0]++enc .u64 a0_1++vl [I8 a0_2,.bool true]) hs 0 rfl (by simp [enc_len]) (by simp [enc_len]) (one_app (one_app (by simp [Value.oneCell']) (fun u hu=>enc_one _ _ u hu)) (by simp [Value.oneCell'])) fun w kp hs=>(fj j7 s6 (xret (tr ?_))))))))))
  obtain ⟨rfl,rfl,rfl,rfl⟩:=os4 h
  exact qq _ _ (pr (rr [.cell 4 88] [.agg (vl [I8 a0_0]++enc .u64 a0_1++vl [I8 a0_2,.bool true]).toArray] (.cons (rcN 28 hs 0 rfl (by simp [enc_len])) .nil)) ⟨cr,hs.none⟩)
 | false=>
  have h:=of_if_f h
  refine tkt 1 7 _ (yv hs 1 27 4 rfl (get_post 1 rfl rfl) .grow) (fj j5 s4 (cf (xk (T s3 (xs fun _ s8=>(xs fun _ s9=>(xn 1 fun _ j10=>(qo 0 5 (I8 0) (fj j10 s9 (?_))))))))))
  obtain ⟨⟨y5_0,y5_1,y5_2,y5_3⟩,hy,hk0⟩:=ob h
  refine wp_exq (N:=fun a w=>St w0 [] [.blk b2 (vl [I8 0]++enc .u64 (zeroA 25)++vl [I8 0,.bool false]) 88,.blk b1 (vl [I8 y5_0]++enc .u64 y5_1++vl [I8 y5_2,.bool y5_3]) 88] [.rowL CB a1_A a1_n a1_c a1] w∧∃ g12,a=fr g12 41 [(2,[P0 b1]),(4,[P0 b2])]) (fun N0 nn0=>?_) ?_
  clear hk0
  refine xb ?_
  refine wp_loop_k (fun n a w=>∃ z3 z4_0 z4_1 z4_2 z4_3,ref08_Absorb.l0 K n a1 z3 z4_0 z4_1 z4_2 z4_3=some (y5_0,y5_1,y5_2,y5_3)∧St w0 [] [.blk b2 (vl [I8 0]++enc .u64 (zeroA 25)++vl [I8 0,.bool false]) 88,.blk b1 (vl [I8 z4_0]++enc .u64 z4_1++vl [I8 z4_2,.bool z4_3]) 88] [.rowL CB a1_A a1_n a1_c a1] w∧∃ g11,a=fr g11 41 [(1,[.slice a1_A a1_n a1_c,P0 b1]),(4,[P0 b2,I8 z3])]) K ⟨0,a0_0,a0_1,a0_2,false,hy,hs.conv rfl,eg⟩ ?_
  clear hs h hy
  rintro n a w ⟨z3,z4_0,z4_1,z4_2,z4_3,h,hs,g11,rfl⟩ KL0 kl0
  cases n with
  | zero=>exact nomatch (show none=some _ from h)
  | succ n=>
   refine xs fun _ s13=>(xs fun _ s14=>(xn 4 fun _ j15=>(nq 0 [(9,I8 z3),(10,.slice a1_A a1_n a1_c)] (tkf 2 11 (I8 (a1.length:Int)) (yl (rR 0 hs)) ?_))))
   obtain ⟨hc,h⟩|⟨hc,h⟩:=of_if h
   refine tb 3 12 (dt hc) ?_
   refine fj j15 s14 (ct (xk (T s13 (?_))))
   obtain ⟨⟨y6_0,y6_1,y6_2,y6_3⟩,hj,h⟩:=ob h
   refine xs fun _ s17=>wp_join (N:=fun a w=>St w0 [] [.blk b2 (vl [I8 0]++enc .u64 (zeroA 25)++vl [I8 0,.bool false]) 88,.blk b1 (vl [I8 y6_0]++enc .u64 y6_1++vl [I8 y6_2,.bool y6_3]) 88] [.rowL CB a1_A a1_n a1_c a1] w∧∃ g16,a=fr g16 41 [(1,[.slice a1_A a1_n a1_c,P0 b1]),(4,[P0 b2,I8 z3])]) (fun N nj=>?_) ?_
   clear h
   have h:=hj
   refine xb (xs fun _ s18=>?_)
   refine rg [10] (fun k=>True) 11 fun _ j19=>?_
   have hs:=hs.drawn1
   refine gq 0 15 (.pointer (some ⟨b1,1,none⟩)) (tgt 1 16 (ag .u64 z4_1) (yN hs 1 1 25 86 rfl (mid_of rfl) (enc_len _ _) .grow) (gq 2 17 (.pointer (some ⟨b1,26,none⟩)) (tgt 3 18 _ (yv hs 1 26 3 rfl (get_post 0 rfl rfl) .grow) (gq 4 19 (.slice a1_A a1_n a1_c) ?_))))
   refine gq 5 20 (I8 z3) ?_
   obtain ⟨h0,h1,h⟩:=oc2 h
   have i0_20:=h0
   have i1_20:=h1
   refine tgf 6 21 (PA CB a1_A z3) (yiL (C:=CB) 24 5 .i64 z3 (rR 0 hs) h0 h1) (tgt 7 22 _ (yL (C:=CB) 5 z3 (rR 0 hs) rfl i0_20 i1_20) ?_)
   obtain ⟨r7,hg,h⟩:=ob h
   refine go 8 (oC 23 hs (ref08_put.ok hg _) fun w gw hs=>⟨.of gw,?_⟩)
   refine gq 9 24 (.pointer (some ⟨b1,1,none⟩)) (go 10 (oM 86 (ag .u64 r7) 1 25 (enc .u64 r7) hs 1 rfl (enc_len _ _) (by simp [enc_len]) (enc_one _ _) (splice_row rfl) fun w kp hs=>⟨⟨fun hf=>absurd hf (by decide),.all _ _⟩,(gf (j19 _ _ (T s18 (xs fun _ s21=>(xn 5 fun _ j22=>(qo 0 25 (.pointer (some ⟨b1,26,none⟩)) ?_))))))⟩))
   refine tkt 1 26 _ (yv hs 1 26 3 rfl (get_post 0 rfl rfl) .grow) (nq 2 [(27,I8 (iadd .i64 z4_2 1)),(28,.pointer (some ⟨b1,26,none⟩))] ?_)
   obtain ⟨x8,hx,h⟩:=ob h
   refine wpS.only 4 (oQ (he:=by cases hx; kernel_rfl) 3 (I8 x8) 26 hs 1 rfl rfl (by simp [enc_len]) (set_post 0 rfl) ?_)
   intro w kp hs
   try dsimp only [List.set] at hs
   refine ⟨fun _=>trivial,?_⟩
   refine fj j22 s21 (xs fun _ s23=>?_)
   refine rg [] (fun k=>True) 6 fun _ j24=>?_
   have hs:=hs.drawn1
   refine gq 0 29 (.pointer (some ⟨b1,26,none⟩)) (tgt 1 30 _ (yv hs 1 26 3 rfl (get_post 0 rfl rfl) .grow) (gq 2 31 (P0 b1) (tgt 3 32 _ (yv hs 1 0 3 rfl (get_pre rfl) .grow) ?_)))
   obtain ⟨r9,hg,h⟩:=ob h
   refine go 4 (oC 33 hs (ref08_Rate.ok hg _) fun w gw hs=>⟨.of gw,?_⟩)
   obtain ⟨hc,h⟩|⟨hc,h⟩:=of_if h
   refine gb 5 34 (et hc) ?_
   refine gf (j24 _ _ (T s23 (ct (xs fun _ s25=>(xn 5 fun _ j26=>(qo 0 35 (.pointer (some ⟨b1,1,none⟩)) (tkt 1 36 (ag .u64 r7) (yN hs 1 1 25 86 rfl (mid_of rfl) (enc_len _ _) .grow) ?_)))))))
   obtain ⟨r10,hg,h⟩:=ob h
   refine so 2 (oC 37 hs (ref08_Permute.ok hg _) fun w gw hs=>?_)
   refine qo 3 38 (.pointer (some ⟨b1,1,none⟩)) (so 4 (oM 86 (ag .u64 r10) 1 25 (enc .u64 r10) hs 1 rfl (enc_len _ _) (by simp [enc_len]) (enc_one _ _) (splice_row rfl) fun w kp hs=>(fj j26 s25 (xn 2 fun _ j27=>(qo 0 39 (.pointer (some ⟨b1,26,none⟩)) ?_)))))
   refine wpS.only 1 (oQ 3 (I8 0) 26 hs 1 rfl rfl (by simp [enc_len]) (set_post 0 rfl) ?_)
   intro w kp hs
   try dsimp only [List.set] at hs
   refine ⟨fun _=>trivial,?_⟩
   refine fin (j27 _ _ (iN ?_))
   obtain ⟨rfl,rfl,rfl,rfl⟩:=os4 h
   exact nj _ _ ⟨(hs.conv rfl),eg⟩
   refine gb 5 34 (ef hc) (gf (j24 _ _ (T s23 (cf (xk (iN ?_))))))
   obtain ⟨rfl,rfl,rfl,rfl⟩:=os4 h
   exact nj _ _ ⟨(hs.conv rfl),eg⟩
   clear hj hs
   rintro a w ⟨hs,g16,rfl⟩
   refine T s17 (xn 3 fun _ j28=>(nq 0 [(13,I8 z3),(14,I8 (iadd .i64 z3 1))] ?_))
   obtain ⟨x11,hx,h⟩:=ob h
   refine tkf 2 5 (I8 x11) (yn hx) (fin (j28 _ _ ?_))
   exact tn (kl0 _ _ ⟨n,ls n,x11,y6_0,y6_1,y6_2,y6_3,h,(hs.conv rfl),eg⟩)
   refine tb 3 12 (df hc) (fj j15 s14 (cf (xexit (tx (tx (iH ?_))))))
   obtain ⟨rfl,rfl,rfl,rfl⟩:=os4 h
   exact exq_n (nn0 _ _ ⟨(hs.conv rfl),eg⟩)
  clear hs h hy
  rintro a w ⟨hs,g12,rfl⟩
  have h:=hk0
  refine T s8 (xs fun _ s29=>(xn 2 fun _ j30=>(tkt 0 40 _ (yWs 28 88 hs 1 .grow) (so 1 (oW 28 88 (.agg (vl [I8 y5_0]++enc .u64 y5_1++vl [I8 y5_2,.bool y5_3]).toArray) (vl [I8 y5_0]++enc .u64 y5_1++vl [I8 y5_2,.bool y5_3]) hs 0 rfl (by simp [enc_len]) (by simp [enc_len]) (one_app (one_app (by simp [Value.oneCell']) (fun u hu=>enc_one _ _ u hu)) (by simp [Value.oneCell'])) fun w kp hs=>(fj j30 s29 (xret ?_)))))))
  obtain ⟨rfl,rfl,rfl,rfl⟩:=os4 h
  exact qq _ _ (pr (rr [.cell 4 88] [.agg (vl [I8 y5_0]++enc .u64 y5_1++vl [I8 y5_2,.bool y5_3]).toArray] (.cons (rcN 28 hs 0 rfl (by simp [enc_len])) .nil)) ⟨cr,hs.none⟩)
theorem ref08_Sum.ok {K:Nat}{a0:Int}{a1:List Int}{a2:Int}{r0:List Int}{r1:Int}{a1_A:Option Addr}{a1_n a1_c:Nat}(h:ref08_Sum.f K a0 a1 a2=some (r0,r1)) (w0:World) (hp1:RowL CB w0 a1_A a1_n a1_c a1):Calls Tryz.prog 26 #[I8 a0,.slice a1_A a1_n a1_c,I8 a2] w0 fun e w'=>∃ h:(Option Addr × Nat × Nat),e = .returned (.tuple #[.slice h.1 h.2.1 h.2.2,I8 r1])∧St w0 [] [.ownL CB h.1 h.2.1 h.2.2 r0 5] [] w':=by
 refine calls_k Tryz.func26 rfl fun Q qq=>?_
 have hs:=St.startR (all_cons (RowP.ent hp1) all_nil)
 refine wc (a':=(fu 32 [I8 a0,.slice a1_A a1_n a1_c,I8 a2])) (xs fun _ s1=>(xn 2 fun _ j2=>(nq 0 [(6,.slice none 0 0),(7,I8 0)] (fj j2 s1 (xs fun _ s3=>(xn 8 fun _ j4=>?_))))))
 refine qo 0 13 (I8 a0) ?_
 obtain ⟨⟨r1_0,r1_1,r1_2,r1_3,r2⟩,hg,h⟩:=ob h
 refine so 1 (oC 14 hs (ref08_New.ok hg _) fun w gw hs=>?_)
 refine nq 2 [(12,.tuple #[.agg (vl [I8 r1_0]++enc .u64 r1_1++vl [I8 r1_2,.bool r1_3]).toArray,I8 r2]),(15,.agg (vl [I8 r1_0]++enc .u64 r1_1++vl [I8 r1_2,.bool r1_3]).toArray),(16,I8 r2)] (so 5 (oN 8 88 hs (vl [I8 0]++enc .u64 (zeroA 25)++vl [I8 0,.bool false]) (.agg (vl [I8 0]++enc .u64 (zeroA 25)++vl [I8 0,.bool false]).toArray) fun b3 w gw hs=>(so 6 (oW 28 88 (.agg (vl [I8 r1_0]++enc .u64 r1_1++vl [I8 r1_2,.bool r1_3]).toArray) (vl [I8 r1_0]++enc .u64 r1_1++vl [I8 r1_2,.bool r1_3]) hs 0 rfl (by simp [enc_len]) (by simp [enc_len]) (one_app (one_app (by simp [Value.oneCell']) (fun u hu=>enc_one _ _ u hu)) (by simp [Value.oneCell'])) fun w kp hs=>(qo 7 9 (I8 r2) (fj j4 s3 (xs fun _ s5=>(xs fun _ s6=>(xn 2 fun _ j7=>?_)))))))))
 refine qo 0 17 (I8 r2) ?_
 obtain ⟨hc,h⟩|⟨hc,h⟩:=of_if h
 refine tb 1 18 (nf hc) ?_
 refine fj j7 s6 (cf (xk (T s5 (xs fun _ s8=>(xs fun _ s9=>(xn 6 fun _ j10=>(qo 0 20 (I8 a2) ?_)))))))
 obtain ⟨hc,h⟩|⟨hc,h⟩:=of_if h
 refine tb 1 21 (dt hc) ?_
 refine nq 2 [(22,.bool true),(23,undef),(24,undef),(25,.bool true)] (fj j10 s9 (ct (xs fun _ s11=>(xn 2 fun _ j12=>(nq 0 [(6,.slice none 0 0),(7,I8 8)] (fj j12 s11 (xret (tr ?_))))))))
 obtain ⟨rfl,rfl⟩:=os2 h
 have hs:=hs.addNilL CB 5
 exact qq _ _ (pt [6,7] [.slice none 0 0,I8 8] ⟨⟨none,0,0⟩,cr,(pz (dr [1,0] hs))⟩)
 refine tb 1 21 (df hc) (nq 2 [(22,.bool false),(23,I8 a2)] ?_)
 obtain ⟨hc,h⟩|⟨hc,h⟩:=of_if h
 refine tb 4 24 (dt hc) ?_
 refine qo 5 25 (.bool true) (fj j10 s9 (ct (xs fun _ s13=>(xn 2 fun _ j14=>(nq 0 [(6,.slice none 0 0),(7,I8 8)] (fj j14 s13 (xret (tr ?_))))))))
 obtain ⟨rfl,rfl⟩:=os2 h
 have hs:=hs.addNilL CB 5
 exact qq _ _ (pt [6,7] [.slice none 0 0,I8 8] ⟨⟨none,0,0⟩,cr,(pz (dr [1,0] hs))⟩)
 refine tb 4 24 (df hc) (qo 5 25 (.bool false) (fj j10 s9 (cf (xk (T s8 (xs fun _ s15=>(xn 11 fun _ j16=>(tkt 0 27 _ (yWs 28 88 hs 0 .grow) (qo 1 28 (.slice a1_A a1_n a1_c) ?_)))))))))
 obtain ⟨⟨r4_0,r4_1,r4_2,r4_3⟩,hg,h⟩:=ob h
 refine so 2 (oC 29 hs (ref08_Absorb.ok hg _ (rR 0 hs)) fun w gw hs=>?_)
 refine qo 3 30 (I8 a2) ?_
 obtain ⟨⟨r5_0,r5_1,r5_2,r5_3,r6⟩,hg,h⟩:=ob h
 refine wpS.only 4 (oH 31 hs (ref08_Squeeze.ok hg _) ?_)
 rintro ⟨r6_A,r6_n,r6_c⟩ w gw hs
 have hs:=hs.conv (L':=[.ownL CB r6_A r6_n r6_c r6 5,.blk b3 (vl [I8 r1_0]++enc .u64 r1_1++vl [I8 r1_2,.bool r1_3]) 88]) rfl
 refine ⟨fun _=>trivial,?_⟩
 refine nq 5 [(26,.tuple #[.agg (vl [I8 r5_0]++enc .u64 r5_1++vl [I8 r5_2,.bool r5_3]).toArray,.slice r6_A r6_n r6_c]),(32,.agg (vl [I8 r5_0]++enc .u64 r5_1++vl [I8 r5_2,.bool r5_3]).toArray),(33,.slice r6_A r6_n r6_c)] (so 8 (oN 10 88 hs (vl [I8 0]++enc .u64 (zeroA 25)++vl [I8 0,.bool false]) (.agg (vl [I8 0]++enc .u64 (zeroA 25)++vl [I8 0,.bool false]).toArray) fun b7 w gw hs=>(so 9 (oW 28 88 (.agg (vl [I8 r5_0]++enc .u64 r5_1++vl [I8 r5_2,.bool r5_3]).toArray) (vl [I8 r5_0]++enc .u64 r5_1++vl [I8 r5_2,.bool r5_3]) hs 0 rfl (by simp [enc_len]) (by simp [enc_len]) (one_app (one_app (by simp [Value.oneCell']) (fun u hu=>enc_one _ _ u hu)) (by simp [Value.oneCell'])) fun w kp hs=>(qo 10 11 (.slice r6_A r6_n r6_c) (fj j16 s15 (xs fun _ s17=>(xn 3 fun _ j18=>?_))))))))
 refine nq 0 [(34,.slice r6_A r6_n r6_c),(6,.slice r6_A r6_n r6_c),(7,I8 0)] (fj j18 s17 (xret ?_))
 obtain ⟨rfl,rfl⟩:=os2 h
 exact qq _ _ (pt [6,7] [.slice r6_A r6_n r6_c,I8 0] ⟨⟨r6_A,r6_n,r6_c⟩,cr,(pz (dr [0,1,0] hs))⟩)
 refine tb 1 18 (nt hc) (fj j7 s6 (ct (xs fun _ s19=>(xn 3 fun _ j20=>(nq 0 [(19,I8 r2),(6,.slice none 0 0),(7,I8 r2)] (fj j20 s19 (xret (tr ?_))))))))
 obtain ⟨rfl,rfl⟩:=os2 h
 have hs:=hs.addNilL CB 5
 exact qq _ _ (pt [6,7] [.slice none 0 0,I8 r2] ⟨⟨none,0,0⟩,cr,(pz (dr [1,0] hs))⟩)
theorem ref27_h.ok {K:Nat}{a0 r0:List Int}{a0_A:Option Addr}{a0_n a0_c:Nat}(h:ref27_h.f K a0=some r0) (w0:World) (hp0:RowL CB w0 a0_A a0_n a0_c a0):Calls Tryz.prog 23 #[.slice a0_A a0_n a0_c] w0 fun e w'=>∃ h:(Option Addr × Nat × Nat),e = .returned (.slice h.1 h.2.1 h.2.2)∧St w0 [] [.ownL CB h.1 h.2.1 h.2.2 r0 5] [] w':=by
 refine calls_k Tryz.func23 rfl fun Q qq=>?_
 have hs:=St.startR (all_cons (RowP.ent hp0) all_nil)
 refine wc (a':=(fu 10 [.slice a0_A a0_n a0_c])) (xs fun _ s1=>(xn 1 fun _ j2=>(qo 0 2 (.slice none 0 0) (fj j2 s1 (xs fun _ s3=>(xn 7 fun _ j4=>?_))))))
 refine qo 0 6 (.slice a0_A a0_n a0_c) ?_
 obtain ⟨⟨r1,r2⟩,hg,h⟩:=ob h
 refine wpS.only 1 (oH 7 hs (ref08_Sum.ok hg _ (rR 0 hs)) ?_)
 rintro ⟨r1_A,r1_n,r1_c⟩ w gw hs
 have hs:=hs.conv (L':=[.ownL CB r1_A r1_n r1_c r1 5]) rfl
 refine ⟨fun _=>trivial,?_⟩
 refine nq 2 [(5,.tuple #[.slice r1_A r1_n r1_c,I8 r2]),(8,.slice r1_A r1_n r1_c),(9,I8 r2),(3,.slice r1_A r1_n r1_c),(4,I8 r2)] (fj j4 s3 (xs fun _ s5=>(xn 2 fun _ j6=>(nq 0 [(10,.slice r1_A r1_n r1_c),(2,.slice r1_A r1_n r1_c)] (fj j6 s5 (xret ?_))))))
 obtain rfl:=of_some h
 exact qq _ _ (pt [2] [.slice r1_A r1_n r1_c] ⟨⟨r1_A,r1_n,r1_c⟩,cr,(pz hs)⟩)
theorem ref01_Join.ok {K:Nat}{a0:List (List Int)}{r0:List Int}{a0_A:Option Addr}{a0_n a0_c:Nat}{a0_H:List HS}(h:ref01_Join.f K a0=some r0) (w0:World) (hp0:LLP CB w0 a0_A a0_n a0_c a0_H a0):Calls Tryz.prog 27 #[.slice a0_A a0_n a0_c] w0 fun e w'=>∃ h:(Option Addr × Nat × Nat),e = .returned (.slice h.1 h.2.1 h.2.2)∧St w0 [] [.ownL CB h.1 h.2.1 h.2.2 r0 5] [] w':=by
 refine calls_k Tryz.func27 rfl fun Q qq=>?_
 have hs:=St.startR (all_cons (LLP.ent hp0) all_nil)
 refine wc (a':=(fu 17 [.slice a0_A a0_n a0_c])) (xs fun _ s1=>(xn 1 fun _ j2=>(qo 0 2 (.slice none 0 0) (fj j2 s1 (xs fun _ s3=>(xn 1 fun _ j4=>?_))))))
 refine qo 0 3 (.slice none 0 0) (fj j4 s3 (xs fun _ s5=>(xs fun _ s6=>(xn 1 fun _ j7=>(qo 0 4 (I8 0) (fj j7 s6 (?_)))))))
 have hs:=hs.addNilL CB 5
 obtain ⟨y3,hy,hk0⟩:=ob h
 refine wp_exq (N:=fun a w=>∃ y3_A y3_n y3_c,St w0 [] [.ownL CB y3_A y3_n y3_c y3 5] [.rowLL CB a0_A a0_n a0_c a0_H a0] w∧∃ g9,a=fr g9 18 [(2,[.slice none 0 0,.slice y3_A y3_n y3_c])]) (fun N0 nn0=>?_) ?_
 clear hk0
 refine xb ?_
 refine wp_loop_k (fun n a w=>∃ z1 z2,∃ z2_A z2_n z2_c,ref01_Join.l0 K n a0 z1 z2=some y3∧St w0 [] [.ownL CB z2_A z2_n z2_c z2 5] [.rowLL CB a0_A a0_n a0_c a0_H a0] w∧∃ g8,a=fr g8 18 [(0,[.slice a0_A a0_n a0_c]),(2,[.slice none 0 0,.slice z2_A z2_n z2_c,I8 z1])]) K ⟨0,([]:List Int),none,0,0,hy,hs.conv rfl,eg⟩ ?_
 clear hs h hy
 rintro n a w ⟨z1,z2,z2_A,z2_n,z2_c,h,hs,g8,rfl⟩ KL0 kl0
 cases n with
 | zero=>exact nomatch (show none=some _ from h)
 | succ n=>
  refine xs fun _ s10=>(xs fun _ s11=>(xn 4 fun _ j12=>(nq 0 [(5,I8 z1),(6,.slice a0_A a0_n a0_c)] (tkf 2 7 (I8 (a0.length:Int)) (ylLL (hs.rowLL 0 rfl)) ?_))))
  obtain ⟨hc,h⟩|⟨hc,h⟩:=of_if h
  refine tb 3 8 (dt hc) ?_
  refine fj j12 s11 (ct (xk (T s10 (xs fun _ s13=>(xb (xn 7 fun _ j14=>(nq 0 [(11,.slice z2_A z2_n z2_c),(12,.slice a0_A a0_n a0_c),(13,I8 z1)] ?_)))))))
  obtain ⟨h0,h1,h⟩:=oc2 h
  have i0_15:=h0
  have i1_15:=h1
  refine tkf 3 14 (PA CS a0_A z1) (yiLL (C:=CB) 57 24 .i64 z1 (hs.rowLL 0 rfl) h0 h1) ?_
  obtain ⟨s4_A,hA⟩ : ∃ A,A=(rdL CS a0_H z1).1:=⟨_,rfl⟩
  obtain ⟨s4_n,hn⟩ : ∃ n,n=(rdL CS a0_H z1).2.1:=⟨_,rfl⟩
  obtain ⟨s4_c,hc⟩ : ∃ c,c=(rdL CS a0_H z1).2.2:=⟨_,rfl⟩
  refine tkt 4 15 (.slice s4_A s4_n s4_c) (by subst hA hn hc; exact yLL (C:=CB) 24 z1 (hs.rowLL 0 rfl) i0_15 i1_15) ?_
  have hs:=hs.addInn (C:=CB) 0 rfl i0_15 i1_15 hA hn hc
  obtain ⟨h0,h⟩:=oc h
  refine so 5 (oAp (C:=CB) 16 24 24 5 1 140737488355328 hs 0 rfl (rR 0 hs) h0 (by decide) (by decide) fun s5_A s5_n s5_c w hs=>?_)
  refine qo 6 3 (.slice s5_A s5_n s5_c) (fin (j14 _ _ (iN (T s13 (xn 3 fun _ j16=>(nq 0 [(9,I8 z1),(10,I8 (iadd .i64 z1 1))] ?_))))))
  obtain ⟨x6,hx,h⟩:=ob h
  refine tkf 2 4 (I8 x6) (yn hx) (fin (j16 _ _ ?_))
  exact tn (kl0 _ _ ⟨n,ls n,x6,(z2++(rdLL a0 z1)),s5_A,s5_n,s5_c,h,(pk [1] hs),eg⟩)
  refine tb 3 8 (df hc) (fj j12 s11 (cf (xexit (tx (tx (iH ?_))))))
  obtain rfl:=of_some h
  exact exq_n (nn0 _ _ ⟨z2_A,z2_n,z2_c,(hs.conv rfl),eg⟩)
 clear hs h hy
 rintro a w ⟨y3_A,y3_n,y3_c,hs,g9,rfl⟩
 have h:=hk0
 refine T s5 (xs fun _ s17=>(xn 2 fun _ j18=>(nq 0 [(17,.slice y3_A y3_n y3_c),(2,.slice y3_A y3_n y3_c)] (fj j18 s17 (xret ?_)))))
 obtain rfl:=of_some h
 exact qq _ _ (pt [2] [.slice y3_A y3_n y3_c] ⟨⟨y3_A,y3_n,y3_c⟩,cr,(pz hs)⟩)
theorem ref25_Add.ok {K:Nat}{a0 a1 r0:Arr 256}(h:ref25_Add.f K a0 a1=some r0) (w0:World):Ret Tryz.prog 53 #[ag .i32 a0,ag .i32 a1] w0 (ag .i32 r0):=by
 refine calls_k Tryz.func53 rfl fun Q qq=>?_
 have hs:=St.start w0
 refine wc (a':=(fu 19 [ag .i32 a0,ag .i32 a1])) (xs fun _ s1=>(xn 3 fun _ j2=>(so 0 (oBe 2 70 .i32 a0 hs fun b1 w gw hs=>(so 1 (oBe 3 70 .i32 a1 hs fun b2 w gw hs=>?_))))))
 refine so 2 (oNe 4 70 .i32 (zeroA 256) hs fun b3 w gw hs=>?_)
 refine fj j2 s1 (xs fun _ s3=>(xs fun _ s4=>(xn 1 fun _ j5=>(qo 0 5 (I8 0) (fj j5 s4 (?_))))))
 obtain ⟨y6,hy,hk0⟩:=ob h
 refine wp_exq (N:=fun a w=>St w0 [] [.blk b3 (enc .i32 (zeroA 256)) 70,.blk b2 (enc .i32 a1) 70,.blk b1 (enc .i32 y6) 70] [] w∧∃ g7,a=fr g7 21 [(2,[P0 b1]),(4,[P0 b3])]) (fun N0 nn0=>?_) ?_
 clear hk0
 refine xb ?_
 refine wp_loop_k (fun n a w=>∃ z4 z5,ref25_Add.l0 K n a1 z4 z5=some y6∧St w0 [] [.blk b3 (enc .i32 (zeroA 256)) 70,.blk b2 (enc .i32 a1) 70,.blk b1 (enc .i32 z5) 70] [] w∧∃ g6,a=fr g6 21 [(2,[P0 b1,P0 b2,P0 b3,I8 z4])]) K ⟨0,a0,hy,hs.conv rfl,eg⟩ ?_
 clear hs h hy
 rintro n a w ⟨z4,z5,h,hs,g6,rfl⟩ KL0 kl0
 cases n with
 | zero=>exact nomatch (show none=some _ from h)
 | succ n=>
  refine xs fun _ s8=>(xs fun _ s9=>(xn 2 fun _ j10=>(qo 0 6 (I8 z4) ?_)))
  obtain ⟨hc,h⟩|⟨hc,h⟩:=of_if h
  refine tb 1 7 (dt hc) ?_
  refine fj j10 s9 (ct (xk (T s8 (xs fun _ s11=>(xb ?_)))))
  refine rg [10] (fun k=>True) 11 fun _ j12=>?_
  have hs:=hs.drawn1
  refine gq 0 10 (I8 z4) (gq 1 11 (I8 z4) ?_)
  obtain ⟨i0_13,i1_13,h⟩:=oc2 h
  refine tgf 2 12 (P1 b1 z4) (yi 70 21 256 1 .i64 z4 i0_13 i1_13) (tgt 3 13 _ (yA hs 2 21 z4 rfl i0_13 i1_13 .grow) (gq 4 14 (I8 z4) ?_))
  obtain ⟨i0_14,i1_14,h⟩:=oc2 h
  refine tgf 5 15 (P1 b2 z4) (yi 70 21 256 1 .i64 z4 i0_14 i1_14) (tgt 6 16 _ (yA hs 1 21 z4 rfl i0_14 i1_14 .grow) (gq 7 17 (I4 (iadd .i32 (rd z5 z4) (rd a1 z4))) (gq 8 18 (I4 (irem .i32 (iadd .i32 (rd z5 z4) (rd a1 z4)) 3329)) ?_)))
  obtain ⟨i0_15,i1_15,h⟩:=oc2 h
  refine tgf 9 19 (P1 b1 z4) (yi 70 21 256 1 .i64 z4 i0_15 i1_15) ?_
  obtain ⟨x7,hx,h⟩:=ob h
  refine go 10 (oA 21 x7 z4 hs 2 rfl (by cases hx; kernel_rfl) i0_15 i1_15 fun w kp hs=>⟨⟨fun hf=>absurd hf (by decide),.all _ _⟩,?_⟩)
  refine gf (j12 _ _ ?_)
  refine iN (T s11 (xn 3 fun _ j16=>?_))
  refine nq 0 [(8,I8 z4),(9,I8 (iadd .i64 z4 1))] ?_
  obtain ⟨x8,hx,h⟩:=ob h
  refine tkf 2 5 (I8 x8) (yn hx) (fin (j16 _ _ ?_))
  exact tn (kl0 _ _ ⟨n,ls n,x8,(wr z5 z4 x7),h,(hs.conv rfl),eg⟩)
  refine tb 1 7 (df hc) (fj j10 s9 (cf (xexit (tx (tx (iH ?_))))))
  obtain rfl:=of_some h
  exact exq_n (nn0 _ _ ⟨(hs.conv rfl),eg⟩)
 clear hs h hy
 rintro a w ⟨hs,g7,rfl⟩
 have h:=hk0
 refine T s3 (xs fun _ s17=>(xn 2 fun _ j18=>(tkt 0 20 _ (yWe 70 hs 2 .grow) (so 1 (oWe 70 .i32 y6 hs 0 fun w kp hs=>(fj j18 s17 (xret ?_)))))))
 obtain rfl:=of_some h
 exact qq _ _ (pr (rr [.cell 4 70] [ag .i32 y6] (.cons (rcN 256 hs 0 rfl (enc_len _ _)) .nil)) ⟨cr,hs.none⟩)
theorem ref25_powers.ok {K:Nat}{r0:Arr 256}(h:ref25_powers.f K=some r0) (w0:World):Ret Tryz.prog 79 #[] w0 (ag .i32 r0):=by
 refine calls_k Tryz.func79 rfl fun Q qq=>?_
 have hs:=St.start w0
 refine wc (a':=(fu 17 [])) (xs fun _ s1=>(xn 1 fun _ j2=>(so 0 (oNe 0 69 .i32 (zeroA 256) hs fun b1 w gw hs=>(fj j2 s1 (xs fun _ s3=>(xn 1 fun _ j4=>?_)))))))
 refine so 0 (oNe 1 69 .i32 (zeroA 256) hs fun b2 w gw hs=>?_)
 refine fj j4 s3 (xs fun _ s5=>(xn 2 fun _ j6=>(tkf 0 3 (P1 b2 0) (yi 69 21 256 1 .i64 0 (by decide) (by decide)) (so 1 (oA 21 1 0 hs 0 rfl (by kernel_rfl) (by decide) (by decide) fun w kp hs=>(fj j6 s5 (xs fun _ s8=>(xs fun _ s9=>(xn 1 fun _ j10=>(qo 0 2 (I8 1) ?_))))))))))
 refine fj j10 s9 (?_)
 obtain ⟨y5,hy,hk0⟩:=ob h
 refine wp_exq (N:=fun a w=>St w0 [] [.blk b2 (enc .i32 y5) 69,.blk b1 (enc .i32 (zeroA 256)) 69] [] w∧∃ g12,a=fr g12 17 [(0,[P0 b1,P0 b2])]) (fun N0 nn0=>?_) ?_
 clear hk0
 refine xb ?_
 refine wp_loop_k (fun n a w=>∃ z3 z4,ref25_powers.l0 K n z3 z4=some y5∧St w0 [] [.blk b2 (enc .i32 z4) 69,.blk b1 (enc .i32 (zeroA 256)) 69] [] w∧∃ g11,a=fr g11 17 [(0,[P0 b1,P0 b2,I8 z3])]) K ⟨1,(wr (zeroA 256) 0 1),hy,hs.conv rfl,eg⟩ ?_
 clear hs h hy
 rintro n a w ⟨z3,z4,h,hs,g11,rfl⟩ KL0 kl0
 cases n with
 | zero=>exact nomatch (show none=some _ from h)
 | succ n=>
  refine xs fun _ s13=>(xs fun _ s14=>(xn 2 fun _ j15=>(qo 0 4 (I8 z3) ?_)))
  obtain ⟨hc,h⟩|⟨hc,h⟩:=of_if h
  refine tb 1 5 (dt hc) ?_
  refine fj j15 s14 (ct (xk (T s13 (xs fun _ s16=>(xb (xn 9 fun _ j17=>(nq 0 [(8,I8 z3),(9,I8 z3),(10,I8 (isub .i64 z3 1))] ?_)))))))
  obtain ⟨x6,hx,h⟩:=ob h
  have hx:=of_some hx
  subst hx
  obtain ⟨i0_18,i1_18,h⟩:=oc2 h
  refine tkf 3 11 (P1 b2 (isub .i64 z3 1)) (yi 69 21 256 1 .i64 (isub .i64 z3 1) i0_18 i1_18) (tkt 4 12 _ (yA hs 0 21 (isub .i64 z3 1) rfl i0_18 i1_18 .grow) (nq 5 [(13,I4 (imul .i32 (rd z4 (isub .i64 z3 1)) 17)),(14,I4 (irem .i32 (imul .i32 (rd z4 (isub .i64 z3 1)) 17) 3329))] ?_))
  obtain ⟨i0_19,i1_19,h⟩:=oc2 h
  refine tkf 7 15 (P1 b2 z3) (yi 69 21 256 1 .i64 z3 i0_19 i1_19) ?_
  obtain ⟨x7,hx,h⟩:=ob h
  refine so 8 (oA 21 x7 z3 hs 0 rfl (by cases hx; kernel_rfl) i0_19 i1_19 fun w kp hs=>?_)
  refine fin (j17 _ _ (iN (T s16 (xn 3 fun _ j20=>(nq 0 [(6,I8 z3),(7,I8 (iadd .i64 z3 1))] ?_)))))
  obtain ⟨x8,hx,h⟩:=ob h
  refine tkf 2 2 (I8 x8) (yn hx) (fin (j20 _ _ ?_))
  exact tn (kl0 _ _ ⟨n,ls n,x8,(wr z4 z3 x7),h,(hs.conv rfl),eg⟩)
  refine tb 1 5 (df hc) (fj j15 s14 (cf (xexit (tx (tx (iH ?_))))))
  obtain rfl:=of_some h
  exact exq_n (nn0 _ _ ⟨(hs.conv rfl),eg⟩)
 clear hs h hy
 rintro a w ⟨hs,g12,rfl⟩
 have h:=hk0
 refine T s8 (xs fun _ s21=>(xn 2 fun _ j22=>(tkt 0 16 _ (yWe 69 hs 0 .grow) (so 1 (oWe 69 .i32 y5 hs 1 fun w kp hs=>(fj j22 s21 (xret ?_)))))))
 obtain rfl:=of_some h
 exact qq _ _ (pr (rr [.cell 0 69] [ag .i32 y5] (.cons (rcN 256 hs 1 rfl (enc_len _ _)) .nil)) ⟨cr,hs.none⟩)
theorem ref25_turned.ok {K:Nat}{a0 r0:Int}(h:ref25_turned.f K a0=some r0) (w0:World):Ret Tryz.prog 80 #[I8 a0] w0 (I8 r0):=by
 refine calls_k Tryz.func80 rfl fun Q qq=>?_
 have hs:=St.start w0
 refine wc (a':=(fu 16 [I8 a0])) (xs fun _ s1=>(xn 1 fun _ j2=>(qo 0 2 (I8 0) (fj j2 s1 (xs fun _ s3=>(xn 1 fun _ j4=>?_))))))
 refine qo 0 3 (I8 0) (fj j4 s3 (xs fun _ s5=>(xs fun _ s6=>(xn 1 fun _ j7=>(qo 0 4 (I8 0) (fj j7 s6 (?_)))))))
 obtain ⟨y3,hy,hk0⟩:=ob h
 refine wp_exq (N:=fun a w=>St w0 [] [] [] w∧∃ g9,a=fr g9 17 [(2,[I8 0,I8 y3])]) (fun N0 nn0=>?_) ?_
 clear hk0
 refine xb ?_
 refine wp_loop_k (fun n a w=>∃ z1 z2,ref25_turned.l0 K n a0 z1 z2=some y3∧St w0 [] [] [] w∧∃ g8,a=fr g8 17 [(0,[I8 a0]),(2,[I8 0,I8 z1,I8 z2])]) K ⟨0,0,hy,hs.conv rfl,eg⟩ ?_
 clear hs h hy
 rintro n a w ⟨z1,z2,h,hs,g8,rfl⟩ KL0 kl0
 cases n with
 | zero=>exact nomatch (show none=some _ from h)
 | succ n=>
  refine xs fun _ s10=>(xs fun _ s11=>(xn 2 fun _ j12=>(qo 0 5 (I8 z2) ?_)))
  obtain ⟨hc,h⟩|⟨hc,h⟩:=of_if h
  refine tb 1 6 (dt hc) ?_
  refine fj j12 s11 (ct (xk (T s10 (xs fun _ s13=>(xb (xn 8 fun _ j14=>(nq 0 [(9,I8 z1),(10,I8 (imul .i64 z1 2)),(11,I8 a0),(12,I8 z2)] ?_)))))))
  obtain ⟨h0,h⟩:=oc h
  refine tkf 4 13 (I8 (ishr .i64 a0 z2)) (ysr 3 .i64 h0) (nq 5 [(14,I8 (iand .i64 (ishr .i64 a0 z2) 1)),(15,I8 (iadd .i64 (imul .i64 z1 2) (iand .i64 (ishr .i64 a0 z2) 1)))] ?_)
  obtain ⟨x4,hx,h⟩:=ob h
  refine tkf 7 3 (I8 x4) (yn hx) (fin (j14 _ _ (iN (T s13 (xn 3 fun _ j15=>(nq 0 [(7,I8 z2),(8,I8 (iadd .i64 z2 1))] ?_))))))
  obtain ⟨x5,hx,h⟩:=ob h
  refine tkf 2 4 (I8 x5) (yn hx) (fin (j15 _ _ ?_))
  exact tn (kl0 _ _ ⟨n,ls n,x4,x5,h,(hs.conv rfl),eg⟩)
  refine tb 1 6 (df hc) (fj j12 s11 (cf (xexit (tx (tx (iH ?_))))))
  obtain rfl:=of_some h
  exact exq_n (nn0 _ _ ⟨(hs.conv rfl),eg⟩)
 clear hs h hy
 rintro a w ⟨hs,g9,rfl⟩
 have h:=hk0
 refine T s5 (xs fun _ s16=>(xn 2 fun _ j17=>(nq 0 [(16,I8 y3),(2,I8 y3)] (fj j17 s16 (xret ?_)))))
 obtain rfl:=of_some h
 exact qq _ _ (pt [2] [I8 y3] ⟨cr,hs.none⟩)
end Go.Proofs.YtemdbgmldljbpaaGreatDoor
