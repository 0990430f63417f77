/- own -/
import Derived.Test.YtemdbgmldljbpaaGreatDoorMh
import Derived.Test.YtemdbgmldljbpaaGreatDoorProg
import Derived.Test.YtemdbgmldljbpaaGreatDoorBF0
set_option linter.unusedVariables false
set_option linter.unusedSimpArgs false
set_option maxRecDepth 100000
set_option maxHeartbeats 4000000
namespace Go.Proofs.YtemdbgmldljbpaaGreatDoor
open Go.Mx
attribute [local irreducible] wpOp
theorem ref26_Set.ok {K:Nat}{a0 r0_0 r0_1 r0_2 r0_3 r0_4:Int}{r1:Bool}(h:ref26_Set.f K a0=some (r0_0,r0_1,r0_2,r0_3,r0_4,r1)) (w0:World):Ret Tryz.prog 17 #[I8 a0] w0 (.tuple #[.agg #[I8 r0_0,I8 r0_1,I8 r0_2,I8 r0_3,I8 r0_4],.bool r1]):=by
 refine calls_k Tryz.func17 rfl fun Q qq=>?_
 have hs:=St.start w0
 refine wc (a':=(fu 14 [I8 a0])) (xs fun _ s1=>(xn 2 fun _ j2=>(so 0 (oNa 2 23 hs [I8 0,I8 0,I8 0,I8 0,I8 0] fun b1 w gw hs=>(qo 1 3 (.bool false) ?_)))))
 refine fj j2 s1 (xs fun _ s3=>(xs fun _ s4=>(xn 1 fun _ j5=>(qo 0 4 (I8 a0) (fj j5 s4 (xb (xs fun _ s6=>(xn 2 fun _ j7=>?_))))))))
 obtain ⟨hc,h⟩|⟨hc,h⟩:=of_if h
 refine tb 0 6 (et hc) ?_
 refine qo 1 5 (.bool true) (fj j7 s6 (ct (xs fun _ s8=>(xn 3 fun _ j9=>(qo 0 7 (.agg #[I8 2,I8 3,I8 2,I8 10,I8 4]) (so 1 (oWa 23 [I8 2,I8 3,I8 2,I8 10,I8 4] hs 0 fun w kp hs=>(qo 2 3 (.bool true) ?_))))))))
 refine fj j9 s8 (xret (iR (tr ?_)))
 obtain ⟨rfl,rfl,rfl,rfl,rfl,rfl⟩:=os6 h
 exact qq _ _ (pr (rr [.cell 2 23,.tmp 3] [.agg #[I8 2,I8 3,I8 2,I8 10,I8 4],.bool true] (.cons (rcN 5 hs 0 rfl (by simp [enc_len])) (.cons rt .nil))) ⟨cr,hs.none⟩)
 refine tb 0 6 (ef hc) (qo 1 5 (.bool false) (fj j7 s6 (cf (xs fun _ s10=>(xn 2 fun _ j11=>?_)))))
 obtain ⟨hc,h⟩|⟨hc,h⟩:=of_if h
 refine tb 0 9 (et hc) ?_
 refine qo 1 8 (.bool true) (fj j11 s10 (ct (xs fun _ s12=>(xn 3 fun _ j13=>(qo 0 10 (.agg #[I8 3,I8 2,I8 2,I8 10,I8 4]) (so 1 (oWa 23 [I8 3,I8 2,I8 2,I8 10,I8 4] hs 0 fun w kp hs=>(qo 2 3 (.bool true) ?_))))))))
 refine fj j13 s12 (xret (iR (tr ?_)))
 obtain ⟨rfl,rfl,rfl,rfl,rfl,rfl⟩:=os6 h
 exact qq _ _ (pr (rr [.cell 2 23,.tmp 3] [.agg #[I8 3,I8 2,I8 2,I8 10,I8 4],.bool true] (.cons (rcN 5 hs 0 rfl (by simp [enc_len])) (.cons rt .nil))) ⟨cr,hs.none⟩)
 refine tb 0 9 (ef hc) (qo 1 8 (.bool false) (fj j11 s10 (cf (xs fun _ s14=>(xn 2 fun _ j15=>?_)))))
 obtain ⟨hc,h⟩|⟨hc,h⟩:=of_if h
 refine tb 0 12 (et hc) ?_
 refine qo 1 11 (.bool true) (fj j15 s14 (ct (xs fun _ s16=>(xn 3 fun _ j17=>(qo 0 13 (.agg #[I8 4,I8 2,I8 2,I8 11,I8 5]) (so 1 (oWa 23 [I8 4,I8 2,I8 2,I8 11,I8 5] hs 0 fun w kp hs=>(qo 2 3 (.bool true) ?_))))))))
 refine fj j17 s16 (xret (iR (tr ?_)))
 obtain ⟨rfl,rfl,rfl,rfl,rfl,rfl⟩:=os6 h
 exact qq _ _ (pr (rr [.cell 2 23,.tmp 3] [.agg #[I8 4,I8 2,I8 2,I8 11,I8 5],.bool true] (.cons (rcN 5 hs 0 rfl (by simp [enc_len])) (.cons rt .nil))) ⟨cr,hs.none⟩)
 refine tb 0 12 (ef hc) (qo 1 11 (.bool false) (fj j15 s14 (cf (xk (iN (T s3 (xs fun _ s18=>(xn 3 fun _ j19=>(qo 0 14 (.agg #[I8 0,I8 0,I8 0,I8 0,I8 0]) (so 1 (oWa 23 [I8 0,I8 0,I8 0,I8 0,I8 0] hs 0 fun w kp hs=>?_)))))))))))
 refine qo 2 3 (.bool false) (fj j19 s18 (xret ?_))
 obtain ⟨rfl,rfl,rfl,rfl,rfl,rfl⟩:=os6 h
 exact qq _ _ (pr (rr [.cell 2 23,.tmp 3] [.agg #[I8 0,I8 0,I8 0,I8 0,I8 0],.bool false] (.cons (rcN 5 hs 0 rfl (by simp [enc_len])) (.cons rt .nil))) ⟨cr,hs.none⟩)
theorem law27_kind.ok {K:Nat}{a0 a1_0 a1_1 a1_2 a1_3 a1_4 r0_0 r0_1 r0_2 r0_3 r0_4:Int}(h:law27_kind.f K a0 a1_0 a1_1 a1_2 a1_3 a1_4=some (r0_0,r0_1,r0_2,r0_3,r0_4)) (w0:World):Ret Tryz.prog 5 #[U1 a0,.agg #[I8 a1_0,I8 a1_1,I8 a1_2,I8 a1_3,I8 a1_4]] w0 (.agg #[I8 r0_0,I8 r0_1,I8 r0_2,I8 r0_3,I8 r0_4]):=by
 refine calls_k Tryz.func5 rfl fun Q qq=>?_
 have hs:=St.start w0
 refine wc (a':=(fu 18 [U1 a0,.agg #[I8 a1_0,I8 a1_1,I8 a1_2,I8 a1_3,I8 a1_4]])) (xs fun _ s1=>(xn 2 fun _ j2=>(so 0 (oBa 3 23 hs [I8 a1_0,I8 a1_1,I8 a1_2,I8 a1_3,I8 a1_4] fun b1 w gw hs=>(so 1 (oNa 4 23 hs [I8 0,I8 0,I8 0,I8 0,I8 0] fun b2 w gw hs=>?_))))))
 refine fj j2 s1 (xs fun _ s3=>(xn 12 fun _ j4=>(so 0 (oLt (C:=(CI .i64)) 8 44 3 4 (I8 0) #[(0,I8 512),(1,I8 768),(2,I8 1024),(3,I8 0)] [512,768,1024,0] hs rfl (by decide) (by decide) fun s3_A s3_n s3_c w gw hs=>(nq 1 [(9,U1 a0),(10,U1 (irem .u8 a0 4))] ?_)))))
 obtain ⟨x4,hx,h⟩:=ob h
 have hx:=of_some hx
 subst hx
 obtain ⟨h0,h1,h⟩:=oc2 h
 have i0_5:=h0
 have i1_5:=h1
 refine tkf 3 11 (PA (CI .i64) s3_A (irem .u8 a0 4)) (yiL (C:=(CI .i64)) 44 3 .u8 (irem .u8 a0 4) (rL 0 hs) h0 h1) (tkt 4 12 _ (yL (C:=(CI .i64)) 3 (irem .u8 a0 4) (rL 0 hs) rfl i0_5 i1_5) ?_)
 obtain ⟨⟨r5_0,r5_1,r5_2,r5_3,r5_4,r6⟩,hg,h⟩:=ob h
 refine so 5 (oC 13 hs (ref26_Set.ok hg _) fun w gw hs=>?_)
 refine nq 6 [(7,.tuple #[.agg #[I8 r5_0,I8 r5_1,I8 r5_2,I8 r5_3,I8 r5_4],.bool r6]),(14,.agg #[I8 r5_0,I8 r5_1,I8 r5_2,I8 r5_3,I8 r5_4])] ?_
 cases r6 with
 | true=>
  have h:=of_if_t h
  refine qo 8 15 (.bool true) (so 9 (oNa 5 23 hs [I8 0,I8 0,I8 0,I8 0,I8 0] fun b7 w gw hs=>(so 10 (oWa 23 [I8 r5_0,I8 r5_1,I8 r5_2,I8 r5_3,I8 r5_4] hs 0 fun w kp hs=>(qo 11 6 (.bool true) (fj j4 s3 (xs fun _ s6=>(xs fun _ s7=>(xn 2 fun _ j8=>?_)))))))))
  refine nq 0 [(16,.bool true),(17,.bool false)] (fj j8 s7 (cf (xk (T s6 (xs fun _ s9=>(xn 2 fun _ j10=>(tkt 0 19 _ (yWs 5 23 hs 0 .grow) (so 1 (oWa 23 [I8 r5_0,I8 r5_1,I8 r5_2,I8 r5_3,I8 r5_4] hs 2 fun w kp hs=>(fj j10 s9 (xret ?_)))))))))))
  obtain ⟨rfl,rfl,rfl,rfl,rfl⟩:=os5 h
  exact qq _ _ (pr (rr [.cell 4 23] [.agg #[I8 r5_0,I8 r5_1,I8 r5_2,I8 r5_3,I8 r5_4]] (.cons (rcN 5 hs 2 rfl (by simp [enc_len])) .nil)) ⟨cr,hs.none⟩)
 | false=>
  have h:=of_if_f h
  refine qo 8 15 (.bool false) (so 9 (oNa 5 23 hs [I8 0,I8 0,I8 0,I8 0,I8 0] fun b8 w gw hs=>(so 10 (oWa 23 [I8 r5_0,I8 r5_1,I8 r5_2,I8 r5_3,I8 r5_4] hs 0 fun w kp hs=>(qo 11 6 (.bool false) (fj j4 s3 (xs fun _ s11=>(xs fun _ s12=>(xn 2 fun _ j13=>?_)))))))))
  refine nq 0 [(16,.bool false),(17,.bool true)] (fj j13 s12 (ct (xs fun _ s14=>(xn 2 fun _ j15=>(tkt 0 18 _ (yWs 5 23 hs 3 .grow) (so 1 (oWa 23 [I8 a1_0,I8 a1_1,I8 a1_2,I8 a1_3,I8 a1_4] hs 2 fun w kp hs=>(fj j15 s14 (xret (tr ?_))))))))))
  obtain ⟨rfl,rfl,rfl,rfl,rfl⟩:=os5 h
  exact qq _ _ (pr (rr [.cell 4 23] [.agg #[I8 a1_0,I8 a1_1,I8 a1_2,I8 a1_3,I8 a1_4]] (.cons (rcN 5 hs 2 rfl (by simp [enc_len])) .nil)) ⟨cr,hs.none⟩)
theorem kpke_Set.ok {K:Nat}{a0 r0_0 r0_1 r0_2 r0_3 r0_4:Int}{r1:Bool}(h:kpke_Set.f K a0=some (r0_0,r0_1,r0_2,r0_3,r0_4,r1)) (w0:World):Ret Tryz.prog 90 #[I8 a0] w0 (.tuple #[.agg #[I8 r0_0,I8 r0_1,I8 r0_2,I8 r0_3,I8 r0_4],.bool r1]):=by
 refine calls_k Tryz.func90 rfl fun Q qq=>?_
 have hs:=St.start w0
 refine wc (a':=(fu 14 [I8 a0])) (xs fun _ s1=>(xn 2 fun _ j2=>(so 0 (oNa 2 23 hs [I8 0,I8 0,I8 0,I8 0,I8 0] fun b1 w gw hs=>(qo 1 3 (.bool false) ?_)))))
 refine fj j2 s1 (xs fun _ s3=>(xs fun _ s4=>(xn 1 fun _ j5=>(qo 0 4 (I8 a0) (fj j5 s4 (xb (xs fun _ s6=>(xn 2 fun _ j7=>?_))))))))
 obtain ⟨hc,h⟩|⟨hc,h⟩:=of_if h
 refine tb 0 6 (et hc) ?_
 refine qo 1 5 (.bool true) (fj j7 s6 (ct (xs fun _ s8=>(xn 3 fun _ j9=>(qo 0 7 (.agg #[I8 2,I8 3,I8 2,I8 10,I8 4]) (so 1 (oWa 23 [I8 2,I8 3,I8 2,I8 10,I8 4] hs 0 fun w kp hs=>(qo 2 3 (.bool true) ?_))))))))
 refine fj j9 s8 (xret (iR (tr ?_)))
 obtain ⟨rfl,rfl,rfl,rfl,rfl,rfl⟩:=os6 h
 exact qq _ _ (pr (rr [.cell 2 23,.tmp 3] [.agg #[I8 2,I8 3,I8 2,I8 10,I8 4],.bool true] (.cons (rcN 5 hs 0 rfl (by simp [enc_len])) (.cons rt .nil))) ⟨cr,hs.none⟩)
 refine tb 0 6 (ef hc) (qo 1 5 (.bool false) (fj j7 s6 (cf (xs fun _ s10=>(xn 2 fun _ j11=>?_)))))
 obtain ⟨hc,h⟩|⟨hc,h⟩:=of_if h
 refine tb 0 9 (et hc) ?_
 refine qo 1 8 (.bool true) (fj j11 s10 (ct (xs fun _ s12=>(xn 3 fun _ j13=>(qo 0 10 (.agg #[I8 3,I8 2,I8 2,I8 10,I8 4]) (so 1 (oWa 23 [I8 3,I8 2,I8 2,I8 10,I8 4] hs 0 fun w kp hs=>(qo 2 3 (.bool true) ?_))))))))
 refine fj j13 s12 (xret (iR (tr ?_)))
 obtain ⟨rfl,rfl,rfl,rfl,rfl,rfl⟩:=os6 h
 exact qq _ _ (pr (rr [.cell 2 23,.tmp 3] [.agg #[I8 3,I8 2,I8 2,I8 10,I8 4],.bool true] (.cons (rcN 5 hs 0 rfl (by simp [enc_len])) (.cons rt .nil))) ⟨cr,hs.none⟩)
 refine tb 0 9 (ef hc) (qo 1 8 (.bool false) (fj j11 s10 (cf (xs fun _ s14=>(xn 2 fun _ j15=>?_)))))
 obtain ⟨hc,h⟩|⟨hc,h⟩:=of_if h
 refine tb 0 12 (et hc) ?_
 refine qo 1 11 (.bool true) (fj j15 s14 (ct (xs fun _ s16=>(xn 3 fun _ j17=>(qo 0 13 (.agg #[I8 4,I8 2,I8 2,I8 11,I8 5]) (so 1 (oWa 23 [I8 4,I8 2,I8 2,I8 11,I8 5] hs 0 fun w kp hs=>(qo 2 3 (.bool true) ?_))))))))
 refine fj j17 s16 (xret (iR (tr ?_)))
 obtain ⟨rfl,rfl,rfl,rfl,rfl,rfl⟩:=os6 h
 exact qq _ _ (pr (rr [.cell 2 23,.tmp 3] [.agg #[I8 4,I8 2,I8 2,I8 11,I8 5],.bool true] (.cons (rcN 5 hs 0 rfl (by simp [enc_len])) (.cons rt .nil))) ⟨cr,hs.none⟩)
 refine tb 0 12 (ef hc) (qo 1 11 (.bool false) (fj j15 s14 (cf (xk (iN (T s3 (xs fun _ s18=>(xn 3 fun _ j19=>(qo 0 14 (.agg #[I8 0,I8 0,I8 0,I8 0,I8 0]) (so 1 (oWa 23 [I8 0,I8 0,I8 0,I8 0,I8 0] hs 0 fun w kp hs=>?_)))))))))))
 refine qo 2 3 (.bool false) (fj j19 s18 (xret ?_))
 obtain ⟨rfl,rfl,rfl,rfl,rfl,rfl⟩:=os6 h
 exact qq _ _ (pr (rr [.cell 2 23,.tmp 3] [.agg #[I8 0,I8 0,I8 0,I8 0,I8 0],.bool false] (.cons (rcN 5 hs 0 rfl (by simp [enc_len])) (.cons rt .nil))) ⟨cr,hs.none⟩)
theorem kpke_known.ok {K:Nat}{a0_0 a0_1 a0_2 a0_3 a0_4:Int}{r0:Bool}(h:kpke_known.f K a0_0 a0_1 a0_2 a0_3 a0_4=some r0) (w0:World):Ret Tryz.prog 59 #[.agg #[I8 a0_0,I8 a0_1,I8 a0_2,I8 a0_3,I8 a0_4]] w0 (.bool r0):=by
 refine calls_k Tryz.func59 rfl fun Q qq=>?_
 have hs:=St.start w0
 refine wc (a':=(fu 17 [.agg #[I8 a0_0,I8 a0_1,I8 a0_2,I8 a0_3,I8 a0_4]])) (xs fun _ s1=>(xn 2 fun _ j2=>(so 0 (oBa 1 23 hs [I8 a0_0,I8 a0_1,I8 a0_2,I8 a0_3,I8 a0_4] fun b1 w gw hs=>(qo 1 2 (.bool false) ?_)))))
 refine fj j2 s1 (xs fun _ s3=>(xn 10 fun _ j4=>(qo 0 6 (P0 b1) (tkt 1 7 _ (yv hs 0 0 3 rfl (by rfl) .grow) (qo 2 8 (I8 (imul .i64 256 a0_0)) ?_)))))
 obtain ⟨⟨r2_0,r2_1,r2_2,r2_3,r2_4,r3⟩,hg,h⟩:=ob h
 refine so 3 (oC 9 hs (kpke_Set.ok hg _) fun w gw hs=>?_)
 refine nq 4 [(5,.tuple #[.agg #[I8 r2_0,I8 r2_1,I8 r2_2,I8 r2_3,I8 r2_4],.bool r3]),(10,.agg #[I8 r2_0,I8 r2_1,I8 r2_2,I8 r2_3,I8 r2_4])] ?_
 cases r3 with
 | true=>
  have h:=of_if_t h
  refine qo 6 11 (.bool true) (so 7 (oNa 3 23 hs [I8 0,I8 0,I8 0,I8 0,I8 0] fun b4 w gw hs=>(so 8 (oWa 23 [I8 r2_0,I8 r2_1,I8 r2_2,I8 r2_3,I8 r2_4] hs 0 fun w kp hs=>(qo 9 4 (.bool true) (fj j4 s3 (xs fun _ s5=>(xn 7 fun _ j6=>?_))))))))
  refine nq 0 [(12,.bool true),(13,.bool true)] (tkt 2 14 _ (yWs 5 23 hs 0 .grow) (tkt 3 15 _ (yWs 5 23 hs 1 .grow) (tkf 4 16 (.bool ((r2_0 == a0_0) && ((r2_1 == a0_1) && ((r2_2 == a0_2) && ((r2_3 == a0_3) && ((r2_4 == a0_4) && true)))))) (yld_eqS (fs:=[Field.mk "K" 3 0 false "" "" 0,Field.mk "Eta1" 3 1 false "" "" 8,Field.mk "Eta2" 3 2 false "" "" 16,Field.mk "Du" 3 3 false "" "" 24,Field.mk "Dv" 3 4 false "" "" 32]) (xs:=[I8 r2_0,I8 r2_1,I8 r2_2,I8 r2_3,I8 r2_4]) (ys:=[I8 a0_0,I8 a0_1,I8 a0_2,I8 a0_3,I8 a0_4]) (t:=23) (.tmp 14) (.tmp 15) (by kernel_rfl) (by kernel_rfl) (by kernel_rfl) (by kernel_rfl) (.cons rfl (fun w=>Go.Mx.run_part1 (by kernel_rfl) rfl) (fun w=>Go.Mx.run_part1 (by kernel_rfl) rfl) (fun w=>Go.Mx.run_equalIn_int (by kernel_rfl)) (.cons rfl (fun w=>Go.Mx.run_part1 (by kernel_rfl) rfl) (fun w=>Go.Mx.run_part1 (by kernel_rfl) rfl) (fun w=>Go.Mx.run_equalIn_int (by kernel_rfl)) (.cons rfl (fun w=>Go.Mx.run_part1 (by kernel_rfl) rfl) (fun w=>Go.Mx.run_part1 (by kernel_rfl) rfl) (fun w=>Go.Mx.run_equalIn_int (by kernel_rfl)) (.cons rfl (fun w=>Go.Mx.run_part1 (by kernel_rfl) rfl) (fun w=>Go.Mx.run_part1 (by kernel_rfl) rfl) (fun w=>Go.Mx.run_equalIn_int (by kernel_rfl)) (.cons rfl (fun w=>Go.Mx.run_part1 (by kernel_rfl) rfl) (fun w=>Go.Mx.run_part1 (by kernel_rfl) rfl) (fun w=>Go.Mx.run_equalIn_int (by kernel_rfl)) .nil)))))) (nq 5 [(17,.bool ((r2_0 == a0_0) && ((r2_1 == a0_1) && ((r2_2 == a0_2) && ((r2_3 == a0_3) && ((r2_4 == a0_4) && true)))))),(2,.bool ((r2_0 == a0_0) && ((r2_1 == a0_1) && ((r2_2 == a0_2) && ((r2_3 == a0_3) && ((r2_4 == a0_4) && true))))))] ?_))))
  refine fj j6 s5 (xret ?_)
  obtain rfl:=of_some h
  exact qq _ _ (pt [2] [.bool ((r2_0 == a0_0) && ((r2_1 == a0_1) && ((r2_2 == a0_2) && ((r2_3 == a0_3) && ((r2_4 == a0_4) && true)))))] ⟨cr,hs.none⟩)
 | false=>
  have h:=of_if_f h
  refine qo 6 11 (.bool false) (so 7 (oNa 3 23 hs [I8 0,I8 0,I8 0,I8 0,I8 0] fun b5 w gw hs=>(so 8 (oWa 23 [I8 r2_0,I8 r2_1,I8 r2_2,I8 r2_3,I8 r2_4] hs 0 fun w kp hs=>(qo 9 4 (.bool false) (fj j4 s3 (xs fun _ s7=>(xn 7 fun _ j8=>?_))))))))
  refine nq 0 [(12,.bool false),(13,.bool false),(14,undef),(15,undef),(16,undef),(17,.bool false),(2,.bool false)] (fj j8 s7 (xret ?_))
  obtain rfl:=of_some h
  exact qq _ _ (pt [2] [.bool false] ⟨cr,hs.none⟩)
theorem kpke_Sizes.ok {K:Nat}{a0_0 a0_1 a0_2 a0_3 a0_4 r0 r1 r2:Int}(h:kpke_Sizes.f K a0_0 a0_1 a0_2 a0_3 a0_4=some (r0,r1,r2)) (w0:World):Ret Tryz.prog 28 #[.agg #[I8 a0_0,I8 a0_1,I8 a0_2,I8 a0_3,I8 a0_4]] w0 (.tuple #[I8 r0,I8 r1,I8 r2]):=by
 refine calls_k Tryz.func28 rfl fun Q qq=>?_
 have hs:=St.start w0
 refine wc (a':=(fu 29 [.agg #[I8 a0_0,I8 a0_1,I8 a0_2,I8 a0_3,I8 a0_4]])) (xs fun _ s1=>(xn 4 fun _ j2=>(so 0 (oBa 1 23 hs [I8 a0_0,I8 a0_1,I8 a0_2,I8 a0_3,I8 a0_4] fun b1 w gw hs=>(nq 1 [(2,I8 0),(3,I8 0),(4,I8 0)] ?_)))))
 refine fj j2 s1 (xs fun _ s3=>(xs fun _ s4=>(xn 3 fun _ j5=>(tkt 0 6 _ (yWs 5 23 hs 0 .grow) ?_))))
 obtain ⟨r2,hg,h⟩:=ob h
 cases r2 with
 | true=>
  have h:=of_if_t h
  refine so 1 (oC 7 hs (kpke_known.ok hg _) fun w gw hs=>?_)
  refine qo 2 8 (.bool false) (fj j5 s4 (cf (xk (T s3 (xs fun _ s6=>(xn 1 fun _ j7=>(qo 0 5 (I8 32) (fj j7 s6 (xs fun _ s8=>?_)))))))))
  refine rg [] (fun k=>True) 24 fun _ j9=>?_
  have hs:=hs.drawn1
  refine gq 0 9 (I8 32) (gq 1 10 (I8 384) (gq 2 11 (P0 b1) (tgt 3 12 _ (yv hs 0 0 3 rfl (by rfl) .grow) (gq 4 13 (I8 (imul .i64 384 a0_0)) ?_))))
  refine gq 5 14 (I8 (iadd .i64 (imul .i64 384 a0_0) 32)) (gq 6 15 (I8 32) (gq 7 16 (I8 384) (gq 8 17 (P0 b1) (tgt 9 18 _ (yv hs 0 0 3 rfl (by rfl) .grow) ?_))))
  refine gq 10 19 (I8 (imul .i64 384 a0_0)) (gq 11 20 (I8 32) (gq 12 21 (.pointer (some ⟨b1,3,none⟩)) (tgt 13 22 _ (yv hs 0 3 3 rfl (by rfl) .grow) (gq 14 23 (P0 b1) ?_))))
  refine tgt 15 24 _ (yv hs 0 0 3 rfl (by rfl) .grow) (gq 16 25 (I8 (imul .i64 a0_3 a0_0)) (gq 17 26 (.pointer (some ⟨b1,4,none⟩)) (tgt 18 27 _ (yv hs 0 4 3 rfl (by rfl) .grow) (gq 19 28 (I8 (iadd .i64 (imul .i64 a0_3 a0_0) a0_4)) ?_))))
  refine gq 20 29 (I8 (imul .i64 32 (iadd .i64 (imul .i64 a0_3 a0_0) a0_4))) ?_
  obtain ⟨x3,hx,h⟩:=ob h
  refine tgf 21 2 (I8 x3) (yn hx) ?_
  obtain ⟨x4,hx,h⟩:=ob h
  refine tgf 22 3 (I8 x4) (yn hx) ?_
  obtain ⟨x5,hx,h⟩:=ob h
  refine tgf 23 4 (I8 x5) (yn hx) (gf (j9 _ _ (T s8 (xret ?_))))
  obtain ⟨rfl,rfl,rfl⟩:=os3 h
  exact qq _ _ (pt [2,3,4] [I8 x3,I8 x4,I8 x5] ⟨cr,hs.none⟩)
 | false=>
  have h:=of_if_f h
  refine so 1 (oC 7 hs (kpke_known.ok hg _) fun w gw hs=>?_)
  refine qo 2 8 (.bool true) (fj j5 s4 (ct (xs fun _ s10=>(xn 3 fun _ j11=>(nq 0 [(2,I8 0),(3,I8 0),(4,I8 0)] (fj j11 s10 (xret (tr ?_))))))))
  obtain ⟨rfl,rfl,rfl⟩:=os3 h
  exact qq _ _ (pt [2,3,4] [I8 0,I8 0,I8 0] ⟨cr,hs.none⟩)
theorem kem_Sizes.ok {K:Nat}{a0_0 a0_1 a0_2 a0_3 a0_4 r0 r1 r2:Int}(h:kem_Sizes.f K a0_0 a0_1 a0_2 a0_3 a0_4=some (r0,r1,r2)) (w0:World):Ret Tryz.prog 11 #[.agg #[I8 a0_0,I8 a0_1,I8 a0_2,I8 a0_3,I8 a0_4]] w0 (.tuple #[I8 r0,I8 r1,I8 r2]):=by
 refine calls_k Tryz.func11 rfl fun Q qq=>?_
 have hs:=St.start w0
 refine wc (a':=(fu 21 [.agg #[I8 a0_0,I8 a0_1,I8 a0_2,I8 a0_3,I8 a0_4]])) (xs fun _ s1=>(xn 4 fun _ j2=>(so 0 (oBa 1 23 hs [I8 a0_0,I8 a0_1,I8 a0_2,I8 a0_3,I8 a0_4] fun b1 w gw hs=>(nq 1 [(2,I8 0),(3,I8 0),(4,I8 0)] ?_)))))
 refine fj j2 s1 (xs fun _ s3=>(xn 9 fun _ j4=>(tkt 0 9 _ (yWs 5 23 hs 0 .grow) ?_)))
 obtain ⟨⟨r2,r3,r4⟩,hg,h⟩:=ob h
 refine so 1 (oC 10 hs (kpke_Sizes.ok hg _) fun w gw hs=>?_)
 refine nq 2 [(8,.tuple #[I8 r2,I8 r3,I8 r4]),(11,I8 r2),(12,I8 r3),(13,I8 r4),(5,I8 r2),(6,I8 r3),(7,I8 r4)] (fj j4 s3 (xs fun _ s5=>(xs fun _ s6=>(xn 2 fun _ j7=>(qo 0 14 (I8 r2) ?_)))))
 obtain ⟨hc,h⟩|⟨hc,h⟩:=of_if h
 refine tb 1 15 (et hc) ?_
 refine fj j7 s6 (ct (xs fun _ s8=>(xn 3 fun _ j9=>(nq 0 [(2,I8 0),(3,I8 0),(4,I8 0)] (fj j9 s8 (xret (tr ?_)))))))
 obtain ⟨rfl,rfl,rfl⟩:=os3 h
 exact qq _ _ (pt [2,3,4] [I8 0,I8 0,I8 0] ⟨cr,hs.none⟩)
 refine tb 1 15 (ef hc) (fj j7 s6 (cf (xk (T s5 (xs fun _ s10=>(xn 9 fun _ j11=>(nq 0 [(16,I8 r2),(17,I8 r3),(18,I8 r2),(19,I8 (iadd .i64 r3 r2)),(20,I8 (iadd .i64 (iadd .i64 r3 r2) 64)),(21,I8 r4),(2,I8 r2)] ?_)))))))
 obtain ⟨x5,hx,h⟩:=ob h
 refine tkf 7 3 (I8 x5) (yn hx) (qo 8 4 (I8 r4) (fj j11 s10 (xret ?_)))
 obtain ⟨rfl,rfl,rfl⟩:=os3 h
 exact qq _ _ (pt [2,3,4] [I8 r2,I8 x5,I8 r4] ⟨cr,hs.none⟩)
theorem keccak_rate.ok {K:Nat}{a0 r0:Int}(h:keccak_rate.f K a0=some r0) (w0:World):Ret Tryz.prog 100 #[I8 a0] w0 (I8 r0):=by
 refine calls_k Tryz.func100 rfl fun Q qq=>?_
 have hs:=St.start w0
 refine wc (a':=(fu 10 [I8 a0])) (xs fun _ s1=>(xn 1 fun _ j2=>(qo 0 2 (I8 0) (fj j2 s1 (xs fun _ s3=>(xs fun _ s4=>(xn 1 fun _ j5=>?_)))))))
 refine qo 0 3 (I8 a0) (fj j5 s4 (xb (xs fun _ s6=>(xs fun _ s7=>(xn 2 fun _ j8=>?_)))))
 obtain ⟨hc,h⟩|⟨hc,h⟩:=of_if h
 refine tb 0 5 (et hc) ?_
 refine qo 1 4 (.bool true) (fj j8 s7 (ct (xk (T s6 (ct (xs fun _ s9=>(xn 1 fun _ j10=>(qo 0 2 (I8 136) (fj j10 s9 (xret (iR (tr ?_))))))))))))
 obtain rfl:=of_some h
 exact qq _ _ (pt [2] [I8 136] ⟨cr,hs.none⟩)
 refine tb 0 5 (ef hc) (qo 1 4 (.bool false) (fj j8 s7 (cf (xn 2 fun _ j11=>?_))))
 obtain ⟨hc,h⟩|⟨hc,h⟩:=of_if h
 refine tb 0 6 (et hc) ?_
 refine qo 1 4 (.bool true) (fj j11 s6 (ct (xs fun _ s12=>(xn 1 fun _ j13=>(qo 0 2 (I8 136) (fj j13 s12 (xret (iR (tr ?_)))))))))
 obtain rfl:=of_some h
 exact qq _ _ (pt [2] [I8 136] ⟨cr,hs.none⟩)
 refine tb 0 6 (ef hc) (qo 1 4 (.bool false) (fj j11 s6 (cf (xs fun _ s14=>(xn 2 fun _ j15=>?_)))))
 obtain ⟨hc,h⟩|⟨hc,h⟩:=of_if h
 refine tb 0 8 (et hc) ?_
 refine qo 1 7 (.bool true) (fj j15 s14 (ct (xs fun _ s16=>(xn 1 fun _ j17=>(qo 0 2 (I8 72) (fj j17 s16 (xret (iR (tr ?_)))))))))
 obtain rfl:=of_some h
 exact qq _ _ (pt [2] [I8 72] ⟨cr,hs.none⟩)
 refine tb 0 8 (ef hc) (qo 1 7 (.bool false) (fj j15 s14 (cf (xs fun _ s18=>(xn 2 fun _ j19=>?_)))))
 obtain ⟨hc,h⟩|⟨hc,h⟩:=of_if h
 refine tb 0 10 (et hc) ?_
 refine qo 1 9 (.bool true) (fj j19 s18 (ct (xs fun _ s20=>(xn 1 fun _ j21=>(qo 0 2 (I8 168) (fj j21 s20 (xret (iR (tr ?_)))))))))
 obtain rfl:=of_some h
 exact qq _ _ (pt [2] [I8 168] ⟨cr,hs.none⟩)
 refine tb 0 10 (ef hc) (qo 1 9 (.bool false) (fj j19 s18 (cf (xk (iN (T s3 (xs fun _ s22=>(xn 1 fun _ j23=>(qo 0 2 (I8 0) (fj j23 s22 (xret ?_)))))))))))
 obtain rfl:=of_some h
 exact qq _ _ (pt [2] [I8 0] ⟨cr,hs.none⟩)
theorem keccak_New.ok {K:Nat}{a0 r0_0:Int}{r0_1:Arr 25}{r0_2:Int}{r0_3:Bool}{r1:Int}(h:keccak_New.f K a0=some (r0_0,r0_1,r0_2,r0_3,r1)) (w0:World):Ret Tryz.prog 76 #[I8 a0] w0 (.tuple #[.agg (vl [I8 r0_0]++enc .u64 r0_1++vl [I8 r0_2,.bool r0_3]).toArray,I8 r1]):=by
 refine calls_k Tryz.func76 rfl fun Q qq=>?_
 have hs:=St.start w0
 refine wc (a':=(fu 9 [I8 a0])) (xs fun _ s1=>(xn 2 fun _ j2=>(so 0 (oN 2 88 hs (vl [I8 0]++enc .u64 (zeroA 25)++vl [I8 0,.bool false]) (.agg (vl [I8 0]++enc .u64 (zeroA 25)++vl [I8 0,.bool false]).toArray) fun b1 w gw hs=>(qo 1 3 (I8 0) ?_)))))
 refine fj j2 s1 (xs fun _ s3=>(xs fun _ s4=>(xn 3 fun _ j5=>(qo 0 4 (I8 a0) ?_))))
 obtain ⟨r2,hg,h⟩:=ob h
 refine so 1 (oC 5 hs (keccak_rate.ok hg _) fun w gw hs=>?_)
 obtain ⟨hc,h⟩|⟨hc,h⟩:=of_if h
 refine tb 2 6 (et hc) ?_
 refine fj j5 s4 (ct (xs fun _ s6=>(xn 3 fun _ j7=>(qo 0 7 (.agg (vl [I8 0]++enc .u64 (zeroA 25)++vl [I8 0,.bool false]).toArray) (so 1 (oW 28 88 (.agg (vl [I8 0]++enc .u64 (zeroA 25)++vl [I8 0,.bool false]).toArray) (vl [I8 0]++enc .u64 (zeroA 25)++vl [I8 0,.bool false]) hs 0 rfl (by simp [enc_len]) (by simp [enc_len]) (one_app (one_app (by simp [Value.oneCell']) (fun u hu=>enc_one _ _ u hu)) (by simp [Value.oneCell'])) fun w kp hs=>(qo 2 3 (I8 9) (fj j7 s6 (xret (tr ?_))))))))))
 obtain ⟨rfl,rfl,rfl,rfl,rfl⟩:=os5 h
 exact qq _ _ (pr (rr [.cell 2 88,.tmp 3] [.agg (vl [I8 0]++enc .u64 (zeroA 25)++vl [I8 0,.bool false]).toArray,I8 9] (.cons (rcN 28 hs 0 rfl (by simp [enc_len])) (.cons rt .nil))) ⟨cr,hs.none⟩)
 refine tb 2 6 (ef hc) (fj j5 s4 (cf (xk (T s3 (xs fun _ s8=>(xn 4 fun _ j9=>(nq 0 [(8,I8 a0),(9,.agg (vl [I8 a0]++enc .u64 (zeroA 25)++vl [I8 0,.bool false]).toArray)] (so 2 (oW 28 88 (.agg (vl [I8 a0]++enc .u64 (zeroA 25)++vl [I8 0,.bool false]).toArray) (vl [I8 a0]++enc .u64 (zeroA 25)++vl [I8 0,.bool false]) hs 0 rfl (by simp [enc_len]) (by simp [enc_len]) (one_app (one_app (by simp [Value.oneCell']) (fun u hu=>enc_one _ _ u hu)) (by simp [Value.oneCell'])) fun w kp hs=>(qo 3 3 (I8 0) ?_))))))))))
 refine fj j9 s8 (xret ?_)
 obtain ⟨rfl,rfl,rfl,rfl,rfl⟩:=os5 h
 exact qq _ _ (pr (rr [.cell 2 88,.tmp 3] [.agg (vl [I8 a0]++enc .u64 (zeroA 25)++vl [I8 0,.bool false]).toArray,I8 0] (.cons (rcN 28 hs 0 rfl (by simp [enc_len])) (.cons rt .nil))) ⟨cr,hs.none⟩)
theorem keccak_columns.ok {K:Nat}{a0:Arr 25}{r0:Arr 5}{p0:Nat}(h:keccak_columns.f K a0=some r0) (w0:World) (hb:w0.heap[p0]? = some (.cells (enc .u64 a0).toArray 86 (0,0))):Calls Tryz.prog 117 #[P0 p0] w0 fun e w'=>e = .returned (ag .u64 r0)∧St w0 [p0] [.blk p0 (enc .u64 a0) 86] [] w':=by
 refine calls_k Tryz.func117 rfl fun Q qq=>?_
 have hs:=St.startX hb allX_nil
 refine wc (a':=(fu 43 [P0 p0])) (xs fun _ s1=>(xn 1 fun _ j2=>(so 0 (oNe 2 144 .u64 (zeroA 5) hs fun b1 w gw hs=>(fj j2 s1 (xs fun _ s3=>(xs fun _ s4=>(xn 1 fun _ j5=>?_))))))))
 refine qo 0 4 (I8 0) (fj j5 s4 (?_))
 obtain ⟨y4,hy,hk0⟩:=ob h
 refine wp_exq (N:=fun a w=>St w0 [p0] [.blk b1 (enc .u64 y4) 144,.blk p0 (enc .u64 a0) 86] [] w∧∃ g7,a=fr g7 44 [(2,[P0 b1])]) (fun N0 nn0=>?_) ?_
 clear hk0
 refine xb ?_
 refine wp_loop_k (fun n a w=>∃ z2 z3,keccak_columns.l0 K n a0 z2 z3=some y4∧St w0 [p0] [.blk b1 (enc .u64 z3) 144,.blk p0 (enc .u64 a0) 86] [] w∧∃ g6,a=fr g6 44 [(0,[P0 p0]),(2,[P0 b1]),(4,[I8 z2])]) K ⟨0,(zeroA 5),hy,hs.conv rfl,eg⟩ ?_
 clear hs h hy
 rintro n a w ⟨z2,z3,h,hs,g6,rfl⟩ KL0 kl0
 cases n with
 | zero=>exact nomatch (show none=some _ from h)
 | succ n=>
  refine xs fun _ s8=>(xn 1 fun _ j9=>?_)
  obtain ⟨hc,h⟩|⟨hc,h⟩:=of_if h
  refine tb 0 5 (dt hc) ?_
  refine fj j9 s8 (xs fun _ s10=>(ct (xk (T s10 (xs fun _ s11=>(xb (xs fun _ s12=>(xn 2 fun _ j13=>(nq 0 [(6,I8 z2),(3,I8 z2)] (fj j13 s12 (?_)))))))))))
  refine rg [35] (fun k=>True) 36 fun _ j14=>?_
  have hs:=hs.drawn1
  refine gq 0 7 (I8 z2) (gq 1 8 (P0 p0) (gq 2 9 (I8 z2) (gq 3 10 (P0 p0) ?_)))
  obtain ⟨i0_15,i1_15,h⟩:=oc2 h
  refine tgf 4 11 (P1 p0 z2) (yi 86 85 25 1 .i64 z2 i0_15 i1_15) (tgt 5 12 _ (yA hs 1 85 z2 rfl i0_15 i1_15 .grow) (gq 6 13 (P0 p0) (gq 7 14 (I8 z2) (gq 8 15 (I8 (iadd .i64 z2 5)) ?_))))
  refine gq 9 16 (P0 p0) ?_
  obtain ⟨x5,hx,h⟩:=ob h
  have hx:=of_some hx
  subst hx
  obtain ⟨i0_16,i1_16,h⟩:=oc2 h
  refine tgf 10 17 (P1 p0 (iadd .i64 z2 5)) (yi 86 85 25 1 .i64 (iadd .i64 z2 5) i0_16 i1_16) (tgt 11 18 _ (yA hs 1 85 (iadd .i64 z2 5) rfl i0_16 i1_16 .grow) (gq 12 19 (U8 (ixor .u64 (rd a0 z2) (rd a0 (iadd .i64 z2 5)))) (gq 13 20 (P0 p0) (gq 14 21 (I8 z2) ?_))))
  refine gq 15 22 (I8 (iadd .i64 z2 10)) (gq 16 23 (P0 p0) ?_)
  obtain ⟨x6,hx,h⟩:=ob h
  have hx:=of_some hx
  subst hx
  obtain ⟨i0_17,i1_17,h⟩:=oc2 h
  refine tgf 17 24 (P1 p0 (iadd .i64 z2 10)) (yi 86 85 25 1 .i64 (iadd .i64 z2 10) i0_17 i1_17) (tgt 18 25 _ (yA hs 1 85 (iadd .i64 z2 10) rfl i0_17 i1_17 .grow) (gq 19 26 (U8 (ixor .u64 (ixor .u64 (rd a0 z2) (rd a0 (iadd .i64 z2 5))) (rd a0 (iadd .i64 z2 10)))) (gq 20 27 (P0 p0) (gq 21 28 (I8 z2) ?_))))
  refine gq 22 29 (I8 (iadd .i64 z2 15)) (gq 23 30 (P0 p0) ?_)
  obtain ⟨x7,hx,h⟩:=ob h
  have hx:=of_some hx
  subst hx
  obtain ⟨i0_18,i1_18,h⟩:=oc2 h
  refine tgf 24 31 (P1 p0 (iadd .i64 z2 15)) (yi 86 85 25 1 .i64 (iadd .i64 z2 15) i0_18 i1_18) (tgt 25 32 _ (yA hs 1 85 (iadd .i64 z2 15) rfl i0_18 i1_18 .grow) (gq 26 33 (U8 (ixor .u64 (ixor .u64 (ixor .u64 (rd a0 z2) (rd a0 (iadd .i64 z2 5))) (rd a0 (iadd .i64 z2 10))) (rd a0 (iadd .i64 z2 15)))) (gq 27 34 (P0 p0) (gq 28 35 (I8 z2) ?_))))
  refine gq 29 36 (I8 (iadd .i64 z2 20)) (gq 30 37 (P0 p0) ?_)
  obtain ⟨x8,hx,h⟩:=ob h
  have hx:=of_some hx
  subst hx
  obtain ⟨i0_19,i1_19,h⟩:=oc2 h
  refine tgf 31 38 (P1 p0 (iadd .i64 z2 20)) (yi 86 85 25 1 .i64 (iadd .i64 z2 20) i0_19 i1_19) (tgt 32 39 _ (yA hs 1 85 (iadd .i64 z2 20) rfl i0_19 i1_19 .grow) (gq 33 40 (U8 (ixor .u64 (ixor .u64 (ixor .u64 (ixor .u64 (rd a0 z2) (rd a0 (iadd .i64 z2 5))) (rd a0 (iadd .i64 z2 10))) (rd a0 (iadd .i64 z2 15))) (rd a0 (iadd .i64 z2 20)))) ?_))
  obtain ⟨i0_20,i1_20,h⟩:=oc2 h
  refine tgf 34 41 (P1 b1 z2) (yi 144 85 5 1 .i64 z2 i0_20 i1_20) ?_
  obtain ⟨x9,hx,h⟩:=ob h
  refine go 35 (oA 85 x9 z2 hs 0 rfl (by cases hx; kernel_rfl) i0_20 i1_20 fun w kp hs=>⟨⟨fun hf=>absurd hf (by decide),.all _ _⟩,?_⟩)
  refine gf (j14 _ _ ?_)
  refine iN (T s11 (xn 2 fun _ j21=>?_))
  refine nq 0 [(42,I8 (iadd .i64 z2 1)),(4,I8 (iadd .i64 z2 1))] (fin (j21 _ _ ?_))
  exact tn (kl0 _ _ ⟨n,ls n,(iadd .i64 z2 1),(wr z3 z2 x9),h,(hs.conv rfl),eg⟩)
  refine tb 0 5 (df hc) (fj j9 s8 (xs fun _ s22=>(cf (xexit (tx (tx (iH ?_)))))))
  obtain rfl:=of_some h
  exact exq_n (nn0 _ _ ⟨(hs.conv rfl),eg⟩)
 clear hs h hy
 rintro a w ⟨hs,g7,rfl⟩
 have h:=hk0
 refine T s3 (xs fun _ s23=>(xn 2 fun _ j24=>(tkt 0 43 _ (yWe 144 hs 0 .grow) (so 1 (oWe 144 .u64 y4 hs 0 fun w kp hs=>(fj j24 s23 (xret ?_)))))))
 obtain rfl:=of_some h
 exact qq _ _ (pr (rr [.cell 2 144] [ag .u64 y4] (.cons (rcN 5 hs 0 rfl (enc_len _ _)) .nil)) ⟨cr,(dr [0,1] hs)⟩)
theorem math_bits_RotateLeft64.ok {K:Nat}{a0 a1 r0:Int}(h:math_bits_RotateLeft64.f K a0 a1=some r0) (w0:World):Ret Tryz.prog 118 #[U8 a0,I8 a1] w0 (U8 r0):=by
 refine calls_k Tryz.func118 rfl fun Q qq=>?_
 have hs:=St.start w0
 refine wc (a':=(fu 15 [U8 a0,I8 a1])) (xs fun _ s1=>(xn 1 fun _ j2=>(qo 0 4 (U8 0) (fj j2 s1 (xs fun _ s3=>(xn 4 fun _ j4=>?_))))))
 refine nq 0 [(6,I8 a1),(7,U8 (iconv .u64 a1)),(8,U8 (iand .u64 (iconv .u64 a1) 63))] ?_
 obtain ⟨x1,hx,h⟩:=ob h
 refine tkf 3 5 (U8 x1) (yn hx) (fj j4 s3 (xs fun _ s5=>(xn 9 fun _ j6=>(nq 0 [(9,U8 a0),(10,U8 x1)] ?_))))
 obtain ⟨h0,h⟩:=oc h
 refine tkf 2 11 (U8 (ishl .u64 a0 x1)) (ysl 85 .u64 h0) (nq 3 [(12,U8 a0),(13,U8 x1),(14,U8 (isub .u64 64 x1))] ?_)
 obtain ⟨h0,h⟩:=oc h
 refine tkf 6 15 (U8 (ishr .u64 a0 (isub .u64 64 x1))) (ysr 85 .u64 h0) (qo 7 16 (U8 (ior .u64 (ishl .u64 a0 x1) (ishr .u64 a0 (isub .u64 64 x1)))) ?_)
 obtain ⟨x2,hx,h⟩:=ob h
 refine tkf 8 4 (U8 x2) (yn hx) (fj j6 s5 (xret ?_))
 obtain rfl:=of_some h
 exact qq _ _ (pt [4] [U8 x2] ⟨cr,hs.none⟩)
end Go.Proofs.YtemdbgmldljbpaaGreatDoor

/- own -/
set_option linter.unusedVariables false
set_option linter.unusedSimpArgs false
set_option maxRecDepth 100000
set_option maxHeartbeats 4000000
namespace Go.Proofs.YtemdbgmldljbpaaGreatDoor
open Go.Mx
attribute [local irreducible] wpOp
theorem keccak_round.ok {K:Nat}{a0:Arr 25}{a1:Int}{rp:Arr 25}{p0:Nat}(h:keccak_round.f K a0 a1=some rp) (w0:World) (hg1:RowL CV w0 (some ⟨1,0,none⟩) 1 1 [tab_1]) (hg2:RowL CV w0 (some ⟨2,0,none⟩) 1 1 [tab_2]) (hb:w0.heap[p0]? = some (.cells (enc .u64 a0).toArray 86 (0,0))) (fhg1:¬ (Ent.rowL CV (some ⟨1,0,none⟩) 1 1 ([tab_1])).foot p0) (fhg2:¬ (Ent.rowL CV (some ⟨2,0,none⟩) 1 1 ([tab_2])).foot p0):Calls Tryz.prog 113 #[P0 p0,U8 a1] w0 fun e w'=>e = .returned (.tuple #[])∧St w0 [p0] [.blk p0 (enc .u64 rp) 86] [] w':=by
 refine calls_kn Tryz.func113 rfl fun Q qq qn=>?_
 have hs:=St.startX hb (allX_cons (RowP.ent hg1) fhg1 (allX_cons (RowP.ent hg2) fhg2 allX_nil))
 refine wc (a':=(fu 114 [P0 p0,U8 a1])) (xs fun _ s1=>(xn 4 fun _ j2=>(qo 0 14 (P0 p0) ?_)))
 obtain ⟨r1,hg,h⟩:=ob h
 refine wpS.only 1 (oX 15 hs 0 rfl (keccak_columns.ok hg _ (hs.blkAt 0 rfl)) ?_)
 intro w kp hs
 have hs:=hs.conv (L':=[.blk p0 (enc .u64 a0) 86]) rfl
 refine ⟨fun _=>trivial,?_⟩
 refine so 2 (oNe 4 144 .u64 (zeroA 5) hs fun b2 w gw hs=>?_)
 refine so 3 (oWe 144 .u64 r1 hs 0 fun w kp hs=>?_)
 refine fj j2 s1 (xs fun _ s3=>(xs fun _ s4=>(xn 1 fun _ j5=>(qo 0 16 (I8 0) (fj j5 s4 (?_))))))
 obtain ⟨y5,hy,hk0⟩:=ob h
 refine wp_exq (N:=fun a w=>St w0 [p0] [.blk b2 (enc .u64 r1) 144,.blk p0 (enc .u64 y5) 86] [.rowL CV (some ⟨1,0,none⟩) 1 1 ([tab_1]),.rowL CV (some ⟨2,0,none⟩) 1 1 ([tab_2])] w∧∃ g7,a=fr g7 116 [(0,[P0 p0,U8 a1])]) (fun N0 nn0=>?_) ?_
 clear hk0
 refine xb ?_
 refine wp_loop_k (fun n a w=>∃ z3 z4,keccak_round.l0 K n r1 z3 z4=some y5∧St w0 [p0] [.blk b2 (enc .u64 r1) 144,.blk p0 (enc .u64 z4) 86] [.rowL CV (some ⟨1,0,none⟩) 1 1 ([tab_1]),.rowL CV (some ⟨2,0,none⟩) 1 1 ([tab_2])] w∧∃ g6,a=fr g6 116 [(0,[P0 p0,U8 a1]),(4,[P0 b2]),(16,[I8 z3])]) K ⟨0,a0,hy,hs.conv rfl,eg⟩ ?_
 clear hs h hy
 rintro n a w ⟨z3,z4,h,hs,g6,rfl⟩ KL0 kl0
 cases n with
 | zero=>exact nomatch (show none=some _ from h)
 | succ n=>
  refine xs fun _ s8=>(xn 1 fun _ j9=>?_)
  obtain ⟨hc,h⟩|⟨hc,h⟩:=of_if h
  refine tb 0 17 (dt hc) ?_
  refine fj j9 s8 (xs fun _ s10=>(ct (xk (T s10 (xs fun _ s11=>(xb (xs fun _ s12=>(xn 2 fun _ j13=>(nq 0 [(18,I8 z3),(5,I8 z3)] (fj j13 s12 (xs fun _ s14=>?_)))))))))))
  refine rg [] (fun k=>True) 13 fun _ j15=>?_
  have hs:=hs.drawn1
  refine gq 0 19 (I8 z3) (gq 1 20 (I8 (iadd .i64 z3 4)) (gq 2 21 (I8 (irem .i64 (iadd .i64 z3 4) 5)) ?_))
  obtain ⟨x6,hx,h⟩:=ob h
  have hx:=of_some hx
  subst hx
  obtain ⟨i0_16,i1_16,h⟩:=oc2 h
  refine tgf 3 22 (.pointer (some ⟨b2,0+((irem .i64 (iadd .i64 z3 4) 5):Int).toNat*1,none⟩)) (yi 144 85 5 1 .i64 (irem .i64 (iadd .i64 z3 4) 5) i0_16 i1_16) (tgt 4 23 _ (yA hs 0 85 (irem .i64 (iadd .i64 z3 4) 5) rfl i0_16 i1_16 .grow) (gq 5 24 (I8 z3) (gq 6 25 (I8 (iadd .i64 z3 1)) (gq 7 26 (I8 (irem .i64 (iadd .i64 z3 1) 5)) ?_))))
  obtain ⟨x7,hx,h⟩:=ob h
  have hx:=of_some hx
  subst hx
  obtain ⟨i0_17,i1_17,h⟩:=oc2 h
  refine tgf 8 27 (.pointer (some ⟨b2,0+((irem .i64 (iadd .i64 z3 1) 5):Int).toNat*1,none⟩)) (yi 144 85 5 1 .i64 (irem .i64 (iadd .i64 z3 1) 5) i0_17 i1_17) (tgt 9 28 _ (yA hs 0 85 (irem .i64 (iadd .i64 z3 1) 5) rfl i0_17 i1_17 .grow) ?_)
  obtain ⟨r8,hg,h⟩:=ob h
  refine go 10 (oC 29 hs (math_bits_RotateLeft64.ok hg _) fun w gw hs=>⟨.of gw,?_⟩)
  refine gq 11 30 (U8 (ixor .u64 (rd r1 (irem .i64 (iadd .i64 z3 4) 5)) r8)) ?_
  obtain ⟨x9,hx,h⟩:=ob h
  refine tgf 12 6 (U8 x9) (yn hx) (gf (j15 _ _ (T s14 (xs fun _ s18=>(xn 1 fun _ j19=>(qo 0 7 (I8 0) (fj j19 s18 (?_))))))))
  obtain ⟨y12,hy,hk1⟩:=ob h
  refine wp_exq (N:=fun a w=>St w0 [p0] [.blk b2 (enc .u64 r1) 144,.blk p0 (enc .u64 y12) 86] [.rowL CV (some ⟨1,0,none⟩) 1 1 ([tab_1]),.rowL CV (some ⟨2,0,none⟩) 1 1 ([tab_2])] w∧∃ g21,a=fr g21 116 [(0,[P0 p0,U8 a1]),(4,[P0 b2]),(16,[I8 z3])]) (fun N1 nn1=>?_) ?_
  clear hk1
  refine xb ?_
  refine wp_loop_k (fun n a w=>∃ z10 z11,keccak_round.l1 K n z3 x9 z10 z11=some y12∧St w0 [p0] [.blk b2 (enc .u64 r1) 144,.blk p0 (enc .u64 z11) 86] [.rowL CV (some ⟨1,0,none⟩) 1 1 ([tab_1]),.rowL CV (some ⟨2,0,none⟩) 1 1 ([tab_2])] w∧∃ g20,a=fr g20 116 [(0,[P0 p0,U8 a1]),(4,[P0 b2,I8 z3,U8 x9,I8 z10]),(16,[I8 z3])]) K ⟨0,z4,hy,hs.conv rfl,eg⟩ ?_
  clear hs h hy
  rintro n a w ⟨z10,z11,h,hs,g20,rfl⟩ KL1 kl1
  cases n with
  | zero=>exact nomatch (show none=some _ from h)
  | succ n=>
   refine xs fun _ s22=>(xs fun _ s23=>(xn 2 fun _ j24=>(qo 0 31 (I8 z10) ?_)))
   obtain ⟨hc,h⟩|⟨hc,h⟩:=of_if h
   refine tb 1 32 (dt hc) ?_
   refine fj j24 s23 (ct (xk (T s22 (xs fun _ s25=>(xb ?_)))))
   refine rg [11] (fun k=>True) 12 fun _ j26=>?_
   have hs:=hs.drawn1
   refine gq 0 35 (P0 p0) (gq 1 36 (I8 z3) (gq 2 37 (I8 z10) (gq 3 38 (I8 (iadd .i64 z3 z10)) (gq 4 39 (P0 p0) ?_))))
   obtain ⟨x13,hx,h⟩:=ob h
   have hx:=of_some hx
   subst hx
   obtain ⟨i0_27,i1_27,h⟩:=oc2 h
   refine tgf 5 40 (P1 p0 (iadd .i64 z3 z10)) (yi 86 85 25 1 .i64 (iadd .i64 z3 z10) i0_27 i1_27) (tgt 6 41 _ (yA hs 1 85 (iadd .i64 z3 z10) rfl i0_27 i1_27 .grow) (gq 7 42 (U8 x9) (gq 8 43 (U8 (ixor .u64 (rd z11 (iadd .i64 z3 z10)) x9)) (gq 9 44 (P0 p0) ?_))))
   obtain ⟨x14,hx,h⟩:=ob h
   have hx:=of_some hx
   subst hx
   obtain ⟨i0_28,i1_28,h⟩:=oc2 h
   refine tgf 10 45 (P1 p0 (iadd .i64 z3 z10)) (yi 86 85 25 1 .i64 (iadd .i64 z3 z10) i0_28 i1_28) ?_
   obtain ⟨x15,hx,h⟩:=ob h
   refine go 11 (oA 85 x15 (iadd .i64 z3 z10) hs 1 rfl (by cases hx; kernel_rfl) i0_28 i1_28 fun w kp hs=>⟨⟨fun hf=>absurd hf (by decide),.all _ _⟩,?_⟩)
   refine gf (j26 _ _ ?_)
   refine iN (T s25 (xn 3 fun _ j29=>?_))
   refine nq 0 [(33,I8 z10),(34,I8 (iadd .i64 z10 5))] ?_
   obtain ⟨x16,hx,h⟩:=ob h
   refine tkf 2 7 (I8 x16) (yn hx) (fin (j29 _ _ ?_))
   exact tn (kl1 _ _ ⟨n,ls n,x16,(wr z11 (iadd .i64 z3 z10) x15),h,(hs.conv rfl),eg⟩)
   refine tb 1 32 (df hc) (fj j24 s23 (cf (xexit (tx (tx (iH ?_))))))
   obtain rfl:=of_some h
   exact exq_n (nn1 _ _ ⟨(hs.conv rfl),eg⟩)
  clear hs h hy
  rintro a w ⟨hs,g21,rfl⟩
  have h:=hk1
  refine iN (T s11 (xn 2 fun _ j30=>?_))
  refine nq 0 [(46,I8 (iadd .i64 z3 1)),(16,I8 (iadd .i64 z3 1))] (fin (j30 _ _ ?_))
  exact tn (kl0 _ _ ⟨n,ls n,(iadd .i64 z3 1),y12,h,(hs.conv rfl),eg⟩)
  refine tb 0 17 (df hc) (fj j9 s8 (xs fun _ s31=>(cf (xexit (tx (tx (iH ?_)))))))
  obtain rfl:=of_some h
  exact exq_n (nn0 _ _ ⟨(hs.conv rfl),eg⟩)
 clear hs h hy
 rintro a w ⟨hs,g7,rfl⟩
 have h:=hk0
 refine T s3 (xs fun _ s32=>(xn 5 fun _ j33=>(nq 0 [(47,P0 p0),(48,P0 p0)] (tkf 2 49 (P1 p0 1) (yi 86 85 25 1 .i64 1 (by decide) (by decide)) (tkt 3 50 _ (yA hs 1 85 1 rfl (by decide) (by decide) .grow) ?_)))))
 obtain ⟨x17,hx,h⟩:=ob h
 refine tkf 4 8 (U8 x17) (yn hx) (fj j33 s32 (xs fun _ s35=>(xs fun _ s36=>(xn 2 fun _ j37=>(tkt 0 51 _ (yLA (C:=CV) 148 0 (rR 0 hs) rfl (by decide) (by decide)) (qo 1 52 (I8 0) (fj j37 s36 (?_))))))))
 obtain ⟨y21,hy,hk2⟩:=ob h
 refine wp_exq (N:=fun a w=>St w0 [p0] [.blk b2 (enc .u64 r1) 144,.blk p0 (enc .u64 y21) 86] [.rowL CV (some ⟨1,0,none⟩) 1 1 ([tab_1]),.rowL CV (some ⟨2,0,none⟩) 1 1 ([tab_2])] w∧∃ g39,a=fr g39 116 [(0,[P0 p0,U8 a1])]) (fun N2 nn2=>?_) ?_
 clear hk2
 refine xb ?_
 refine wp_loop_k (fun n a w=>∃ z18 z19 z20,keccak_round.l2 K n z18 z19 z20=some y21∧St w0 [p0] [.blk b2 (enc .u64 r1) 144,.blk p0 (enc .u64 z20) 86] [.rowL CV (some ⟨1,0,none⟩) 1 1 ([tab_1]),.rowL CV (some ⟨2,0,none⟩) 1 1 ([tab_2])] w∧∃ g38,a=fr g38 116 [(0,[P0 p0,U8 a1]),(8,[U8 z18]),(51,[ag .i64 tab_1,I8 z19])]) K ⟨x17,0,y5,hy,hs.conv rfl,eg⟩ ?_
 clear hs h hy
 rintro n a w ⟨z18,z19,z20,h,hs,g38,rfl⟩ KL2 kl2
 cases n with
 | zero=>exact nomatch (show none=some _ from h)
 | succ n=>
  refine xs fun _ s40=>(xn 1 fun _ j41=>?_)
  obtain ⟨hc,h⟩|⟨hc,h⟩:=of_if h
  refine tb 0 53 (dt hc) ?_
  refine fj j41 s40 (xs fun _ s42=>(ct (xk (T s42 (xs fun _ s43=>(xb (xs fun _ s44=>(xn 4 fun _ j45=>(qo 0 54 (I8 z19) ?_)))))))))
  obtain ⟨h0,h1,h⟩:=oc2 h
  refine tkf 1 55 (I8 (rd tab_1 z19)) (yt 148 3 .i64 h0 h1) (qo 2 9 (I8 z19) ?_)
  obtain ⟨x22,hx,h⟩:=ob h
  refine tkf 3 10 (I8 x22) (yn hx) (fj j45 s44 (?_))
  refine rg [14] (fun k=>True) 16 fun _ j46=>?_
  have hs:=hs.drawn1
  refine gq 0 56 (P0 p0) (gq 1 57 (I8 x22) (gq 2 58 (U8 z18) (gq 3 59 (I8 z19) ?_)))
  obtain ⟨i0_47,i1_47,h⟩:=oc2 h
  refine tgf 4 60 (P1 2 z19) (yi 148 3 24 1 .i64 z19 i0_47 i1_47) (tgt 5 61 (I8 (rd tab_2 z19)) (yld_loadG (e:=3) (x:=z19) (rR 1 hs) (by kernel_rfl) (by kernel_rfl) i0_47 i1_47) (gq 7 63 (P0 p0) (gq 8 64 (I8 x22) (gq 9 65 (P0 p0) ?_))))
  obtain ⟨i0_48,i1_48,h⟩:=oc2 h
  refine tgf 10 66 (P1 p0 x22) (yi 86 85 25 1 .i64 x22 i0_48 i1_48) (tgt 11 67 _ (yA hs 1 85 x22 rfl i0_48 i1_48 .grow) (gq 12 68 (P0 p0) ?_))
  obtain ⟨r23,hg,h⟩:=ob h
  refine go 6 (oC 62 hs (math_bits_RotateLeft64.ok hg _) fun w gw hs=>⟨.of gw,?_⟩)
  obtain ⟨i0_49,i1_49,h⟩:=oc2 h
  refine tgf 13 69 (P1 p0 x22) (yi 86 85 25 1 .i64 x22 i0_49 i1_49) (go 14 (oA 85 r23 x22 hs 1 rfl (by kernel_rfl) i0_49 i1_49 fun w kp hs=>⟨⟨fun hf=>absurd hf (by decide),.all _ _⟩,?_⟩))
  obtain ⟨x24,hx,h⟩:=ob h
  refine tgf 15 8 (U8 x24) (yn hx) (gf (j46 _ _ ?_))
  refine iN (T s43 (xn 2 fun _ j50=>?_))
  refine nq 0 [(70,I8 (iadd .i64 z19 1)),(52,I8 (iadd .i64 z19 1))] (fin (j50 _ _ ?_))
  exact tn (kl2 _ _ ⟨n,ls n,x24,(iadd .i64 z19 1),(wr z20 x22 r23),h,(hs.conv rfl),eg⟩)
  refine tb 0 53 (df hc) (fj j41 s40 (xs fun _ s51=>(cf (xexit (tx (tx (iH ?_)))))))
  obtain rfl:=of_some h
  exact exq_n (nn2 _ _ ⟨(hs.conv rfl),eg⟩)
 clear hs h hy
 rintro a w ⟨hs,g39,rfl⟩
 have h:=hk2
 refine T s35 (xs fun _ s52=>(xs fun _ s53=>(xn 1 fun _ j54=>(qo 0 11 (I8 0) (fj j54 s53 (?_))))))
 obtain ⟨y27,hy,hk3⟩:=ob h
 refine wp_exq (N:=fun a w=>St w0 [p0] [.blk b2 (enc .u64 r1) 144,.blk p0 (enc .u64 y27) 86] [.rowL CV (some ⟨1,0,none⟩) 1 1 ([tab_1]),.rowL CV (some ⟨2,0,none⟩) 1 1 ([tab_2])] w∧∃ g56,a=fr g56 116 [(0,[P0 p0,U8 a1])]) (fun N3 nn3=>?_) ?_
 clear hk3
 refine xb ?_
 refine wp_loop_k (fun n a w=>∃ z25 z26,keccak_round.l3 K n z25 z26=some y27∧St w0 [p0] [.blk b2 (enc .u64 r1) 144,.blk p0 (enc .u64 z26) 86] [.rowL CV (some ⟨1,0,none⟩) 1 1 ([tab_1]),.rowL CV (some ⟨2,0,none⟩) 1 1 ([tab_2])] w∧∃ g55,a=fr g55 116 [(0,[P0 p0,U8 a1]),(11,[I8 z25])]) K ⟨0,y21,hy,hs.conv rfl,eg⟩ ?_
 clear hs h hy
 rintro n a w ⟨z25,z26,h,hs,g55,rfl⟩ KL3 kl3
 cases n with
 | zero=>exact nomatch (show none=some _ from h)
 | succ n=>
  refine xs fun _ s57=>(xs fun _ s58=>(xn 2 fun _ j59=>(qo 0 71 (I8 z25) ?_)))
  obtain ⟨hc,h⟩|⟨hc,h⟩:=of_if h
  refine tb 1 72 (dt hc) ?_
  refine fj j59 s58 (ct (xk (T s57 (xs fun _ s60=>(xb (xs fun _ s61=>(xn 10 fun _ j62=>(nq 0 [(75,P0 p0),(76,P0 p0),(77,I8 z25),(78,I8 z25),(79,I8 (iadd .i64 z25 5))] ?_))))))))
  obtain ⟨b0_63,b1_63,h⟩:=oc2 h
  obtain ⟨b2_63,b3_63,h⟩:=oc2 h
  refine tkf 5 80 (.slice (some ⟨p0,0+(z25:Int).toNat*1,none⟩) (((iadd .i64 z25 5):Int).toNat-(z25:Int).toNat) (25-(z25:Int).toNat)) (ysA 86 85 25 .i64 .i64 z25 (iadd .i64 z25 5) b0_63 b1_63 b2_63 b3_63) ?_
  obtain ⟨h0,h⟩:=oc h
  have i0_64:=b0_63
  have i1_64:(z25:Int)+((5:Nat):Int)≤((25:Nat):Int):=by have:=b2_63; omega
  refine tkf 6 81 (P1 p0 z25) (yld_toArr (t:=144) (e:=85) (n:=5) (len:=((iadd .i64 z25 5):Int).toNat-(z25:Int).toNat) (c:=25-(z25:Int).toNat) (by kernel_rfl) (by kernel_rfl) h0) (tkt 7 82 (ag .u64 (subA 5 z26 z25)) (yld_loadSub (e:=144) (m:=5) (x:=z25) hs 1 rfl (by kernel_rfl) (by kernel_rfl) (by kernel_rfl) i0_64 i1_64 .grow) (so 8 (oNe 12 144 .u64 (zeroA 5) hs fun b28 w gw hs=>(so 9 (oWe 144 .u64 (subA 5 z26 z25) hs 0 fun w kp hs=>(fj j62 s61 (xs fun _ s65=>(xn 1 fun _ j66=>?_))))))))
  refine qo 0 83 (I8 0) (fj j66 s65 (?_))
  obtain ⟨y31,hy,hk4⟩:=ob h
  refine wp_exq (N:=fun a w=>St w0 [p0] [.blk b28 (enc .u64 (subA 5 z26 z25)) 144,.blk b2 (enc .u64 r1) 144,.blk p0 (enc .u64 y31) 86] [.rowL CV (some ⟨1,0,none⟩) 1 1 ([tab_1]),.rowL CV (some ⟨2,0,none⟩) 1 1 ([tab_2])] w∧∃ g68,a=fr g68 116 [(0,[P0 p0,U8 a1]),(11,[I8 z25])]) (fun N4 nn4=>?_) ?_
  clear hk4
  refine xb ?_
  refine wp_loop_k (fun n a w=>∃ z29 z30,keccak_round.l4 K n z25 z26 z29 z30=some y31∧St w0 [p0] [.blk b28 (enc .u64 (subA 5 z26 z25)) 144,.blk b2 (enc .u64 r1) 144,.blk p0 (enc .u64 z30) 86] [.rowL CV (some ⟨1,0,none⟩) 1 1 ([tab_1]),.rowL CV (some ⟨2,0,none⟩) 1 1 ([tab_2])] w∧∃ g67,a=fr g67 116 [(0,[P0 p0,U8 a1]),(11,[I8 z25,P0 b28]),(83,[I8 z29])]) K ⟨0,z26,hy,hs.conv rfl,eg⟩ ?_
  clear hs h hy
  rintro n a w ⟨z29,z30,h,hs,g67,rfl⟩ KL4 kl4
  cases n with
  | zero=>exact nomatch (show none=some _ from h)
  | succ n=>
   refine xs fun _ s69=>(xn 1 fun _ j70=>?_)
   obtain ⟨hc,h⟩|⟨hc,h⟩:=of_if h
   refine tb 0 84 (dt hc) ?_
   refine fj j70 s69 (xs fun _ s71=>(ct (xk (T s71 (xs fun _ s72=>(xb (xs fun _ s73=>(xn 2 fun _ j74=>(nq 0 [(85,I8 z29),(13,I8 z29)] (fj j74 s73 (?_)))))))))))
   refine rg [21] (fun k=>True) 22 fun _ j75=>?_
   have hs:=hs.drawn1
   refine gq 0 86 (P0 p0) (gq 1 87 (I8 z25) (gq 2 88 (I8 z29) (gq 3 89 (I8 (iadd .i64 z25 z29)) (gq 4 90 (I8 z29) ?_))))
   obtain ⟨i0_76,i1_76,h⟩:=oc2 h
   refine tgf 5 91 (P1 b28 z29) (yi 144 85 5 1 .i64 z29 i0_76 i1_76) (tgt 6 92 _ (yA hs 0 85 z29 rfl i0_76 i1_76 .grow) (gq 7 93 (I8 z29) (gq 8 94 (I8 (iadd .i64 z29 2)) (gq 9 95 (I8 (irem .i64 (iadd .i64 z29 2) 5)) ?_))))
   obtain ⟨x32,hx,h⟩:=ob h
   have hx:=of_some hx
   subst hx
   obtain ⟨i0_77,i1_77,h⟩:=oc2 h
   refine tgf 10 96 (.pointer (some ⟨b28,0+((irem .i64 (iadd .i64 z29 2) 5):Int).toNat*1,none⟩)) (yi 144 85 5 1 .i64 (irem .i64 (iadd .i64 z29 2) 5) i0_77 i1_77) (tgt 11 97 _ (yA hs 0 85 (irem .i64 (iadd .i64 z29 2) 5) rfl i0_77 i1_77 .grow) (gq 12 98 (I8 z29) (gq 13 99 (I8 (iadd .i64 z29 1)) (gq 14 100 (I8 (irem .i64 (iadd .i64 z29 1) 5)) ?_))))
   obtain ⟨x33,hx,h⟩:=ob h
   have hx:=of_some hx
   subst hx
   obtain ⟨i0_78,i1_78,h⟩:=oc2 h
   refine tgf 15 101 (.pointer (some ⟨b28,0+((irem .i64 (iadd .i64 z29 1) 5):Int).toNat*1,none⟩)) (yi 144 85 5 1 .i64 (irem .i64 (iadd .i64 z29 1) 5) i0_78 i1_78) (tgt 16 102 _ (yA hs 0 85 (irem .i64 (iadd .i64 z29 1) 5) rfl i0_78 i1_78 .grow) (gq 17 103 (U8 (iandn .u64 (rd (subA 5 z26 z25) (irem .i64 (iadd .i64 z29 2) 5)) (rd (subA 5 z26 z25) (irem .i64 (iadd .i64 z29 1) 5)))) (gq 18 104 (U8 (ixor .u64 (rd (subA 5 z26 z25) z29) (iandn .u64 (rd (subA 5 z26 z25) (irem .i64 (iadd .i64 z29 2) 5)) (rd (subA 5 z26 z25) (irem .i64 (iadd .i64 z29 1) 5))))) (gq 19 105 (P0 p0) ?_))))
   obtain ⟨x34,hx,h⟩:=ob h
   have hx:=of_some hx
   subst hx
   obtain ⟨i0_79,i1_79,h⟩:=oc2 h
   refine tgf 20 106 (P1 p0 (iadd .i64 z25 z29)) (yi 86 85 25 1 .i64 (iadd .i64 z25 z29) i0_79 i1_79) ?_
   obtain ⟨x35,hx,h⟩:=ob h
   refine go 21 (oA 85 x35 (iadd .i64 z25 z29) hs 2 rfl (by cases hx; kernel_rfl) i0_79 i1_79 fun w kp hs=>⟨⟨fun hf=>absurd hf (by decide),.all _ _⟩,?_⟩)
   refine gf (j75 _ _ ?_)
   refine iN (T s72 (xn 2 fun _ j80=>?_))
   refine nq 0 [(107,I8 (iadd .i64 z29 1)),(83,I8 (iadd .i64 z29 1))] (fin (j80 _ _ ?_))
   exact tn (kl4 _ _ ⟨n,ls n,(iadd .i64 z29 1),(wr z30 (iadd .i64 z25 z29) x35),h,(hs.conv rfl),eg⟩)
   refine tb 0 84 (df hc) (fj j70 s69 (xs fun _ s81=>(cf (xexit (tx (tx (iH ?_)))))))
   obtain rfl:=of_some h
   exact exq_n (nn4 _ _ ⟨(hs.conv rfl),eg⟩)
  clear hs h hy
  rintro a w ⟨hs,g68,rfl⟩
  have h:=hk4
  refine iN (T s60 (xn 3 fun _ j82=>?_))
  refine nq 0 [(73,I8 z25),(74,I8 (iadd .i64 z25 5))] ?_
  obtain ⟨x36,hx,h⟩:=ob h
  refine tkf 2 11 (I8 x36) (yn hx) (fin (j82 _ _ ?_))
  exact tn (kl3 _ _ ⟨n,ls n,x36,y31,h,(dr [0,1,1] hs),eg⟩)
  refine tb 1 72 (df hc) (fj j59 s58 (cf (xexit (tx (tx (iH ?_))))))
  obtain rfl:=of_some h
  exact exq_n (nn3 _ _ ⟨(hs.conv rfl),eg⟩)
 clear hs h hy
 rintro a w ⟨hs,g56,rfl⟩
 have h:=hk3
 refine T s52 (?_)
 refine rg [8] (fun k=>True) 9 fun _ j83=>?_
 have hs:=hs.drawn1
 refine gq 0 108 (P0 p0) (gq 1 109 (P0 p0) (tgf 2 110 (P1 p0 0) (yi 86 85 25 1 .i64 0 (by decide) (by decide)) (tgt 3 111 _ (yA hs 1 85 0 rfl (by decide) (by decide) .grow) (gq 4 112 (U8 a1) ?_))))
 refine gq 5 113 (U8 (ixor .u64 (rd y27 0) a1)) (gq 6 114 (P0 p0) (tgf 7 115 (P1 p0 0) (yi 86 85 25 1 .i64 0 (by decide) (by decide)) ?_))
 obtain ⟨x37,hx,h⟩:=ob h
 refine go 8 (oA 85 x37 0 hs 1 rfl (by cases hx; kernel_rfl) (by decide) (by decide) fun w kp hs=>⟨⟨fun hf=>absurd hf (by decide),.all _ _⟩,?_⟩)
 refine gf (j83 _ _ ?_)
 obtain rfl:=of_some h
 exact qn _ _ (pn (rr [] [] .nil) ⟨cr,(pz (dr [0,1] hs))⟩)
theorem keccak_Permute.ok {K:Nat}{a0 r0:Arr 25}(h:keccak_Permute.f K a0=some r0) (w0:World) (hg0:RowL CW w0 (some ⟨0,0,none⟩) 1 1 [tab_0]) (hg1:RowL CV w0 (some ⟨1,0,none⟩) 1 1 [tab_1]) (hg2:RowL CV w0 (some ⟨2,0,none⟩) 1 1 [tab_2]):Ret Tryz.prog 102 #[ag .u64 a0] w0 (ag .u64 r0):=by
 refine calls_k Tryz.func102 rfl fun Q qq=>?_
 have hs:=St.startR (all_cons (RowP.ent hg0) (all_cons (RowP.ent hg1) (all_cons (RowP.ent hg2) all_nil)))
 refine wc (a':=(fu 12 [ag .u64 a0])) (xs fun _ s1=>(xn 2 fun _ j2=>(so 0 (oBe 1 86 .u64 a0 hs fun b1 w gw hs=>(so 1 (oNe 2 86 .u64 (zeroA 25) hs fun b2 w gw hs=>?_))))))
 refine fj j2 s1 (xs fun _ s3=>(xs fun _ s4=>(xn 2 fun _ j5=>(tkt 0 5 _ (yLA (C:=CW) 129 0 (rR 0 hs) rfl (by decide) (by decide)) (qo 1 6 (I8 0) (fj j5 s4 (?_)))))))
 obtain ⟨y5,hy,hk0⟩:=ob h
 refine wp_exq (N:=fun a w=>St w0 [] [.blk b2 (enc .u64 (zeroA 25)) 86,.blk b1 (enc .u64 y5) 86] [.rowL CW (some ⟨0,0,none⟩) 1 1 ([tab_0]),.rowL CV (some ⟨1,0,none⟩) 1 1 ([tab_1]),.rowL CV (some ⟨2,0,none⟩) 1 1 ([tab_2])] w∧∃ g7,a=fr g7 13 [(1,[P0 b1,P0 b2])]) (fun N0 nn0=>?_) ?_
 clear hk0
 refine xb ?_
 refine wp_loop_k (fun n a w=>∃ z3 z4,keccak_Permute.l0 K n z3 z4=some y5∧St w0 [] [.blk b2 (enc .u64 (zeroA 25)) 86,.blk b1 (enc .u64 z4) 86] [.rowL CW (some ⟨0,0,none⟩) 1 1 ([tab_0]),.rowL CV (some ⟨1,0,none⟩) 1 1 ([tab_1]),.rowL CV (some ⟨2,0,none⟩) 1 1 ([tab_2])] w∧∃ g6,a=fr g6 13 [(1,[P0 b1,P0 b2]),(5,[ag .u64 tab_0,I8 z3])]) K ⟨0,a0,hy,hs.conv rfl,eg⟩ ?_
 clear hs h hy
 rintro n a w ⟨z3,z4,h,hs,g6,rfl⟩ KL0 kl0
 cases n with
 | zero=>exact nomatch (show none=some _ from h)
 | succ n=>
  refine xs fun _ s8=>(xn 1 fun _ j9=>?_)
  obtain ⟨hc,h⟩|⟨hc,h⟩:=of_if h
  refine tb 0 7 (dt hc) ?_
  refine fj j9 s8 (xs fun _ s10=>(ct (xk (T s10 (xs fun _ s11=>(xb (xs fun _ s12=>(xn 2 fun _ j13=>?_))))))))
  obtain ⟨h0,h1,h⟩:=oc2 h
  refine tkf 0 8 (U8 (rd tab_0 z3)) (yt 129 85 .i64 h0 h1) ?_
  obtain ⟨x6,hx,h⟩:=ob h
  refine tkf 1 4 (U8 x6) (yn hx) (fj j13 s12 (xn 2 fun _ j14=>(qo 0 9 (U8 x6) ?_)))
  obtain ⟨r7,hg,h⟩:=ob h
  refine wpS.only 1 (oX 10 hs 1 rfl (keccak_round.ok hg _ (rR 1 hs) (rR 2 hs) (hs.blkAt 1 rfl) (hs.farR 1 1 rfl rfl) (hs.farR 1 2 rfl rfl)) ?_)
  intro w kp hs
  have hs:=hs.conv (L':=[.blk b2 (enc .u64 (zeroA 25)) 86,.blk b1 (enc .u64 r7) 86]) rfl
  refine ⟨fun _=>trivial,?_⟩
  refine fin (j14 _ _ (iN (T s11 (xn 2 fun _ j15=>(nq 0 [(11,I8 (iadd .i64 z3 1)),(6,I8 (iadd .i64 z3 1))] (fin (j15 _ _ ?_)))))))
  exact tn (kl0 _ _ ⟨n,ls n,(iadd .i64 z3 1),r7,h,(hs.conv rfl),eg⟩)
  refine tb 0 7 (df hc) (fj j9 s8 (xs fun _ s16=>(cf (xexit (tx (tx (iH ?_)))))))
  obtain rfl:=of_some h
  exact exq_n (nn0 _ _ ⟨(hs.conv rfl),eg⟩)
 clear hs h hy
 rintro a w ⟨hs,g7,rfl⟩
 have h:=hk0
 refine T s3 (xs fun _ s17=>(xn 2 fun _ j18=>(tkt 0 12 _ (yWe 86 hs 1 .grow) (so 1 (oWe 86 .u64 y5 hs 0 fun w kp hs=>(fj j18 s17 (xret ?_)))))))
 obtain rfl:=of_some h
 exact qq _ _ (pr (rr [.cell 2 86] [ag .u64 y5] (.cons (rcN 25 hs 0 rfl (enc_len _ _)) .nil)) ⟨cr,hs.none⟩)
theorem keccak_xor.ok {K:Nat}{a0_0:Int}{a0_1:Arr 25}{a0_2:Int}{a0_3:Bool}{a1 a2 rp_0:Int}{rp_1:Arr 25}{rp_2:Int}{rp_3:Bool}{p0:Nat}(h:keccak_xor.f K a0_0 a0_1 a0_2 a0_3 a1 a2=some (rp_0,rp_1,rp_2,rp_3)) (w0:World) (hb:w0.heap[p0]? = some (.cells (vl [I8 a0_0]++enc .u64 a0_1++vl [I8 a0_2,.bool a0_3]).toArray 88 (0,0))):Calls Tryz.prog 103 #[P0 p0,I8 a1,U1 a2] w0 fun e w'=>e = .returned (.tuple #[])∧St w0 [p0] [.blk p0 (vl [I8 rp_0]++enc .u64 rp_1++vl [I8 rp_2,.bool rp_3]) 88] [] w':=by
 refine calls_kn Tryz.func103 rfl fun Q qq qn=>?_
 have hs:=St.startX hb allX_nil
 refine wc (a':=(fu 20 [P0 p0,I8 a1,U1 a2])) ?_
 refine rg [17] (fun k=>True) 18 fun _ j1=>?_
 have hs:=hs.drawn1
 refine gq 0 6 (P0 p0) (gq 1 7 (I8 a1) (gq 2 8 (I8 (iquo .i64 a1 8)) (gq 3 9 (P0 p0) (gq 4 10 (.pointer (some ⟨p0,1,none⟩)) ?_))))
 obtain ⟨x1,hx,h⟩:=ob h
 have hx:=of_some hx
 subst hx
 obtain ⟨i0_2,i1_2,h⟩:=oc2 h
 refine tgf 5 11 (.pointer (some ⟨p0,1+((iquo .i64 a1 8):Int).toNat*1,none⟩)) (yi 86 85 25 1 .i64 (iquo .i64 a1 8) i0_2 i1_2) (tgt 6 12 (U8 (rd a0_1 (iquo .i64 a1 8))) (yP 1 hs 0 85 (iquo .i64 a1 8) rfl i0_2 i1_2 (by simp [enc_len]) .grow) (gq 7 13 (U1 a2) (gq 8 14 (U8 (iconv .u64 a2)) (gq 9 15 (I8 a1) ?_))))
 refine gq 10 16 (I8 (irem .i64 a1 8)) (gq 11 17 (I8 (imul .i64 8 (irem .i64 a1 8))) ?_)
 obtain ⟨h0,h⟩:=oc h
 refine tgf 12 18 (U8 (ishl .u64 (iconv .u64 a2) (imul .i64 8 (irem .i64 a1 8)))) (ysl 85 .i64 h0) (gq 13 19 (U8 (ixor .u64 (rd a0_1 (iquo .i64 a1 8)) (ishl .u64 (iconv .u64 a2) (imul .i64 8 (irem .i64 a1 8))))) (gq 14 20 (P0 p0) (gq 15 21 (.pointer (some ⟨p0,1,none⟩)) ?_)))
 obtain ⟨x2,hx,h⟩:=ob h
 have hx:=of_some hx
 subst hx
 obtain ⟨i0_3,i1_3,h⟩:=oc2 h
 refine tgf 16 22 (.pointer (some ⟨p0,1+((iquo .i64 a1 8):Int).toNat*1,none⟩)) (yi 86 85 25 1 .i64 (iquo .i64 a1 8) i0_3 i1_3) ?_
 obtain ⟨x3,hx,h⟩:=ob h
 refine go 17 (oP 1 85 x3 (iquo .i64 a1 8) hs 0 rfl (by cases hx; kernel_rfl) i0_3 i1_3 (by simp [enc_len]) fun w kp hs=>⟨⟨fun hf=>absurd hf (by decide),.all _ _⟩,?_⟩)
 refine gf (j1 _ _ ?_)
 obtain ⟨rfl,rfl,rfl,rfl⟩:=os4 h
 exact qn _ _ (pn (rr [] [] .nil) ⟨cr,(hs.conv rfl)⟩)
theorem keccak_turned.ok {K:Nat}{a0_0:Int}{a0_1:Arr 25}{a0_2:Int}{a0_3:Bool}{r0_0:Int}{r0_1:Arr 25}{r0_2:Int}{r0_3:Bool}(h:keccak_turned.f K a0_0 a0_1 a0_2 a0_3=some (r0_0,r0_1,r0_2,r0_3)) (w0:World) (hg0:RowL CW w0 (some ⟨0,0,none⟩) 1 1 [tab_0]) (hg1:RowL CV w0 (some ⟨1,0,none⟩) 1 1 [tab_1]) (hg2:RowL CV w0 (some ⟨2,0,none⟩) 1 1 [tab_2]):Ret Tryz.prog 101 #[.agg (vl [I8 a0_0]++enc .u64 a0_1++vl [I8 a0_2,.bool a0_3]).toArray] w0 (.agg (vl [I8 r0_0]++enc .u64 r0_1++vl [I8 r0_2,.bool r0_3]).toArray):=by
 refine calls_k Tryz.func101 rfl fun Q qq=>?_
 have hs:=St.startR (all_cons (RowP.ent hg0) (all_cons (RowP.ent hg1) (all_cons (RowP.ent hg2) all_nil)))
 refine wc (a':=(fu 27 [.agg (vl [I8 a0_0]++enc .u64 a0_1++vl [I8 a0_2,.bool a0_3]).toArray])) (xs fun _ s1=>(xn 2 fun _ j2=>(so 0 (oB 1 88 (.agg (vl [I8 a0_0]++enc .u64 a0_1++vl [I8 a0_2,.bool a0_3]).toArray) hs (vl [I8 a0_0]++enc .u64 a0_1++vl [I8 a0_2,.bool a0_3]) fun b1 w gw hs=>(so 1 (oN 2 88 hs (vl [I8 0]++enc .u64 (zeroA 25)++vl [I8 0,.bool false]) (.agg (vl [I8 0]++enc .u64 (zeroA 25)++vl [I8 0,.bool false]).toArray) fun b2 w gw hs=>?_))))))
 refine fj j2 s1 (xs fun _ s3=>(xn 1 fun _ j4=>(qo 0 3 (U1 31) (fj j4 s3 (?_)))))
 obtain ⟨y3,hj,h⟩:=ob h
 refine xs fun _ s6=>wp_join (N:=fun a w=>St w0 [] [.blk b2 (vl [I8 0]++enc .u64 (zeroA 25)++vl [I8 0,.bool false]) 88,.blk b1 (vl [I8 a0_0]++enc .u64 a0_1++vl [I8 a0_2,.bool a0_3]) 88] [.rowL CW (some ⟨0,0,none⟩) 1 1 ([tab_0]),.rowL CV (some ⟨1,0,none⟩) 1 1 ([tab_1]),.rowL CV (some ⟨2,0,none⟩) 1 1 ([tab_2])] w∧∃ g5,a=fr g5 28 [(1,[P0 b1,P0 b2,U1 y3])]) (fun N nj=>?_) ?_
 clear h
 have h:=hj
 refine xs fun _ s7=>(xn 8 fun _ j8=>(qo 0 4 (P0 b1) (tkt 1 5 _ (yv hs 1 0 3 rfl (get_pre rfl) .grow) ?_)))
 obtain ⟨hc,h⟩|⟨hc,h⟩:=of_if h
 refine tb 2 6 (et hc) ?_
 refine nq 3 [(7,.bool true),(8,undef),(9,undef),(10,undef),(11,.bool true)] (fj j8 s7 (ct (xn 1 fun _ j9=>(qo 0 3 (U1 6) (fin (j9 _ _ ?_))))))
 obtain rfl:=of_some h
 exact nj _ _ ⟨(hs.conv rfl),eg⟩
 refine tb 2 6 (ef hc) (nq 3 [(7,.bool false),(8,P0 b1)] (tkt 5 9 _ (yv hs 1 0 3 rfl (get_pre rfl) .grow) ?_))
 obtain ⟨hc,h⟩|⟨hc,h⟩:=of_if h
 refine tb 6 10 (et hc) ?_
 refine qo 7 11 (.bool true) (fj j8 s7 (ct (xn 1 fun _ j10=>(qo 0 3 (U1 6) (fin (j10 _ _ ?_))))))
 obtain rfl:=of_some h
 exact nj _ _ ⟨(hs.conv rfl),eg⟩
 refine tb 6 10 (ef hc) (qo 7 11 (.bool false) (fj j8 s7 (cf (xk ?_))))
 obtain rfl:=of_some h
 exact nj _ _ ⟨(hs.conv rfl),eg⟩
 clear hj hs
 rintro a w ⟨hs,g5,rfl⟩
 refine T s6 (xs fun _ s11=>(xn 4 fun _ j12=>(qo 0 12 (.pointer (some ⟨b1,26,none⟩)) (tkt 1 13 _ (yv hs 1 26 3 rfl (get_post 0 rfl rfl) .grow) (qo 2 14 (U1 y3) ?_)))))
 obtain ⟨⟨r4_0,r4_1,r4_2,r4_3⟩,hg,h⟩:=ob h
 refine wpS.only 3 (oX 15 hs 1 rfl (keccak_xor.ok hg _ (hs.blkAt 1 rfl)) ?_)
 intro w kp hs
 have hs:=hs.conv (L':=[.blk b2 (vl [I8 0]++enc .u64 (zeroA 25)++vl [I8 0,.bool false]) 88,.blk b1 (vl [I8 r4_0]++enc .u64 r4_1++vl [I8 r4_2,.bool r4_3]) 88]) rfl
 refine ⟨fun _=>trivial,?_⟩
 refine fj j12 s11 (xs fun _ s13=>(xn 5 fun _ j14=>(qo 0 16 (P0 b1) (tkt 1 17 _ (yv hs 1 0 3 rfl (get_pre rfl) .grow) ?_))))
 obtain ⟨r5,hg,h⟩:=ob h
 refine so 2 (oC 18 hs (keccak_rate.ok hg _) fun w gw hs=>?_)
 refine qo 3 19 (I8 (isub .i64 r5 1)) ?_
 obtain ⟨⟨r6_0,r6_1,r6_2,r6_3⟩,hg,h⟩:=ob h
 refine wpS.only 4 (oX 20 hs 1 rfl (keccak_xor.ok hg _ (hs.blkAt 1 rfl)) ?_)
 intro w kp hs
 have hs:=hs.conv (L':=[.blk b2 (vl [I8 0]++enc .u64 (zeroA 25)++vl [I8 0,.bool false]) 88,.blk b1 (vl [I8 r6_0]++enc .u64 r6_1++vl [I8 r6_2,.bool r6_3]) 88]) rfl
 refine ⟨fun _=>trivial,?_⟩
 refine fj j14 s13 (xs fun _ s15=>(xn 9 fun _ j16=>(qo 0 21 (.pointer (some ⟨b1,1,none⟩)) (tkt 1 22 (ag .u64 r6_1) (yN hs 1 1 25 86 rfl (mid_of rfl) (enc_len _ _) .grow) ?_))))
 obtain ⟨r7,hg,h⟩:=ob h
 refine so 2 (oC 23 hs (keccak_Permute.ok hg _ (rR 0 hs) (rR 1 hs) (rR 2 hs)) fun w gw hs=>?_)
 refine qo 3 24 (.pointer (some ⟨b1,1,none⟩)) (so 4 (oM 86 (ag .u64 r7) 1 25 (enc .u64 r7) hs 1 rfl (enc_len _ _) (by simp [enc_len]) (enc_one _ _) (splice_row rfl) fun w kp hs=>(qo 5 25 (.pointer (some ⟨b1,26,none⟩)) ?_)))
 refine wpS.only 6 (oQ 3 (I8 0) 26 hs 1 rfl rfl (by simp [enc_len]) (set_post 0 rfl) ?_)
 intro w kp hs
 try dsimp only [List.set] at hs
 refine ⟨fun _=>trivial,?_⟩
 refine qo 7 26 (.pointer (some ⟨b1,27,none⟩)) ?_
 refine wpS.only 8 (oQ 4 (.bool true) 27 hs 1 rfl rfl (by simp [enc_len]) (set_post 1 rfl) ?_)
 intro w kp hs
 try dsimp only [List.set] at hs
 refine ⟨fun _=>trivial,?_⟩
 refine fj j16 s15 (xs fun _ s17=>(xn 2 fun _ j18=>(tkt 0 27 _ (yWs 28 88 hs 1 .grow) (so 1 (oW 28 88 (.agg (vl [I8 r6_0]++enc .u64 r7++vl [I8 0,.bool true]).toArray) (vl [I8 r6_0]++enc .u64 r7++vl [I8 0,.bool true]) hs 0 rfl (by simp [enc_len]) (by simp [enc_len]) (one_app (one_app (by simp [Value.oneCell']) (fun u hu=>enc_one _ _ u hu)) (by simp [Value.oneCell'])) fun w kp hs=>(fj j18 s17 (xret ?_)))))))
 obtain ⟨rfl,rfl,rfl,rfl⟩:=os4 h
 exact qq _ _ (pr (rr [.cell 2 88] [.agg (vl [I8 r6_0]++enc .u64 r7++vl [I8 0,.bool true]).toArray] (.cons (rcN 28 hs 0 rfl (by simp [enc_len])) .nil)) ⟨cr,hs.none⟩)
theorem keccak_Squeeze.ok {K:Nat}{a0_0:Int}{a0_1:Arr 25}{a0_2:Int}{a0_3:Bool}{a1 r0_0:Int}{r0_1:Arr 25}{r0_2:Int}{r0_3:Bool}{r1:List Int}(h:keccak_Squeeze.f K a0_0 a0_1 a0_2 a0_3 a1=some (r0_0,r0_1,r0_2,r0_3,r1)) (w0:World) (hg0:RowL CW w0 (some ⟨0,0,none⟩) 1 1 [tab_0]) (hg1:RowL CV w0 (some ⟨1,0,none⟩) 1 1 [tab_1]) (hg2:RowL CV w0 (some ⟨2,0,none⟩) 1 1 [tab_2]):Calls Tryz.prog 77 #[.agg (vl [I8 a0_0]++enc .u64 a0_1++vl [I8 a0_2,.bool a0_3]).toArray,I8 a1] w0 fun e w'=>∃ h:(Option Addr × Nat × Nat),e = .returned (.tuple #[.agg (vl [I8 r0_0]++enc .u64 r0_1++vl [I8 r0_2,.bool r0_3]).toArray,.slice h.1 h.2.1 h.2.2])∧St w0 [] [.ownL CB h.1 h.2.1 h.2.2 r1 5] [] w':=by
 refine calls_k Tryz.func77 rfl fun Q qq=>?_
 have hs:=St.startR (all_cons (RowP.ent hg0) (all_cons (RowP.ent hg1) (all_cons (RowP.ent hg2) all_nil)))
 refine wc (a':=(fu 54 [.agg (vl [I8 a0_0]++enc .u64 a0_1++vl [I8 a0_2,.bool a0_3]).toArray,I8 a1])) (xs fun _ s1=>(xn 3 fun _ j2=>(so 0 (oB 2 88 (.agg (vl [I8 a0_0]++enc .u64 a0_1++vl [I8 a0_2,.bool a0_3]).toArray) hs (vl [I8 a0_0]++enc .u64 a0_1++vl [I8 a0_2,.bool a0_3]) fun b1 w gw hs=>(so 1 (oN 4 88 hs (vl [I8 0]++enc .u64 (zeroA 25)++vl [I8 0,.bool false]) (.agg (vl [I8 0]++enc .u64 (zeroA 25)++vl [I8 0,.bool false]).toArray) fun b2 w gw hs=>?_))))))
 refine qo 2 5 (.slice none 0 0) (fj j2 s1 (xs fun _ s3=>(xs fun _ s4=>(xn 2 fun _ j5=>(qo 0 8 (I8 a1) ?_)))))
 obtain ⟨hc,h⟩|⟨hc,h⟩:=of_if h
 refine tb 1 9 (dt hc) ?_
 refine fj j5 s4 (ct (xs fun _ s6=>(xn 3 fun _ j7=>(tkt 0 10 _ (yWs 28 88 hs 1 .grow) (so 1 (oW 28 88 (.agg (vl [I8 a0_0]++enc .u64 a0_1++vl [I8 a0_2,.bool a0_3]).toArray) (vl [I8 a0_0]++enc .u64 a0_1++vl [I8 a0_2,.bool a0_3]) hs 0 rfl (by simp [enc_len]) (by simp [enc_len]) (one_app (one_app (by simp [Value.oneCell']) (fun u hu=>enc_one _ _ u hu)) (by simp [Value.oneCell'])) fun w kp hs=>(qo 2 5 (.slice none 0 0) (fj j7 s6 (xret (tr ?_))))))))))
 obtain ⟨rfl,rfl,rfl,rfl,rfl⟩:=os5 h
 have hs:=hs.addNilL CB 5
 exact qq _ _ (pr (rr [.cell 4 88,.tmp 5] [.agg (vl [I8 a0_0]++enc .u64 a0_1++vl [I8 a0_2,.bool a0_3]).toArray,.slice none 0 0] (.cons (rcN 28 hs 1 rfl (by simp [enc_len])) (.cons rt .nil))) ⟨⟨none,0,0⟩,cr,(pz (dr [1,0,0] hs))⟩)
 refine tb 1 9 (df hc) (fj j5 s4 (cf (xk (T s3 (?_)))))
 obtain ⟨⟨y3_0,y3_1,y3_2,y3_3⟩,hj,h⟩:=ob h
 refine xs fun _ s9=>wp_join (N:=fun a w=>St w0 [] [.blk b2 (vl [I8 0]++enc .u64 (zeroA 25)++vl [I8 0,.bool false]) 88,.blk b1 (vl [I8 y3_0]++enc .u64 y3_1++vl [I8 y3_2,.bool y3_3]) 88] [.rowL CW (some ⟨0,0,none⟩) 1 1 ([tab_0]),.rowL CV (some ⟨1,0,none⟩) 1 1 ([tab_1]),.rowL CV (some ⟨2,0,none⟩) 1 1 ([tab_2])] w∧∃ g8,a=fr g8 56 [(1,[I8 a1,P0 b1]),(4,[P0 b2,.slice none 0 0])]) (fun N nj=>?_) ?_
 clear h
 have h:=hj
 refine xs fun _ s10=>(xn 3 fun _ j11=>(qo 0 11 (.pointer (some ⟨b1,27,none⟩)) ?_))
 cases a0_3 with
 | true=>
  have h:=of_if_t h
  refine tkt 1 12 _ (yv hs 1 27 4 rfl (get_post 1 rfl rfl) .grow) (qo 2 13 (.bool false) (fj j11 s10 (cf (xk ?_))))
  obtain ⟨rfl,rfl,rfl,rfl⟩:=os4 h
  exact nj _ _ ⟨(hs.conv rfl),eg⟩
 | false=>
  have h:=of_if_f h
  refine tkt 1 12 _ (yv hs 1 27 4 rfl (get_post 1 rfl rfl) .grow) (qo 2 13 (.bool true) (fj j11 s10 (ct (xn 3 fun _ j12=>(tkt 0 14 _ (yWs 28 88 hs 1 .grow) ?_)))))
  obtain ⟨⟨r4_0,r4_1,r4_2,r4_3⟩,hg,h⟩:=ob h
  refine so 1 (oC 15 hs (keccak_turned.ok hg _ (rR 0 hs) (rR 1 hs) (rR 2 hs)) fun w gw hs=>?_)
  refine so 2 (oW 28 88 (.agg (vl [I8 r4_0]++enc .u64 r4_1++vl [I8 r4_2,.bool r4_3]).toArray) (vl [I8 r4_0]++enc .u64 r4_1++vl [I8 r4_2,.bool r4_3]) hs 1 rfl (by simp [enc_len]) (by simp [enc_len]) (one_app (one_app (by simp [Value.oneCell']) (fun u hu=>enc_one _ _ u hu)) (by simp [Value.oneCell'])) fun w kp hs=>?_)
  refine fin (j12 _ _ ?_)
  obtain ⟨rfl,rfl,rfl,rfl⟩:=os4 h
  exact nj _ _ ⟨(hs.conv rfl),eg⟩
 clear hj hs
 rintro a w ⟨hs,g8,rfl⟩
 refine T s9 (xs fun _ s13=>(xn 3 fun _ j14=>(qo 0 16 (I8 a1) ?_)))
 obtain ⟨h0,h1,h⟩:=oc2 h
 refine so 1 (oMk (C:=CB) 17 24 5 1 140737488355328 .i64 .i64 a1 hs h0 h1 (by decide) (by decide) fun s5_A s5_n s5_c w gw hs=>?_)
 refine qo 2 6 (.slice s5_A s5_n s5_c) (fj j14 s13 (xs fun _ s15=>(xs fun _ s16=>(xn 3 fun _ j17=>(qo 0 18 (.slice s5_A s5_n s5_c) (tkf 1 19 (I8 ((List.replicate (a1:Int).toNat (Cod.zero CB)).length:Int)) (yl (rL 0 hs)) (qo 2 20 (I8 0) ?_)))))))
 refine fj j17 s16 (?_)
 obtain ⟨⟨y9,y10_0,y10_1,y10_2,y10_3⟩,hy,hk0⟩:=ob h
 refine wp_exq (N:=fun a w=>St w0 [] [.ownL CB s5_A s5_n s5_c y9 5,.blk b2 (vl [I8 0]++enc .u64 (zeroA 25)++vl [I8 0,.bool false]) 88,.blk b1 (vl [I8 y10_0]++enc .u64 y10_1++vl [I8 y10_2,.bool y10_3]) 88] [.rowL CW (some ⟨0,0,none⟩) 1 1 ([tab_0]),.rowL CV (some ⟨1,0,none⟩) 1 1 ([tab_1]),.rowL CV (some ⟨2,0,none⟩) 1 1 ([tab_2])] w∧∃ g19,a=fr g19 56 [(2,[P0 b1]),(4,[P0 b2,.slice none 0 0,.slice s5_A s5_n s5_c])]) (fun N0 nn0=>?_) ?_
 clear hk0
 refine xb ?_
 refine wp_loop_k (fun n a w=>∃ z6 z7 z8_0 z8_1 z8_2 z8_3,keccak_Squeeze.l0 K n a1 z6 z7 z8_0 z8_1 z8_2 z8_3=some (y9,y10_0,y10_1,y10_2,y10_3)∧St w0 [] [.ownL CB s5_A s5_n s5_c z7 5,.blk b2 (vl [I8 0]++enc .u64 (zeroA 25)++vl [I8 0,.bool false]) 88,.blk b1 (vl [I8 z8_0]++enc .u64 z8_1++vl [I8 z8_2,.bool z8_3]) 88] [.rowL CW (some ⟨0,0,none⟩) 1 1 ([tab_0]),.rowL CV (some ⟨1,0,none⟩) 1 1 ([tab_1]),.rowL CV (some ⟨2,0,none⟩) 1 1 ([tab_2])] w∧∃ g18,a=fr g18 56 [(2,[P0 b1]),(4,[P0 b2,.slice none 0 0,.slice s5_A s5_n s5_c]),(19,[I8 ((List.replicate (a1:Int).toNat (Cod.zero CB)).length:Int),I8 z6])]) K ⟨0,(List.replicate (a1:Int).toNat (Cod.zero CB)),y3_0,y3_1,y3_2,y3_3,hy,hs.conv rfl,eg⟩ ?_
 clear hs h hy
 rintro n a w ⟨z6,z7,z8_0,z8_1,z8_2,z8_3,h,hs,g18,rfl⟩ KL0 kl0
 cases n with
 | zero=>exact nomatch (show none=some _ from h)
 | succ n=>
  refine xs fun _ s20=>(xn 1 fun _ j21=>?_)
  obtain ⟨hc,h⟩|⟨hc,h⟩:=of_if h
  refine tb 0 21 (dt hc) ?_
  refine fj j21 s20 (xs fun _ s22=>(ct (xk (T s22 (xs fun _ s23=>(xb (xs fun _ s24=>(xn 2 fun _ j25=>(nq 0 [(22,I8 z6),(7,I8 z6)] (fj j25 s24 (?_)))))))))))
  obtain ⟨⟨y11_0,y11_1,y11_2,y11_3⟩,hj,h⟩:=ob h
  refine xs fun _ s27=>wp_join (N:=fun a w=>St w0 [] [.ownL CB s5_A s5_n s5_c z7 5,.blk b2 (vl [I8 0]++enc .u64 (zeroA 25)++vl [I8 0,.bool false]) 88,.blk b1 (vl [I8 y11_0]++enc .u64 y11_1++vl [I8 y11_2,.bool y11_3]) 88] [.rowL CW (some ⟨0,0,none⟩) 1 1 ([tab_0]),.rowL CV (some ⟨1,0,none⟩) 1 1 ([tab_1]),.rowL CV (some ⟨2,0,none⟩) 1 1 ([tab_2])] w∧∃ g26,a=fr g26 56 [(2,[P0 b1]),(4,[P0 b2,.slice none 0 0,.slice s5_A s5_n s5_c,I8 z6]),(19,[I8 ((List.replicate (a1:Int).toNat (Cod.zero CB)).length:Int),I8 z6])]) (fun N nj=>?_) ?_
  clear h
  have h:=hj
  refine xs fun _ s28=>?_
  refine rg [] (fun k=>True) 6 fun _ j29=>?_
  have hs:=hs.drawn1
  refine gq 0 23 (.pointer (some ⟨b1,26,none⟩)) (tgt 1 24 _ (yv hs 2 26 3 rfl (get_post 0 rfl rfl) .grow) (gq 2 25 (P0 b1) (tgt 3 26 _ (yv hs 2 0 3 rfl (get_pre rfl) .grow) ?_)))
  obtain ⟨r12,hg,h⟩:=ob h
  refine go 4 (oC 27 hs (keccak_rate.ok hg _) fun w gw hs=>⟨.of gw,?_⟩)
  obtain ⟨hc,h⟩|⟨hc,h⟩:=of_if h
  refine gb 5 28 (et hc) ?_
  refine gf (j29 _ _ (T s28 (ct (xn 7 fun _ j30=>(qo 0 29 (.pointer (some ⟨b1,1,none⟩)) (tkt 1 30 (ag .u64 z8_1) (yN hs 2 1 25 86 rfl (mid_of rfl) (enc_len _ _) .grow) ?_))))))
  obtain ⟨r13,hg,h⟩:=ob h
  refine so 2 (oC 31 hs (keccak_Permute.ok hg _ (rR 0 hs) (rR 1 hs) (rR 2 hs)) fun w gw hs=>?_)
  refine qo 3 32 (.pointer (some ⟨b1,1,none⟩)) (so 4 (oM 86 (ag .u64 r13) 1 25 (enc .u64 r13) hs 2 rfl (enc_len _ _) (by simp [enc_len]) (enc_one _ _) (splice_row rfl) fun w kp hs=>(qo 5 33 (.pointer (some ⟨b1,26,none⟩)) ?_)))
  refine wpS.only 6 (oQ 3 (I8 0) 26 hs 2 rfl rfl (by simp [enc_len]) (set_post 0 rfl) ?_)
  intro w kp hs
  try dsimp only [List.set] at hs
  refine ⟨fun _=>trivial,?_⟩
  refine fin (j30 _ _ ?_)
  obtain ⟨rfl,rfl,rfl,rfl⟩:=os4 h
  exact nj _ _ ⟨(hs.conv rfl),eg⟩
  refine gb 5 28 (ef hc) (gf (j29 _ _ (T s28 (cf (xk ?_)))))
  obtain ⟨rfl,rfl,rfl,rfl⟩:=os4 h
  exact nj _ _ ⟨(hs.conv rfl),eg⟩
  clear hj hs
  rintro a w ⟨hs,g26,rfl⟩
  refine T s27 (xs fun _ s31=>?_)
  refine rg [15] (fun k=>True) 16 fun _ j32=>?_
  have hs:=hs.drawn1
  refine gq 0 34 (.slice s5_A s5_n s5_c) (gq 1 35 (I8 z6) (gq 2 36 (.pointer (some ⟨b1,26,none⟩)) (tgt 3 37 _ (yv hs 2 26 3 rfl (get_post 0 rfl rfl) .grow) (gq 4 38 (I8 (iquo .i64 y11_2 8)) ?_))))
  refine gq 5 39 (.pointer (some ⟨b1,1,none⟩)) ?_
  obtain ⟨x14,hx,h⟩:=ob h
  have hx:=of_some hx
  subst hx
  obtain ⟨i0_33,i1_33,h⟩:=oc2 h
  refine tgf 6 40 (.pointer (some ⟨b1,1+((iquo .i64 y11_2 8):Int).toNat*1,none⟩)) (yi 86 85 25 1 .i64 (iquo .i64 y11_2 8) i0_33 i1_33) (tgt 7 41 (U8 (rd y11_1 (iquo .i64 y11_2 8))) (yP 1 hs 2 85 (iquo .i64 y11_2 8) rfl i0_33 i1_33 (by simp [enc_len]) .grow) (gq 8 42 (.pointer (some ⟨b1,26,none⟩)) (tgt 9 43 _ (yv hs 2 26 3 rfl (get_post 0 rfl rfl) .grow) (gq 10 44 (I8 (irem .i64 y11_2 8)) ?_))))
  refine gq 11 45 (I8 (imul .i64 8 (irem .i64 y11_2 8))) ?_
  obtain ⟨h0,h⟩:=oc h
  refine tgf 12 46 (U8 (ishr .u64 (rd y11_1 (iquo .i64 y11_2 8)) (imul .i64 8 (irem .i64 y11_2 8)))) (ysr 85 .i64 h0) (gq 13 47 (U1 (iconv .u8 (ishr .u64 (rd y11_1 (iquo .i64 y11_2 8)) (imul .i64 8 (irem .i64 y11_2 8))))) ?_)
  obtain ⟨h0,h1,h⟩:=oc2 h
  have i0_34:=h0
  have i1_34:=h1
  refine tgf 14 48 (PA CB s5_A z6) (yiL (C:=CB) 24 5 .i64 z6 (rL 0 hs) h0 h1) ?_
  obtain ⟨x15,hx,h⟩:=ob h
  refine go 15 (oL (C:=CB) (he:=by cases hx; kernel_rfl) 5 z6 x15 hs 0 rfl i0_34 i1_34 fun w hs=>⟨⟨fun hf=>absurd hf (by decide),.all _ _⟩,?_⟩)
  refine gf (j32 _ _ (T s31 (xn 5 fun _ j35=>(qo 0 49 (.pointer (some ⟨b1,26,none⟩)) (tkt 1 50 _ (yv hs 2 26 3 rfl (get_post 0 rfl rfl) .grow) (nq 2 [(51,I8 (iadd .i64 y11_2 1)),(52,.pointer (some ⟨b1,26,none⟩))] ?_))))))
  obtain ⟨x16,hx,h⟩:=ob h
  refine wpS.only 4 (oQ (he:=by cases hx; kernel_rfl) 3 (I8 x16) 26 hs 2 rfl rfl (by simp [enc_len]) (set_post 0 rfl) ?_)
  intro w kp hs
  try dsimp only [List.set] at hs
  refine ⟨fun _=>trivial,?_⟩
  refine fin (j35 _ _ (iN (T s23 (xn 2 fun _ j36=>(nq 0 [(53,I8 (iadd .i64 z6 1)),(20,I8 (iadd .i64 z6 1))] (fin (j36 _ _ ?_)))))))
  exact tn (kl0 _ _ ⟨n,ls n,(iadd .i64 z6 1),(wrL z7 z6 x15),y11_0,y11_1,x16,y11_3,h,(hs.conv rfl),eg⟩)
  refine tb 0 21 (df hc) (fj j21 s20 (xs fun _ s37=>(cf (xexit (tx (tx (iH ?_)))))))
  obtain ⟨rfl,rfl,rfl,rfl,rfl⟩:=os5 h
  exact exq_n (nn0 _ _ ⟨(hs.conv rfl),eg⟩)
 clear hs h hy
 rintro a w ⟨hs,g19,rfl⟩
 have h:=hk0
 refine T s15 (xs fun _ s38=>(xn 4 fun _ j39=>(tkt 0 54 _ (yWs 28 88 hs 2 .grow) (qo 1 55 (.slice s5_A s5_n s5_c) (so 2 (oW 28 88 (.agg (vl [I8 y10_0]++enc .u64 y10_1++vl [I8 y10_2,.bool y10_3]).toArray) (vl [I8 y10_0]++enc .u64 y10_1++vl [I8 y10_2,.bool y10_3]) hs 1 rfl (by simp [enc_len]) (by simp [enc_len]) (one_app (one_app (by simp [Value.oneCell']) (fun u hu=>enc_one _ _ u hu)) (by simp [Value.oneCell'])) fun w kp hs=>(qo 3 5 (.slice s5_A s5_n s5_c) ?_)))))))
 refine fj j39 s38 (xret ?_)
 obtain ⟨rfl,rfl,rfl,rfl,rfl⟩:=os5 h
 exact qq _ _ (pr (rr [.cell 4 88,.tmp 5] [.agg (vl [I8 y10_0]++enc .u64 y10_1++vl [I8 y10_2,.bool y10_3]).toArray,.slice s5_A s5_n s5_c] (.cons (rcN 28 hs 1 rfl (by simp [enc_len])) (.cons rt .nil))) ⟨⟨s5_A,s5_n,s5_c⟩,cr,(pz (dr [1,0,0] hs))⟩)
end Go.Proofs.YtemdbgmldljbpaaGreatDoor
