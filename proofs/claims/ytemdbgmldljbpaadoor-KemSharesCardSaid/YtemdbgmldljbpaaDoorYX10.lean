/- own -/
import Derived.Test.YtemdbgmldljbpaaDoorMh
import Derived.Test.YtemdbgmldljbpaaDoorProg
import Derived.Test.YtemdbgmldljbpaaDoorYFKemShares
import Derived.Test.YtemdbgmldljbpaaDoorYX0
set_option linter.unusedVariables false
set_option linter.unusedSimpArgs false
set_option maxRecDepth 100000
set_option maxHeartbeats 4000000
namespace Go.Proofs.YtemdbgmldljbpaaDoor
open Go.Mx
attribute [local irreducible] wpOp
theorem ref26_Known.ok {K:Nat}{a0_0 a0_1 a0_2 a0_3 a0_4:Int}{r0:Bool}(h:ref26_Known.f K a0_0 a0_1 a0_2 a0_3 a0_4=some r0) (w0:World):Ret Tryd.prog 34 #[.agg #[I8 a0_0,I8 a0_1,I8 a0_2,I8 a0_3,I8 a0_4]] w0 (.bool r0):=by
 refine calls_k Tryd.func34 rfl fun Q qq=>?_
 have hs:=St.start w0
 refine wc (a':=(fu 33 [.agg #[I8 a0_0,I8 a0_1,I8 a0_2,I8 a0_3,I8 a0_4]])) ?_
 refine xs fun _ s1=>?_
 refine xn 2 fun _ j2=>?_
 refine so 0 (oBa 1 23 hs [I8 a0_0,I8 a0_1,I8 a0_2,I8 a0_3,I8 a0_4] fun b1 w gw hs=>?_)
 refine qo 1 2 (.bool false) ?_
 refine fj j2 s1 (xs fun _ s3=>(xn 7 fun _ j4=>?_))
 obtain ⟨⟨r2_0,r2_1,r2_2,r2_3,r2_4,r3⟩,hg,h⟩:=ob h
 refine so 0 (oC 10 hs (ref26_Set.ok hg _) fun w gw hs=>?_)
 refine nq 1 [(9,.tuple #[.agg #[I8 r2_0,I8 r2_1,I8 r2_2,I8 r2_3,I8 r2_4],.bool r3]),(11,.agg #[I8 r2_0,I8 r2_1,I8 r2_2,I8 r2_3,I8 r2_4]),(12,.bool r3)] ?_
 refine so 4 (oNa 3 23 hs [I8 0,I8 0,I8 0,I8 0,I8 0] fun b4 w gw hs=>?_)
 refine so 5 (oWa 23 [I8 r2_0,I8 r2_1,I8 r2_2,I8 r2_3,I8 r2_4] hs 0 fun w kp hs=>?_)
 refine qo 6 4 (.bool r3) ?_
 refine fj j4 s3 (xs fun _ s5=>(xn 7 fun _ j6=>?_))
 obtain ⟨⟨r5_0,r5_1,r5_2,r5_3,r5_4,r6⟩,hg,h⟩:=ob h
 refine so 0 (oC 14 hs (ref26_Set.ok hg _) fun w gw hs=>?_)
 refine nq 1 [(13,.tuple #[.agg #[I8 r5_0,I8 r5_1,I8 r5_2,I8 r5_3,I8 r5_4],.bool r6]),(15,.agg #[I8 r5_0,I8 r5_1,I8 r5_2,I8 r5_3,I8 r5_4]),(16,.bool r6)] ?_
 refine so 4 (oNa 5 23 hs [I8 0,I8 0,I8 0,I8 0,I8 0] fun b7 w gw hs=>?_)
 refine so 5 (oWa 23 [I8 r5_0,I8 r5_1,I8 r5_2,I8 r5_3,I8 r5_4] hs 0 fun w kp hs=>?_)
 refine qo 6 6 (.bool r6) ?_
 refine fj j6 s5 (xs fun _ s7=>(xn 7 fun _ j8=>?_))
 obtain ⟨⟨r8_0,r8_1,r8_2,r8_3,r8_4,r9⟩,hg,h⟩:=ob h
 refine so 0 (oC 18 hs (ref26_Set.ok hg _) fun w gw hs=>?_)
 refine nq 1 [(17,.tuple #[.agg #[I8 r8_0,I8 r8_1,I8 r8_2,I8 r8_3,I8 r8_4],.bool r9]),(19,.agg #[I8 r8_0,I8 r8_1,I8 r8_2,I8 r8_3,I8 r8_4]),(20,.bool r9)] ?_
 refine so 4 (oNa 7 23 hs [I8 0,I8 0,I8 0,I8 0,I8 0] fun b10 w gw hs=>?_)
 refine so 5 (oWa 23 [I8 r8_0,I8 r8_1,I8 r8_2,I8 r8_3,I8 r8_4] hs 0 fun w kp hs=>?_)
 refine qo 6 8 (.bool r9) ?_
 refine fj j8 s7 (xs fun _ s9=>(xn 14 fun _ j10=>?_))
 refine tkt 0 21 _ (yWs 5 23 hs 3 .grow) ?_
 refine tkt 1 22 _ (yWs 5 23 hs 2 .grow) ?_
 rcases of_ifb h with ⟨hc,h⟩ | ⟨hc,h⟩
 refine tkf 2 23 (.bool true) (yld_bb hc (yld_eqS (fs:=[Field.mk "K" 3 0 false "" "" 0,Field.mk "Eta1" 3 1 false "" "" 8,Field.mk "Eta2" 3 2 false "" "" 16,Field.mk "Du" 3 3 false "" "" 24,Field.mk "Dv" 3 4 false "" "" 32]) (xs:=[I8 a0_0,I8 a0_1,I8 a0_2,I8 a0_3,I8 a0_4]) (ys:=[I8 r2_0,I8 r2_1,I8 r2_2,I8 r2_3,I8 r2_4]) (t:=23) (.tmp 21) (.tmp 22) (by kernel_rfl) (by kernel_rfl) (by kernel_rfl) (by kernel_rfl) (.cons rfl (fun w=>Go.Mx.run_part1 (by kernel_rfl) rfl) (fun w=>Go.Mx.run_part1 (by kernel_rfl) rfl) (fun w=>Go.Mx.run_equalIn_int (by kernel_rfl)) (.cons rfl (fun w=>Go.Mx.run_part1 (by kernel_rfl) rfl) (fun w=>Go.Mx.run_part1 (by kernel_rfl) rfl) (fun w=>Go.Mx.run_equalIn_int (by kernel_rfl)) (.cons rfl (fun w=>Go.Mx.run_part1 (by kernel_rfl) rfl) (fun w=>Go.Mx.run_part1 (by kernel_rfl) rfl) (fun w=>Go.Mx.run_equalIn_int (by kernel_rfl)) (.cons rfl (fun w=>Go.Mx.run_part1 (by kernel_rfl) rfl) (fun w=>Go.Mx.run_part1 (by kernel_rfl) rfl) (fun w=>Go.Mx.run_equalIn_int (by kernel_rfl)) (.cons rfl (fun w=>Go.Mx.run_part1 (by kernel_rfl) rfl) (fun w=>Go.Mx.run_part1 (by kernel_rfl) rfl) (fun w=>Go.Mx.run_equalIn_int (by kernel_rfl)) .nil))))))) ?_
 refine nq 3 [(24,.bool true),(25,undef),(26,undef),(27,undef),(28,.bool true),(29,.bool true),(30,undef),(31,undef),(32,undef),(33,.bool true),(2,.bool true)] ?_
 refine fj j10 s9 (xret ?_)
 obtain rfl:=of_some h
 exact qq _ _ (pt [2] [.bool true] ⟨cr,hs.none⟩)
 refine tkf 2 23 (.bool false) (yld_bb hc (yld_eqS (fs:=[Field.mk "K" 3 0 false "" "" 0,Field.mk "Eta1" 3 1 false "" "" 8,Field.mk "Eta2" 3 2 false "" "" 16,Field.mk "Du" 3 3 false "" "" 24,Field.mk "Dv" 3 4 false "" "" 32]) (xs:=[I8 a0_0,I8 a0_1,I8 a0_2,I8 a0_3,I8 a0_4]) (ys:=[I8 r2_0,I8 r2_1,I8 r2_2,I8 r2_3,I8 r2_4]) (t:=23) (.tmp 21) (.tmp 22) (by kernel_rfl) (by kernel_rfl) (by kernel_rfl) (by kernel_rfl) (.cons rfl (fun w=>Go.Mx.run_part1 (by kernel_rfl) rfl) (fun w=>Go.Mx.run_part1 (by kernel_rfl) rfl) (fun w=>Go.Mx.run_equalIn_int (by kernel_rfl)) (.cons rfl (fun w=>Go.Mx.run_part1 (by kernel_rfl) rfl) (fun w=>Go.Mx.run_part1 (by kernel_rfl) rfl) (fun w=>Go.Mx.run_equalIn_int (by kernel_rfl)) (.cons rfl (fun w=>Go.Mx.run_part1 (by kernel_rfl) rfl) (fun w=>Go.Mx.run_part1 (by kernel_rfl) rfl) (fun w=>Go.Mx.run_equalIn_int (by kernel_rfl)) (.cons rfl (fun w=>Go.Mx.run_part1 (by kernel_rfl) rfl) (fun w=>Go.Mx.run_part1 (by kernel_rfl) rfl) (fun w=>Go.Mx.run_equalIn_int (by kernel_rfl)) (.cons rfl (fun w=>Go.Mx.run_part1 (by kernel_rfl) rfl) (fun w=>Go.Mx.run_part1 (by kernel_rfl) rfl) (fun w=>Go.Mx.run_equalIn_int (by kernel_rfl)) .nil))))))) ?_
 refine qo 3 24 (.bool false) ?_
 refine tkt 4 25 _ (yWs 5 23 hs 3 .grow) ?_
 refine tkt 5 26 _ (yWs 5 23 hs 1 .grow) ?_
 rcases of_ifb h with ⟨hc,h⟩ | ⟨hc,h⟩
 refine tkf 6 27 (.bool true) (yld_bb hc (yld_eqS (fs:=[Field.mk "K" 3 0 false "" "" 0,Field.mk "Eta1" 3 1 false "" "" 8,Field.mk "Eta2" 3 2 false "" "" 16,Field.mk "Du" 3 3 false "" "" 24,Field.mk "Dv" 3 4 false "" "" 32]) (xs:=[I8 a0_0,I8 a0_1,I8 a0_2,I8 a0_3,I8 a0_4]) (ys:=[I8 r5_0,I8 r5_1,I8 r5_2,I8 r5_3,I8 r5_4]) (t:=23) (.tmp 25) (.tmp 26) (by kernel_rfl) (by kernel_rfl) (by kernel_rfl) (by kernel_rfl) (.cons rfl (fun w=>Go.Mx.run_part1 (by kernel_rfl) rfl) (fun w=>Go.Mx.run_part1 (by kernel_rfl) rfl) (fun w=>Go.Mx.run_equalIn_int (by kernel_rfl)) (.cons rfl (fun w=>Go.Mx.run_part1 (by kernel_rfl) rfl) (fun w=>Go.Mx.run_part1 (by kernel_rfl) rfl) (fun w=>Go.Mx.run_equalIn_int (by kernel_rfl)) (.cons rfl (fun w=>Go.Mx.run_part1 (by kernel_rfl) rfl) (fun w=>Go.Mx.run_part1 (by kernel_rfl) rfl) (fun w=>Go.Mx.run_equalIn_int (by kernel_rfl)) (.cons rfl (fun w=>Go.Mx.run_part1 (by kernel_rfl) rfl) (fun w=>Go.Mx.run_part1 (by kernel_rfl) rfl) (fun w=>Go.Mx.run_equalIn_int (by kernel_rfl)) (.cons rfl (fun w=>Go.Mx.run_part1 (by kernel_rfl) rfl) (fun w=>Go.Mx.run_part1 (by kernel_rfl) rfl) (fun w=>Go.Mx.run_equalIn_int (by kernel_rfl)) .nil))))))) ?_
 refine nq 7 [(28,.bool true),(29,.bool true),(30,undef),(31,undef),(32,undef),(33,.bool true),(2,.bool true)] ?_
 refine fj j10 s9 (xret ?_)
 obtain rfl:=of_some h
 exact qq _ _ (pt [2] [.bool true] ⟨cr,hs.none⟩)
 refine tkf 6 27 (.bool false) (yld_bb hc (yld_eqS (fs:=[Field.mk "K" 3 0 false "" "" 0,Field.mk "Eta1" 3 1 false "" "" 8,Field.mk "Eta2" 3 2 false "" "" 16,Field.mk "Du" 3 3 false "" "" 24,Field.mk "Dv" 3 4 false "" "" 32]) (xs:=[I8 a0_0,I8 a0_1,I8 a0_2,I8 a0_3,I8 a0_4]) (ys:=[I8 r5_0,I8 r5_1,I8 r5_2,I8 r5_3,I8 r5_4]) (t:=23) (.tmp 25) (.tmp 26) (by kernel_rfl) (by kernel_rfl) (by kernel_rfl) (by kernel_rfl) (.cons rfl (fun w=>Go.Mx.run_part1 (by kernel_rfl) rfl) (fun w=>Go.Mx.run_part1 (by kernel_rfl) rfl) (fun w=>Go.Mx.run_equalIn_int (by kernel_rfl)) (.cons rfl (fun w=>Go.Mx.run_part1 (by kernel_rfl) rfl) (fun w=>Go.Mx.run_part1 (by kernel_rfl) rfl) (fun w=>Go.Mx.run_equalIn_int (by kernel_rfl)) (.cons rfl (fun w=>Go.Mx.run_part1 (by kernel_rfl) rfl) (fun w=>Go.Mx.run_part1 (by kernel_rfl) rfl) (fun w=>Go.Mx.run_equalIn_int (by kernel_rfl)) (.cons rfl (fun w=>Go.Mx.run_part1 (by kernel_rfl) rfl) (fun w=>Go.Mx.run_part1 (by kernel_rfl) rfl) (fun w=>Go.Mx.run_equalIn_int (by kernel_rfl)) (.cons rfl (fun w=>Go.Mx.run_part1 (by kernel_rfl) rfl) (fun w=>Go.Mx.run_part1 (by kernel_rfl) rfl) (fun w=>Go.Mx.run_equalIn_int (by kernel_rfl)) .nil))))))) ?_
 refine nq 7 [(28,.bool false),(29,.bool false)] ?_
 refine tkt 9 30 _ (yWs 5 23 hs 3 .grow) ?_
 refine tkt 10 31 _ (yWs 5 23 hs 0 .grow) ?_
 refine tkf 11 32 (.bool ((a0_0 == r8_0) && ((a0_1 == r8_1) && ((a0_2 == r8_2) && ((a0_3 == r8_3) && ((a0_4 == r8_4) && true)))))) (yld_eqS (fs:=[Field.mk "K" 3 0 false "" "" 0,Field.mk "Eta1" 3 1 false "" "" 8,Field.mk "Eta2" 3 2 false "" "" 16,Field.mk "Du" 3 3 false "" "" 24,Field.mk "Dv" 3 4 false "" "" 32]) (xs:=[I8 a0_0,I8 a0_1,I8 a0_2,I8 a0_3,I8 a0_4]) (ys:=[I8 r8_0,I8 r8_1,I8 r8_2,I8 r8_3,I8 r8_4]) (t:=23) (.tmp 30) (.tmp 31) (by kernel_rfl) (by kernel_rfl) (by kernel_rfl) (by kernel_rfl) (.cons rfl (fun w=>Go.Mx.run_part1 (by kernel_rfl) rfl) (fun w=>Go.Mx.run_part1 (by kernel_rfl) rfl) (fun w=>Go.Mx.run_equalIn_int (by kernel_rfl)) (.cons rfl (fun w=>Go.Mx.run_part1 (by kernel_rfl) rfl) (fun w=>Go.Mx.run_part1 (by kernel_rfl) rfl) (fun w=>Go.Mx.run_equalIn_int (by kernel_rfl)) (.cons rfl (fun w=>Go.Mx.run_part1 (by kernel_rfl) rfl) (fun w=>Go.Mx.run_part1 (by kernel_rfl) rfl) (fun w=>Go.Mx.run_equalIn_int (by kernel_rfl)) (.cons rfl (fun w=>Go.Mx.run_part1 (by kernel_rfl) rfl) (fun w=>Go.Mx.run_part1 (by kernel_rfl) rfl) (fun w=>Go.Mx.run_equalIn_int (by kernel_rfl)) (.cons rfl (fun w=>Go.Mx.run_part1 (by kernel_rfl) rfl) (fun w=>Go.Mx.run_part1 (by kernel_rfl) rfl) (fun w=>Go.Mx.run_equalIn_int (by kernel_rfl)) .nil)))))) ?_
 refine nq 12 [(33,.bool ((a0_0 == r8_0) && ((a0_1 == r8_1) && ((a0_2 == r8_2) && ((a0_3 == r8_3) && ((a0_4 == r8_4) && true)))))),(2,.bool ((a0_0 == r8_0) && ((a0_1 == r8_1) && ((a0_2 == r8_2) && ((a0_3 == r8_3) && ((a0_4 == r8_4) && true))))))] ?_
 refine fj j10 s9 (xret ?_)
 obtain rfl:=of_some h
 exact qq _ _ (pt [2] [.bool ((a0_0 == r8_0) && ((a0_1 == r8_1) && ((a0_2 == r8_2) && ((a0_3 == r8_3) && ((a0_4 == r8_4) && true)))))] ⟨cr,hs.none⟩)
theorem ref26_Sizes.ok {K:Nat}{a0_0 a0_1 a0_2 a0_3 a0_4 r0 r1 r2:Int}(h:ref26_Sizes.f K a0_0 a0_1 a0_2 a0_3 a0_4=some (r0,r1,r2)) (w0:World):Ret Tryd.prog 13 #[.agg #[I8 a0_0,I8 a0_1,I8 a0_2,I8 a0_3,I8 a0_4]] w0 (.tuple #[I8 r0,I8 r1,I8 r2]):=by
 refine calls_k Tryd.func13 rfl fun Q qq=>?_
 have hs:=St.start w0
 refine wc (a':=(fu 23 [.agg #[I8 a0_0,I8 a0_1,I8 a0_2,I8 a0_3,I8 a0_4]])) ?_
 refine xs fun _ s1=>?_
 refine xn 4 fun _ j2=>?_
 refine so 0 (oBa 1 23 hs [I8 a0_0,I8 a0_1,I8 a0_2,I8 a0_3,I8 a0_4] fun b1 w gw hs=>?_)
 refine nq 1 [(2,I8 0),(3,I8 0),(4,I8 0)] ?_
 refine fj j2 s1 (xs fun _ s3=>(xs fun _ s4=>(xn 3 fun _ j5=>?_)))
 refine tkt 0 5 _ (yWs 5 23 hs 0 .grow) ?_
 obtain ⟨r2,hg,h⟩:=ob h
 cases r2 with
 | true=>
  have h:=of_if_t h
  refine so 1 (oC 6 hs (ref26_Known.ok hg _) fun w gw hs=>?_)
  refine qo 2 7 (.bool false) ?_
  refine fj j5 s4 (cf (xk (T s3 (xs fun _ s6=>?_))))
  refine rg [] (fun k=>True) 19 fun _ j7=>?_
  have hs:=hs.drawn1
  refine gq 0 8 (P0 b1) ?_
  refine tgt 1 9 _ (yv hs 0 0 3 rfl (by rfl) .grow) ?_
  refine gq 2 10 (I8 (imul .i64 384 a0_0)) ?_
  refine gq 3 11 (I8 (iadd .i64 (imul .i64 384 a0_0) 32)) ?_
  refine gq 4 12 (P0 b1) ?_
  refine tgt 5 13 _ (yv hs 0 0 3 rfl (by rfl) .grow) ?_
  refine gq 6 14 (I8 (imul .i64 384 a0_0)) ?_
  refine gq 7 15 (.pointer (some ⟨b1,3,none⟩)) ?_
  refine tgt 8 16 _ (yv hs 0 3 3 rfl (by rfl) .grow) ?_
  refine gq 9 17 (P0 b1) ?_
  refine tgt 10 18 _ (yv hs 0 0 3 rfl (by rfl) .grow) ?_
  refine gq 11 19 (I8 (imul .i64 a0_3 a0_0)) ?_
  refine gq 12 20 (.pointer (some ⟨b1,4,none⟩)) ?_
  refine tgt 13 21 _ (yv hs 0 4 3 rfl (by rfl) .grow) ?_
  refine gq 14 22 (I8 (iadd .i64 (imul .i64 a0_3 a0_0) a0_4)) ?_
  refine gq 15 23 (I8 (imul .i64 32 (iadd .i64 (imul .i64 a0_3 a0_0) a0_4))) ?_
  obtain ⟨x3,hx,h⟩:=ob h
  refine tgf 16 2 (I8 x3) (yn hx) ?_
  obtain ⟨x4,hx,h⟩:=ob h
  refine tgf 17 3 (I8 x4) (yn hx) ?_
  obtain ⟨x5,hx,h⟩:=ob h
  refine tgf 18 4 (I8 x5) (yn hx) ?_
  refine gf (j7 _ _ ?_)
  refine T s6 (xret ?_)
  obtain ⟨rfl,rfl,rfl⟩:=os3 h
  exact qq _ _ (pt [2,3,4] [I8 x3,I8 x4,I8 x5] ⟨cr,hs.none⟩)
 | false=>
  have h:=of_if_f h
  refine so 1 (oC 6 hs (ref26_Known.ok hg _) fun w gw hs=>?_)
  refine qo 2 7 (.bool true) ?_
  refine fj j5 s4 (ct (xs fun _ s8=>(xn 3 fun _ j9=>?_)))
  refine nq 0 [(2,I8 0),(3,I8 0),(4,I8 0)] ?_
  refine fj j9 s8 (xret (tr ?_))
  obtain ⟨rfl,rfl,rfl⟩:=os3 h
  exact qq _ _ (pt [2,3,4] [I8 0,I8 0,I8 0] ⟨cr,hs.none⟩)
theorem ref25_Below.ok {K:Nat}{a0:Arr 256}{a1:Int}{r0:Bool}(h:ref25_Below.f K a0 a1=some r0) (w0:World):Ret Tryd.prog 70 #[ag .i32 a0,I4 a1] w0 (.bool r0):=by
 refine calls_k Tryd.func70 rfl fun Q qq=>?_
 have hs:=St.start w0
 refine wc (a':=(fu 19 [ag .i32 a0,I4 a1])) ?_
 refine xs fun _ s1=>?_
 refine xn 2 fun _ j2=>?_
 refine so 0 (oBe 2 32 .i32 a0 hs fun b1 w gw hs=>?_)
 refine qo 1 4 (.bool false) ?_
 refine fj j2 s1 (xs fun _ s3=>(xs fun _ s4=>(xn 1 fun _ j5=>?_)))
 refine qo 0 5 (I8 0) ?_
 refine fj j5 s4 (?_)
 obtain ⟨t0,hy,hk0⟩:=ob h
 refine wp_exq (N:=fun a w=>t0 = .inl ()∧St w0 [] [.blk b1 (enc .i32 a0) 32] [] w∧∃ g7,a=fr g7 21 []) (fun N0 nn0=>?_) ?_
 refine xb ?_
 refine wp_loop_k (fun n a w=>∃ z2,ref25_Below.l0 K n a0 a1 z2=some t0∧St w0 [] [.blk b1 (enc .i32 a0) 32] [] w∧∃ g6,a=fr g6 21 [(1,[I4 a1,P0 b1]),(5,[I8 z2])]) K ⟨0,hy,hs.conv rfl,eg⟩ ?_
 clear hs h hy
 rintro n a w ⟨z2,h,hs,g6,rfl⟩ KL0 kl0
 cases n with
 | zero=>exact nomatch (show none=some _ from h)
 | succ n=>
  refine xs fun _ s8=>?_
  refine xs fun _ s9=>?_
  refine xn 2 fun _ j10=>?_
  refine qo 0 6 (I8 z2) ?_
  obtain ⟨hc,h⟩|⟨hc,h⟩:=of_if h
  refine tb 1 7 (dt hc) ?_
  refine fj j10 s9 (ct (xk (T s8 (xs fun _ s11=>(xb (xs fun _ s12=>(xn 11 fun _ j13=>?_)))))))
  refine qo 0 10 (I8 z2) ?_
  obtain ⟨i0_14,i1_14,h⟩:=oc2 h
  refine tkf 1 11 (P1 b1 z2) (yi 32 21 256 1 .i64 z2 i0_14 i1_14) ?_
  refine tkt 2 12 _ (yA hs 0 21 z2 rfl i0_14 i1_14 .grow) ?_
  obtain ⟨hc,h⟩|⟨hc,h⟩:=of_if h
  refine tb 3 13 (dt hc) ?_
  refine nq 4 [(14,.bool true),(15,undef),(16,undef),(17,undef),(18,undef),(19,undef),(20,.bool true)] ?_
  refine fj j13 s12 (ct (xs fun _ s15=>(xn 1 fun _ j16=>?_)))
  refine qo 0 4 (.bool false) ?_
  refine fj j16 s15 (xret (iR (tr (tr (iR (exq_r (tr ?_)))))))
  obtain rfl:=of_some h
  have q0:=of_some hk0
  subst q0
  exact qq _ _ (pt [4] [.bool false] ⟨cr,hs.none⟩)
  refine tb 3 13 (df hc) ?_
  refine nq 4 [(14,.bool false),(15,I8 z2)] ?_
  obtain ⟨i0_17,i1_17,h⟩:=oc2 h
  refine tkf 6 16 (P1 b1 z2) (yi 32 21 256 1 .i64 z2 i0_17 i1_17) ?_
  refine tkt 7 17 _ (yA hs 0 21 z2 rfl i0_17 i1_17 .grow) ?_
  refine qo 8 18 (I4 a1) ?_
  obtain ⟨hc,h⟩|⟨hc,h⟩:=of_if h
  refine tb 9 19 (dt hc) ?_
  refine qo 10 20 (.bool true) ?_
  refine fj j13 s12 (ct (xs fun _ s18=>(xn 1 fun _ j19=>?_)))
  refine qo 0 4 (.bool false) ?_
  refine fj j19 s18 (xret (iR (tr (tr (iR (exq_r (tr ?_)))))))
  obtain rfl:=of_some h
  have q0:=of_some hk0
  subst q0
  exact qq _ _ (pt [4] [.bool false] ⟨cr,hs.none⟩)
  refine tb 9 19 (df hc) ?_
  refine qo 10 20 (.bool false) ?_
  refine fj j13 s12 (cf (xk (iN (T s11 (xn 3 fun _ j20=>?_)))))
  refine nq 0 [(8,I8 z2),(9,I8 (iadd .i64 z2 1))] ?_
  obtain ⟨x3,hx,h⟩:=ob h
  refine tkf 2 5 (I8 x3) (yn hx) ?_
  refine fin (j20 _ _ ?_)
  exact tn (kl0 _ _ ⟨n,ls n,x3,h,(hs.conv rfl),eg⟩)
  refine tb 1 7 (df hc) ?_
  refine fj j10 s9 (cf (xexit (tx (tx (iH ?_)))))
  obtain rfl:=of_some h
  exact exq_n (nn0 _ _ ⟨rfl,(hs.conv rfl),eg⟩)
 clear hs h hy
 rintro a w ⟨rfl,hs,g7,rfl⟩
 have h:=hk0
 refine T s3 (xs fun _ s21=>(xn 1 fun _ j22=>?_))
 refine qo 0 4 (.bool true) ?_
 refine fj j22 s21 (xret ?_)
 obtain rfl:=of_some h
 exact qq _ _ (pt [4] [.bool true] ⟨cr,hs.none⟩)
theorem ref25_bound.ok {K:Nat}{a0 r0:Int}(h:ref25_bound.f K a0=some r0) (w0:World):Ret Tryd.prog 89 #[I8 a0] w0 (I4 r0):=by
 refine calls_k Tryd.func89 rfl fun Q qq=>?_
 have hs:=St.start w0
 refine wc (a':=(fu 6 [I8 a0])) ?_
 refine xs fun _ s1=>?_
 refine xn 1 fun _ j2=>?_
 refine qo 0 2 (I4 0) ?_
 refine fj j2 s1 (xs fun _ s3=>(xs fun _ s4=>(xn 2 fun _ j5=>?_)))
 refine qo 0 3 (I8 a0) ?_
 obtain ⟨hc,h⟩|⟨hc,h⟩:=of_if h
 refine tb 1 4 (et hc) ?_
 refine fj j5 s4 (ct (xs fun _ s6=>(xn 1 fun _ j7=>?_)))
 refine qo 0 2 (I4 3329) ?_
 refine fj j7 s6 (xret (tr ?_))
 obtain rfl:=of_some h
 exact qq _ _ (pt [2] [I4 3329] ⟨cr,hs.none⟩)
 refine tb 1 4 (ef hc) ?_
 refine fj j5 s4 (cf (xk (T s3 (xs fun _ s8=>(xn 3 fun _ j9=>?_)))))
 refine qo 0 5 (I8 a0) ?_
 obtain ⟨h0,h⟩:=oc h
 refine tkf 1 6 (I4 (ishl .i32 1 a0)) (ysl 21 .i64 h0) ?_
 obtain ⟨x1,hx,h⟩:=ob h
 refine tkf 2 2 (I4 x1) (yn hx) ?_
 refine fj j9 s8 (xret ?_)
 obtain rfl:=of_some h
 exact qq _ _ (pt [2] [I4 x1] ⟨cr,hs.none⟩)
theorem ref01_Pack.ok {K:Nat}{a0:List Int}{a1:Int}{r0:List Int}{a0_A:Option Addr}{a0_n a0_c:Nat}(h:ref01_Pack.f K a0 a1=some r0) (w0:World) (hp0:RowL (CI .u32) w0 a0_A a0_n a0_c a0):Calls Tryd.prog 90 #[.slice a0_A a0_n a0_c,I8 a1] w0 fun e w'=>∃ h:(Option Addr × Nat × Nat),e = .returned (.slice h.1 h.2.1 h.2.2)∧St w0 [] [.ownL CB h.1 h.2.1 h.2.2 r0 5] [] w':=by
 refine calls_k Tryd.func90 rfl fun Q qq=>?_
 have hs:=St.startR (all_cons (RowP.ent hp0) all_nil)
 refine wc (a':=(fu 58 [.slice a0_A a0_n a0_c,I8 a1])) ?_
 refine xs fun _ s1=>?_
 refine xn 1 fun _ j2=>?_
 refine qo 0 4 (.slice none 0 0) ?_
 refine fj j2 s1 (xs fun _ s3=>(xs fun _ s4=>(xn 6 fun _ j5=>?_)))
 refine qo 0 9 (I8 a1) ?_
 obtain ⟨hc,h⟩|⟨hc,h⟩:=of_if h
 refine tb 1 10 (dt hc) ?_
 refine nq 2 [(11,.bool true),(12,undef),(13,undef),(14,.bool true)] ?_
 refine fj j5 s4 (ct (xs fun _ s6=>(xn 1 fun _ j7=>?_)))
 refine qo 0 4 (.slice none 0 0) ?_
 refine fj j7 s6 (xret (tr ?_))
 obtain rfl:=of_some h
 have hs:=hs.addNilL CB 5
 exact qq _ _ (pt [4] [.slice none 0 0] ⟨⟨none,0,0⟩,cr,(pz hs)⟩)
 refine tb 1 10 (df hc) ?_
 refine nq 2 [(11,.bool false),(12,I8 a1)] ?_
 obtain ⟨hc,h⟩|⟨hc,h⟩:=of_if h
 refine tb 4 13 (dt hc) ?_
 refine qo 5 14 (.bool true) ?_
 refine fj j5 s4 (ct (xs fun _ s8=>(xn 1 fun _ j9=>?_)))
 refine qo 0 4 (.slice none 0 0) ?_
 refine fj j9 s8 (xret (tr ?_))
 obtain rfl:=of_some h
 have hs:=hs.addNilL CB 5
 exact qq _ _ (pt [4] [.slice none 0 0] ⟨⟨none,0,0⟩,cr,(pz hs)⟩)
 refine tb 4 13 (df hc) ?_
 refine qo 5 14 (.bool false) ?_
 refine fj j5 s4 (cf (xk (T s3 (xs fun _ s10=>(xn 8 fun _ j11=>?_)))))
 refine qo 0 15 (.slice a0_A a0_n a0_c) ?_
 refine tkf 1 16 (I8 (a0.length:Int)) (yl (rR 0 hs)) ?_
 refine nq 2 [(17,I8 a1),(18,I8 (imul .i64 (a0.length:Int) a1)),(19,I8 (iadd .i64 (imul .i64 (a0.length:Int) a1) 7)),(20,I8 (iquo .i64 (iadd .i64 (imul .i64 (a0.length:Int) a1) 7) 8))] ?_
 obtain ⟨h0,h1,h⟩:=oc2 h
 refine so 6 (oMk (C:=CB) 21 24 5 1 140737488355328 .i64 .i64 (iquo .i64 (iadd .i64 (imul .i64 (a0.length:Int) a1) 7) 8) hs h0 h1 (by decide) (by decide) fun s1_A s1_n s1_c w gw hs=>?_)
 refine qo 7 5 (.slice s1_A s1_n s1_c) ?_
 refine fj j11 s10 (xs fun _ s12=>(xs fun _ s13=>(xn 1 fun _ j14=>?_)))
 refine qo 0 6 (I8 0) ?_
 refine fj j14 s13 (?_)
 obtain ⟨y4,hy,hk0⟩:=ob h
 refine wp_exq (N:=fun a w=>St w0 [] [.ownL CB s1_A s1_n s1_c y4 5] [.rowL (CI .u32) a0_A a0_n a0_c a0] w∧∃ g16,a=fr g16 60 [(4,[.slice none 0 0,.slice s1_A s1_n s1_c])]) (fun N0 nn0=>?_) ?_
 clear hk0
 refine xb ?_
 refine wp_loop_k (fun n a w=>∃ z2 z3,ref01_Pack.l0 K n a0 a1 z2 z3=some y4∧St w0 [] [.ownL CB s1_A s1_n s1_c z3 5] [.rowL (CI .u32) a0_A a0_n a0_c a0] w∧∃ g15,a=fr g15 60 [(0,[.slice a0_A a0_n a0_c,I8 a1]),(4,[.slice none 0 0,.slice s1_A s1_n s1_c,I8 z2])]) K ⟨0,(List.replicate ((iquo .i64 (iadd .i64 (imul .i64 (a0.length:Int) a1) 7) 8):Int).toNat (Cod.zero CB)),hy,hs.conv rfl,eg⟩ ?_
 clear hs h hy
 rintro n a w ⟨z2,z3,h,hs,g15,rfl⟩ KL0 kl0
 cases n with
 | zero=>exact nomatch (show none=some _ from h)
 | succ n=>
  refine xs fun _ s17=>?_
  refine xs fun _ s18=>?_
  refine xn 4 fun _ j19=>?_
  refine nq 0 [(22,I8 z2),(23,.slice a0_A a0_n a0_c)] ?_
  refine tkf 2 24 (I8 (a0.length:Int)) (yl (rR 0 hs)) ?_
  obtain ⟨hc,h⟩|⟨hc,h⟩:=of_if h
  refine tb 3 25 (dt hc) ?_
  refine fj j19 s18 (ct (xk (T s17 (xs fun _ s20=>(xb (xs fun _ s21=>(xn 1 fun _ j22=>?_)))))))
  refine qo 0 7 (I8 0) ?_
  refine fj j22 s21 (?_)
  obtain ⟨y7,hy,hk1⟩:=ob h
  refine wp_exq (N:=fun a w=>St w0 [] [.ownL CB s1_A s1_n s1_c y7 5] [.rowL (CI .u32) a0_A a0_n a0_c a0] w∧∃ g24,a=fr g24 60 [(0,[.slice a0_A a0_n a0_c,I8 a1]),(4,[.slice none 0 0,.slice s1_A s1_n s1_c,I8 z2])]) (fun N1 nn1=>?_) ?_
  clear hk1
  refine xb ?_
  refine wp_loop_k (fun n a w=>∃ z5 z6,ref01_Pack.l1 K n a0 a1 z2 z5 z6=some y7∧St w0 [] [.ownL CB s1_A s1_n s1_c z6 5] [.rowL (CI .u32) a0_A a0_n a0_c a0] w∧∃ g23,a=fr g23 60 [(0,[.slice a0_A a0_n a0_c,I8 a1]),(4,[.slice none 0 0,.slice s1_A s1_n s1_c,I8 z2,I8 z5])]) K ⟨0,z3,hy,hs.conv rfl,eg⟩ ?_
  clear hs h hy
  rintro n a w ⟨z5,z6,h,hs,g23,rfl⟩ KL1 kl1
  cases n with
  | zero=>exact nomatch (show none=some _ from h)
  | succ n=>
   refine xs fun _ s25=>?_
   refine xs fun _ s26=>?_
   refine xn 3 fun _ j27=>?_
   refine nq 0 [(28,I8 z5),(29,I8 a1)] ?_
   obtain ⟨hc,h⟩|⟨hc,h⟩:=of_if h
   refine tb 2 30 (dt hc) ?_
   refine fj j27 s26 (ct (xk (T s25 (xs fun _ s28=>(xb (xs fun _ s29=>(xn 6 fun _ j30=>?_)))))))
   refine nq 0 [(33,I8 z2),(34,I8 a1),(35,I8 (imul .i64 z2 a1)),(36,I8 z5),(37,I8 (iadd .i64 (imul .i64 z2 a1) z5))] ?_
   obtain ⟨x8,hx,h⟩:=ob h
   refine tkf 5 8 (I8 x8) (yn hx) ?_
   refine fj j30 s29 (?_)
   refine rg [21] (fun k=>True) 22 fun _ j31=>?_
   have hs:=hs.drawn1
   refine gq 0 38 (.slice s1_A s1_n s1_c) ?_
   refine gq 1 39 (I8 x8) ?_
   refine gq 2 40 (I8 (iquo .i64 x8 8)) ?_
   refine gq 3 41 (.slice s1_A s1_n s1_c) ?_
   refine gq 4 42 (I8 x8) ?_
   refine gq 5 43 (I8 (iquo .i64 x8 8)) ?_
   obtain ⟨x9,hx,h⟩:=ob h
   have hx:=of_some hx
   subst hx
   obtain ⟨h0,h1,h⟩:=oc2 h
   have i0_32:=h0
   have i1_32:=h1
   refine tgf 6 44 (PA CB s1_A (iquo .i64 x8 8)) (yiL (C:=CB) 24 5 .i64 (iquo .i64 x8 8) (rL 0 hs) h0 h1) ?_
   refine tgt 7 45 _ (yL (C:=CB) 5 (iquo .i64 x8 8) (rL 0 hs) rfl i0_32 i1_32) ?_
   refine gq 8 46 (.slice a0_A a0_n a0_c) ?_
   refine gq 9 47 (I8 z2) ?_
   obtain ⟨h0,h1,h⟩:=oc2 h
   have i0_33:=h0
   have i1_33:=h1
   refine tgf 10 48 (PA (CI .u32) a0_A z2) (yiL (C:=(CI .u32)) 68 70 .i64 z2 (rR 0 hs) h0 h1) ?_
   refine tgt 11 49 _ (yL (C:=(CI .u32)) 70 z2 (rR 0 hs) rfl i0_33 i1_33) ?_
   refine gq 12 50 (I8 z5) ?_
   obtain ⟨h0,h⟩:=oc h
   refine tgf 13 51 (U4 (ishr .u32 (rdL (CI .u32) a0 z2) z5)) (ysr 70 .i64 h0) ?_
   refine gq 14 52 (U4 (iand .u32 (ishr .u32 (rdL (CI .u32) a0 z2) z5) 1)) ?_
   refine gq 15 53 (U1 (iconv .u8 (iand .u32 (ishr .u32 (rdL (CI .u32) a0 z2) z5) 1))) ?_
   refine gq 16 54 (I8 x8) ?_
   refine gq 17 55 (I8 (irem .i64 x8 8)) ?_
   obtain ⟨h0,h⟩:=oc h
   refine tgf 18 56 (U1 (ishl .u8 (iconv .u8 (iand .u32 (ishr .u32 (rdL (CI .u32) a0 z2) z5) 1)) (irem .i64 x8 8))) (ysl 5 .i64 h0) ?_
   refine gq 19 57 (U1 (ior .u8 (rdL CB z6 (iquo .i64 x8 8)) (ishl .u8 (iconv .u8 (iand .u32 (ishr .u32 (rdL (CI .u32) a0 z2) z5) 1)) (irem .i64 x8 8)))) ?_
   obtain ⟨x10,hx,h⟩:=ob h
   have hx:=of_some hx
   subst hx
   obtain ⟨h0,h1,h⟩:=oc2 h
   have i0_34:=h0
   have i1_34:=h1
   refine tgf 20 58 (PA CB s1_A (iquo .i64 x8 8)) (yiL (C:=CB) 24 5 .i64 (iquo .i64 x8 8) (rL 0 hs) h0 h1) ?_
   obtain ⟨x11,hx,h⟩:=ob h
   refine go 21 (oL (C:=CB) (he:=by cases hx; kernel_rfl) 5 (iquo .i64 x8 8) x11 hs 0 rfl i0_34 i1_34 fun w hs=>⟨⟨fun hf=>absurd hf (by decide),.all _ _⟩,?_⟩)
   refine gf (j31 _ _ ?_)
   refine iN (T s28 (xn 3 fun _ j35=>?_))
   refine nq 0 [(31,I8 z5),(32,I8 (iadd .i64 z5 1))] ?_
   obtain ⟨x12,hx,h⟩:=ob h
   refine tkf 2 7 (I8 x12) (yn hx) ?_
   refine fin (j35 _ _ ?_)
   exact tn (kl1 _ _ ⟨n,ls n,x12,(wrL z6 (iquo .i64 x8 8) x11),h,(hs.conv rfl),eg⟩)
   refine tb 2 30 (df hc) ?_
   refine fj j27 s26 (cf (xexit (tx (tx (iH ?_)))))
   obtain rfl:=of_some h
   exact exq_n (nn1 _ _ ⟨(hs.conv rfl),eg⟩)
  clear hs h hy
  rintro a w ⟨hs,g24,rfl⟩
  have h:=hk1
  refine iN (T s20 (xn 3 fun _ j36=>?_))
  refine nq 0 [(26,I8 z2),(27,I8 (iadd .i64 z2 1))] ?_
  obtain ⟨x13,hx,h⟩:=ob h
  refine tkf 2 6 (I8 x13) (yn hx) ?_
  refine fin (j36 _ _ ?_)
  exact tn (kl0 _ _ ⟨n,ls n,x13,y7,h,(hs.conv rfl),eg⟩)
  refine tb 3 25 (df hc) ?_
  refine fj j19 s18 (cf (xexit (tx (tx (iH ?_)))))
  obtain rfl:=of_some h
  exact exq_n (nn0 _ _ ⟨(hs.conv rfl),eg⟩)
 clear hs h hy
 rintro a w ⟨hs,g16,rfl⟩
 have h:=hk0
 refine T s12 (xs fun _ s37=>(xn 2 fun _ j38=>?_))
 refine nq 0 [(59,.slice s1_A s1_n s1_c),(4,.slice s1_A s1_n s1_c)] ?_
 refine fj j38 s37 (xret ?_)
 obtain rfl:=of_some h
 exact qq _ _ (pt [4] [.slice s1_A s1_n s1_c] ⟨⟨s1_A,s1_n,s1_c⟩,cr,(pz hs)⟩)
theorem ref25_Pack.ok {K:Nat}{a0:Arr 256}{a1:Int}{r0:List Int}(h:ref25_Pack.f K a0 a1=some r0) (w0:World):Calls Tryd.prog 52 #[ag .i32 a0,I8 a1] w0 fun e w'=>∃ h:(Option Addr × Nat × Nat),e = .returned (.slice h.1 h.2.1 h.2.2)∧St w0 [] [.ownL CB h.1 h.2.1 h.2.2 r0 5] [] w':=by
 refine calls_k Tryd.func52 rfl fun Q qq=>?_
 have hs:=St.start w0
 refine wc (a':=(fu 32 [ag .i32 a0,I8 a1])) ?_
 refine xs fun _ s1=>?_
 refine xn 2 fun _ j2=>?_
 refine so 0 (oBe 2 32 .i32 a0 hs fun b1 w gw hs=>?_)
 refine qo 1 4 (.slice none 0 0) ?_
 refine fj j2 s1 (xs fun _ s3=>(xs fun _ s4=>?_))
 refine rg [] (fun k=>True) 13 fun _ j5=>?_
 have hs:=hs.drawn1
 refine gq 0 7 (I8 a1) ?_
 obtain ⟨hc,h⟩|⟨hc,h⟩:=of_if h
 refine gb 1 8 (dt hc) ?_
 refine gq 2 9 (.bool true) ?_
 refine gq 3 10 undef ?_
 refine gq 4 11 undef ?_
 refine gq 5 12 (.bool true) ?_
 refine gq 6 13 (.bool true) ?_
 refine gq 7 14 undef ?_
 refine gq 8 15 undef ?_
 refine gq 9 16 undef ?_
 refine gq 10 17 undef ?_
 refine gq 11 18 undef ?_
 refine gq 12 19 (.bool true) ?_
 refine gf (j5 _ _ ?_)
 refine T s4 (ct (xs fun _ s6=>(xn 1 fun _ j7=>?_)))
 refine qo 0 4 (.slice none 0 0) ?_
 refine fj j7 s6 (xret (tr ?_))
 obtain rfl:=of_some h
 have hs:=hs.addNilL CB 5
 exact qq _ _ (pt [4] [.slice none 0 0] ⟨⟨none,0,0⟩,cr,(dr [1,0] hs)⟩)
 refine gb 1 8 (df hc) ?_
 refine gq 2 9 (.bool false) ?_
 refine gq 3 10 (I8 a1) ?_
 obtain ⟨hc,h⟩|⟨hc,h⟩:=of_if h
 refine gb 4 11 (dt hc) ?_
 refine gq 5 12 (.bool true) ?_
 refine gq 6 13 (.bool true) ?_
 refine gq 7 14 undef ?_
 refine gq 8 15 undef ?_
 refine gq 9 16 undef ?_
 refine gq 10 17 undef ?_
 refine gq 11 18 undef ?_
 refine gq 12 19 (.bool true) ?_
 refine gf (j5 _ _ ?_)
 refine T s4 (ct (xs fun _ s8=>(xn 1 fun _ j9=>?_)))
 refine qo 0 4 (.slice none 0 0) ?_
 refine fj j9 s8 (xret (tr ?_))
 obtain rfl:=of_some h
 have hs:=hs.addNilL CB 5
 exact qq _ _ (pt [4] [.slice none 0 0] ⟨⟨none,0,0⟩,cr,(dr [1,0] hs)⟩)
 refine gb 4 11 (df hc) ?_
 refine gq 5 12 (.bool false) ?_
 refine gq 6 13 (.bool false) ?_
 refine tgt 7 14 _ (yWe 32 hs 0 .grow) ?_
 refine gq 8 15 (I8 a1) ?_
 obtain ⟨r2,hg,h⟩:=ob h
 refine go 9 (oC 16 hs (ref25_bound.ok hg _) fun w gw hs=>⟨.of gw,?_⟩)
 obtain ⟨r3,hg,h⟩:=ob h
 cases r3 with
 | true=>
  have h:=of_if_t h
  refine go 10 (oC 17 hs (ref25_Below.ok hg _) fun w gw hs=>⟨.of gw,?_⟩)
  refine gq 11 18 (.bool false) ?_
  refine gq 12 19 (.bool false) ?_
  refine gf (j5 _ _ ?_)
  refine T s4 (cf (xk (T s3 (xs fun _ s10=>(xn 1 fun _ j11=>?_)))))
  refine qo 0 5 (.slice none 0 0) ?_
  refine fj j11 s10 (xs fun _ s12=>(xs fun _ s13=>(xn 1 fun _ j14=>?_)))
  refine qo 0 6 (I8 0) ?_
  refine fj j14 s13 (?_)
  have hs:=hs.addNilL (CI .u32) 70
  obtain ⟨y6,hy,hk0⟩:=ob h
  refine wp_exq (N:=fun a w=>∃ y6_A y6_n y6_c,St w0 [] [.ownL (CI .u32) y6_A y6_n y6_c y6 70,.blk b1 (enc .i32 a0) 32] [] w∧∃ g16,a=fr g16 34 [(1,[I8 a1]),(4,[.slice none 0 0,.slice y6_A y6_n y6_c])]) (fun N0 nn0=>?_) ?_
  clear hk0
  refine xb ?_
  refine wp_loop_k (fun n a w=>∃ z4 z5,∃ z5_A z5_n z5_c,ref25_Pack.l0 K n a0 z4 z5=some y6∧St w0 [] [.ownL (CI .u32) z5_A z5_n z5_c z5 70,.blk b1 (enc .i32 a0) 32] [] w∧∃ g15,a=fr g15 34 [(1,[I8 a1,P0 b1]),(4,[.slice none 0 0,.slice z5_A z5_n z5_c,I8 z4])]) K ⟨0,([]:List Int),none,0,0,hy,hs.conv rfl,eg⟩ ?_
  clear hs h hy
  rintro n a w ⟨z4,z5,z5_A,z5_n,z5_c,h,hs,g15,rfl⟩ KL0 kl0
  cases n with
  | zero=>exact nomatch (show none=some _ from h)
  | succ n=>
   refine xs fun _ s17=>?_
   refine xs fun _ s18=>?_
   refine xn 2 fun _ j19=>?_
   refine qo 0 20 (I8 z4) ?_
   obtain ⟨hc,h⟩|⟨hc,h⟩:=of_if h
   refine tb 1 21 (dt hc) ?_
   refine fj j19 s18 (ct (xk (T s17 (xs fun _ s20=>(xb (xn 8 fun _ j21=>?_))))))
   refine nq 0 [(24,.slice z5_A z5_n z5_c),(25,I8 z4)] ?_
   obtain ⟨i0_22,i1_22,h⟩:=oc2 h
   refine tkf 2 26 (P1 b1 z4) (yi 32 21 256 1 .i64 z4 i0_22 i1_22) ?_
   refine tkt 3 27 _ (yA hs 1 21 z4 rfl i0_22 i1_22 .grow) ?_
   refine qo 4 28 (U4 (iconv .u32 (rd a0 z4))) ?_
   refine so 5 (oLt (C:=(CI .u32)) 29 68 70 1 (U4 0) #[(0,U4 (iconv .u32 (rd a0 z4)))] [(iconv .u32 (rd a0 z4))] hs rfl (by decide) (by decide) fun s7_A s7_n s7_c w gw hs=>?_)
   obtain ⟨h0,h⟩:=oc h
   refine so 6 (oAp (C:=(CI .u32)) 30 68 68 70 4 35184372088832 hs 1 rfl (rL 0 hs) h0 (by decide) (by decide) fun s8_A s8_n s8_c w hs=>?_)
   refine qo 7 5 (.slice s8_A s8_n s8_c) ?_
   refine fin (j21 _ _ (iN (T s20 (xn 3 fun _ j23=>?_))))
   refine nq 0 [(22,I8 z4),(23,I8 (iadd .i64 z4 1))] ?_
   obtain ⟨x9,hx,h⟩:=ob h
   refine tkf 2 6 (I8 x9) (yn hx) ?_
   refine fin (j23 _ _ ?_)
   exact tn (kl0 _ _ ⟨n,ls n,x9,(z5++([(iconv .u32 (rd a0 z4))]:List Int)),s8_A,s8_n,s8_c,h,(dr [0,1,1] hs),eg⟩)
   refine tb 1 21 (df hc) ?_
   refine fj j19 s18 (cf (xexit (tx (tx (iH ?_)))))
   obtain rfl:=of_some h
   exact exq_n (nn0 _ _ ⟨z5_A,z5_n,z5_c,(hs.conv rfl),eg⟩)
  clear hs h hy
  rintro a w ⟨y6_A,y6_n,y6_c,hs,g16,rfl⟩
  have h:=hk0
  refine T s12 (xs fun _ s24=>(xn 4 fun _ j25=>?_))
  refine nq 0 [(31,.slice y6_A y6_n y6_c),(32,I8 a1)] ?_
  obtain ⟨r10,hg,h⟩:=ob h
  refine wpS.only 2 (oH 33 hs (ref01_Pack.ok hg _ (rL 0 hs)) ?_)
  rintro ⟨r10_A,r10_n,r10_c⟩ w gw hs
  have hs:=hs.conv (L':=[.ownL CB r10_A r10_n r10_c r10 5,.ownL (CI .u32) y6_A y6_n y6_c y6 70,.blk b1 (enc .i32 a0) 32]) rfl
  refine ⟨fun _=>trivial,?_⟩
  refine qo 3 4 (.slice r10_A r10_n r10_c) ?_
  refine fj j25 s24 (xret ?_)
  obtain rfl:=of_some h
  exact qq _ _ (pt [4] [.slice r10_A r10_n r10_c] ⟨⟨r10_A,r10_n,r10_c⟩,cr,(dr [1,0,0] hs)⟩)
 | false=>
  have h:=of_if_f h
  refine go 10 (oC 17 hs (ref25_Below.ok hg _) fun w gw hs=>⟨.of gw,?_⟩)
  refine gq 11 18 (.bool true) ?_
  refine gq 12 19 (.bool true) ?_
  refine gf (j5 _ _ ?_)
  refine T s4 (ct (xs fun _ s26=>(xn 1 fun _ j27=>?_)))
  refine qo 0 4 (.slice none 0 0) ?_
  refine fj j27 s26 (xret (tr ?_))
  obtain rfl:=of_some h
  have hs:=hs.addNilL CB 5
  exact qq _ _ (pt [4] [.slice none 0 0] ⟨⟨none,0,0⟩,cr,(dr [1,0] hs)⟩)
theorem ref25_Add.ok {K:Nat}{a0 a1 r0:Arr 256}(h:ref25_Add.f K a0 a1=some r0) (w0:World):Ret Tryd.prog 53 #[ag .i32 a0,ag .i32 a1] w0 (ag .i32 r0):=by
 refine calls_k Tryd.func53 rfl fun Q qq=>?_
 have hs:=St.start w0
 refine wc (a':=(fu 19 [ag .i32 a0,ag .i32 a1])) ?_
 refine xs fun _ s1=>?_
 refine xn 3 fun _ j2=>?_
 refine so 0 (oBe 2 32 .i32 a0 hs fun b1 w gw hs=>?_)
 refine so 1 (oBe 3 32 .i32 a1 hs fun b2 w gw hs=>?_)
 refine so 2 (oNe 4 32 .i32 (zeroA 256) hs fun b3 w gw hs=>?_)
 refine fj j2 s1 (xs fun _ s3=>(xs fun _ s4=>(xn 1 fun _ j5=>?_)))
 refine qo 0 5 (I8 0) ?_
 refine fj j5 s4 (?_)
 obtain ⟨y6,hy,hk0⟩:=ob h
 refine wp_exq (N:=fun a w=>St w0 [] [.blk b3 (enc .i32 (zeroA 256)) 32,.blk b2 (enc .i32 a1) 32,.blk b1 (enc .i32 y6) 32] [] w∧∃ g7,a=fr g7 21 [(2,[P0 b1]),(4,[P0 b3])]) (fun N0 nn0=>?_) ?_
 clear hk0
 refine xb ?_
 refine wp_loop_k (fun n a w=>∃ z4 z5,ref25_Add.l0 K n a1 z4 z5=some y6∧St w0 [] [.blk b3 (enc .i32 (zeroA 256)) 32,.blk b2 (enc .i32 a1) 32,.blk b1 (enc .i32 z5) 32] [] w∧∃ g6,a=fr g6 21 [(2,[P0 b1,P0 b2,P0 b3,I8 z4])]) K ⟨0,a0,hy,hs.conv rfl,eg⟩ ?_
 clear hs h hy
 rintro n a w ⟨z4,z5,h,hs,g6,rfl⟩ KL0 kl0
 cases n with
 | zero=>exact nomatch (show none=some _ from h)
 | succ n=>
  refine xs fun _ s8=>?_
  refine xs fun _ s9=>?_
  refine xn 2 fun _ j10=>?_
  refine qo 0 6 (I8 z4) ?_
  obtain ⟨hc,h⟩|⟨hc,h⟩:=of_if h
  refine tb 1 7 (dt hc) ?_
  refine fj j10 s9 (ct (xk (T s8 (xs fun _ s11=>(xb ?_)))))
  refine rg [10] (fun k=>True) 11 fun _ j12=>?_
  have hs:=hs.drawn1
  refine gq 0 10 (I8 z4) ?_
  refine gq 1 11 (I8 z4) ?_
  obtain ⟨i0_13,i1_13,h⟩:=oc2 h
  refine tgf 2 12 (P1 b1 z4) (yi 32 21 256 1 .i64 z4 i0_13 i1_13) ?_
  refine tgt 3 13 _ (yA hs 2 21 z4 rfl i0_13 i1_13 .grow) ?_
  refine gq 4 14 (I8 z4) ?_
  obtain ⟨i0_14,i1_14,h⟩:=oc2 h
  refine tgf 5 15 (P1 b2 z4) (yi 32 21 256 1 .i64 z4 i0_14 i1_14) ?_
  refine tgt 6 16 _ (yA hs 1 21 z4 rfl i0_14 i1_14 .grow) ?_
  refine gq 7 17 (I4 (iadd .i32 (rd z5 z4) (rd a1 z4))) ?_
  refine gq 8 18 (I4 (irem .i32 (iadd .i32 (rd z5 z4) (rd a1 z4)) 3329)) ?_
  obtain ⟨i0_15,i1_15,h⟩:=oc2 h
  refine tgf 9 19 (P1 b1 z4) (yi 32 21 256 1 .i64 z4 i0_15 i1_15) ?_
  obtain ⟨x7,hx,h⟩:=ob h
  refine go 10 (oA 21 x7 z4 hs 2 rfl (by cases hx; kernel_rfl) i0_15 i1_15 fun w kp hs=>⟨⟨fun hf=>absurd hf (by decide),.all _ _⟩,?_⟩)
  refine gf (j12 _ _ ?_)
  refine iN (T s11 (xn 3 fun _ j16=>?_))
  refine nq 0 [(8,I8 z4),(9,I8 (iadd .i64 z4 1))] ?_
  obtain ⟨x8,hx,h⟩:=ob h
  refine tkf 2 5 (I8 x8) (yn hx) ?_
  refine fin (j16 _ _ ?_)
  exact tn (kl0 _ _ ⟨n,ls n,x8,(wr z5 z4 x7),h,(hs.conv rfl),eg⟩)
  refine tb 1 7 (df hc) ?_
  refine fj j10 s9 (cf (xexit (tx (tx (iH ?_)))))
  obtain rfl:=of_some h
  exact exq_n (nn0 _ _ ⟨(hs.conv rfl),eg⟩)
 clear hs h hy
 rintro a w ⟨hs,g7,rfl⟩
 have h:=hk0
 refine T s3 (xs fun _ s17=>(xn 2 fun _ j18=>?_))
 refine tkt 0 20 _ (yWe 32 hs 2 .grow) ?_
 refine so 1 (oWe 32 .i32 y6 hs 0 fun w kp hs=>?_)
 refine fj j18 s17 (xret ?_)
 obtain rfl:=of_some h
 exact qq _ _ (pr (rr [.cell 4 32] [ag .i32 y6] (.cons (rcN 256 hs 0 rfl (enc_len _ _)) .nil)) ⟨cr,hs.none⟩)
theorem ref25_powers.ok {K:Nat}{r0:Arr 256}(h:ref25_powers.f K=some r0) (w0:World):Ret Tryd.prog 96 #[] w0 (ag .i32 r0):=by
 refine calls_k Tryd.func96 rfl fun Q qq=>?_
 have hs:=St.start w0
 refine wc (a':=(fu 17 [])) ?_
 refine xs fun _ s1=>?_
 refine xn 1 fun _ j2=>?_
 refine so 0 (oNe 0 31 .i32 (zeroA 256) hs fun b1 w gw hs=>?_)
 refine fj j2 s1 (xs fun _ s3=>(xn 1 fun _ j4=>?_))
 refine so 0 (oNe 1 31 .i32 (zeroA 256) hs fun b2 w gw hs=>?_)
 refine fj j4 s3 (xs fun _ s5=>(xn 2 fun _ j6=>?_))
 refine tkf 0 3 (P1 b2 0) (yi 31 21 256 1 .i64 0 (by decide) (by decide)) ?_
 refine so 1 (oA 21 1 0 hs 0 rfl (by kernel_rfl) (by decide) (by decide) fun w kp hs=>?_)
 refine fj j6 s5 (xs fun _ s8=>(xs fun _ s9=>(xn 1 fun _ j10=>?_)))
 refine qo 0 2 (I8 1) ?_
 refine fj j10 s9 (?_)
 obtain ⟨y5,hy,hk0⟩:=ob h
 refine wp_exq (N:=fun a w=>St w0 [] [.blk b2 (enc .i32 y5) 31,.blk b1 (enc .i32 (zeroA 256)) 31] [] w∧∃ g12,a=fr g12 17 [(0,[P0 b1,P0 b2])]) (fun N0 nn0=>?_) ?_
 clear hk0
 refine xb ?_
 refine wp_loop_k (fun n a w=>∃ z3 z4,ref25_powers.l0 K n z3 z4=some y5∧St w0 [] [.blk b2 (enc .i32 z4) 31,.blk b1 (enc .i32 (zeroA 256)) 31] [] w∧∃ g11,a=fr g11 17 [(0,[P0 b1,P0 b2,I8 z3])]) K ⟨1,(wr (zeroA 256) 0 1),hy,hs.conv rfl,eg⟩ ?_
 clear hs h hy
 rintro n a w ⟨z3,z4,h,hs,g11,rfl⟩ KL0 kl0
 cases n with
 | zero=>exact nomatch (show none=some _ from h)
 | succ n=>
  refine xs fun _ s13=>?_
  refine xs fun _ s14=>?_
  refine xn 2 fun _ j15=>?_
  refine qo 0 4 (I8 z3) ?_
  obtain ⟨hc,h⟩|⟨hc,h⟩:=of_if h
  refine tb 1 5 (dt hc) ?_
  refine fj j15 s14 (ct (xk (T s13 (xs fun _ s16=>(xb (xn 9 fun _ j17=>?_))))))
  refine nq 0 [(8,I8 z3),(9,I8 z3),(10,I8 (isub .i64 z3 1))] ?_
  obtain ⟨x6,hx,h⟩:=ob h
  have hx:=of_some hx
  subst hx
  obtain ⟨i0_18,i1_18,h⟩:=oc2 h
  refine tkf 3 11 (P1 b2 (isub .i64 z3 1)) (yi 31 21 256 1 .i64 (isub .i64 z3 1) i0_18 i1_18) ?_
  refine tkt 4 12 _ (yA hs 0 21 (isub .i64 z3 1) rfl i0_18 i1_18 .grow) ?_
  refine nq 5 [(13,I4 (imul .i32 (rd z4 (isub .i64 z3 1)) 17)),(14,I4 (irem .i32 (imul .i32 (rd z4 (isub .i64 z3 1)) 17) 3329))] ?_
  obtain ⟨i0_19,i1_19,h⟩:=oc2 h
  refine tkf 7 15 (P1 b2 z3) (yi 31 21 256 1 .i64 z3 i0_19 i1_19) ?_
  obtain ⟨x7,hx,h⟩:=ob h
  refine so 8 (oA 21 x7 z3 hs 0 rfl (by cases hx; kernel_rfl) i0_19 i1_19 fun w kp hs=>?_)
  refine fin (j17 _ _ (iN (T s16 (xn 3 fun _ j20=>?_))))
  refine nq 0 [(6,I8 z3),(7,I8 (iadd .i64 z3 1))] ?_
  obtain ⟨x8,hx,h⟩:=ob h
  refine tkf 2 2 (I8 x8) (yn hx) ?_
  refine fin (j20 _ _ ?_)
  exact tn (kl0 _ _ ⟨n,ls n,x8,(wr z4 z3 x7),h,(hs.conv rfl),eg⟩)
  refine tb 1 5 (df hc) ?_
  refine fj j15 s14 (cf (xexit (tx (tx (iH ?_)))))
  obtain rfl:=of_some h
  exact exq_n (nn0 _ _ ⟨(hs.conv rfl),eg⟩)
 clear hs h hy
 rintro a w ⟨hs,g12,rfl⟩
 have h:=hk0
 refine T s8 (xs fun _ s21=>(xn 2 fun _ j22=>?_))
 refine tkt 0 16 _ (yWe 31 hs 0 .grow) ?_
 refine so 1 (oWe 31 .i32 y5 hs 1 fun w kp hs=>?_)
 refine fj j22 s21 (xret ?_)
 obtain rfl:=of_some h
 exact qq _ _ (pr (rr [.cell 0 31] [ag .i32 y5] (.cons (rcN 256 hs 1 rfl (enc_len _ _)) .nil)) ⟨cr,hs.none⟩)
theorem ref25_turned.ok {K:Nat}{a0 r0:Int}(h:ref25_turned.f K a0=some r0) (w0:World):Ret Tryd.prog 97 #[I8 a0] w0 (I8 r0):=by
 refine calls_k Tryd.func97 rfl fun Q qq=>?_
 have hs:=St.start w0
 refine wc (a':=(fu 16 [I8 a0])) ?_
 refine xs fun _ s1=>?_
 refine xn 1 fun _ j2=>?_
 refine qo 0 2 (I8 0) ?_
 refine fj j2 s1 (xs fun _ s3=>(xn 1 fun _ j4=>?_))
 refine qo 0 3 (I8 0) ?_
 refine fj j4 s3 (xs fun _ s5=>(xs fun _ s6=>(xn 1 fun _ j7=>?_)))
 refine qo 0 4 (I8 0) ?_
 refine fj j7 s6 (?_)
 obtain ⟨y3,hy,hk0⟩:=ob h
 refine wp_exq (N:=fun a w=>St w0 [] [] [] w∧∃ g9,a=fr g9 17 [(2,[I8 0,I8 y3])]) (fun N0 nn0=>?_) ?_
 clear hk0
 refine xb ?_
 refine wp_loop_k (fun n a w=>∃ z1 z2,ref25_turned.l0 K n a0 z1 z2=some y3∧St w0 [] [] [] w∧∃ g8,a=fr g8 17 [(0,[I8 a0]),(2,[I8 0,I8 z1,I8 z2])]) K ⟨0,0,hy,hs.conv rfl,eg⟩ ?_
 clear hs h hy
 rintro n a w ⟨z1,z2,h,hs,g8,rfl⟩ KL0 kl0
 cases n with
 | zero=>exact nomatch (show none=some _ from h)
 | succ n=>
  refine xs fun _ s10=>?_
  refine xs fun _ s11=>?_
  refine xn 2 fun _ j12=>?_
  refine qo 0 5 (I8 z2) ?_
  obtain ⟨hc,h⟩|⟨hc,h⟩:=of_if h
  refine tb 1 6 (dt hc) ?_
  refine fj j12 s11 (ct (xk (T s10 (xs fun _ s13=>(xb (xn 8 fun _ j14=>?_))))))
  refine nq 0 [(9,I8 z1),(10,I8 (imul .i64 z1 2)),(11,I8 a0),(12,I8 z2)] ?_
  obtain ⟨h0,h⟩:=oc h
  refine tkf 4 13 (I8 (ishr .i64 a0 z2)) (ysr 3 .i64 h0) ?_
  refine nq 5 [(14,I8 (iand .i64 (ishr .i64 a0 z2) 1)),(15,I8 (iadd .i64 (imul .i64 z1 2) (iand .i64 (ishr .i64 a0 z2) 1)))] ?_
  obtain ⟨x4,hx,h⟩:=ob h
  refine tkf 7 3 (I8 x4) (yn hx) ?_
  refine fin (j14 _ _ (iN (T s13 (xn 3 fun _ j15=>?_))))
  refine nq 0 [(7,I8 z2),(8,I8 (iadd .i64 z2 1))] ?_
  obtain ⟨x5,hx,h⟩:=ob h
  refine tkf 2 4 (I8 x5) (yn hx) ?_
  refine fin (j15 _ _ ?_)
  exact tn (kl0 _ _ ⟨n,ls n,x4,x5,h,(hs.conv rfl),eg⟩)
  refine tb 1 6 (df hc) ?_
  refine fj j12 s11 (cf (xexit (tx (tx (iH ?_)))))
  obtain rfl:=of_some h
  exact exq_n (nn0 _ _ ⟨(hs.conv rfl),eg⟩)
 clear hs h hy
 rintro a w ⟨hs,g9,rfl⟩
 have h:=hk0
 refine T s5 (xs fun _ s16=>(xn 2 fun _ j17=>?_))
 refine nq 0 [(16,I8 y3),(2,I8 y3)] ?_
 refine fj j17 s16 (xret ?_)
 obtain rfl:=of_some h
 exact qq _ _ (pt [2] [I8 y3] ⟨cr,hs.none⟩)
end Go.Proofs.YtemdbgmldljbpaaDoor
