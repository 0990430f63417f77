/- own -/
import Derived.Test.YtemdbgmldljbpaaDoorMh
import Derived.Test.YtemdbgmldljbpaaDoorProg
import Derived.Test.YtemdbgmldljbpaaDoorZFKpkeWorks
import Derived.Test.YtemdbgmldljbpaaDoorZX7
set_option linter.unusedVariables false
set_option linter.unusedSimpArgs false
set_option maxRecDepth 100000
set_option maxHeartbeats 4000000
namespace Go.Proofs.YtemdbgmldljbpaaDoor
open Go.Mx
attribute [local irreducible] wpOp
theorem law26_few.ok {K:Nat}{a0:List (List Int)}{r0:Bool}{a0_A:Option Addr}{a0_n a0_c:Nat}{a0_H:List HS}(h:law26_few.f K a0=some r0) (w0:World) (hp0:LLP CB w0 a0_A a0_n a0_c a0_H a0):Ret Tryd.prog 8 #[.slice a0_A a0_n a0_c] w0 (.bool r0):=by
 refine calls_k Tryd.func8 rfl fun Q qq=>?_
 have hs:=St.startR (all_cons (LLP.ent hp0) all_nil)
 refine wc (a':=(fu 14 [.slice a0_A a0_n a0_c])) ?_
 refine xs fun _ s1=>?_
 refine xn 1 fun _ j2=>?_
 refine qo 0 2 (.bool false) ?_
 refine fj j2 s1 (xs fun _ s3=>(xs fun _ s4=>(xn 3 fun _ j5=>?_)))
 refine qo 0 5 (.slice a0_A a0_n a0_c) ?_
 refine tkf 1 6 (I8 (a0.length:Int)) (ylLL (hs.rowLL 0 rfl)) ?_
 refine qo 2 7 (I8 0) ?_
 refine fj j5 s4 (?_)
 obtain ⟨t0,hy,hk0⟩:=ob h
 refine wp_exq (N:=fun a w=>t0 = .inl ()∧St w0 [] [] [.rowLL CB a0_A a0_n a0_c a0_H a0] w∧∃ g7,a=fr g7 15 []) (fun N0 nn0=>?_) ?_
 refine xb ?_
 refine wp_loop_k (fun n a w=>∃ z1,law26_few.l0 K n a0 z1=some t0∧St w0 [] [] [.rowLL CB a0_A a0_n a0_c a0_H a0] w∧∃ g6,a=fr g6 15 [(5,[.slice a0_A a0_n a0_c,I8 (a0.length:Int),I8 z1])]) K ⟨0,hy,hs.conv rfl,eg⟩ ?_
 clear hs h hy
 rintro n a w ⟨z1,h,hs,g6,rfl⟩ KL0 kl0
 cases n with
 | zero=>exact nomatch (show none=some _ from h)
 | succ n=>
  refine xs fun _ s8=>?_
  refine xn 1 fun _ j9=>?_
  obtain ⟨hc,h⟩|⟨hc,h⟩:=of_if h
  refine tb 0 8 (dt hc) ?_
  refine fj j9 s8 (xs fun _ s10=>(ct (xk (T s10 (xs fun _ s11=>(xb (xs fun _ s12=>(xn 3 fun _ j13=>?_))))))))
  obtain ⟨h0,h1,h⟩:=oc2 h
  have i0_14:=h0
  have i1_14:=h1
  refine tkf 0 9 (PA CS a0_A z1) (yiLL (C:=CB) 59 24 .i64 z1 (hs.rowLL 0 rfl) h0 h1) ?_
  obtain ⟨s2_A,hA⟩ : ∃ A,A=(rdL CS a0_H z1).1:=⟨_,rfl⟩
  obtain ⟨s2_n,hn⟩ : ∃ n,n=(rdL CS a0_H z1).2.1:=⟨_,rfl⟩
  obtain ⟨s2_c,hc⟩ : ∃ c,c=(rdL CS a0_H z1).2.2:=⟨_,rfl⟩
  refine tkt 1 10 (.slice s2_A s2_n s2_c) (by subst hA hn hc; exact yLL (C:=CB) 24 z1 (hs.rowLL 0 rfl) i0_14 i1_14) ?_
  have hs:=hs.addInn (C:=CB) 0 rfl i0_14 i1_14 hA hn hc
  refine qo 2 4 (.slice s2_A s2_n s2_c) ?_
  refine fj j13 s12 (xs fun _ s15=>(xn 3 fun _ j16=>?_))
  refine qo 0 11 (.slice s2_A s2_n s2_c) ?_
  refine tkf 1 12 (I8 ((rdLL a0 z1).length:Int)) (yl (hs.rowR 0 rfl)) ?_
  obtain ⟨hc,h⟩|⟨hc,h⟩:=of_if h
  refine tb 2 13 (dt hc) ?_
  refine fj j16 s15 (ct (xs fun _ s17=>(xn 1 fun _ j18=>?_)))
  refine qo 0 2 (.bool false) ?_
  refine fj j18 s17 (xret (iR (tr (tr (iR (exq_r (tr ?_)))))))
  obtain rfl:=of_some h
  have q0:=of_some hk0
  subst q0
  exact qq _ _ (pt [2] [.bool false] ⟨cr,hs.none⟩)
  refine tb 2 13 (df hc) ?_
  refine fj j16 s15 (cf (xk (iN (T s11 (xn 2 fun _ j19=>?_)))))
  refine nq 0 [(14,I8 (iadd .i64 z1 1)),(7,I8 (iadd .i64 z1 1))] ?_
  refine fin (j19 _ _ ?_)
  exact tn (kl0 _ _ ⟨n,ls n,(iadd .i64 z1 1),h,(pk [1] hs),eg⟩)
  refine tb 0 8 (df hc) ?_
  refine fj j9 s8 (xs fun _ s20=>(cf (xexit (tx (tx (iH ?_))))))
  obtain rfl:=of_some h
  exact exq_n (nn0 _ _ ⟨rfl,(hs.conv rfl),eg⟩)
 clear hs h hy
 rintro a w ⟨rfl,hs,g7,rfl⟩
 have h:=hk0
 refine T s3 (xs fun _ s21=>(xn 1 fun _ j22=>?_))
 refine qo 0 2 (.bool true) ?_
 refine fj j22 s21 (xret ?_)
 obtain rfl:=of_some h
 exact qq _ _ (pt [2] [.bool true] ⟨cr,hs.none⟩)
theorem ref26_Known.ok {K:Nat}{a0_0 a0_1 a0_2 a0_3 a0_4:Int}{r0:Bool}(h:ref26_Known.f K a0_0 a0_1 a0_2 a0_3 a0_4=some r0) (w0:World):Ret Tryd.prog 34 #[.agg #[I8 a0_0,I8 a0_1,I8 a0_2,I8 a0_3,I8 a0_4]] w0 (.bool r0):=by
 refine calls_k Tryd.func34 rfl fun Q qq=>?_
 have hs:=St.start w0
 refine wc (a':=(fu 33 [.agg #[I8 a0_0,I8 a0_1,I8 a0_2,I8 a0_3,I8 a0_4]])) ?_
 refine xs fun _ s1=>?_
 refine xn 2 fun _ j2=>?_
 refine so 0 (oB 1 23 (.agg #[I8 a0_0,I8 a0_1,I8 a0_2,I8 a0_3,I8 a0_4]) hs ([I8 a0_0,I8 a0_1,I8 a0_2,I8 a0_3,I8 a0_4]) fun b1 w gw hs=>?_)
 refine qo 1 2 (.bool false) ?_
 refine fj j2 s1 (xs fun _ s3=>(xn 7 fun _ j4=>?_))
 obtain ⟨⟨r2_0,r2_1,r2_2,r2_3,r2_4,r3⟩,hg,h⟩:=ob h
 refine so 0 (oC 10 hs (ref26_Set.ok hg _) fun w gw hs=>?_)
 refine nq 1 [(9,.tuple #[.agg #[I8 r2_0,I8 r2_1,I8 r2_2,I8 r2_3,I8 r2_4],.bool r3]),(11,.agg #[I8 r2_0,I8 r2_1,I8 r2_2,I8 r2_3,I8 r2_4]),(12,.bool r3)] ?_
 refine so 4 (oN 3 23 hs ([I8 0,I8 0,I8 0,I8 0,I8 0]) (.agg #[I8 0,I8 0,I8 0,I8 0,I8 0]) fun b4 w gw hs=>?_)
 refine so 5 (oWa 23 [I8 r2_0,I8 r2_1,I8 r2_2,I8 r2_3,I8 r2_4] hs 0 fun w kp hs=>?_)
 refine qo 6 4 (.bool r3) ?_
 refine fj j4 s3 (xs fun _ s5=>(xn 7 fun _ j6=>?_))
 obtain ⟨⟨r5_0,r5_1,r5_2,r5_3,r5_4,r6⟩,hg,h⟩:=ob h
 refine so 0 (oC 14 hs (ref26_Set.ok hg _) fun w gw hs=>?_)
 refine nq 1 [(13,.tuple #[.agg #[I8 r5_0,I8 r5_1,I8 r5_2,I8 r5_3,I8 r5_4],.bool r6]),(15,.agg #[I8 r5_0,I8 r5_1,I8 r5_2,I8 r5_3,I8 r5_4]),(16,.bool r6)] ?_
 refine so 4 (oN 5 23 hs ([I8 0,I8 0,I8 0,I8 0,I8 0]) (.agg #[I8 0,I8 0,I8 0,I8 0,I8 0]) fun b7 w gw hs=>?_)
 refine so 5 (oWa 23 [I8 r5_0,I8 r5_1,I8 r5_2,I8 r5_3,I8 r5_4] hs 0 fun w kp hs=>?_)
 refine qo 6 6 (.bool r6) ?_
 refine fj j6 s5 (xs fun _ s7=>(xn 7 fun _ j8=>?_))
 obtain ⟨⟨r8_0,r8_1,r8_2,r8_3,r8_4,r9⟩,hg,h⟩:=ob h
 refine so 0 (oC 18 hs (ref26_Set.ok hg _) fun w gw hs=>?_)
 refine nq 1 [(17,.tuple #[.agg #[I8 r8_0,I8 r8_1,I8 r8_2,I8 r8_3,I8 r8_4],.bool r9]),(19,.agg #[I8 r8_0,I8 r8_1,I8 r8_2,I8 r8_3,I8 r8_4]),(20,.bool r9)] ?_
 refine so 4 (oN 7 23 hs ([I8 0,I8 0,I8 0,I8 0,I8 0]) (.agg #[I8 0,I8 0,I8 0,I8 0,I8 0]) fun b10 w gw hs=>?_)
 refine so 5 (oWa 23 [I8 r8_0,I8 r8_1,I8 r8_2,I8 r8_3,I8 r8_4] hs 0 fun w kp hs=>?_)
 refine qo 6 8 (.bool r9) ?_
 refine fj j8 s7 (xs fun _ s9=>(xn 14 fun _ j10=>?_))
 refine tkt 0 21 (.agg #[I8 a0_0,I8 a0_1,I8 a0_2,I8 a0_3,I8 a0_4]) (yW hs 3 5 23 rfl (by simp [enc_len]) .grow) ?_
 refine tkt 1 22 (.agg #[I8 r2_0,I8 r2_1,I8 r2_2,I8 r2_3,I8 r2_4]) (yW hs 2 5 23 rfl (by simp [enc_len]) .grow) ?_
 rcases of_ifb h with ⟨hc,h⟩ | ⟨hc,h⟩
 refine tkf 2 23 (.bool true) (yld_bb hc (yld_eqS (fs:=[Field.mk "K" 3 0 false "" "" 0,Field.mk "Eta1" 3 1 false "" "" 8,Field.mk "Eta2" 3 2 false "" "" 16,Field.mk "Du" 3 3 false "" "" 24,Field.mk "Dv" 3 4 false "" "" 32]) (xs:=[I8 a0_0,I8 a0_1,I8 a0_2,I8 a0_3,I8 a0_4]) (ys:=[I8 r2_0,I8 r2_1,I8 r2_2,I8 r2_3,I8 r2_4]) (t:=23) (.tmp 21) (.tmp 22) (by kernel_rfl) (by kernel_rfl) (by kernel_rfl) (by kernel_rfl) (.cons rfl (fun w=>Go.Mx.run_part1 (by kernel_rfl) rfl) (fun w=>Go.Mx.run_part1 (by kernel_rfl) rfl) (fun w=>Go.Mx.run_equalIn_int (by kernel_rfl)) (.cons rfl (fun w=>Go.Mx.run_part1 (by kernel_rfl) rfl) (fun w=>Go.Mx.run_part1 (by kernel_rfl) rfl) (fun w=>Go.Mx.run_equalIn_int (by kernel_rfl)) (.cons rfl (fun w=>Go.Mx.run_part1 (by kernel_rfl) rfl) (fun w=>Go.Mx.run_part1 (by kernel_rfl) rfl) (fun w=>Go.Mx.run_equalIn_int (by kernel_rfl)) (.cons rfl (fun w=>Go.Mx.run_part1 (by kernel_rfl) rfl) (fun w=>Go.Mx.run_part1 (by kernel_rfl) rfl) (fun w=>Go.Mx.run_equalIn_int (by kernel_rfl)) (.cons rfl (fun w=>Go.Mx.run_part1 (by kernel_rfl) rfl) (fun w=>Go.Mx.run_part1 (by kernel_rfl) rfl) (fun w=>Go.Mx.run_equalIn_int (by kernel_rfl)) .nil))))))) ?_
 refine nq 3 [(24,.bool true),(25,undef),(26,undef),(27,undef),(28,.bool true),(29,.bool true),(30,undef),(31,undef),(32,undef),(33,.bool true),(2,.bool true)] ?_
 refine fj j10 s9 (xret ?_)
 obtain rfl:=of_some h
 exact qq _ _ (pt [2] [.bool true] ⟨cr,hs.none⟩)
 refine tkf 2 23 (.bool false) (yld_bb hc (yld_eqS (fs:=[Field.mk "K" 3 0 false "" "" 0,Field.mk "Eta1" 3 1 false "" "" 8,Field.mk "Eta2" 3 2 false "" "" 16,Field.mk "Du" 3 3 false "" "" 24,Field.mk "Dv" 3 4 false "" "" 32]) (xs:=[I8 a0_0,I8 a0_1,I8 a0_2,I8 a0_3,I8 a0_4]) (ys:=[I8 r2_0,I8 r2_1,I8 r2_2,I8 r2_3,I8 r2_4]) (t:=23) (.tmp 21) (.tmp 22) (by kernel_rfl) (by kernel_rfl) (by kernel_rfl) (by kernel_rfl) (.cons rfl (fun w=>Go.Mx.run_part1 (by kernel_rfl) rfl) (fun w=>Go.Mx.run_part1 (by kernel_rfl) rfl) (fun w=>Go.Mx.run_equalIn_int (by kernel_rfl)) (.cons rfl (fun w=>Go.Mx.run_part1 (by kernel_rfl) rfl) (fun w=>Go.Mx.run_part1 (by kernel_rfl) rfl) (fun w=>Go.Mx.run_equalIn_int (by kernel_rfl)) (.cons rfl (fun w=>Go.Mx.run_part1 (by kernel_rfl) rfl) (fun w=>Go.Mx.run_part1 (by kernel_rfl) rfl) (fun w=>Go.Mx.run_equalIn_int (by kernel_rfl)) (.cons rfl (fun w=>Go.Mx.run_part1 (by kernel_rfl) rfl) (fun w=>Go.Mx.run_part1 (by kernel_rfl) rfl) (fun w=>Go.Mx.run_equalIn_int (by kernel_rfl)) (.cons rfl (fun w=>Go.Mx.run_part1 (by kernel_rfl) rfl) (fun w=>Go.Mx.run_part1 (by kernel_rfl) rfl) (fun w=>Go.Mx.run_equalIn_int (by kernel_rfl)) .nil))))))) ?_
 refine qo 3 24 (.bool false) ?_
 refine tkt 4 25 (.agg #[I8 a0_0,I8 a0_1,I8 a0_2,I8 a0_3,I8 a0_4]) (yW hs 3 5 23 rfl (by simp [enc_len]) .grow) ?_
 refine tkt 5 26 (.agg #[I8 r5_0,I8 r5_1,I8 r5_2,I8 r5_3,I8 r5_4]) (yW hs 1 5 23 rfl (by simp [enc_len]) .grow) ?_
 rcases of_ifb h with ⟨hc,h⟩ | ⟨hc,h⟩
 refine tkf 6 27 (.bool true) (yld_bb hc (yld_eqS (fs:=[Field.mk "K" 3 0 false "" "" 0,Field.mk "Eta1" 3 1 false "" "" 8,Field.mk "Eta2" 3 2 false "" "" 16,Field.mk "Du" 3 3 false "" "" 24,Field.mk "Dv" 3 4 false "" "" 32]) (xs:=[I8 a0_0,I8 a0_1,I8 a0_2,I8 a0_3,I8 a0_4]) (ys:=[I8 r5_0,I8 r5_1,I8 r5_2,I8 r5_3,I8 r5_4]) (t:=23) (.tmp 25) (.tmp 26) (by kernel_rfl) (by kernel_rfl) (by kernel_rfl) (by kernel_rfl) (.cons rfl (fun w=>Go.Mx.run_part1 (by kernel_rfl) rfl) (fun w=>Go.Mx.run_part1 (by kernel_rfl) rfl) (fun w=>Go.Mx.run_equalIn_int (by kernel_rfl)) (.cons rfl (fun w=>Go.Mx.run_part1 (by kernel_rfl) rfl) (fun w=>Go.Mx.run_part1 (by kernel_rfl) rfl) (fun w=>Go.Mx.run_equalIn_int (by kernel_rfl)) (.cons rfl (fun w=>Go.Mx.run_part1 (by kernel_rfl) rfl) (fun w=>Go.Mx.run_part1 (by kernel_rfl) rfl) (fun w=>Go.Mx.run_equalIn_int (by kernel_rfl)) (.cons rfl (fun w=>Go.Mx.run_part1 (by kernel_rfl) rfl) (fun w=>Go.Mx.run_part1 (by kernel_rfl) rfl) (fun w=>Go.Mx.run_equalIn_int (by kernel_rfl)) (.cons rfl (fun w=>Go.Mx.run_part1 (by kernel_rfl) rfl) (fun w=>Go.Mx.run_part1 (by kernel_rfl) rfl) (fun w=>Go.Mx.run_equalIn_int (by kernel_rfl)) .nil))))))) ?_
 refine nq 7 [(28,.bool true),(29,.bool true),(30,undef),(31,undef),(32,undef),(33,.bool true),(2,.bool true)] ?_
 refine fj j10 s9 (xret ?_)
 obtain rfl:=of_some h
 exact qq _ _ (pt [2] [.bool true] ⟨cr,hs.none⟩)
 refine tkf 6 27 (.bool false) (yld_bb hc (yld_eqS (fs:=[Field.mk "K" 3 0 false "" "" 0,Field.mk "Eta1" 3 1 false "" "" 8,Field.mk "Eta2" 3 2 false "" "" 16,Field.mk "Du" 3 3 false "" "" 24,Field.mk "Dv" 3 4 false "" "" 32]) (xs:=[I8 a0_0,I8 a0_1,I8 a0_2,I8 a0_3,I8 a0_4]) (ys:=[I8 r5_0,I8 r5_1,I8 r5_2,I8 r5_3,I8 r5_4]) (t:=23) (.tmp 25) (.tmp 26) (by kernel_rfl) (by kernel_rfl) (by kernel_rfl) (by kernel_rfl) (.cons rfl (fun w=>Go.Mx.run_part1 (by kernel_rfl) rfl) (fun w=>Go.Mx.run_part1 (by kernel_rfl) rfl) (fun w=>Go.Mx.run_equalIn_int (by kernel_rfl)) (.cons rfl (fun w=>Go.Mx.run_part1 (by kernel_rfl) rfl) (fun w=>Go.Mx.run_part1 (by kernel_rfl) rfl) (fun w=>Go.Mx.run_equalIn_int (by kernel_rfl)) (.cons rfl (fun w=>Go.Mx.run_part1 (by kernel_rfl) rfl) (fun w=>Go.Mx.run_part1 (by kernel_rfl) rfl) (fun w=>Go.Mx.run_equalIn_int (by kernel_rfl)) (.cons rfl (fun w=>Go.Mx.run_part1 (by kernel_rfl) rfl) (fun w=>Go.Mx.run_part1 (by kernel_rfl) rfl) (fun w=>Go.Mx.run_equalIn_int (by kernel_rfl)) (.cons rfl (fun w=>Go.Mx.run_part1 (by kernel_rfl) rfl) (fun w=>Go.Mx.run_part1 (by kernel_rfl) rfl) (fun w=>Go.Mx.run_equalIn_int (by kernel_rfl)) .nil))))))) ?_
 refine nq 7 [(28,.bool false),(29,.bool false)] ?_
 refine tkt 9 30 (.agg #[I8 a0_0,I8 a0_1,I8 a0_2,I8 a0_3,I8 a0_4]) (yW hs 3 5 23 rfl (by simp [enc_len]) .grow) ?_
 refine tkt 10 31 (.agg #[I8 r8_0,I8 r8_1,I8 r8_2,I8 r8_3,I8 r8_4]) (yW hs 0 5 23 rfl (by simp [enc_len]) .grow) ?_
 refine tkf 11 32 (.bool ((a0_0 == r8_0) && ((a0_1 == r8_1) && ((a0_2 == r8_2) && ((a0_3 == r8_3) && ((a0_4 == r8_4) && true)))))) (yld_eqS (fs:=[Field.mk "K" 3 0 false "" "" 0,Field.mk "Eta1" 3 1 false "" "" 8,Field.mk "Eta2" 3 2 false "" "" 16,Field.mk "Du" 3 3 false "" "" 24,Field.mk "Dv" 3 4 false "" "" 32]) (xs:=[I8 a0_0,I8 a0_1,I8 a0_2,I8 a0_3,I8 a0_4]) (ys:=[I8 r8_0,I8 r8_1,I8 r8_2,I8 r8_3,I8 r8_4]) (t:=23) (.tmp 30) (.tmp 31) (by kernel_rfl) (by kernel_rfl) (by kernel_rfl) (by kernel_rfl) (.cons rfl (fun w=>Go.Mx.run_part1 (by kernel_rfl) rfl) (fun w=>Go.Mx.run_part1 (by kernel_rfl) rfl) (fun w=>Go.Mx.run_equalIn_int (by kernel_rfl)) (.cons rfl (fun w=>Go.Mx.run_part1 (by kernel_rfl) rfl) (fun w=>Go.Mx.run_part1 (by kernel_rfl) rfl) (fun w=>Go.Mx.run_equalIn_int (by kernel_rfl)) (.cons rfl (fun w=>Go.Mx.run_part1 (by kernel_rfl) rfl) (fun w=>Go.Mx.run_part1 (by kernel_rfl) rfl) (fun w=>Go.Mx.run_equalIn_int (by kernel_rfl)) (.cons rfl (fun w=>Go.Mx.run_part1 (by kernel_rfl) rfl) (fun w=>Go.Mx.run_part1 (by kernel_rfl) rfl) (fun w=>Go.Mx.run_equalIn_int (by kernel_rfl)) (.cons rfl (fun w=>Go.Mx.run_part1 (by kernel_rfl) rfl) (fun w=>Go.Mx.run_part1 (by kernel_rfl) rfl) (fun w=>Go.Mx.run_equalIn_int (by kernel_rfl)) .nil)))))) ?_
 refine nq 12 [(33,.bool ((a0_0 == r8_0) && ((a0_1 == r8_1) && ((a0_2 == r8_2) && ((a0_3 == r8_3) && ((a0_4 == r8_4) && true)))))),(2,.bool ((a0_0 == r8_0) && ((a0_1 == r8_1) && ((a0_2 == r8_2) && ((a0_3 == r8_3) && ((a0_4 == r8_4) && true))))))] ?_
 refine fj j10 s9 (xret ?_)
 obtain rfl:=of_some h
 exact qq _ _ (pt [2] [.bool ((a0_0 == r8_0) && ((a0_1 == r8_1) && ((a0_2 == r8_2) && ((a0_3 == r8_3) && ((a0_4 == r8_4) && true)))))] ⟨cr,hs.none⟩)
theorem ref01_Join.ok {K:Nat}{a0:List (List Int)}{r0:List Int}{a0_A:Option Addr}{a0_n a0_c:Nat}{a0_H:List HS}(h:ref01_Join.f K a0=some r0) (w0:World) (hp0:LLP CB w0 a0_A a0_n a0_c a0_H a0):Calls Tryd.prog 37 #[.slice a0_A a0_n a0_c] w0 fun e w'=>∃ h:(Option Addr × Nat × Nat),e = .returned (.slice h.1 h.2.1 h.2.2)∧St w0 [] [.ownL CB h.1 h.2.1 h.2.2 r0 5] [] w':=by
 refine calls_k Tryd.func37 rfl fun Q qq=>?_
 have hs:=St.startR (all_cons (LLP.ent hp0) all_nil)
 refine wc (a':=(fu 17 [.slice a0_A a0_n a0_c])) ?_
 refine xs fun _ s1=>?_
 refine xn 1 fun _ j2=>?_
 refine qo 0 2 (.slice none 0 0) ?_
 refine fj j2 s1 (xs fun _ s3=>(xn 1 fun _ j4=>?_))
 refine qo 0 3 (.slice none 0 0) ?_
 refine fj j4 s3 (xs fun _ s5=>(xs fun _ s6=>(xn 1 fun _ j7=>?_)))
 refine qo 0 4 (I8 0) ?_
 refine fj j7 s6 (?_)
 have hs:=hs.addNilL CB 5
 obtain ⟨y3,hy,hk0⟩:=ob h
 refine wp_exq (N:=fun a w=>∃ y3_A y3_n y3_c,St w0 [] [.ownL CB y3_A y3_n y3_c y3 5] [.rowLL CB a0_A a0_n a0_c a0_H a0] w∧∃ g9,a=fr g9 18 [(2,[.slice none 0 0,.slice y3_A y3_n y3_c])]) (fun N0 nn0=>?_) ?_
 clear hk0
 refine xb ?_
 refine wp_loop_k (fun n a w=>∃ z1 z2,∃ z2_A z2_n z2_c,ref01_Join.l0 K n a0 z1 z2=some y3∧St w0 [] [.ownL CB z2_A z2_n z2_c z2 5] [.rowLL CB a0_A a0_n a0_c a0_H a0] w∧∃ g8,a=fr g8 18 [(0,[.slice a0_A a0_n a0_c]),(2,[.slice none 0 0,.slice z2_A z2_n z2_c,I8 z1])]) K ⟨0,([]:List Int),none,0,0,hy,hs.conv rfl,eg⟩ ?_
 clear hs h hy
 rintro n a w ⟨z1,z2,z2_A,z2_n,z2_c,h,hs,g8,rfl⟩ KL0 kl0
 cases n with
 | zero=>exact nomatch (show none=some _ from h)
 | succ n=>
  refine xs fun _ s10=>?_
  refine xs fun _ s11=>?_
  refine xn 4 fun _ j12=>?_
  refine nq 0 [(5,I8 z1),(6,.slice a0_A a0_n a0_c)] ?_
  refine tkf 2 7 (I8 (a0.length:Int)) (ylLL (hs.rowLL 0 rfl)) ?_
  obtain ⟨hc,h⟩|⟨hc,h⟩:=of_if h
  refine tb 3 8 (dt hc) ?_
  refine fj j12 s11 (ct (xk (T s10 (xs fun _ s13=>(xb (xn 7 fun _ j14=>?_))))))
  refine nq 0 [(11,.slice z2_A z2_n z2_c),(12,.slice a0_A a0_n a0_c),(13,I8 z1)] ?_
  obtain ⟨h0,h1,h⟩:=oc2 h
  have i0_15:=h0
  have i1_15:=h1
  refine tkf 3 14 (PA CS a0_A z1) (yiLL (C:=CB) 59 24 .i64 z1 (hs.rowLL 0 rfl) h0 h1) ?_
  obtain ⟨s4_A,hA⟩ : ∃ A,A=(rdL CS a0_H z1).1:=⟨_,rfl⟩
  obtain ⟨s4_n,hn⟩ : ∃ n,n=(rdL CS a0_H z1).2.1:=⟨_,rfl⟩
  obtain ⟨s4_c,hc⟩ : ∃ c,c=(rdL CS a0_H z1).2.2:=⟨_,rfl⟩
  refine tkt 4 15 (.slice s4_A s4_n s4_c) (by subst hA hn hc; exact yLL (C:=CB) 24 z1 (hs.rowLL 0 rfl) i0_15 i1_15) ?_
  have hs:=hs.addInn (C:=CB) 0 rfl i0_15 i1_15 hA hn hc
  obtain ⟨h0,h⟩:=oc h
  refine so 5 (oAp (C:=CB) 16 24 24 5 1 140737488355328 hs 0 rfl (hs.rowR 0 rfl) h0 (by decide) (by decide) fun s5_A s5_n s5_c w hs=>?_)
  refine qo 6 3 (.slice s5_A s5_n s5_c) ?_
  refine fin (j14 _ _ (iN (T s13 (xn 3 fun _ j16=>?_))))
  refine nq 0 [(9,I8 z1),(10,I8 (iadd .i64 z1 1))] ?_
  obtain ⟨x6,hx,h⟩:=ob h
  refine tkf 2 4 (I8 x6) (yn hx) ?_
  refine fin (j16 _ _ ?_)
  exact tn (kl0 _ _ ⟨n,ls n,x6,(z2++(rdLL a0 z1)),s5_A,s5_n,s5_c,h,(pk [1] hs),eg⟩)
  refine tb 3 8 (df hc) ?_
  refine fj j12 s11 (cf (xexit (tx (tx (iH ?_)))))
  obtain rfl:=of_some h
  exact exq_n (nn0 _ _ ⟨z2_A,z2_n,z2_c,(hs.conv rfl),eg⟩)
 clear hs h hy
 rintro a w ⟨y3_A,y3_n,y3_c,hs,g9,rfl⟩
 have h:=hk0
 refine T s5 (xs fun _ s17=>(xn 2 fun _ j18=>?_))
 refine nq 0 [(17,.slice y3_A y3_n y3_c),(2,.slice y3_A y3_n y3_c)] ?_
 refine fj j18 s17 (xret ?_)
 obtain rfl:=of_some h
 exact qq _ _ (pt [2] [.slice y3_A y3_n y3_c] ⟨⟨y3_A,y3_n,y3_c⟩,cr,(pz hs)⟩)
theorem ref08_Rate.ok {K:Nat}{a0 r0:Int}(h:ref08_Rate.f K a0=some r0) (w0:World):Ret Tryd.prog 106 #[I8 a0] w0 (I8 r0):=by
 refine calls_k Tryd.func106 rfl fun Q qq=>?_
 have hs:=St.start w0
 refine wc (a':=(fu 10 [I8 a0])) ?_
 refine xs fun _ s1=>?_
 refine xn 1 fun _ j2=>?_
 refine qo 0 2 (I8 0) ?_
 refine fj j2 s1 (xs fun _ s3=>(xs fun _ s4=>(xn 1 fun _ j5=>?_)))
 refine qo 0 3 (I8 a0) ?_
 refine fj j5 s4 (xb (xs fun _ s6=>(xs fun _ s7=>(xn 2 fun _ j8=>?_))))
 obtain ⟨hc,h⟩|⟨hc,h⟩:=of_if h
 refine tb 0 5 (et hc) ?_
 refine qo 1 4 (.bool true) ?_
 refine fj j8 s7 (ct (xk (T s6 (ct (xs fun _ s9=>(xn 1 fun _ j10=>?_))))))
 refine qo 0 2 (I8 136) ?_
 refine fj j10 s9 (xret (iR (tr ?_)))
 obtain rfl:=of_some h
 exact qq _ _ (pt [2] [I8 136] ⟨cr,hs.none⟩)
 refine tb 0 5 (ef hc) ?_
 refine qo 1 4 (.bool false) ?_
 refine fj j8 s7 (cf (xn 2 fun _ j11=>?_))
 obtain ⟨hc,h⟩|⟨hc,h⟩:=of_if h
 refine tb 0 6 (et hc) ?_
 refine qo 1 4 (.bool true) ?_
 refine fj j11 s6 (ct (xs fun _ s12=>(xn 1 fun _ j13=>?_)))
 refine qo 0 2 (I8 136) ?_
 refine fj j13 s12 (xret (iR (tr ?_)))
 obtain rfl:=of_some h
 exact qq _ _ (pt [2] [I8 136] ⟨cr,hs.none⟩)
 refine tb 0 6 (ef hc) ?_
 refine qo 1 4 (.bool false) ?_
 refine fj j11 s6 (cf (xs fun _ s14=>(xn 2 fun _ j15=>?_)))
 obtain ⟨hc,h⟩|⟨hc,h⟩:=of_if h
 refine tb 0 8 (et hc) ?_
 refine qo 1 7 (.bool true) ?_
 refine fj j15 s14 (ct (xs fun _ s16=>(xn 1 fun _ j17=>?_)))
 refine qo 0 2 (I8 72) ?_
 refine fj j17 s16 (xret (iR (tr ?_)))
 obtain rfl:=of_some h
 exact qq _ _ (pt [2] [I8 72] ⟨cr,hs.none⟩)
 refine tb 0 8 (ef hc) ?_
 refine qo 1 7 (.bool false) ?_
 refine fj j15 s14 (cf (xs fun _ s18=>(xn 2 fun _ j19=>?_)))
 obtain ⟨hc,h⟩|⟨hc,h⟩:=of_if h
 refine tb 0 10 (et hc) ?_
 refine qo 1 9 (.bool true) ?_
 refine fj j19 s18 (ct (xs fun _ s20=>(xn 1 fun _ j21=>?_)))
 refine qo 0 2 (I8 168) ?_
 refine fj j21 s20 (xret (iR (tr ?_)))
 obtain rfl:=of_some h
 exact qq _ _ (pt [2] [I8 168] ⟨cr,hs.none⟩)
 refine tb 0 10 (ef hc) ?_
 refine qo 1 9 (.bool false) ?_
 refine fj j19 s18 (cf (xk (iN (T s3 (xs fun _ s22=>(xn 1 fun _ j23=>?_))))))
 refine qo 0 2 (I8 0) ?_
 refine fj j23 s22 (xret ?_)
 obtain rfl:=of_some h
 exact qq _ _ (pt [2] [I8 0] ⟨cr,hs.none⟩)
theorem ref08_New.ok {K:Nat}{a0 r0_0:Int}{r0_1:Arr 25}{r0_2:Int}{r0_3:Bool}{r1:Int}(h:ref08_New.f K a0=some (r0_0,r0_1,r0_2,r0_3,r1)) (w0:World):Ret Tryd.prog 84 #[I8 a0] w0 (.tuple #[.agg (vl [I8 r0_0]++enc .u64 r0_1++vl [I8 r0_2,.bool r0_3]).toArray,I8 r1]):=by
 refine calls_k Tryd.func84 rfl fun Q qq=>?_
 have hs:=St.start w0
 refine wc (a':=(fu 9 [I8 a0])) ?_
 refine xs fun _ s1=>?_
 refine xn 2 fun _ j2=>?_
 refine so 0 (oN 2 115 hs (vl [I8 0]++enc .u64 (zeroA 25)++vl [I8 0,.bool false]) (.agg (vl [I8 0]++enc .u64 (zeroA 25)++vl [I8 0,.bool false]).toArray) fun b1 w gw hs=>?_)
 refine qo 1 3 (I8 0) ?_
 refine fj j2 s1 (xs fun _ s3=>(xs fun _ s4=>(xn 3 fun _ j5=>?_)))
 refine qo 0 4 (I8 a0) ?_
 obtain ⟨r2,hg,h⟩:=ob h
 refine so 1 (oC 5 hs (ref08_Rate.ok hg _) fun w gw hs=>?_)
 obtain ⟨hc,h⟩|⟨hc,h⟩:=of_if h
 refine tb 2 6 (et hc) ?_
 refine fj j5 s4 (ct (xs fun _ s6=>(xn 3 fun _ j7=>?_)))
 refine qo 0 7 (.agg (vl [I8 0]++enc .u64 (zeroA 25)++vl [I8 0,.bool false]).toArray) ?_
 refine so 1 (oW 28 115 (.agg (vl [I8 0]++enc .u64 (zeroA 25)++vl [I8 0,.bool false]).toArray) (vl [I8 0]++enc .u64 (zeroA 25)++vl [I8 0,.bool false]) hs 0 rfl (by simp [enc_len]) (by simp [enc_len]) (one_app (one_app (by simp [Value.oneCell']) (fun u hu=>enc_one _ _ u hu)) (by simp [Value.oneCell'])) fun w kp hs=>?_)
 refine qo 2 3 (I8 9) ?_
 refine fj j7 s6 (xret (tr ?_))
 obtain ⟨rfl,rfl,rfl,rfl,rfl⟩:=os5 h
 exact qq _ _ (pr (rr [.cell 2 115,.tmp 3] [.agg (vl [I8 0]++enc .u64 (zeroA 25)++vl [I8 0,.bool false]).toArray,I8 9] (.cons (rcN 28 hs 0 rfl (by simp [enc_len])) (.cons rt .nil))) ⟨cr,hs.none⟩)
 refine tb 2 6 (ef hc) ?_
 refine fj j5 s4 (cf (xk (T s3 (xs fun _ s8=>(xn 4 fun _ j9=>?_)))))
 refine nq 0 [(8,I8 a0),(9,.agg (vl [I8 a0]++enc .u64 (zeroA 25)++vl [I8 0,.bool false]).toArray)] ?_
 refine so 2 (oW 28 115 (.agg (vl [I8 a0]++enc .u64 (zeroA 25)++vl [I8 0,.bool false]).toArray) (vl [I8 a0]++enc .u64 (zeroA 25)++vl [I8 0,.bool false]) hs 0 rfl (by simp [enc_len]) (by simp [enc_len]) (one_app (one_app (by simp [Value.oneCell']) (fun u hu=>enc_one _ _ u hu)) (by simp [Value.oneCell'])) fun w kp hs=>?_)
 refine qo 3 3 (I8 0) ?_
 refine fj j9 s8 (xret ?_)
 obtain ⟨rfl,rfl,rfl,rfl,rfl⟩:=os5 h
 exact qq _ _ (pr (rr [.cell 2 115,.tmp 3] [.agg (vl [I8 a0]++enc .u64 (zeroA 25)++vl [I8 0,.bool false]).toArray,I8 0] (.cons (rcN 28 hs 0 rfl (by simp [enc_len])) (.cons rt .nil))) ⟨cr,hs.none⟩)
theorem ref08_constants.ok {K:Nat}{r0:Arr 24}(h:ref08_constants.f K=some r0) (w0:World):Ret Tryd.prog 112 #[] w0 (ag .u64 r0):=by
 refine calls_k Tryd.func112 rfl fun Q qq=>?_
 have hs:=St.start w0
 refine wc (a':=(fu 32 [])) ?_
 refine xs fun _ s1=>?_
 refine xn 1 fun _ j2=>?_
 refine so 0 (oN 0 144 hs (enc .u64 (zeroA 24)) (ag .u64 (zeroA 24)) fun b1 w gw hs=>?_)
 refine fj j2 s1 (xs fun _ s3=>(xn 1 fun _ j4=>?_))
 refine so 0 (oN 1 144 hs (enc .u64 (zeroA 24)) (ag .u64 (zeroA 24)) fun b2 w gw hs=>?_)
 refine fj j4 s3 (xs fun _ s5=>(xn 1 fun _ j6=>?_))
 refine qo 0 2 (U8 1) ?_
 refine fj j6 s5 (xs fun _ s7=>(xs fun _ s8=>(xn 1 fun _ j9=>?_)))
 refine qo 0 3 (I8 0) ?_
 refine fj j9 s8 (?_)
 obtain ⟨y6,hy,hk0⟩:=ob h
 refine wp_exq (N:=fun a w=>St w0 [] [.blk b2 (enc .u64 y6) 144,.blk b1 (enc .u64 (zeroA 24)) 144] [] w∧∃ g11,a=fr g11 32 [(0,[P0 b1,P0 b2])]) (fun N0 nn0=>?_) ?_
 clear hk0
 refine xb ?_
 refine wp_loop_k (fun n a w=>∃ z3 z4 z5,ref08_constants.l0 K n z3 z4 z5=some y6∧St w0 [] [.blk b2 (enc .u64 z5) 144,.blk b1 (enc .u64 (zeroA 24)) 144] [] w∧∃ g10,a=fr g10 32 [(0,[P0 b1,P0 b2,U8 z3,I8 z4])]) K ⟨1,0,(zeroA 24),hy,hs.conv rfl,eg⟩ ?_
 clear hs h hy
 rintro n a w ⟨z3,z4,z5,h,hs,g10,rfl⟩ KL0 kl0
 cases n with
 | zero=>exact nomatch (show none=some _ from h)
 | succ n=>
  refine xs fun _ s12=>?_
  refine xs fun _ s13=>?_
  refine xn 2 fun _ j14=>?_
  refine qo 0 4 (I8 z4) ?_
  obtain ⟨hc,h⟩|⟨hc,h⟩:=of_if h
  refine tb 1 5 (dt hc) ?_
  refine fj j14 s13 (ct (xk (T s12 (?_))))
  obtain ⟨⟨y7,y8⟩,hj,h⟩:=ob h
  refine xs fun _ s16=>wp_join (N:=fun a w=>St w0 [] [.blk b2 (enc .u64 y8) 144,.blk b1 (enc .u64 (zeroA 24)) 144] [] w∧∃ g15,a=fr g15 32 [(0,[P0 b1,P0 b2,U8 y7,I8 z4])]) (fun N nj=>?_) ?_
  clear h
  have h:=hj
  refine xb ?_
  obtain ⟨y9,hj,h⟩:=ob h
  refine xs fun _ s18=>wp_join (N:=fun a w=>St w0 [] [.blk b2 (enc .u64 y9) 144,.blk b1 (enc .u64 (zeroA 24)) 144] [] w∧∃ g17,a=fr g17 32 [(0,[P0 b1,P0 b2,U8 z3,I8 z4])]) (fun N nj=>?_) ?_
  clear h
  have h:=hj
  refine xs fun _ s19=>?_
  refine xn 3 fun _ j20=>?_
  refine nq 0 [(8,U8 z3),(9,U8 (iand .u64 z3 1))] ?_
  obtain ⟨hc,h⟩|⟨hc,h⟩:=of_if h
  refine tb 2 10 (et hc) ?_
  refine fj j20 s19 (ct ?_)
  refine rg [13] (fun k=>True) 14 fun _ j21=>?_
  have hs:=hs.drawn1
  refine gq 0 11 (I8 z4) ?_
  refine gq 1 12 (I8 (iquo .i64 z4 7)) ?_
  refine gq 2 13 (I8 z4) ?_
  refine gq 3 14 (I8 (iquo .i64 z4 7)) ?_
  obtain ⟨x10,hx,h⟩:=ob h
  have hx:=of_some hx
  subst hx
  obtain ⟨i0_22,i1_22,h⟩:=oc2 h
  refine tgf 4 15 (P1 b2 (iquo .i64 z4 7)) (yi 144 112 24 1 .i64 (iquo .i64 z4 7) i0_22 i1_22) ?_
  refine tgt 5 16 (U8 (rd z5 (iquo .i64 z4 7))) (yA hs 0 112 (iquo .i64 z4 7) rfl i0_22 i1_22 .grow) ?_
  refine gq 6 17 (I8 z4) ?_
  refine gq 7 18 (I8 (irem .i64 z4 7)) ?_
  obtain ⟨h0,h⟩:=oc h
  refine tgf 8 19 (U8 (ishl .u64 1 (irem .i64 z4 7))) (ysl 122 .i64 h0) ?_
  refine gq 9 20 (U8 (isub .u64 (ishl .u64 1 (irem .i64 z4 7)) 1)) ?_
  obtain ⟨h0,h⟩:=oc h
  refine tgf 10 21 (U8 (ishl .u64 1 (isub .u64 (ishl .u64 1 (irem .i64 z4 7)) 1))) (ysl 112 .u64 h0) ?_
  refine gq 11 22 (U8 (ior .u64 (rd z5 (iquo .i64 z4 7)) (ishl .u64 1 (isub .u64 (ishl .u64 1 (irem .i64 z4 7)) 1)))) ?_
  obtain ⟨x11,hx,h⟩:=ob h
  have hx:=of_some hx
  subst hx
  obtain ⟨i0_23,i1_23,h⟩:=oc2 h
  refine tgf 12 23 (P1 b2 (iquo .i64 z4 7)) (yi 144 112 24 1 .i64 (iquo .i64 z4 7) i0_23 i1_23) ?_
  obtain ⟨x12,hx,h⟩:=ob h
  refine go 13 (oA 112 x12 (iquo .i64 z4 7) hs 0 rfl (by cases hx; kernel_rfl) i0_23 i1_23 fun w kp hs=>⟨⟨fun hf=>absurd hf (by decide),.all _ _⟩,?_⟩)
  refine gf (j21 _ _ ?_)
  obtain rfl:=of_some h
  exact nj _ _ ⟨(hs.conv rfl),eg⟩
  refine tb 2 10 (ef hc) ?_
  refine fj j20 s19 (cf (xk ?_))
  obtain rfl:=of_some h
  exact nj _ _ ⟨(hs.conv rfl),eg⟩
  clear hj hs
  rintro a w ⟨hs,g17,rfl⟩
  refine T s18 (xs fun _ s24=>(xn 3 fun _ j25=>?_))
  refine nq 0 [(24,U8 z3),(25,U8 (imul .u64 z3 2))] ?_
  obtain ⟨x13,hx,h⟩:=ob h
  refine tkf 2 2 (U8 x13) (yn hx) ?_
  refine fj j25 s24 (xs fun _ s26=>(xn 2 fun _ j27=>?_))
  refine qo 0 26 (U8 x13) ?_
  obtain ⟨hc,h⟩|⟨hc,h⟩:=of_if h
  refine tb 1 27 (dt hc) ?_
  refine fj j27 s26 (ct (xn 4 fun _ j28=>?_))
  refine nq 0 [(28,U8 x13),(29,U8 (iand .u64 x13 255)),(30,U8 (ixor .u64 (iand .u64 x13 255) 113))] ?_
  obtain ⟨x14,hx,h⟩:=ob h
  refine tkf 3 2 (U8 x14) (yn hx) ?_
  refine fin (j28 _ _ (iN ?_))
  obtain ⟨rfl,rfl⟩:=os2 h
  exact nj _ _ ⟨(hs.conv rfl),eg⟩
  refine tb 1 27 (df hc) ?_
  refine fj j27 s26 (cf (xk (iN ?_)))
  obtain ⟨rfl,rfl⟩:=os2 h
  exact nj _ _ ⟨(hs.conv rfl),eg⟩
  clear hj hs
  rintro a w ⟨hs,g15,rfl⟩
  refine T s16 (xn 3 fun _ j29=>?_)
  refine nq 0 [(6,I8 z4),(7,I8 (iadd .i64 z4 1))] ?_
  obtain ⟨x15,hx,h⟩:=ob h
  refine tkf 2 3 (I8 x15) (yn hx) ?_
  refine fin (j29 _ _ ?_)
  exact tn (kl0 _ _ ⟨n,ls n,y7,x15,y8,h,(hs.conv rfl),eg⟩)
  refine tb 1 5 (df hc) ?_
  refine fj j14 s13 (cf (xexit (tx (tx (iH ?_)))))
  obtain rfl:=of_some h
  exact exq_n (nn0 _ _ ⟨(hs.conv rfl),eg⟩)
 clear hs h hy
 rintro a w ⟨hs,g11,rfl⟩
 have h:=hk0
 refine T s7 (xs fun _ s30=>(xn 2 fun _ j31=>?_))
 refine tkt 0 31 (ag .u64 y6) (yWe 144 hs 0 .grow) ?_
 refine so 1 (oWe 144 .u64 y6 hs 1 fun w kp hs=>?_)
 refine fj j31 s30 (xret ?_)
 obtain rfl:=of_some h
 exact qq _ _ (pr (rr [.cell 0 144] [ag .u64 y6] (.cons (rcN 24 hs 1 rfl (enc_len _ _)) .nil)) ⟨cr,hs.none⟩)
theorem ref08_left.ok {K:Nat}{a0 a1 r0:Int}(h:ref08_left.f K a0 a1=some r0) (w0:World):Ret Tryd.prog 117 #[U8 a0,I8 a1] w0 (U8 r0):=by
 refine calls_k Tryd.func117 rfl fun Q qq=>?_
 have hs:=St.start w0
 refine wc (a':=(fu 13 [U8 a0,I8 a1])) ?_
 refine xs fun _ s1=>?_
 refine xn 1 fun _ j2=>?_
 refine qo 0 4 (U8 0) ?_
 refine fj j2 s1 (xs fun _ s3=>(xn 3 fun _ j4=>?_))
 refine nq 0 [(5,I8 a1),(6,I8 (irem .i64 a1 64))] ?_
 obtain ⟨x1,hx,h⟩:=ob h
 refine tkf 2 1 (I8 x1) (yn hx) ?_
 refine fj j4 s3 (xs fun _ s5=>?_)
 refine rg [] (fun k=>True) 9 fun _ j6=>?_
 have hs:=hs.drawn1
 refine gq 0 7 (U8 a0) ?_
 refine gq 1 8 (I8 x1) ?_
 obtain ⟨h0,h⟩:=oc h
 refine tgf 2 9 (U8 (ishl .u64 a0 x1)) (ysl 112 .i64 h0) ?_
 refine gq 3 10 (U8 a0) ?_
 refine gq 4 11 (I8 x1) ?_
 refine gq 5 12 (I8 (isub .i64 64 x1)) ?_
 obtain ⟨h0,h⟩:=oc h
 refine tgf 6 13 (U8 (ishr .u64 a0 (isub .i64 64 x1))) (ysr 112 .i64 h0) ?_
 refine gq 7 14 (U8 (ior .u64 (ishl .u64 a0 x1) (ishr .u64 a0 (isub .i64 64 x1)))) ?_
 obtain ⟨x2,hx,h⟩:=ob h
 refine tgf 8 4 (U8 x2) (yn hx) ?_
 refine gf (j6 _ _ ?_)
 refine T s5 (xret ?_)
 obtain rfl:=of_some h
 exact qq _ _ (pt [4] [U8 x2] ⟨cr,hs.none⟩)
theorem ref08_move.ok {K:Nat}{a0 r0:Arr 25}(h:ref08_move.f K a0=some r0) (w0:World):Ret Tryd.prog 113 #[ag .u64 a0] w0 (ag .u64 r0):=by
 refine calls_k Tryd.func113 rfl fun Q qq=>?_
 have hs:=St.start w0
 refine wc (a':=(fu 43 [ag .u64 a0])) ?_
 refine xs fun _ s1=>?_
 refine xn 2 fun _ j2=>?_
 refine so 0 (oB 1 113 (ag .u64 a0) hs (enc .u64 a0) fun b1 w gw hs=>?_)
 refine so 1 (oN 2 113 hs (enc .u64 (zeroA 25)) (ag .u64 (zeroA 25)) fun b2 w gw hs=>?_)
 refine fj j2 s1 (xs fun _ s3=>(xn 1 fun _ j4=>?_))
 refine so 0 (oN 3 113 hs (enc .u64 (zeroA 25)) (ag .u64 (zeroA 25)) fun b3 w gw hs=>?_)
 refine fj j4 s3 (xs fun _ s5=>(xn 4 fun _ j6=>?_))
 refine tkf 0 9 (P1 b1 0) (yi 113 112 25 1 .i64 0 (by decide) (by decide)) ?_
 refine tkt 1 10 (U8 (rd a0 0)) (yA hs 2 112 0 rfl (by decide) (by decide) .grow) ?_
 refine tkf 2 11 (P1 b3 0) (yi 113 112 25 1 .i64 0 (by decide) (by decide)) ?_
 obtain ⟨x4,hx,h⟩:=ob h
 refine so 3 (oA 112 x4 0 hs 0 rfl (by cases hx; kernel_rfl) (by decide) (by decide) fun w kp hs=>?_)
 refine fj j6 s5 (xs fun _ s9=>(xn 1 fun _ j10=>?_))
 refine qo 0 4 (I8 1) ?_
 refine fj j10 s9 (xs fun _ s11=>(xn 1 fun _ j12=>?_))
 refine qo 0 5 (I8 0) ?_
 refine fj j12 s11 (xs fun _ s13=>(xs fun _ s14=>(xn 1 fun _ j15=>?_)))
 refine qo 0 6 (I8 0) ?_
 refine fj j15 s14 (?_)
 obtain ⟨y9,hy,hk0⟩:=ob h
 refine wp_exq (N:=fun a w=>St w0 [] [.blk b3 (enc .u64 y9) 113,.blk b2 (enc .u64 (zeroA 25)) 113,.blk b1 (enc .u64 a0) 113] [] w∧∃ g17,a=fr g17 44 [(2,[P0 b2,P0 b3])]) (fun N0 nn0=>?_) ?_
 clear hk0
 refine xb ?_
 refine wp_loop_k (fun n a w=>∃ z5 z6 z7 z8,ref08_move.l0 K n a0 z5 z6 z7 z8=some y9∧St w0 [] [.blk b3 (enc .u64 z8) 113,.blk b2 (enc .u64 (zeroA 25)) 113,.blk b1 (enc .u64 a0) 113] [] w∧∃ g16,a=fr g16 44 [(1,[P0 b1,P0 b2,P0 b3,I8 z5,I8 z6,I8 z7])]) K ⟨1,0,0,(wr (zeroA 25) 0 x4),hy,hs.conv rfl,eg⟩ ?_
 clear hs h hy
 rintro n a w ⟨z5,z6,z7,z8,h,hs,g16,rfl⟩ KL0 kl0
 cases n with
 | zero=>exact nomatch (show none=some _ from h)
 | succ n=>
  refine xs fun _ s18=>?_
  refine xs fun _ s19=>?_
  refine xn 2 fun _ j20=>?_
  refine qo 0 12 (I8 z7) ?_
  obtain ⟨hc,h⟩|⟨hc,h⟩:=of_if h
  refine tb 1 13 (dt hc) ?_
  refine fj j20 s19 (ct (xk (T s18 (xs fun _ s21=>(xb (xs fun _ s22=>(xn 2 fun _ j23=>?_)))))))
  refine nq 0 [(16,I8 z6),(7,I8 z6)] ?_
  refine fj j23 s22 (xs fun _ s24=>(xn 7 fun _ j25=>?_))
  refine nq 0 [(17,I8 z5),(18,I8 (imul .i64 2 z5)),(19,I8 z6),(20,I8 (imul .i64 3 z6)),(21,I8 (iadd .i64 (imul .i64 2 z5) (imul .i64 3 z6))),(22,I8 (irem .i64 (iadd .i64 (imul .i64 2 z5) (imul .i64 3 z6)) 5))] ?_
  obtain ⟨x10,hx,h⟩:=ob h
  refine tkf 6 8 (I8 x10) (yn hx) ?_
  refine fj j25 s24 (xs fun _ s26=>(xn 19 fun _ j27=>?_))
  refine nq 0 [(23,I8 z6),(24,I8 x10),(25,I8 (imul .i64 5 x10)),(26,I8 (iadd .i64 z6 (imul .i64 5 x10))),(27,I8 z5),(28,I8 z6),(29,I8 (imul .i64 5 z6)),(30,I8 (iadd .i64 z5 (imul .i64 5 z6)))] ?_
  obtain ⟨x11,hx,h⟩:=ob h
  have hx:=of_some hx
  subst hx
  obtain ⟨i0_28,i1_28,h⟩:=oc2 h
  refine tkf 8 31 (.pointer (some ⟨b1,0+((iadd .i64 z5 (imul .i64 5 z6)):Int).toNat*1,none⟩)) (yi 113 112 25 1 .i64 (iadd .i64 z5 (imul .i64 5 z6)) i0_28 i1_28) ?_
  refine tkt 9 32 (U8 (rd a0 (iadd .i64 z5 (imul .i64 5 z6)))) (yA hs 2 112 (iadd .i64 z5 (imul .i64 5 z6)) rfl i0_28 i1_28 .grow) ?_
  refine nq 10 [(33,I8 z7),(34,I8 (iadd .i64 z7 1)),(35,I8 z7),(36,I8 (iadd .i64 z7 2)),(37,I8 (imul .i64 (iadd .i64 z7 1) (iadd .i64 z7 2))),(38,I8 (iquo .i64 (imul .i64 (iadd .i64 z7 1) (iadd .i64 z7 2)) 2))] ?_
  obtain ⟨r12,hg,h⟩:=ob h
  refine so 16 (oC 39 hs (ref08_left.ok hg _) fun w gw hs=>?_)
  obtain ⟨x13,hx,h⟩:=ob h
  have hx:=of_some hx
  subst hx
  obtain ⟨i0_29,i1_29,h⟩:=oc2 h
  refine tkf 17 40 (.pointer (some ⟨b3,0+((iadd .i64 z6 (imul .i64 5 x10)):Int).toNat*1,none⟩)) (yi 113 112 25 1 .i64 (iadd .i64 z6 (imul .i64 5 x10)) i0_29 i1_29) ?_
  refine so 18 (oA 112 r12 (iadd .i64 z6 (imul .i64 5 x10)) hs 0 rfl (by kernel_rfl) i0_29 i1_29 fun w kp hs=>?_)
  refine fj j27 s26 (xs fun _ s30=>(xn 2 fun _ j31=>?_))
  refine nq 0 [(41,I8 z6),(4,I8 z6)] ?_
  refine fj j31 s30 (xn 2 fun _ j32=>?_)
  refine nq 0 [(42,I8 x10),(5,I8 x10)] ?_
  refine fin (j32 _ _ (iN (T s21 (xn 3 fun _ j33=>?_))))
  refine nq 0 [(14,I8 z7),(15,I8 (iadd .i64 z7 1))] ?_
  obtain ⟨x14,hx,h⟩:=ob h
  refine tkf 2 6 (I8 x14) (yn hx) ?_
  refine fin (j33 _ _ ?_)
  exact tn (kl0 _ _ ⟨n,ls n,z6,x10,x14,(wr z8 (iadd .i64 z6 (imul .i64 5 x10)) r12),h,(hs.conv rfl),eg⟩)
  refine tb 1 13 (df hc) ?_
  refine fj j20 s19 (cf (xexit (tx (tx (iH ?_)))))
  obtain rfl:=of_some h
  exact exq_n (nn0 _ _ ⟨(hs.conv rfl),eg⟩)
 clear hs h hy
 rintro a w ⟨hs,g17,rfl⟩
 have h:=hk0
 refine T s13 (xs fun _ s34=>(xn 2 fun _ j35=>?_))
 refine tkt 0 43 (ag .u64 y9) (yWe 113 hs 0 .grow) ?_
 refine so 1 (oWe 113 .u64 y9 hs 1 fun w kp hs=>?_)
 refine fj j35 s34 (xret ?_)
 obtain rfl:=of_some h
 exact qq _ _ (pr (rr [.cell 2 113] [ag .u64 y9] (.cons (rcN 25 hs 1 rfl (enc_len _ _)) .nil)) ⟨cr,hs.none⟩)
theorem ref08_spread.ok {K:Nat}{a0 r0:Arr 25}(h:ref08_spread.f K a0=some r0) (w0:World):Ret Tryd.prog 114 #[ag .u64 a0] w0 (ag .u64 r0):=by
 refine calls_k Tryd.func114 rfl fun Q qq=>?_
 have hs:=St.start w0
 refine wc (a':=(fu 43 [ag .u64 a0])) ?_
 refine xs fun _ s1=>?_
 refine xn 2 fun _ j2=>?_
 refine so 0 (oB 1 113 (ag .u64 a0) hs (enc .u64 a0) fun b1 w gw hs=>?_)
 refine so 1 (oN 2 113 hs (enc .u64 (zeroA 25)) (ag .u64 (zeroA 25)) fun b2 w gw hs=>?_)
 refine fj j2 s1 (xs fun _ s3=>(xn 1 fun _ j4=>?_))
 refine so 0 (oN 3 148 hs (enc .u64 (zeroA 5)) (ag .u64 (zeroA 5)) fun b3 w gw hs=>?_)
 refine fj j4 s3 (xs fun _ s5=>(xs fun _ s6=>(xn 1 fun _ j7=>?_)))
 refine qo 0 4 (I8 0) ?_
 refine fj j7 s6 (?_)
 obtain ⟨y6,hy,hk0⟩:=ob h
 refine wp_exq (N:=fun a w=>St w0 [] [.blk b3 (enc .u64 y6) 148,.blk b2 (enc .u64 (zeroA 25)) 113,.blk b1 (enc .u64 a0) 113] [] w∧∃ g9,a=fr g9 44 [(1,[P0 b1,P0 b2,P0 b3])]) (fun N0 nn0=>?_) ?_
 clear hk0
 refine xb ?_
 refine wp_loop_k (fun n a w=>∃ z4 z5,ref08_spread.l0 K n a0 z4 z5=some y6∧St w0 [] [.blk b3 (enc .u64 z5) 148,.blk b2 (enc .u64 (zeroA 25)) 113,.blk b1 (enc .u64 a0) 113] [] w∧∃ g8,a=fr g8 44 [(1,[P0 b1,P0 b2,P0 b3,I8 z4])]) K ⟨0,(zeroA 5),hy,hs.conv rfl,eg⟩ ?_
 clear hs h hy
 rintro n a w ⟨z4,z5,h,hs,g8,rfl⟩ KL0 kl0
 cases n with
 | zero=>exact nomatch (show none=some _ from h)
 | succ n=>
  refine xs fun _ s10=>?_
  refine xs fun _ s11=>?_
  refine xn 2 fun _ j12=>?_
  refine qo 0 6 (I8 z4) ?_
  obtain ⟨hc,h⟩|⟨hc,h⟩:=of_if h
  refine tb 1 7 (dt hc) ?_
  refine fj j12 s11 (ct (xk (T s10 (xs fun _ s13=>(xb ?_)))))
  refine rg [11] (fun k=>True) 12 fun _ j14=>?_
  have hs:=hs.drawn1
  refine gq 0 10 (I8 z4) ?_
  refine gq 1 11 (I8 (irem .i64 z4 5)) ?_
  refine gq 2 12 (I8 z4) ?_
  refine gq 3 13 (I8 (irem .i64 z4 5)) ?_
  obtain ⟨x7,hx,h⟩:=ob h
  have hx:=of_some hx
  subst hx
  obtain ⟨i0_15,i1_15,h⟩:=oc2 h
  refine tgf 4 14 (P1 b3 (irem .i64 z4 5)) (yi 148 112 5 1 .i64 (irem .i64 z4 5) i0_15 i1_15) ?_
  refine tgt 5 15 (U8 (rd z5 (irem .i64 z4 5))) (yA hs 0 112 (irem .i64 z4 5) rfl i0_15 i1_15 .grow) ?_
  refine gq 6 16 (I8 z4) ?_
  obtain ⟨i0_16,i1_16,h⟩:=oc2 h
  refine tgf 7 17 (P1 b1 z4) (yi 113 112 25 1 .i64 z4 i0_16 i1_16) ?_
  refine tgt 8 18 (U8 (rd a0 z4)) (yA hs 2 112 z4 rfl i0_16 i1_16 .grow) ?_
  refine gq 9 19 (U8 (ixor .u64 (rd z5 (irem .i64 z4 5)) (rd a0 z4))) ?_
  obtain ⟨x8,hx,h⟩:=ob h
  have hx:=of_some hx
  subst hx
  obtain ⟨i0_17,i1_17,h⟩:=oc2 h
  refine tgf 10 20 (P1 b3 (irem .i64 z4 5)) (yi 148 112 5 1 .i64 (irem .i64 z4 5) i0_17 i1_17) ?_
  obtain ⟨x9,hx,h⟩:=ob h
  refine go 11 (oA 112 x9 (irem .i64 z4 5) hs 0 rfl (by cases hx; kernel_rfl) i0_17 i1_17 fun w kp hs=>⟨⟨fun hf=>absurd hf (by decide),.all _ _⟩,?_⟩)
  refine gf (j14 _ _ ?_)
  refine iN (T s13 (xn 3 fun _ j18=>?_))
  refine nq 0 [(8,I8 z4),(9,I8 (iadd .i64 z4 1))] ?_
  obtain ⟨x10,hx,h⟩:=ob h
  refine tkf 2 4 (I8 x10) (yn hx) ?_
  refine fin (j18 _ _ ?_)
  exact tn (kl0 _ _ ⟨n,ls n,x10,(wr z5 (irem .i64 z4 5) x9),h,(hs.conv rfl),eg⟩)
  refine tb 1 7 (df hc) ?_
  refine fj j12 s11 (cf (xexit (tx (tx (iH ?_)))))
  obtain rfl:=of_some h
  exact exq_n (nn0 _ _ ⟨(hs.conv rfl),eg⟩)
 clear hs h hy
 rintro a w ⟨hs,g9,rfl⟩
 have h:=hk0
 refine T s5 (xs fun _ s19=>(xs fun _ s20=>(xn 1 fun _ j21=>?_)))
 refine qo 0 5 (I8 0) ?_
 refine fj j21 s20 (?_)
 obtain ⟨y13,hy,hk1⟩:=ob h
 refine wp_exq (N:=fun a w=>St w0 [] [.blk b3 (enc .u64 y6) 148,.blk b2 (enc .u64 (zeroA 25)) 113,.blk b1 (enc .u64 y13) 113] [] w∧∃ g23,a=fr g23 44 [(1,[P0 b1,P0 b2])]) (fun N1 nn1=>?_) ?_
 clear hk1
 refine xb ?_
 refine wp_loop_k (fun n a w=>∃ z11 z12,ref08_spread.l1 K n y6 z11 z12=some y13∧St w0 [] [.blk b3 (enc .u64 y6) 148,.blk b2 (enc .u64 (zeroA 25)) 113,.blk b1 (enc .u64 z12) 113] [] w∧∃ g22,a=fr g22 44 [(1,[P0 b1,P0 b2,P0 b3]),(5,[I8 z11])]) K ⟨0,a0,hy,hs.conv rfl,eg⟩ ?_
 clear hs h hy
 rintro n a w ⟨z11,z12,h,hs,g22,rfl⟩ KL1 kl1
 cases n with
 | zero=>exact nomatch (show none=some _ from h)
 | succ n=>
  refine xs fun _ s24=>?_
  refine xs fun _ s25=>?_
  refine xn 2 fun _ j26=>?_
  refine qo 0 21 (I8 z11) ?_
  obtain ⟨hc,h⟩|⟨hc,h⟩:=of_if h
  refine tb 1 22 (dt hc) ?_
  refine fj j26 s25 (ct (xk (T s24 (xs fun _ s27=>(xb ?_)))))
  refine rg [18] (fun k=>True) 19 fun _ j28=>?_
  have hs:=hs.drawn1
  refine gq 0 25 (I8 z11) ?_
  refine gq 1 26 (I8 z11) ?_
  obtain ⟨i0_29,i1_29,h⟩:=oc2 h
  refine tgf 2 27 (P1 b1 z11) (yi 113 112 25 1 .i64 z11 i0_29 i1_29) ?_
  refine tgt 3 28 (U8 (rd z12 z11)) (yA hs 2 112 z11 rfl i0_29 i1_29 .grow) ?_
  refine gq 4 29 (I8 z11) ?_
  refine gq 5 30 (I8 (iadd .i64 z11 4)) ?_
  refine gq 6 31 (I8 (irem .i64 (iadd .i64 z11 4) 5)) ?_
  obtain ⟨x14,hx,h⟩:=ob h
  have hx:=of_some hx
  subst hx
  obtain ⟨i0_30,i1_30,h⟩:=oc2 h
  refine tgf 7 32 (.pointer (some ⟨b3,0+((irem .i64 (iadd .i64 z11 4) 5):Int).toNat*1,none⟩)) (yi 148 112 5 1 .i64 (irem .i64 (iadd .i64 z11 4) 5) i0_30 i1_30) ?_
  refine tgt 8 33 (U8 (rd y6 (irem .i64 (iadd .i64 z11 4) 5))) (yA hs 0 112 (irem .i64 (iadd .i64 z11 4) 5) rfl i0_30 i1_30 .grow) ?_
  refine gq 9 34 (U8 (ixor .u64 (rd z12 z11) (rd y6 (irem .i64 (iadd .i64 z11 4) 5)))) ?_
  refine gq 10 35 (I8 z11) ?_
  refine gq 11 36 (I8 (iadd .i64 z11 1)) ?_
  refine gq 12 37 (I8 (irem .i64 (iadd .i64 z11 1) 5)) ?_
  obtain ⟨x15,hx,h⟩:=ob h
  have hx:=of_some hx
  subst hx
  obtain ⟨i0_31,i1_31,h⟩:=oc2 h
  refine tgf 13 38 (.pointer (some ⟨b3,0+((irem .i64 (iadd .i64 z11 1) 5):Int).toNat*1,none⟩)) (yi 148 112 5 1 .i64 (irem .i64 (iadd .i64 z11 1) 5) i0_31 i1_31) ?_
  refine tgt 14 39 (U8 (rd y6 (irem .i64 (iadd .i64 z11 1) 5))) (yA hs 0 112 (irem .i64 (iadd .i64 z11 1) 5) rfl i0_31 i1_31 .grow) ?_
  obtain ⟨r16,hg,h⟩:=ob h
  refine go 15 (oC 40 hs (ref08_left.ok hg _) fun w gw hs=>⟨.of gw,?_⟩)
  refine gq 16 41 (U8 (ixor .u64 (ixor .u64 (rd z12 z11) (rd y6 (irem .i64 (iadd .i64 z11 4) 5))) r16)) ?_
  obtain ⟨i0_32,i1_32,h⟩:=oc2 h
  refine tgf 17 42 (P1 b1 z11) (yi 113 112 25 1 .i64 z11 i0_32 i1_32) ?_
  obtain ⟨x17,hx,h⟩:=ob h
  refine go 18 (oA 112 x17 z11 hs 2 rfl (by cases hx; kernel_rfl) i0_32 i1_32 fun w kp hs=>⟨⟨fun hf=>absurd hf (by decide),.all _ _⟩,?_⟩)
  refine gf (j28 _ _ ?_)
  refine iN (T s27 (xn 3 fun _ j33=>?_))
  refine nq 0 [(23,I8 z11),(24,I8 (iadd .i64 z11 1))] ?_
  obtain ⟨x18,hx,h⟩:=ob h
  refine tkf 2 5 (I8 x18) (yn hx) ?_
  refine fin (j33 _ _ ?_)
  exact tn (kl1 _ _ ⟨n,ls n,x18,(wr z12 z11 x17),h,(hs.conv rfl),eg⟩)
  refine tb 1 22 (df hc) ?_
  refine fj j26 s25 (cf (xexit (tx (tx (iH ?_)))))
  obtain rfl:=of_some h
  exact exq_n (nn1 _ _ ⟨(hs.conv rfl),eg⟩)
 clear hs h hy
 rintro a w ⟨hs,g23,rfl⟩
 have h:=hk1
 refine T s19 (xs fun _ s34=>(xn 2 fun _ j35=>?_))
 refine tkt 0 43 (ag .u64 y13) (yWe 113 hs 2 .grow) ?_
 refine so 1 (oWe 113 .u64 y13 hs 1 fun w kp hs=>?_)
 refine fj j35 s34 (xret ?_)
 obtain rfl:=of_some h
 exact qq _ _ (pr (rr [.cell 2 113] [ag .u64 y13] (.cons (rcN 25 hs 1 rfl (enc_len _ _)) .nil)) ⟨cr,hs.none⟩)
theorem ref08_Permute.ok {K:Nat}{a0 r0:Arr 25}(h:ref08_Permute.f K a0=some r0) (w0:World):Ret Tryd.prog 107 #[ag .u64 a0] w0 (ag .u64 r0):=by
 refine calls_k Tryd.func107 rfl fun Q qq=>?_
 have hs:=St.start w0
 refine wc (a':=(fu 52 [ag .u64 a0])) ?_
 refine xs fun _ s1=>?_
 refine xn 2 fun _ j2=>?_
 refine so 0 (oB 1 113 (ag .u64 a0) hs (enc .u64 a0) fun b1 w gw hs=>?_)
 refine so 1 (oN 2 113 hs (enc .u64 (zeroA 25)) (ag .u64 (zeroA 25)) fun b2 w gw hs=>?_)
 refine fj j2 s1 (xs fun _ s3=>(xn 3 fun _ j4=>?_))
 obtain ⟨r3,hg,h⟩:=ob h
 refine so 0 (oC 8 hs (ref08_constants.ok hg _) fun w gw hs=>?_)
 refine so 1 (oN 3 144 hs (enc .u64 (zeroA 24)) (ag .u64 (zeroA 24)) fun b4 w gw hs=>?_)
 refine so 2 (oWe 144 .u64 r3 hs 0 fun w kp hs=>?_)
 refine fj j4 s3 (xs fun _ s5=>(xs fun _ s6=>(xn 1 fun _ j7=>?_)))
 refine qo 0 4 (I8 0) ?_
 refine fj j7 s6 (?_)
 obtain ⟨y7,hy,hk0⟩:=ob h
 refine wp_exq (N:=fun a w=>St w0 [] [.blk b4 (enc .u64 r3) 144,.blk b2 (enc .u64 (zeroA 25)) 113,.blk b1 (enc .u64 y7) 113] [] w∧∃ g9,a=fr g9 53 [(1,[P0 b1,P0 b2])]) (fun N0 nn0=>?_) ?_
 clear hk0
 refine xb ?_
 refine wp_loop_k (fun n a w=>∃ z5 z6,ref08_Permute.l0 K n r3 z5 z6=some y7∧St w0 [] [.blk b4 (enc .u64 r3) 144,.blk b2 (enc .u64 (zeroA 25)) 113,.blk b1 (enc .u64 z6) 113] [] w∧∃ g8,a=fr g8 53 [(1,[P0 b1,P0 b2,P0 b4,I8 z5])]) K ⟨0,a0,hy,hs.conv rfl,eg⟩ ?_
 clear hs h hy
 rintro n a w ⟨z5,z6,h,hs,g8,rfl⟩ KL0 kl0
 cases n with
 | zero=>exact nomatch (show none=some _ from h)
 | succ n=>
  refine xs fun _ s10=>?_
  refine xs fun _ s11=>?_
  refine xn 2 fun _ j12=>?_
  refine qo 0 9 (I8 z5) ?_
  obtain ⟨hc,h⟩|⟨hc,h⟩:=of_if h
  refine tb 1 10 (dt hc) ?_
  refine fj j12 s11 (ct (xk (T s10 (xs fun _ s13=>(xb (xs fun _ s14=>(xn 5 fun _ j15=>?_)))))))
  refine tkt 0 13 (ag .u64 z6) (yWe 113 hs 2 .grow) ?_
  obtain ⟨r8,hg,h⟩:=ob h
  refine so 1 (oC 14 hs (ref08_spread.ok hg _) fun w gw hs=>?_)
  obtain ⟨r9,hg,h⟩:=ob h
  refine so 2 (oC 15 hs (ref08_move.ok hg _) fun w gw hs=>?_)
  refine so 3 (oN 5 113 hs (enc .u64 (zeroA 25)) (ag .u64 (zeroA 25)) fun b10 w gw hs=>?_)
  refine so 4 (oWe 113 .u64 r9 hs 0 fun w kp hs=>?_)
  refine fj j15 s14 (xs fun _ s16=>(xs fun _ s17=>(xn 1 fun _ j18=>?_)))
  refine qo 0 6 (I8 0) ?_
  refine fj j18 s17 (?_)
  obtain ⟨y13,hy,hk1⟩:=ob h
  refine wp_exq (N:=fun a w=>St w0 [] [.blk b10 (enc .u64 r9) 113,.blk b4 (enc .u64 r3) 144,.blk b2 (enc .u64 (zeroA 25)) 113,.blk b1 (enc .u64 y13) 113] [] w∧∃ g20,a=fr g20 53 [(1,[P0 b1,P0 b2,P0 b4,I8 z5])]) (fun N1 nn1=>?_) ?_
  clear hk1
  refine xb ?_
  refine wp_loop_k (fun n a w=>∃ z11 z12,ref08_Permute.l1 K n r9 z11 z12=some y13∧St w0 [] [.blk b10 (enc .u64 r9) 113,.blk b4 (enc .u64 r3) 144,.blk b2 (enc .u64 (zeroA 25)) 113,.blk b1 (enc .u64 z12) 113] [] w∧∃ g19,a=fr g19 53 [(1,[P0 b1,P0 b2,P0 b4,I8 z5,P0 b10,I8 z11])]) K ⟨0,z6,hy,hs.conv rfl,eg⟩ ?_
  clear hs h hy
  rintro n a w ⟨z11,z12,h,hs,g19,rfl⟩ KL1 kl1
  cases n with
  | zero=>exact nomatch (show none=some _ from h)
  | succ n=>
   refine xs fun _ s21=>?_
   refine xs fun _ s22=>?_
   refine xn 2 fun _ j23=>?_
   refine qo 0 16 (I8 z11) ?_
   obtain ⟨hc,h⟩|⟨hc,h⟩:=of_if h
   refine tb 1 17 (dt hc) ?_
   refine fj j23 s22 (ct (xk (T s21 (xs fun _ s24=>(xb (xs fun _ s25=>(xn 4 fun _ j26=>?_)))))))
   refine nq 0 [(20,I8 z11),(21,I8 (iquo .i64 z11 5)),(22,I8 (imul .i64 (iquo .i64 z11 5) 5))] ?_
   obtain ⟨x14,hx,h⟩:=ob h
   refine tkf 3 7 (I8 x14) (yn hx) ?_
   refine fj j26 s25 (?_)
   refine rg [22] (fun k=>True) 23 fun _ j27=>?_
   have hs:=hs.drawn1
   refine gq 0 23 (I8 z11) ?_
   refine gq 1 24 (I8 z11) ?_
   obtain ⟨i0_28,i1_28,h⟩:=oc2 h
   refine tgf 2 25 (P1 b10 z11) (yi 113 112 25 1 .i64 z11 i0_28 i1_28) ?_
   refine tgt 3 26 (U8 (rd r9 z11)) (yA hs 0 112 z11 rfl i0_28 i1_28 .grow) ?_
   refine gq 4 27 (I8 x14) ?_
   refine gq 5 28 (I8 z11) ?_
   refine gq 6 29 (I8 (iadd .i64 z11 1)) ?_
   refine gq 7 30 (I8 (irem .i64 (iadd .i64 z11 1) 5)) ?_
   refine gq 8 31 (I8 (iadd .i64 x14 (irem .i64 (iadd .i64 z11 1) 5))) ?_
   obtain ⟨x15,hx,h⟩:=ob h
   have hx:=of_some hx
   subst hx
   obtain ⟨i0_29,i1_29,h⟩:=oc2 h
   refine tgf 9 32 (.pointer (some ⟨b10,0+((iadd .i64 x14 (irem .i64 (iadd .i64 z11 1) 5)):Int).toNat*1,none⟩)) (yi 113 112 25 1 .i64 (iadd .i64 x14 (irem .i64 (iadd .i64 z11 1) 5)) i0_29 i1_29) ?_
   refine tgt 10 33 (U8 (rd r9 (iadd .i64 x14 (irem .i64 (iadd .i64 z11 1) 5)))) (yA hs 0 112 (iadd .i64 x14 (irem .i64 (iadd .i64 z11 1) 5)) rfl i0_29 i1_29 .grow) ?_
   refine gq 11 34 (U8 (ixor .u64 (rd r9 (iadd .i64 x14 (irem .i64 (iadd .i64 z11 1) 5))) 18446744073709551615)) ?_
   refine gq 12 35 (I8 x14) ?_
   refine gq 13 36 (I8 z11) ?_
   refine gq 14 37 (I8 (iadd .i64 z11 2)) ?_
   refine gq 15 38 (I8 (irem .i64 (iadd .i64 z11 2) 5)) ?_
   refine gq 16 39 (I8 (iadd .i64 x14 (irem .i64 (iadd .i64 z11 2) 5))) ?_
   obtain ⟨x16,hx,h⟩:=ob h
   have hx:=of_some hx
   subst hx
   obtain ⟨i0_30,i1_30,h⟩:=oc2 h
   refine tgf 17 40 (.pointer (some ⟨b10,0+((iadd .i64 x14 (irem .i64 (iadd .i64 z11 2) 5)):Int).toNat*1,none⟩)) (yi 113 112 25 1 .i64 (iadd .i64 x14 (irem .i64 (iadd .i64 z11 2) 5)) i0_30 i1_30) ?_
   refine tgt 18 41 (U8 (rd r9 (iadd .i64 x14 (irem .i64 (iadd .i64 z11 2) 5)))) (yA hs 0 112 (iadd .i64 x14 (irem .i64 (iadd .i64 z11 2) 5)) rfl i0_30 i1_30 .grow) ?_
   refine gq 19 42 (U8 (iand .u64 (ixor .u64 (rd r9 (iadd .i64 x14 (irem .i64 (iadd .i64 z11 1) 5))) 18446744073709551615) (rd r9 (iadd .i64 x14 (irem .i64 (iadd .i64 z11 2) 5))))) ?_
   refine gq 20 43 (U8 (ixor .u64 (rd r9 z11) (iand .u64 (ixor .u64 (rd r9 (iadd .i64 x14 (irem .i64 (iadd .i64 z11 1) 5))) 18446744073709551615) (rd r9 (iadd .i64 x14 (irem .i64 (iadd .i64 z11 2) 5)))))) ?_
   obtain ⟨i0_31,i1_31,h⟩:=oc2 h
   refine tgf 21 44 (P1 b1 z11) (yi 113 112 25 1 .i64 z11 i0_31 i1_31) ?_
   obtain ⟨x17,hx,h⟩:=ob h
   refine go 22 (oA 112 x17 z11 hs 3 rfl (by cases hx; kernel_rfl) i0_31 i1_31 fun w kp hs=>⟨⟨fun hf=>absurd hf (by decide),.all _ _⟩,?_⟩)
   refine gf (j27 _ _ ?_)
   refine iN (T s24 (xn 3 fun _ j32=>?_))
   refine nq 0 [(18,I8 z11),(19,I8 (iadd .i64 z11 1))] ?_
   obtain ⟨x18,hx,h⟩:=ob h
   refine tkf 2 6 (I8 x18) (yn hx) ?_
   refine fin (j32 _ _ ?_)
   exact tn (kl1 _ _ ⟨n,ls n,x18,(wr z12 z11 x17),h,(hs.conv rfl),eg⟩)
   refine tb 1 17 (df hc) ?_
   refine fj j23 s22 (cf (xexit (tx (tx (iH ?_)))))
   obtain rfl:=of_some h
   exact exq_n (nn1 _ _ ⟨(hs.conv rfl),eg⟩)
  clear hs h hy
  rintro a w ⟨hs,g20,rfl⟩
  have h:=hk1
  refine T s16 (?_)
  refine rg [7] (fun k=>True) 8 fun _ j33=>?_
  have hs:=hs.drawn1
  refine tgf 0 45 (P1 b1 0) (yi 113 112 25 1 .i64 0 (by decide) (by decide)) ?_
  refine tgt 1 46 (U8 (rd y13 0)) (yA hs 3 112 0 rfl (by decide) (by decide) .grow) ?_
  refine gq 2 47 (I8 z5) ?_
  obtain ⟨i0_35,i1_35,h⟩:=oc2 h
  refine tgf 3 48 (P1 b4 z5) (yi 144 112 24 1 .i64 z5 i0_35 i1_35) ?_
  refine tgt 4 49 (U8 (rd r3 z5)) (yA hs 1 112 z5 rfl i0_35 i1_35 .grow) ?_
  refine gq 5 50 (U8 (ixor .u64 (rd y13 0) (rd r3 z5))) ?_
  refine tgf 6 51 (P1 b1 0) (yi 113 112 25 1 .i64 0 (by decide) (by decide)) ?_
  obtain ⟨x19,hx,h⟩:=ob h
  refine go 7 (oA 112 x19 0 hs 3 rfl (by cases hx; kernel_rfl) (by decide) (by decide) fun w kp hs=>⟨⟨fun hf=>absurd hf (by decide),.all _ _⟩,?_⟩)
  refine gf (j33 _ _ ?_)
  refine iN (T s13 (xn 3 fun _ j37=>?_))
  refine nq 0 [(11,I8 z5),(12,I8 (iadd .i64 z5 1))] ?_
  obtain ⟨x20,hx,h⟩:=ob h
  refine tkf 2 4 (I8 x20) (yn hx) ?_
  refine fin (j37 _ _ ?_)
  exact tn (kl0 _ _ ⟨n,ls n,x20,(wr y13 0 x19),h,(dr [0,1,1,1] hs),eg⟩)
  refine tb 1 10 (df hc) ?_
  refine fj j12 s11 (cf (xexit (tx (tx (iH ?_)))))
  obtain rfl:=of_some h
  exact exq_n (nn0 _ _ ⟨(hs.conv rfl),eg⟩)
 clear hs h hy
 rintro a w ⟨hs,g9,rfl⟩
 have h:=hk0
 refine T s5 (xs fun _ s38=>(xn 2 fun _ j39=>?_))
 refine tkt 0 52 (ag .u64 y7) (yWe 113 hs 2 .grow) ?_
 refine so 1 (oWe 113 .u64 y7 hs 1 fun w kp hs=>?_)
 refine fj j39 s38 (xret ?_)
 obtain rfl:=of_some h
 exact qq _ _ (pr (rr [.cell 2 113] [ag .u64 y7] (.cons (rcN 25 hs 1 rfl (enc_len _ _)) .nil)) ⟨cr,hs.none⟩)
end Go.Proofs.YtemdbgmldljbpaaDoor
