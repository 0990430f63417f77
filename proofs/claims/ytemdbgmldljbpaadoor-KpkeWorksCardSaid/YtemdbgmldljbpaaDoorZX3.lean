/- own -/
import Derived.Test.YtemdbgmldljbpaaDoorMh
import Derived.Test.YtemdbgmldljbpaaDoorProg
import Derived.Test.YtemdbgmldljbpaaDoorZF0
set_option linter.unusedVariables false
set_option linter.unusedSimpArgs false
set_option maxRecDepth 100000
set_option maxHeartbeats 4000000
namespace Go.Proofs.YtemdbgmldljbpaaDoor
open Go.Mx
attribute [local irreducible] wpOp
theorem kpke_Set.ok {K:Nat}{a0 r0_0 r0_1 r0_2 r0_3 r0_4:Int}{r1:Bool}(h:kpke_Set.f K a0=some (r0_0,r0_1,r0_2,r0_3,r0_4,r1)) (w0:World):Ret Tryd.prog 10 #[I8 a0] w0 (.tuple #[.agg #[I8 r0_0,I8 r0_1,I8 r0_2,I8 r0_3,I8 r0_4],.bool r1]):=by
 refine calls_k Tryd.func10 rfl fun Q qq=>?_
 have hs:=St.start w0
 refine wc (a':=(fu 14 [I8 a0])) ?_
 refine xs fun _ s1=>?_
 refine xn 2 fun _ j2=>?_
 refine so 0 (oN 2 23 hs ([I8 0,I8 0,I8 0,I8 0,I8 0]) (.agg #[I8 0,I8 0,I8 0,I8 0,I8 0]) fun b1 w gw hs=>?_)
 refine qo 1 3 (.bool false) ?_
 refine fj j2 s1 (xs fun _ s3=>(xs fun _ s4=>(xn 1 fun _ j5=>?_)))
 refine qo 0 4 (I8 a0) ?_
 refine fj j5 s4 (xb (xs fun _ s6=>(xn 2 fun _ j7=>?_)))
 obtain ⟨hc,h⟩|⟨hc,h⟩:=of_if h
 refine tb 0 6 (et hc) ?_
 refine qo 1 5 (.bool true) ?_
 refine fj j7 s6 (ct (xs fun _ s8=>(xn 3 fun _ j9=>?_)))
 refine qo 0 7 (.agg #[I8 2,I8 3,I8 2,I8 10,I8 4]) ?_
 refine so 1 (oWa 23 [I8 2,I8 3,I8 2,I8 10,I8 4] hs 0 fun w kp hs=>?_)
 refine qo 2 3 (.bool true) ?_
 refine fj j9 s8 (xret (iR (tr ?_)))
 obtain ⟨rfl,rfl,rfl,rfl,rfl,rfl⟩:=os6 h
 exact qq _ _ (pr (rr [.cell 2 23,.tmp 3] [.agg #[I8 2,I8 3,I8 2,I8 10,I8 4],.bool true] (.cons (rcN 5 hs 0 rfl (by simp [enc_len])) (.cons rt .nil))) ⟨cr,hs.none⟩)
 refine tb 0 6 (ef hc) ?_
 refine qo 1 5 (.bool false) ?_
 refine fj j7 s6 (cf (xs fun _ s10=>(xn 2 fun _ j11=>?_)))
 obtain ⟨hc,h⟩|⟨hc,h⟩:=of_if h
 refine tb 0 9 (et hc) ?_
 refine qo 1 8 (.bool true) ?_
 refine fj j11 s10 (ct (xs fun _ s12=>(xn 3 fun _ j13=>?_)))
 refine qo 0 10 (.agg #[I8 3,I8 2,I8 2,I8 10,I8 4]) ?_
 refine so 1 (oWa 23 [I8 3,I8 2,I8 2,I8 10,I8 4] hs 0 fun w kp hs=>?_)
 refine qo 2 3 (.bool true) ?_
 refine fj j13 s12 (xret (iR (tr ?_)))
 obtain ⟨rfl,rfl,rfl,rfl,rfl,rfl⟩:=os6 h
 exact qq _ _ (pr (rr [.cell 2 23,.tmp 3] [.agg #[I8 3,I8 2,I8 2,I8 10,I8 4],.bool true] (.cons (rcN 5 hs 0 rfl (by simp [enc_len])) (.cons rt .nil))) ⟨cr,hs.none⟩)
 refine tb 0 9 (ef hc) ?_
 refine qo 1 8 (.bool false) ?_
 refine fj j11 s10 (cf (xs fun _ s14=>(xn 2 fun _ j15=>?_)))
 obtain ⟨hc,h⟩|⟨hc,h⟩:=of_if h
 refine tb 0 12 (et hc) ?_
 refine qo 1 11 (.bool true) ?_
 refine fj j15 s14 (ct (xs fun _ s16=>(xn 3 fun _ j17=>?_)))
 refine qo 0 13 (.agg #[I8 4,I8 2,I8 2,I8 11,I8 5]) ?_
 refine so 1 (oWa 23 [I8 4,I8 2,I8 2,I8 11,I8 5] hs 0 fun w kp hs=>?_)
 refine qo 2 3 (.bool true) ?_
 refine fj j17 s16 (xret (iR (tr ?_)))
 obtain ⟨rfl,rfl,rfl,rfl,rfl,rfl⟩:=os6 h
 exact qq _ _ (pr (rr [.cell 2 23,.tmp 3] [.agg #[I8 4,I8 2,I8 2,I8 11,I8 5],.bool true] (.cons (rcN 5 hs 0 rfl (by simp [enc_len])) (.cons rt .nil))) ⟨cr,hs.none⟩)
 refine tb 0 12 (ef hc) ?_
 refine qo 1 11 (.bool false) ?_
 refine fj j15 s14 (cf (xk (iN (T s3 (xs fun _ s18=>(xn 3 fun _ j19=>?_))))))
 refine qo 0 14 (.agg #[I8 0,I8 0,I8 0,I8 0,I8 0]) ?_
 refine so 1 (oWa 23 [I8 0,I8 0,I8 0,I8 0,I8 0] hs 0 fun w kp hs=>?_)
 refine qo 2 3 (.bool false) ?_
 refine fj j19 s18 (xret ?_)
 obtain ⟨rfl,rfl,rfl,rfl,rfl,rfl⟩:=os6 h
 exact qq _ _ (pr (rr [.cell 2 23,.tmp 3] [.agg #[I8 0,I8 0,I8 0,I8 0,I8 0],.bool false] (.cons (rcN 5 hs 0 rfl (by simp [enc_len])) (.cons rt .nil))) ⟨cr,hs.none⟩)
theorem kpke_known.ok {K:Nat}{a0_0 a0_1 a0_2 a0_3 a0_4:Int}{r0:Bool}(h:kpke_known.f K a0_0 a0_1 a0_2 a0_3 a0_4=some r0) (w0:World):Ret Tryd.prog 33 #[.agg #[I8 a0_0,I8 a0_1,I8 a0_2,I8 a0_3,I8 a0_4]] w0 (.bool r0):=by
 refine calls_k Tryd.func33 rfl fun Q qq=>?_
 have hs:=St.start w0
 refine wc (a':=(fu 17 [.agg #[I8 a0_0,I8 a0_1,I8 a0_2,I8 a0_3,I8 a0_4]])) ?_
 refine xs fun _ s1=>?_
 refine xn 2 fun _ j2=>?_
 refine so 0 (oB 1 23 (.agg #[I8 a0_0,I8 a0_1,I8 a0_2,I8 a0_3,I8 a0_4]) hs ([I8 a0_0,I8 a0_1,I8 a0_2,I8 a0_3,I8 a0_4]) fun b1 w gw hs=>?_)
 refine qo 1 2 (.bool false) ?_
 refine fj j2 s1 (xs fun _ s3=>(xn 10 fun _ j4=>?_))
 refine qo 0 6 (P0 b1) ?_
 refine tkt 1 7 (I8 a0_0) (yv hs 0 0 3 rfl (by rfl) .grow) ?_
 refine qo 2 8 (I8 (imul .i64 256 a0_0)) ?_
 obtain ⟨⟨r2_0,r2_1,r2_2,r2_3,r2_4,r3⟩,hg,h⟩:=ob h
 refine so 3 (oC 9 hs (kpke_Set.ok hg _) fun w gw hs=>?_)
 refine nq 4 [(5,.tuple #[.agg #[I8 r2_0,I8 r2_1,I8 r2_2,I8 r2_3,I8 r2_4],.bool r3]),(10,.agg #[I8 r2_0,I8 r2_1,I8 r2_2,I8 r2_3,I8 r2_4])] ?_
 cases r3 with
 | true=>
  have h:=of_if_t h
  refine qo 6 11 (.bool true) ?_
  refine so 7 (oN 3 23 hs ([I8 0,I8 0,I8 0,I8 0,I8 0]) (.agg #[I8 0,I8 0,I8 0,I8 0,I8 0]) fun b4 w gw hs=>?_)
  refine so 8 (oWa 23 [I8 r2_0,I8 r2_1,I8 r2_2,I8 r2_3,I8 r2_4] hs 0 fun w kp hs=>?_)
  refine qo 9 4 (.bool true) ?_
  refine fj j4 s3 (xs fun _ s5=>(xn 7 fun _ j6=>?_))
  refine nq 0 [(12,.bool true),(13,.bool true)] ?_
  refine tkt 2 14 (.agg #[I8 r2_0,I8 r2_1,I8 r2_2,I8 r2_3,I8 r2_4]) (yW hs 0 5 23 rfl (by simp [enc_len]) .grow) ?_
  refine tkt 3 15 (.agg #[I8 a0_0,I8 a0_1,I8 a0_2,I8 a0_3,I8 a0_4]) (yW hs 1 5 23 rfl (by simp [enc_len]) .grow) ?_
  refine tkf 4 16 (.bool ((r2_0 == a0_0) && ((r2_1 == a0_1) && ((r2_2 == a0_2) && ((r2_3 == a0_3) && ((r2_4 == a0_4) && true)))))) (yld_eqS (fs:=[Field.mk "K" 3 0 false "" "" 0,Field.mk "Eta1" 3 1 false "" "" 8,Field.mk "Eta2" 3 2 false "" "" 16,Field.mk "Du" 3 3 false "" "" 24,Field.mk "Dv" 3 4 false "" "" 32]) (xs:=[I8 r2_0,I8 r2_1,I8 r2_2,I8 r2_3,I8 r2_4]) (ys:=[I8 a0_0,I8 a0_1,I8 a0_2,I8 a0_3,I8 a0_4]) (t:=23) (.tmp 14) (.tmp 15) (by kernel_rfl) (by kernel_rfl) (by kernel_rfl) (by kernel_rfl) (.cons rfl (fun w=>Go.Mx.run_part1 (by kernel_rfl) rfl) (fun w=>Go.Mx.run_part1 (by kernel_rfl) rfl) (fun w=>Go.Mx.run_equalIn_int (by kernel_rfl)) (.cons rfl (fun w=>Go.Mx.run_part1 (by kernel_rfl) rfl) (fun w=>Go.Mx.run_part1 (by kernel_rfl) rfl) (fun w=>Go.Mx.run_equalIn_int (by kernel_rfl)) (.cons rfl (fun w=>Go.Mx.run_part1 (by kernel_rfl) rfl) (fun w=>Go.Mx.run_part1 (by kernel_rfl) rfl) (fun w=>Go.Mx.run_equalIn_int (by kernel_rfl)) (.cons rfl (fun w=>Go.Mx.run_part1 (by kernel_rfl) rfl) (fun w=>Go.Mx.run_part1 (by kernel_rfl) rfl) (fun w=>Go.Mx.run_equalIn_int (by kernel_rfl)) (.cons rfl (fun w=>Go.Mx.run_part1 (by kernel_rfl) rfl) (fun w=>Go.Mx.run_part1 (by kernel_rfl) rfl) (fun w=>Go.Mx.run_equalIn_int (by kernel_rfl)) .nil)))))) ?_
  refine nq 5 [(17,.bool ((r2_0 == a0_0) && ((r2_1 == a0_1) && ((r2_2 == a0_2) && ((r2_3 == a0_3) && ((r2_4 == a0_4) && true)))))),(2,.bool ((r2_0 == a0_0) && ((r2_1 == a0_1) && ((r2_2 == a0_2) && ((r2_3 == a0_3) && ((r2_4 == a0_4) && true))))))] ?_
  refine fj j6 s5 (xret ?_)
  obtain rfl:=of_some h
  exact qq _ _ (pt [2] [.bool ((r2_0 == a0_0) && ((r2_1 == a0_1) && ((r2_2 == a0_2) && ((r2_3 == a0_3) && ((r2_4 == a0_4) && true)))))] ⟨cr,hs.none⟩)
 | false=>
  have h:=of_if_f h
  refine qo 6 11 (.bool false) ?_
  refine so 7 (oN 3 23 hs ([I8 0,I8 0,I8 0,I8 0,I8 0]) (.agg #[I8 0,I8 0,I8 0,I8 0,I8 0]) fun b5 w gw hs=>?_)
  refine so 8 (oWa 23 [I8 r2_0,I8 r2_1,I8 r2_2,I8 r2_3,I8 r2_4] hs 0 fun w kp hs=>?_)
  refine qo 9 4 (.bool false) ?_
  refine fj j4 s3 (xs fun _ s7=>(xn 7 fun _ j8=>?_))
  refine nq 0 [(12,.bool false),(13,.bool false),(14,undef),(15,undef),(16,undef),(17,.bool false),(2,.bool false)] ?_
  refine fj j8 s7 (xret ?_)
  obtain rfl:=of_some h
  exact qq _ _ (pt [2] [.bool false] ⟨cr,hs.none⟩)
theorem kpke_Sizes.ok {K:Nat}{a0_0 a0_1 a0_2 a0_3 a0_4 r0 r1 r2:Int}(h:kpke_Sizes.f K a0_0 a0_1 a0_2 a0_3 a0_4=some (r0,r1,r2)) (w0:World):Ret Tryd.prog 12 #[.agg #[I8 a0_0,I8 a0_1,I8 a0_2,I8 a0_3,I8 a0_4]] w0 (.tuple #[I8 r0,I8 r1,I8 r2]):=by
 refine calls_k Tryd.func12 rfl fun Q qq=>?_
 have hs:=St.start w0
 refine wc (a':=(fu 29 [.agg #[I8 a0_0,I8 a0_1,I8 a0_2,I8 a0_3,I8 a0_4]])) ?_
 refine xs fun _ s1=>?_
 refine xn 4 fun _ j2=>?_
 refine so 0 (oB 1 23 (.agg #[I8 a0_0,I8 a0_1,I8 a0_2,I8 a0_3,I8 a0_4]) hs ([I8 a0_0,I8 a0_1,I8 a0_2,I8 a0_3,I8 a0_4]) fun b1 w gw hs=>?_)
 refine nq 1 [(2,I8 0),(3,I8 0),(4,I8 0)] ?_
 refine fj j2 s1 (xs fun _ s3=>(xs fun _ s4=>(xn 3 fun _ j5=>?_)))
 refine tkt 0 6 (.agg #[I8 a0_0,I8 a0_1,I8 a0_2,I8 a0_3,I8 a0_4]) (yW hs 0 5 23 rfl (by simp [enc_len]) .grow) ?_
 obtain ⟨r2,hg,h⟩:=ob h
 cases r2 with
 | true=>
  have h:=of_if_t h
  refine so 1 (oC 7 hs (kpke_known.ok hg _) fun w gw hs=>?_)
  refine qo 2 8 (.bool false) ?_
  refine fj j5 s4 (cf (xk (T s3 (xs fun _ s6=>(xn 1 fun _ j7=>?_)))))
  refine qo 0 5 (I8 32) ?_
  refine fj j7 s6 (xs fun _ s8=>?_)
  refine rg [] (fun k=>True) 24 fun _ j9=>?_
  have hs:=hs.drawn1
  refine gq 0 9 (I8 32) ?_
  refine gq 1 10 (I8 384) ?_
  refine gq 2 11 (P0 b1) ?_
  refine tgt 3 12 (I8 a0_0) (yv hs 0 0 3 rfl (by rfl) .grow) ?_
  refine gq 4 13 (I8 (imul .i64 384 a0_0)) ?_
  refine gq 5 14 (I8 (iadd .i64 (imul .i64 384 a0_0) 32)) ?_
  refine gq 6 15 (I8 32) ?_
  refine gq 7 16 (I8 384) ?_
  refine gq 8 17 (P0 b1) ?_
  refine tgt 9 18 (I8 a0_0) (yv hs 0 0 3 rfl (by rfl) .grow) ?_
  refine gq 10 19 (I8 (imul .i64 384 a0_0)) ?_
  refine gq 11 20 (I8 32) ?_
  refine gq 12 21 (.pointer (some ⟨b1,3,none⟩)) ?_
  refine tgt 13 22 (I8 a0_3) (yv hs 0 3 3 rfl (by rfl) .grow) ?_
  refine gq 14 23 (P0 b1) ?_
  refine tgt 15 24 (I8 a0_0) (yv hs 0 0 3 rfl (by rfl) .grow) ?_
  refine gq 16 25 (I8 (imul .i64 a0_3 a0_0)) ?_
  refine gq 17 26 (.pointer (some ⟨b1,4,none⟩)) ?_
  refine tgt 18 27 (I8 a0_4) (yv hs 0 4 3 rfl (by rfl) .grow) ?_
  refine gq 19 28 (I8 (iadd .i64 (imul .i64 a0_3 a0_0) a0_4)) ?_
  refine gq 20 29 (I8 (imul .i64 32 (iadd .i64 (imul .i64 a0_3 a0_0) a0_4))) ?_
  obtain ⟨x3,hx,h⟩:=ob h
  refine tgf 21 2 (I8 x3) (yn hx) ?_
  obtain ⟨x4,hx,h⟩:=ob h
  refine tgf 22 3 (I8 x4) (yn hx) ?_
  obtain ⟨x5,hx,h⟩:=ob h
  refine tgf 23 4 (I8 x5) (yn hx) ?_
  refine gf (j9 _ _ ?_)
  refine T s8 (xret ?_)
  obtain ⟨rfl,rfl,rfl⟩:=os3 h
  exact qq _ _ (pt [2,3,4] [I8 x3,I8 x4,I8 x5] ⟨cr,hs.none⟩)
 | false=>
  have h:=of_if_f h
  refine so 1 (oC 7 hs (kpke_known.ok hg _) fun w gw hs=>?_)
  refine qo 2 8 (.bool true) ?_
  refine fj j5 s4 (ct (xs fun _ s10=>(xn 3 fun _ j11=>?_)))
  refine nq 0 [(2,I8 0),(3,I8 0),(4,I8 0)] ?_
  refine fj j11 s10 (xret (tr ?_))
  obtain ⟨rfl,rfl,rfl⟩:=os3 h
  exact qq _ _ (pt [2,3,4] [I8 0,I8 0,I8 0] ⟨cr,hs.none⟩)
theorem slices_Concat_byte_byte.ok {K:Nat}{a0:List (List Int)}{r0:List Int}{a0_A:Option Addr}{a0_n a0_c:Nat}{a0_H:List HS}(h:slices_Concat_byte_byte.f K a0=some r0) (w0:World) (hp0:LLP CB w0 a0_A a0_n a0_c a0_H a0):Calls Tryd.prog 81 #[.slice a0_A a0_n a0_c] w0 fun e w'=>∃ h:(Option Addr × Nat × Nat),e = .returned (.slice h.1 h.2.1 h.2.2)∧St w0 [] [.ownL CB h.1 h.2.1 h.2.2 r0 5] [] w':=by
 refine calls_k Tryd.func81 rfl fun Q qq=>?_
 have hs:=St.startR (all_cons (LLP.ent hp0) all_nil)
 refine wc (a':=(fu 35 [.slice a0_A a0_n a0_c])) ?_
 refine xs fun _ s1=>?_
 refine xn 1 fun _ j2=>?_
 refine qo 0 2 (.slice none 0 0) ?_
 refine fj j2 s1 (xs fun _ s3=>(xn 1 fun _ j4=>?_))
 refine qo 0 3 (I8 0) ?_
 refine fj j4 s3 (xs fun _ s5=>(xs fun _ s6=>(xn 3 fun _ j7=>?_)))
 refine qo 0 9 (.slice a0_A a0_n a0_c) ?_
 refine tkf 1 10 (I8 (a0.length:Int)) (ylLL (hs.rowLL 0 rfl)) ?_
 refine qo 2 11 (I8 0) ?_
 refine fj j7 s6 (?_)
 obtain ⟨y3,hy,hk0⟩:=ob h
 refine wp_exq (N:=fun a w=>St w0 [] [] [.rowLL CB a0_A a0_n a0_c a0_H a0] w∧∃ g9,a=fr g9 36 [(0,[.slice a0_A a0_n a0_c]),(2,[.slice none 0 0,I8 y3])]) (fun N0 nn0=>?_) ?_
 clear hk0
 refine xb ?_
 refine wp_loop_k (fun n a w=>∃ z1 z2,slices_Concat_byte_byte.l0 K n a0 z1 z2=some y3∧St w0 [] [] [.rowLL CB a0_A a0_n a0_c a0_H a0] w∧∃ g8,a=fr g8 36 [(0,[.slice a0_A a0_n a0_c]),(2,[.slice none 0 0,I8 z1]),(9,[.slice a0_A a0_n a0_c,I8 (a0.length:Int),I8 z2])]) K ⟨0,0,hy,hs.conv rfl,eg⟩ ?_
 clear hs h hy
 rintro n a w ⟨z1,z2,h,hs,g8,rfl⟩ KL0 kl0
 cases n with
 | zero=>exact nomatch (show none=some _ from h)
 | succ n=>
  refine xs fun _ s10=>?_
  refine xn 1 fun _ j11=>?_
  obtain ⟨hc,h⟩|⟨hc,h⟩:=of_if h
  refine tb 0 12 (dt hc) ?_
  refine fj j11 s10 (xs fun _ s12=>(ct (xk (T s12 (xs fun _ s13=>(xb (xs fun _ s14=>(xn 3 fun _ j15=>?_))))))))
  obtain ⟨h0,h1,h⟩:=oc2 h
  have i0_16:=h0
  have i1_16:=h1
  refine tkf 0 13 (PA CS a0_A z2) (yiLL (C:=CB) 59 24 .i64 z2 (hs.rowLL 0 rfl) h0 h1) ?_
  obtain ⟨s4_A,hA⟩ : ∃ A,A=(rdL CS a0_H z2).1:=⟨_,rfl⟩
  obtain ⟨s4_n,hn⟩ : ∃ n,n=(rdL CS a0_H z2).2.1:=⟨_,rfl⟩
  obtain ⟨s4_c,hc⟩ : ∃ c,c=(rdL CS a0_H z2).2.2:=⟨_,rfl⟩
  refine tkt 1 14 (.slice s4_A s4_n s4_c) (by subst hA hn hc; exact yLL (C:=CB) 24 z2 (hs.rowLL 0 rfl) i0_16 i1_16) ?_
  have hs:=hs.addInn (C:=CB) 0 rfl i0_16 i1_16 hA hn hc
  refine qo 2 5 (.slice s4_A s4_n s4_c) ?_
  refine fj j15 s14 (xs fun _ s17=>(xn 5 fun _ j18=>?_))
  refine nq 0 [(15,I8 z1),(16,.slice s4_A s4_n s4_c)] ?_
  refine tkf 2 17 (I8 ((rdLL a0 z2).length:Int)) (yl (hs.rowR 0 rfl)) ?_
  refine qo 3 18 (I8 (iadd .i64 z1 ((rdLL a0 z2).length:Int))) ?_
  obtain ⟨x5,hx,h⟩:=ob h
  refine tkf 4 3 (I8 x5) (yn hx) ?_
  refine fj j18 s17 (xs fun _ s19=>(xn 2 fun _ j20=>?_))
  refine qo 0 19 (I8 x5) ?_
  obtain ⟨hc,h⟩|⟨hc,h⟩:=of_if h
  refine tb 1 20 (dt hc) ?_
  refine fj j20 s19 (ct (xn 2 fun _ j21=>?_))
  exact nomatch (show none=some _ from h)
  refine tb 1 20 (df hc) ?_
  refine fj j20 s19 (cf (xk (iN (T s13 (xn 2 fun _ j22=>?_)))))
  refine nq 0 [(22,I8 (iadd .i64 z2 1)),(11,I8 (iadd .i64 z2 1))] ?_
  refine fin (j22 _ _ ?_)
  exact tn (kl0 _ _ ⟨n,ls n,x5,(iadd .i64 z2 1),h,(pk [1] hs),eg⟩)
  refine tb 0 12 (df hc) ?_
  refine fj j11 s10 (xs fun _ s23=>(cf (xexit (tx (tx (iH ?_))))))
  obtain rfl:=of_some h
  exact exq_n (nn0 _ _ ⟨(hs.conv rfl),eg⟩)
 clear hs h hy
 rintro a w ⟨hs,g9,rfl⟩
 have h:=hk0
 refine T s5 (xs fun _ s24=>(xn 3 fun _ j25=>?_))
 refine qo 0 23 (I8 y3) ?_
 refine wpS.only 1 (op_inline (d:=(some 24)) (f:=104) (args:=#[.slice none 0 0,I8 y3]) (by kernel_rfl) (fun _=>by kernel_rfl) fun R26 kI26=>?_)
 refine calls_k Tryd.func104 rfl fun Q26 qq26=>?_
 refine wc (a':=(fu 25 [.slice none 0 0,I8 y3])) ?_
 refine xs fun _ s27=>?_
 refine xn 1 fun _ j28=>?_
 refine qo 0 4 (.slice none 0 0) ?_
 refine fj j28 s27 (xs fun _ s29=>(xs fun _ s30=>(xn 2 fun _ j31=>?_)))
 refine qo 0 5 (I8 y3) ?_
 obtain ⟨hc,h⟩|⟨hc,h⟩:=of_if h
 refine tb 1 6 (dt hc) ?_
 refine fj j31 s30 (ct (xn 2 fun _ j32=>?_))
 exact nomatch (show none=some _ from h)
 refine tb 1 6 (df hc) ?_
 refine fj j31 s30 (cf (xk (T s29 (?_))))
 obtain ⟨y6,hj,h⟩:=ob h
 refine xs fun _ s34=>wp_join (N:=fun a w=>∃ y6_A y6_n y6_c,St w0 [] [.ownL CB y6_A y6_n y6_c y6 5] [.rowLL CB a0_A a0_n a0_c a0_H a0] w∧∃ g33,a=fr g33 27 [(0,[.slice y6_A y6_n y6_c]),(4,[.slice none 0 0])]) (fun N nj=>?_) ?_
 clear h
 have h:=hj
 refine xs fun _ s35=>?_
 refine xn 8 fun _ j36=>?_
 refine nq 0 [(8,I8 y3),(9,.slice none 0 0),(10,I8 0),(11,.slice none 0 0),(12,I8 0),(13,I8 0),(14,I8 (isub .i64 y3 0))] ?_
 obtain ⟨x7,hx,h⟩:=ob h
 refine tkf 7 1 (I8 x7) (yn hx) ?_
 refine fj j36 s35 (xs fun _ s37=>(xn 2 fun _ j38=>?_))
 refine qo 0 15 (I8 x7) ?_
 obtain ⟨hc,h⟩|⟨hc,h⟩:=of_if h
 refine tb 1 16 (dt hc) ?_
 refine fj j38 s37 (ct (xn 10 fun _ j39=>?_))
 refine nq 0 [(17,.slice none 0 0),(18,.slice none 0 0),(19,I8 0),(20,.slice none 0 0),(21,I8 x7)] ?_
 obtain ⟨h0,h1,h⟩:=oc2 h
 refine so 5 (op_appendZ0 (C:=CB) (t:=24) (tn:=3) (ty:=24) (e:=5) (bytes:=1) (B:=140737488355328) (kn:=.i64) (kq:=.i64) (x:=x7) (d:=(some 22)) (by kernel_rfl) hs (by kernel_rfl) (by kernel_rfl) (by kernel_rfl) (by kernel_rfl) (by kernel_rfl) (by kernel_rfl) h0 h1 (by decide) (by decide) fun s8_A s8_n s8_c w gw hs=>?_)
 refine nq 6 [(23,.slice none 0 0),(24,I8 0)] ?_
 obtain ⟨h0,h1,h⟩:=oc2 h
 refine tkf 8 25 (.slice s8_A (0:Int).toNat s8_c) (yld_pre (C:=CB) (t:=24) (e:=5) (k:=.i64) (hi:=0) (hs.rowL 0 rfl) (by kernel_rfl) (by kernel_rfl) (by kernel_rfl) h0 h1) ?_
 have hs:=hs.preOwn 0 rfl h0 h1
 refine qo 9 0 (.slice s8_A (0:Int).toNat s8_c) ?_
 refine fin (j39 _ _ ?_)
 obtain rfl:=of_some h
 exact nj _ _ ⟨s8_A,(0:Int).toNat,s8_c,(hs.conv rfl),eg⟩
 refine tb 1 16 (df hc) ?_
 refine fj j38 s37 (cf (xk ?_))
 obtain rfl:=of_some h
 have hs:=hs.addNilL CB 5
 exact nj _ _ ⟨none,0,0,(hs.conv rfl),eg⟩
 clear hj hs
 rintro a w ⟨y6_A,y6_n,y6_c,hs,g33,rfl⟩
 refine T s34 (xs fun _ s40=>(xn 2 fun _ j41=>?_))
 refine nq 0 [(26,.slice y6_A y6_n y6_c),(4,.slice y6_A y6_n y6_c)] ?_
 refine fj j41 s40 (xret ?_)
 refine qq26 _ _ (pt [4] [.slice y6_A y6_n y6_c] ?_)
 refine kI26 _ _ ?_
 refine ⟨fun _=>trivial,?_⟩
 refine qo 2 6 (.slice y6_A y6_n y6_c) ?_
 refine fj j25 s24 (xs fun _ s42=>(xs fun _ s43=>(xn 3 fun _ j44=>?_)))
 refine qo 0 25 (.slice a0_A a0_n a0_c) ?_
 refine tkf 1 26 (I8 (a0.length:Int)) (ylLL (hs.rowLL 0 rfl)) ?_
 refine qo 2 27 (I8 0) ?_
 refine fj j44 s43 (?_)
 obtain ⟨y11,hy,hk1⟩:=ob h
 refine wp_exq (N:=fun a w=>∃ y11_A y11_n y11_c,St w0 [] [.ownL CB y11_A y11_n y11_c y11 5] [.rowLL CB a0_A a0_n a0_c a0_H a0] w∧∃ g46,a=fr g46 36 [(2,[.slice none 0 0]),(6,[.slice y11_A y11_n y11_c])]) (fun N1 nn1=>?_) ?_
 clear hk1
 refine xb ?_
 refine wp_loop_k (fun n a w=>∃ z9 z10,∃ z10_A z10_n z10_c,slices_Concat_byte_byte.l1 K n a0 z9 z10=some y11∧St w0 [] [.ownL CB z10_A z10_n z10_c z10 5] [.rowLL CB a0_A a0_n a0_c a0_H a0] w∧∃ g45,a=fr g45 36 [(2,[.slice none 0 0]),(6,[.slice z10_A z10_n z10_c]),(25,[.slice a0_A a0_n a0_c,I8 (a0.length:Int),I8 z9])]) K ⟨0,y6,y6_A,y6_n,y6_c,hy,hs.conv rfl,eg⟩ ?_
 clear hs h hy
 rintro n a w ⟨z9,z10,z10_A,z10_n,z10_c,h,hs,g45,rfl⟩ KL1 kl1
 cases n with
 | zero=>exact nomatch (show none=some _ from h)
 | succ n=>
  refine xs fun _ s47=>?_
  refine xn 1 fun _ j48=>?_
  obtain ⟨hc,h⟩|⟨hc,h⟩:=of_if h
  refine tb 0 28 (dt hc) ?_
  refine fj j48 s47 (xs fun _ s49=>(ct (xk (T s49 (xs fun _ s50=>(xb (xs fun _ s51=>(xn 3 fun _ j52=>?_))))))))
  obtain ⟨h0,h1,h⟩:=oc2 h
  have i0_53:=h0
  have i1_53:=h1
  refine tkf 0 29 (PA CS a0_A z9) (yiLL (C:=CB) 59 24 .i64 z9 (hs.rowLL 0 rfl) h0 h1) ?_
  obtain ⟨s12_A,hA⟩ : ∃ A,A=(rdL CS a0_H z9).1:=⟨_,rfl⟩
  obtain ⟨s12_n,hn⟩ : ∃ n,n=(rdL CS a0_H z9).2.1:=⟨_,rfl⟩
  obtain ⟨s12_c,hc⟩ : ∃ c,c=(rdL CS a0_H z9).2.2:=⟨_,rfl⟩
  refine tkt 1 30 (.slice s12_A s12_n s12_c) (by subst hA hn hc; exact yLL (C:=CB) 24 z9 (hs.rowLL 0 rfl) i0_53 i1_53) ?_
  have hs:=hs.addInn (C:=CB) 0 rfl i0_53 i1_53 hA hn hc
  refine qo 2 8 (.slice s12_A s12_n s12_c) ?_
  refine fj j52 s51 (xn 4 fun _ j54=>?_)
  refine nq 0 [(31,.slice z10_A z10_n z10_c),(32,.slice s12_A s12_n s12_c)] ?_
  obtain ⟨h0,h⟩:=oc h
  refine so 2 (oAp (C:=CB) 33 24 24 5 1 140737488355328 hs 0 rfl (hs.rowR 0 rfl) h0 (by decide) (by decide) fun s13_A s13_n s13_c w hs=>?_)
  refine qo 3 6 (.slice s13_A s13_n s13_c) ?_
  refine fin (j54 _ _ (iN (T s50 (xn 2 fun _ j55=>?_))))
  refine nq 0 [(34,I8 (iadd .i64 z9 1)),(27,I8 (iadd .i64 z9 1))] ?_
  refine fin (j55 _ _ ?_)
  exact tn (kl1 _ _ ⟨n,ls n,(iadd .i64 z9 1),(z10++(rdLL a0 z9)),s13_A,s13_n,s13_c,h,(pk [1] hs),eg⟩)
  refine tb 0 28 (df hc) ?_
  refine fj j48 s47 (xs fun _ s56=>(cf (xexit (tx (tx (iH ?_))))))
  obtain rfl:=of_some h
  exact exq_n (nn1 _ _ ⟨z10_A,z10_n,z10_c,(hs.conv rfl),eg⟩)
 clear hs h hy
 rintro a w ⟨y11_A,y11_n,y11_c,hs,g46,rfl⟩
 have h:=hk1
 refine T s42 (xs fun _ s57=>(xn 2 fun _ j58=>?_))
 refine nq 0 [(35,.slice y11_A y11_n y11_c),(2,.slice y11_A y11_n y11_c)] ?_
 refine fj j58 s57 (xret ?_)
 obtain rfl:=of_some h
 exact qq _ _ (pt [2] [.slice y11_A y11_n y11_c] ⟨⟨y11_A,y11_n,y11_c⟩,cr,(pz hs)⟩)
theorem bits_Join.ok {K:Nat}{a0:List (List Int)}{r0:List Int}{a0_A:Option Addr}{a0_n a0_c:Nat}{a0_H:List HS}(h:bits_Join.f K a0=some r0) (w0:World) (hp0:LLP CB w0 a0_A a0_n a0_c a0_H a0):Calls Tryd.prog 36 #[.slice a0_A a0_n a0_c] w0 fun e w'=>∃ h:(Option Addr × Nat × Nat),e = .returned (.slice h.1 h.2.1 h.2.2)∧St w0 [] [.ownL CB h.1 h.2.1 h.2.2 r0 5] [] w':=by
 refine calls_k Tryd.func36 rfl fun Q qq=>?_
 have hs:=St.startR (all_cons (LLP.ent hp0) all_nil)
 refine wc (a':=(fu 4 [.slice a0_A a0_n a0_c])) ?_
 refine xs fun _ s1=>?_
 refine xn 1 fun _ j2=>?_
 refine qo 0 2 (.slice none 0 0) ?_
 refine fj j2 s1 (xs fun _ s3=>(xn 3 fun _ j4=>?_))
 refine qo 0 3 (.slice a0_A a0_n a0_c) ?_
 obtain ⟨r1,hg,h⟩:=ob h
 refine wpS.only 1 (oH 4 hs (slices_Concat_byte_byte.ok hg _ (hs.rowLL 0 rfl)) ?_)
 rintro ⟨r1_A,r1_n,r1_c⟩ w gw hs
 have hs:=hs.conv (L':=[.ownL CB r1_A r1_n r1_c r1 5]) rfl
 refine ⟨fun _=>trivial,?_⟩
 refine qo 2 2 (.slice r1_A r1_n r1_c) ?_
 refine fj j4 s3 (xret ?_)
 obtain rfl:=of_some h
 exact qq _ _ (pt [2] [.slice r1_A r1_n r1_c] ⟨⟨r1_A,r1_n,r1_c⟩,cr,(pz hs)⟩)
theorem keccak_rate.ok {K:Nat}{a0 r0:Int}(h:keccak_rate.f K a0=some r0) (w0:World):Ret Tryd.prog 100 #[I8 a0] w0 (I8 r0):=by
 refine calls_k Tryd.func100 rfl fun Q qq=>?_
 have hs:=St.start w0
 refine wc (a':=(fu 10 [I8 a0])) ?_
 refine xs fun _ s1=>?_
 refine xn 1 fun _ j2=>?_
 refine qo 0 2 (I8 0) ?_
 refine fj j2 s1 (xs fun _ s3=>(xs fun _ s4=>(xn 1 fun _ j5=>?_)))
 refine qo 0 3 (I8 a0) ?_
 refine fj j5 s4 (xb (xs fun _ s6=>(xs fun _ s7=>(xn 2 fun _ j8=>?_))))
 obtain ⟨hc,h⟩|⟨hc,h⟩:=of_if h
 refine tb 0 5 (et hc) ?_
 refine qo 1 4 (.bool true) ?_
 refine fj j8 s7 (ct (xk (T s6 (ct (xs fun _ s9=>(xn 1 fun _ j10=>?_))))))
 refine qo 0 2 (I8 136) ?_
 refine fj j10 s9 (xret (iR (tr ?_)))
 obtain rfl:=of_some h
 exact qq _ _ (pt [2] [I8 136] ⟨cr,hs.none⟩)
 refine tb 0 5 (ef hc) ?_
 refine qo 1 4 (.bool false) ?_
 refine fj j8 s7 (cf (xn 2 fun _ j11=>?_))
 obtain ⟨hc,h⟩|⟨hc,h⟩:=of_if h
 refine tb 0 6 (et hc) ?_
 refine qo 1 4 (.bool true) ?_
 refine fj j11 s6 (ct (xs fun _ s12=>(xn 1 fun _ j13=>?_)))
 refine qo 0 2 (I8 136) ?_
 refine fj j13 s12 (xret (iR (tr ?_)))
 obtain rfl:=of_some h
 exact qq _ _ (pt [2] [I8 136] ⟨cr,hs.none⟩)
 refine tb 0 6 (ef hc) ?_
 refine qo 1 4 (.bool false) ?_
 refine fj j11 s6 (cf (xs fun _ s14=>(xn 2 fun _ j15=>?_)))
 obtain ⟨hc,h⟩|⟨hc,h⟩:=of_if h
 refine tb 0 8 (et hc) ?_
 refine qo 1 7 (.bool true) ?_
 refine fj j15 s14 (ct (xs fun _ s16=>(xn 1 fun _ j17=>?_)))
 refine qo 0 2 (I8 72) ?_
 refine fj j17 s16 (xret (iR (tr ?_)))
 obtain rfl:=of_some h
 exact qq _ _ (pt [2] [I8 72] ⟨cr,hs.none⟩)
 refine tb 0 8 (ef hc) ?_
 refine qo 1 7 (.bool false) ?_
 refine fj j15 s14 (cf (xs fun _ s18=>(xn 2 fun _ j19=>?_)))
 obtain ⟨hc,h⟩|⟨hc,h⟩:=of_if h
 refine tb 0 10 (et hc) ?_
 refine qo 1 9 (.bool true) ?_
 refine fj j19 s18 (ct (xs fun _ s20=>(xn 1 fun _ j21=>?_)))
 refine qo 0 2 (I8 168) ?_
 refine fj j21 s20 (xret (iR (tr ?_)))
 obtain rfl:=of_some h
 exact qq _ _ (pt [2] [I8 168] ⟨cr,hs.none⟩)
 refine tb 0 10 (ef hc) ?_
 refine qo 1 9 (.bool false) ?_
 refine fj j19 s18 (cf (xk (iN (T s3 (xs fun _ s22=>(xn 1 fun _ j23=>?_))))))
 refine qo 0 2 (I8 0) ?_
 refine fj j23 s22 (xret ?_)
 obtain rfl:=of_some h
 exact qq _ _ (pt [2] [I8 0] ⟨cr,hs.none⟩)
theorem keccak_New.ok {K:Nat}{a0 r0_0:Int}{r0_1:Arr 25}{r0_2:Int}{r0_3:Bool}{r1:Int}(h:keccak_New.f K a0=some (r0_0,r0_1,r0_2,r0_3,r1)) (w0:World):Ret Tryd.prog 77 #[I8 a0] w0 (.tuple #[.agg (vl [I8 r0_0]++enc .u64 r0_1++vl [I8 r0_2,.bool r0_3]).toArray,I8 r1]):=by
 refine calls_k Tryd.func77 rfl fun Q qq=>?_
 have hs:=St.start w0
 refine wc (a':=(fu 9 [I8 a0])) ?_
 refine xs fun _ s1=>?_
 refine xn 2 fun _ j2=>?_
 refine so 0 (oN 2 115 hs (vl [I8 0]++enc .u64 (zeroA 25)++vl [I8 0,.bool false]) (.agg (vl [I8 0]++enc .u64 (zeroA 25)++vl [I8 0,.bool false]).toArray) fun b1 w gw hs=>?_)
 refine qo 1 3 (I8 0) ?_
 refine fj j2 s1 (xs fun _ s3=>(xs fun _ s4=>(xn 3 fun _ j5=>?_)))
 refine qo 0 4 (I8 a0) ?_
 obtain ⟨r2,hg,h⟩:=ob h
 refine so 1 (oC 5 hs (keccak_rate.ok hg _) fun w gw hs=>?_)
 obtain ⟨hc,h⟩|⟨hc,h⟩:=of_if h
 refine tb 2 6 (et hc) ?_
 refine fj j5 s4 (ct (xs fun _ s6=>(xn 3 fun _ j7=>?_)))
 refine qo 0 7 (.agg (vl [I8 0]++enc .u64 (zeroA 25)++vl [I8 0,.bool false]).toArray) ?_
 refine so 1 (oW 28 115 (.agg (vl [I8 0]++enc .u64 (zeroA 25)++vl [I8 0,.bool false]).toArray) (vl [I8 0]++enc .u64 (zeroA 25)++vl [I8 0,.bool false]) hs 0 rfl (by simp [enc_len]) (by simp [enc_len]) (one_app (one_app (by simp [Value.oneCell']) (fun u hu=>enc_one _ _ u hu)) (by simp [Value.oneCell'])) fun w kp hs=>?_)
 refine qo 2 3 (I8 9) ?_
 refine fj j7 s6 (xret (tr ?_))
 obtain ⟨rfl,rfl,rfl,rfl,rfl⟩:=os5 h
 exact qq _ _ (pr (rr [.cell 2 115,.tmp 3] [.agg (vl [I8 0]++enc .u64 (zeroA 25)++vl [I8 0,.bool false]).toArray,I8 9] (.cons (rcN 28 hs 0 rfl (by simp [enc_len])) (.cons rt .nil))) ⟨cr,hs.none⟩)
 refine tb 2 6 (ef hc) ?_
 refine fj j5 s4 (cf (xk (T s3 (xs fun _ s8=>(xn 4 fun _ j9=>?_)))))
 refine nq 0 [(8,I8 a0),(9,.agg (vl [I8 a0]++enc .u64 (zeroA 25)++vl [I8 0,.bool false]).toArray)] ?_
 refine so 2 (oW 28 115 (.agg (vl [I8 a0]++enc .u64 (zeroA 25)++vl [I8 0,.bool false]).toArray) (vl [I8 a0]++enc .u64 (zeroA 25)++vl [I8 0,.bool false]) hs 0 rfl (by simp [enc_len]) (by simp [enc_len]) (one_app (one_app (by simp [Value.oneCell']) (fun u hu=>enc_one _ _ u hu)) (by simp [Value.oneCell'])) fun w kp hs=>?_)
 refine qo 3 3 (I8 0) ?_
 refine fj j9 s8 (xret ?_)
 obtain ⟨rfl,rfl,rfl,rfl,rfl⟩:=os5 h
 exact qq _ _ (pr (rr [.cell 2 115,.tmp 3] [.agg (vl [I8 a0]++enc .u64 (zeroA 25)++vl [I8 0,.bool false]).toArray,I8 0] (.cons (rcN 28 hs 0 rfl (by simp [enc_len])) (.cons rt .nil))) ⟨cr,hs.none⟩)
theorem keccak_xor.ok {K:Nat}{a0_0:Int}{a0_1:Arr 25}{a0_2:Int}{a0_3:Bool}{a1 a2 rp_0:Int}{rp_1:Arr 25}{rp_2:Int}{rp_3:Bool}{p0:Nat}(h:keccak_xor.f K a0_0 a0_1 a0_2 a0_3 a1 a2=some (rp_0,rp_1,rp_2,rp_3)) (w0:World) (hb:w0.heap[p0]? = some (.cells (vl [I8 a0_0]++enc .u64 a0_1++vl [I8 a0_2,.bool a0_3]).toArray 115 (0,0))):Calls Tryd.prog 101 #[P0 p0,I8 a1,U1 a2] w0 fun e w'=>e = .returned (.tuple #[])∧St w0 [p0] [.blk p0 (vl [I8 rp_0]++enc .u64 rp_1++vl [I8 rp_2,.bool rp_3]) 115] [] w':=by
 refine calls_kn Tryd.func101 rfl fun Q qq qn=>?_
 have hs:=St.startX hb allX_nil
 refine wc (a':=(fu 20 [P0 p0,I8 a1,U1 a2])) ?_
 refine rg [17] (fun k=>True) 18 fun _ j1=>?_
 have hs:=hs.drawn1
 refine gq 0 6 (P0 p0) ?_
 refine gq 1 7 (I8 a1) ?_
 refine gq 2 8 (I8 (iquo .i64 a1 8)) ?_
 refine gq 3 9 (P0 p0) ?_
 refine gq 4 10 (.pointer (some ⟨p0,1,none⟩)) ?_
 obtain ⟨x1,hx,h⟩:=ob h
 have hx:=of_some hx
 subst hx
 obtain ⟨i0_2,i1_2,h⟩:=oc2 h
 refine tgf 5 11 (.pointer (some ⟨p0,1+((iquo .i64 a1 8):Int).toNat*1,none⟩)) (yi 113 112 25 1 .i64 (iquo .i64 a1 8) i0_2 i1_2) ?_
 refine tgt 6 12 (U8 (rd a0_1 (iquo .i64 a1 8))) (yP 1 hs 0 112 (iquo .i64 a1 8) rfl i0_2 i1_2 (by simp [enc_len]) .grow) ?_
 refine gq 7 13 (U1 a2) ?_
 refine gq 8 14 (U8 (iconv .u64 a2)) ?_
 refine gq 9 15 (I8 a1) ?_
 refine gq 10 16 (I8 (irem .i64 a1 8)) ?_
 refine gq 11 17 (I8 (imul .i64 8 (irem .i64 a1 8))) ?_
 obtain ⟨h0,h⟩:=oc h
 refine tgf 12 18 (U8 (ishl .u64 (iconv .u64 a2) (imul .i64 8 (irem .i64 a1 8)))) (ysl 112 .i64 h0) ?_
 refine gq 13 19 (U8 (ixor .u64 (rd a0_1 (iquo .i64 a1 8)) (ishl .u64 (iconv .u64 a2) (imul .i64 8 (irem .i64 a1 8))))) ?_
 refine gq 14 20 (P0 p0) ?_
 refine gq 15 21 (.pointer (some ⟨p0,1,none⟩)) ?_
 obtain ⟨x2,hx,h⟩:=ob h
 have hx:=of_some hx
 subst hx
 obtain ⟨i0_3,i1_3,h⟩:=oc2 h
 refine tgf 16 22 (.pointer (some ⟨p0,1+((iquo .i64 a1 8):Int).toNat*1,none⟩)) (yi 113 112 25 1 .i64 (iquo .i64 a1 8) i0_3 i1_3) ?_
 obtain ⟨x3,hx,h⟩:=ob h
 refine go 17 (oP 1 112 x3 (iquo .i64 a1 8) hs 0 rfl (by cases hx; kernel_rfl) i0_3 i1_3 (by simp [enc_len]) fun w kp hs=>⟨⟨fun hf=>absurd hf (by decide),.all _ _⟩,?_⟩)
 refine gf (j1 _ _ ?_)
 obtain ⟨rfl,rfl,rfl,rfl⟩:=os4 h
 exact qn _ _ (pn (rr [] [] .nil) ⟨cr,(hs.conv rfl)⟩)
theorem keccak_columns.ok {K:Nat}{a0:Arr 25}{r0:Arr 5}{p0:Nat}(h:keccak_columns.f K a0=some r0) (w0:World) (hb:w0.heap[p0]? = some (.cells (enc .u64 a0).toArray 113 (0,0))):Calls Tryd.prog 115 #[P0 p0] w0 fun e w'=>e = .returned (ag .u64 r0)∧St w0 [p0] [.blk p0 (enc .u64 a0) 113] [] w':=by
 refine calls_k Tryd.func115 rfl fun Q qq=>?_
 have hs:=St.startX hb allX_nil
 refine wc (a':=(fu 43 [P0 p0])) ?_
 refine xs fun _ s1=>?_
 refine xn 1 fun _ j2=>?_
 refine so 0 (oN 2 148 hs (enc .u64 (zeroA 5)) (ag .u64 (zeroA 5)) fun b1 w gw hs=>?_)
 refine fj j2 s1 (xs fun _ s3=>(xs fun _ s4=>(xn 1 fun _ j5=>?_)))
 refine qo 0 4 (I8 0) ?_
 refine fj j5 s4 (?_)
 obtain ⟨y4,hy,hk0⟩:=ob h
 refine wp_exq (N:=fun a w=>St w0 [p0] [.blk b1 (enc .u64 y4) 148,.blk p0 (enc .u64 a0) 113] [] w∧∃ g7,a=fr g7 44 [(2,[P0 b1])]) (fun N0 nn0=>?_) ?_
 clear hk0
 refine xb ?_
 refine wp_loop_k (fun n a w=>∃ z2 z3,keccak_columns.l0 K n a0 z2 z3=some y4∧St w0 [p0] [.blk b1 (enc .u64 z3) 148,.blk p0 (enc .u64 a0) 113] [] w∧∃ g6,a=fr g6 44 [(0,[P0 p0]),(2,[P0 b1]),(4,[I8 z2])]) K ⟨0,(zeroA 5),hy,hs.conv rfl,eg⟩ ?_
 clear hs h hy
 rintro n a w ⟨z2,z3,h,hs,g6,rfl⟩ KL0 kl0
 cases n with
 | zero=>exact nomatch (show none=some _ from h)
 | succ n=>
  refine xs fun _ s8=>?_
  refine xn 1 fun _ j9=>?_
  obtain ⟨hc,h⟩|⟨hc,h⟩:=of_if h
  refine tb 0 5 (dt hc) ?_
  refine fj j9 s8 (xs fun _ s10=>(ct (xk (T s10 (xs fun _ s11=>(xb (xs fun _ s12=>(xn 2 fun _ j13=>?_))))))))
  refine nq 0 [(6,I8 z2),(3,I8 z2)] ?_
  refine fj j13 s12 (?_)
  refine rg [35] (fun k=>True) 36 fun _ j14=>?_
  have hs:=hs.drawn1
  refine gq 0 7 (I8 z2) ?_
  refine gq 1 8 (P0 p0) ?_
  refine gq 2 9 (I8 z2) ?_
  refine gq 3 10 (P0 p0) ?_
  obtain ⟨i0_15,i1_15,h⟩:=oc2 h
  refine tgf 4 11 (P1 p0 z2) (yi 113 112 25 1 .i64 z2 i0_15 i1_15) ?_
  refine tgt 5 12 (U8 (rd a0 z2)) (yA hs 1 112 z2 rfl i0_15 i1_15 .grow) ?_
  refine gq 6 13 (P0 p0) ?_
  refine gq 7 14 (I8 z2) ?_
  refine gq 8 15 (I8 (iadd .i64 z2 5)) ?_
  refine gq 9 16 (P0 p0) ?_
  obtain ⟨x5,hx,h⟩:=ob h
  have hx:=of_some hx
  subst hx
  obtain ⟨i0_16,i1_16,h⟩:=oc2 h
  refine tgf 10 17 (P1 p0 (iadd .i64 z2 5)) (yi 113 112 25 1 .i64 (iadd .i64 z2 5) i0_16 i1_16) ?_
  refine tgt 11 18 (U8 (rd a0 (iadd .i64 z2 5))) (yA hs 1 112 (iadd .i64 z2 5) rfl i0_16 i1_16 .grow) ?_
  refine gq 12 19 (U8 (ixor .u64 (rd a0 z2) (rd a0 (iadd .i64 z2 5)))) ?_
  refine gq 13 20 (P0 p0) ?_
  refine gq 14 21 (I8 z2) ?_
  refine gq 15 22 (I8 (iadd .i64 z2 10)) ?_
  refine gq 16 23 (P0 p0) ?_
  obtain ⟨x6,hx,h⟩:=ob h
  have hx:=of_some hx
  subst hx
  obtain ⟨i0_17,i1_17,h⟩:=oc2 h
  refine tgf 17 24 (P1 p0 (iadd .i64 z2 10)) (yi 113 112 25 1 .i64 (iadd .i64 z2 10) i0_17 i1_17) ?_
  refine tgt 18 25 (U8 (rd a0 (iadd .i64 z2 10))) (yA hs 1 112 (iadd .i64 z2 10) rfl i0_17 i1_17 .grow) ?_
  refine gq 19 26 (U8 (ixor .u64 (ixor .u64 (rd a0 z2) (rd a0 (iadd .i64 z2 5))) (rd a0 (iadd .i64 z2 10)))) ?_
  refine gq 20 27 (P0 p0) ?_
  refine gq 21 28 (I8 z2) ?_
  refine gq 22 29 (I8 (iadd .i64 z2 15)) ?_
  refine gq 23 30 (P0 p0) ?_
  obtain ⟨x7,hx,h⟩:=ob h
  have hx:=of_some hx
  subst hx
  obtain ⟨i0_18,i1_18,h⟩:=oc2 h
  refine tgf 24 31 (P1 p0 (iadd .i64 z2 15)) (yi 113 112 25 1 .i64 (iadd .i64 z2 15) i0_18 i1_18) ?_
  refine tgt 25 32 (U8 (rd a0 (iadd .i64 z2 15))) (yA hs 1 112 (iadd .i64 z2 15) rfl i0_18 i1_18 .grow) ?_
  refine gq 26 33 (U8 (ixor .u64 (ixor .u64 (ixor .u64 (rd a0 z2) (rd a0 (iadd .i64 z2 5))) (rd a0 (iadd .i64 z2 10))) (rd a0 (iadd .i64 z2 15)))) ?_
  refine gq 27 34 (P0 p0) ?_
  refine gq 28 35 (I8 z2) ?_
  refine gq 29 36 (I8 (iadd .i64 z2 20)) ?_
  refine gq 30 37 (P0 p0) ?_
  obtain ⟨x8,hx,h⟩:=ob h
  have hx:=of_some hx
  subst hx
  obtain ⟨i0_19,i1_19,h⟩:=oc2 h
  refine tgf 31 38 (P1 p0 (iadd .i64 z2 20)) (yi 113 112 25 1 .i64 (iadd .i64 z2 20) i0_19 i1_19) ?_
  refine tgt 32 39 (U8 (rd a0 (iadd .i64 z2 20))) (yA hs 1 112 (iadd .i64 z2 20) rfl i0_19 i1_19 .grow) ?_
  refine gq 33 40 (U8 (ixor .u64 (ixor .u64 (ixor .u64 (ixor .u64 (rd a0 z2) (rd a0 (iadd .i64 z2 5))) (rd a0 (iadd .i64 z2 10))) (rd a0 (iadd .i64 z2 15))) (rd a0 (iadd .i64 z2 20)))) ?_
  obtain ⟨i0_20,i1_20,h⟩:=oc2 h
  refine tgf 34 41 (P1 b1 z2) (yi 148 112 5 1 .i64 z2 i0_20 i1_20) ?_
  obtain ⟨x9,hx,h⟩:=ob h
  refine go 35 (oA 112 x9 z2 hs 0 rfl (by cases hx; kernel_rfl) i0_20 i1_20 fun w kp hs=>⟨⟨fun hf=>absurd hf (by decide),.all _ _⟩,?_⟩)
  refine gf (j14 _ _ ?_)
  refine iN (T s11 (xn 2 fun _ j21=>?_))
  refine nq 0 [(42,I8 (iadd .i64 z2 1)),(4,I8 (iadd .i64 z2 1))] ?_
  refine fin (j21 _ _ ?_)
  exact tn (kl0 _ _ ⟨n,ls n,(iadd .i64 z2 1),(wr z3 z2 x9),h,(hs.conv rfl),eg⟩)
  refine tb 0 5 (df hc) ?_
  refine fj j9 s8 (xs fun _ s22=>(cf (xexit (tx (tx (iH ?_))))))
  obtain rfl:=of_some h
  exact exq_n (nn0 _ _ ⟨(hs.conv rfl),eg⟩)
 clear hs h hy
 rintro a w ⟨hs,g7,rfl⟩
 have h:=hk0
 refine T s3 (xs fun _ s23=>(xn 2 fun _ j24=>?_))
 refine tkt 0 43 (ag .u64 y4) (yWe 148 hs 0 .grow) ?_
 refine so 1 (oWe 148 .u64 y4 hs 0 fun w kp hs=>?_)
 refine fj j24 s23 (xret ?_)
 obtain rfl:=of_some h
 exact qq _ _ (pr (rr [.cell 2 148] [ag .u64 y4] (.cons (rcN 5 hs 0 rfl (enc_len _ _)) .nil)) ⟨cr,(dr [0,1] hs)⟩)
theorem math_bits_RotateLeft64.ok {K:Nat}{a0 a1 r0:Int}(h:math_bits_RotateLeft64.f K a0 a1=some r0) (w0:World):Ret Tryd.prog 116 #[U8 a0,I8 a1] w0 (U8 r0):=by
 refine calls_k Tryd.func116 rfl fun Q qq=>?_
 have hs:=St.start w0
 refine wc (a':=(fu 15 [U8 a0,I8 a1])) ?_
 refine xs fun _ s1=>?_
 refine xn 1 fun _ j2=>?_
 refine qo 0 4 (U8 0) ?_
 refine fj j2 s1 (xs fun _ s3=>(xn 4 fun _ j4=>?_))
 refine nq 0 [(6,I8 a1),(7,U8 (iconv .u64 a1)),(8,U8 (iand .u64 (iconv .u64 a1) 63))] ?_
 obtain ⟨x1,hx,h⟩:=ob h
 refine tkf 3 5 (U8 x1) (yn hx) ?_
 refine fj j4 s3 (xs fun _ s5=>(xn 9 fun _ j6=>?_))
 refine nq 0 [(9,U8 a0),(10,U8 x1)] ?_
 obtain ⟨h0,h⟩:=oc h
 refine tkf 2 11 (U8 (ishl .u64 a0 x1)) (ysl 112 .u64 h0) ?_
 refine nq 3 [(12,U8 a0),(13,U8 x1),(14,U8 (isub .u64 64 x1))] ?_
 obtain ⟨h0,h⟩:=oc h
 refine tkf 6 15 (U8 (ishr .u64 a0 (isub .u64 64 x1))) (ysr 112 .u64 h0) ?_
 refine qo 7 16 (U8 (ior .u64 (ishl .u64 a0 x1) (ishr .u64 a0 (isub .u64 64 x1)))) ?_
 obtain ⟨x2,hx,h⟩:=ob h
 refine tkf 8 4 (U8 x2) (yn hx) ?_
 refine fj j6 s5 (xret ?_)
 obtain rfl:=of_some h
 exact qq _ _ (pt [4] [U8 x2] ⟨cr,hs.none⟩)
end Go.Proofs.YtemdbgmldljbpaaDoor

/- own -/
set_option linter.unusedVariables false
set_option linter.unusedSimpArgs false
set_option maxRecDepth 100000
set_option maxHeartbeats 4000000
namespace Go.Proofs.YtemdbgmldljbpaaDoor
open Go.Mx
attribute [local irreducible] wpOp
theorem keccak_round.ok {K:Nat}{a0:Arr 25}{a1:Int}{rp:Arr 25}{p0:Nat}(h:keccak_round.f K a0 a1=some rp) (w0:World) (hg1:RowL CV w0 (some ⟨1,0,none⟩) 1 1 [tab_1]) (hg2:RowL CV w0 (some ⟨2,0,none⟩) 1 1 [tab_2]) (hb:w0.heap[p0]? = some (.cells (enc .u64 a0).toArray 113 (0,0))) (fhg1:¬ (Ent.rowL CV (some ⟨1,0,none⟩) 1 1 ([tab_1])).foot p0) (fhg2:¬ (Ent.rowL CV (some ⟨2,0,none⟩) 1 1 ([tab_2])).foot p0):Calls Tryd.prog 111 #[P0 p0,U8 a1] w0 fun e w'=>e = .returned (.tuple #[])∧St w0 [p0] [.blk p0 (enc .u64 rp) 113] [] w':=by
 refine calls_kn Tryd.func111 rfl fun Q qq qn=>?_
 have hs:=St.startX hb (allX_cons (RowP.ent hg1) fhg1 (allX_cons (RowP.ent hg2) fhg2 allX_nil))
 refine wc (a':=(fu 114 [P0 p0,U8 a1])) ?_
 refine xs fun _ s1=>?_
 refine xn 4 fun _ j2=>?_
 refine qo 0 14 (P0 p0) ?_
 obtain ⟨r1,hg,h⟩:=ob h
 refine wpS.only 1 (oX 15 hs 0 rfl (keccak_columns.ok hg _ (hs.blkAt 0 rfl)) ?_)
 intro w kp hs
 have hs:=hs.conv (L':=[.blk p0 (enc .u64 a0) 113]) rfl
 refine ⟨fun _=>trivial,?_⟩
 refine so 2 (oN 4 148 hs (enc .u64 (zeroA 5)) (ag .u64 (zeroA 5)) fun b2 w gw hs=>?_)
 refine so 3 (oWe 148 .u64 r1 hs 0 fun w kp hs=>?_)
 refine fj j2 s1 (xs fun _ s3=>(xs fun _ s4=>(xn 1 fun _ j5=>?_)))
 refine qo 0 16 (I8 0) ?_
 refine fj j5 s4 (?_)
 obtain ⟨y5,hy,hk0⟩:=ob h
 refine wp_exq (N:=fun a w=>St w0 [p0] [.blk b2 (enc .u64 r1) 148,.blk p0 (enc .u64 y5) 113] [.rowL CV (some ⟨1,0,none⟩) 1 1 ([tab_1]),.rowL CV (some ⟨2,0,none⟩) 1 1 ([tab_2])] w∧∃ g7,a=fr g7 116 [(0,[P0 p0,U8 a1])]) (fun N0 nn0=>?_) ?_
 clear hk0
 refine xb ?_
 refine wp_loop_k (fun n a w=>∃ z3 z4,keccak_round.l0 K n r1 z3 z4=some y5∧St w0 [p0] [.blk b2 (enc .u64 r1) 148,.blk p0 (enc .u64 z4) 113] [.rowL CV (some ⟨1,0,none⟩) 1 1 ([tab_1]),.rowL CV (some ⟨2,0,none⟩) 1 1 ([tab_2])] w∧∃ g6,a=fr g6 116 [(0,[P0 p0,U8 a1]),(4,[P0 b2]),(16,[I8 z3])]) K ⟨0,a0,hy,hs.conv rfl,eg⟩ ?_
 clear hs h hy
 rintro n a w ⟨z3,z4,h,hs,g6,rfl⟩ KL0 kl0
 cases n with
 | zero=>exact nomatch (show none=some _ from h)
 | succ n=>
  refine xs fun _ s8=>?_
  refine xn 1 fun _ j9=>?_
  obtain ⟨hc,h⟩|⟨hc,h⟩:=of_if h
  refine tb 0 17 (dt hc) ?_
  refine fj j9 s8 (xs fun _ s10=>(ct (xk (T s10 (xs fun _ s11=>(xb (xs fun _ s12=>(xn 2 fun _ j13=>?_))))))))
  refine nq 0 [(18,I8 z3),(5,I8 z3)] ?_
  refine fj j13 s12 (xs fun _ s14=>?_)
  refine rg [] (fun k=>True) 13 fun _ j15=>?_
  have hs:=hs.drawn1
  refine gq 0 19 (I8 z3) ?_
  refine gq 1 20 (I8 (iadd .i64 z3 4)) ?_
  refine gq 2 21 (I8 (irem .i64 (iadd .i64 z3 4) 5)) ?_
  obtain ⟨x6,hx,h⟩:=ob h
  have hx:=of_some hx
  subst hx
  obtain ⟨i0_16,i1_16,h⟩:=oc2 h
  refine tgf 3 22 (.pointer (some ⟨b2,0+((irem .i64 (iadd .i64 z3 4) 5):Int).toNat*1,none⟩)) (yi 148 112 5 1 .i64 (irem .i64 (iadd .i64 z3 4) 5) i0_16 i1_16) ?_
  refine tgt 4 23 (U8 (rd r1 (irem .i64 (iadd .i64 z3 4) 5))) (yA hs 0 112 (irem .i64 (iadd .i64 z3 4) 5) rfl i0_16 i1_16 .grow) ?_
  refine gq 5 24 (I8 z3) ?_
  refine gq 6 25 (I8 (iadd .i64 z3 1)) ?_
  refine gq 7 26 (I8 (irem .i64 (iadd .i64 z3 1) 5)) ?_
  obtain ⟨x7,hx,h⟩:=ob h
  have hx:=of_some hx
  subst hx
  obtain ⟨i0_17,i1_17,h⟩:=oc2 h
  refine tgf 8 27 (.pointer (some ⟨b2,0+((irem .i64 (iadd .i64 z3 1) 5):Int).toNat*1,none⟩)) (yi 148 112 5 1 .i64 (irem .i64 (iadd .i64 z3 1) 5) i0_17 i1_17) ?_
  refine tgt 9 28 (U8 (rd r1 (irem .i64 (iadd .i64 z3 1) 5))) (yA hs 0 112 (irem .i64 (iadd .i64 z3 1) 5) rfl i0_17 i1_17 .grow) ?_
  obtain ⟨r8,hg,h⟩:=ob h
  refine go 10 (oC 29 hs (math_bits_RotateLeft64.ok hg _) fun w gw hs=>⟨.of gw,?_⟩)
  refine gq 11 30 (U8 (ixor .u64 (rd r1 (irem .i64 (iadd .i64 z3 4) 5)) r8)) ?_
  obtain ⟨x9,hx,h⟩:=ob h
  refine tgf 12 6 (U8 x9) (yn hx) ?_
  refine gf (j15 _ _ ?_)
  refine T s14 (xs fun _ s18=>(xn 1 fun _ j19=>?_))
  refine qo 0 7 (I8 0) ?_
  refine fj j19 s18 (?_)
  obtain ⟨y12,hy,hk1⟩:=ob h
  refine wp_exq (N:=fun a w=>St w0 [p0] [.blk b2 (enc .u64 r1) 148,.blk p0 (enc .u64 y12) 113] [.rowL CV (some ⟨1,0,none⟩) 1 1 ([tab_1]),.rowL CV (some ⟨2,0,none⟩) 1 1 ([tab_2])] w∧∃ g21,a=fr g21 116 [(0,[P0 p0,U8 a1]),(4,[P0 b2]),(16,[I8 z3])]) (fun N1 nn1=>?_) ?_
  clear hk1
  refine xb ?_
  refine wp_loop_k (fun n a w=>∃ z10 z11,keccak_round.l1 K n z3 x9 z10 z11=some y12∧St w0 [p0] [.blk b2 (enc .u64 r1) 148,.blk p0 (enc .u64 z11) 113] [.rowL CV (some ⟨1,0,none⟩) 1 1 ([tab_1]),.rowL CV (some ⟨2,0,none⟩) 1 1 ([tab_2])] w∧∃ g20,a=fr g20 116 [(0,[P0 p0,U8 a1]),(4,[P0 b2,I8 z3,U8 x9,I8 z10]),(16,[I8 z3])]) K ⟨0,z4,hy,hs.conv rfl,eg⟩ ?_
  clear hs h hy
  rintro n a w ⟨z10,z11,h,hs,g20,rfl⟩ KL1 kl1
  cases n with
  | zero=>exact nomatch (show none=some _ from h)
  | succ n=>
   refine xs fun _ s22=>?_
   refine xs fun _ s23=>?_
   refine xn 2 fun _ j24=>?_
   refine qo 0 31 (I8 z10) ?_
   obtain ⟨hc,h⟩|⟨hc,h⟩:=of_if h
   refine tb 1 32 (dt hc) ?_
   refine fj j24 s23 (ct (xk (T s22 (xs fun _ s25=>(xb ?_)))))
   refine rg [11] (fun k=>True) 12 fun _ j26=>?_
   have hs:=hs.drawn1
   refine gq 0 35 (P0 p0) ?_
   refine gq 1 36 (I8 z3) ?_
   refine gq 2 37 (I8 z10) ?_
   refine gq 3 38 (I8 (iadd .i64 z3 z10)) ?_
   refine gq 4 39 (P0 p0) ?_
   obtain ⟨x13,hx,h⟩:=ob h
   have hx:=of_some hx
   subst hx
   obtain ⟨i0_27,i1_27,h⟩:=oc2 h
   refine tgf 5 40 (P1 p0 (iadd .i64 z3 z10)) (yi 113 112 25 1 .i64 (iadd .i64 z3 z10) i0_27 i1_27) ?_
   refine tgt 6 41 (U8 (rd z11 (iadd .i64 z3 z10))) (yA hs 1 112 (iadd .i64 z3 z10) rfl i0_27 i1_27 .grow) ?_
   refine gq 7 42 (U8 x9) ?_
   refine gq 8 43 (U8 (ixor .u64 (rd z11 (iadd .i64 z3 z10)) x9)) ?_
   refine gq 9 44 (P0 p0) ?_
   obtain ⟨x14,hx,h⟩:=ob h
   have hx:=of_some hx
   subst hx
   obtain ⟨i0_28,i1_28,h⟩:=oc2 h
   refine tgf 10 45 (P1 p0 (iadd .i64 z3 z10)) (yi 113 112 25 1 .i64 (iadd .i64 z3 z10) i0_28 i1_28) ?_
   obtain ⟨x15,hx,h⟩:=ob h
   refine go 11 (oA 112 x15 (iadd .i64 z3 z10) hs 1 rfl (by cases hx; kernel_rfl) i0_28 i1_28 fun w kp hs=>⟨⟨fun hf=>absurd hf (by decide),.all _ _⟩,?_⟩)
   refine gf (j26 _ _ ?_)
   refine iN (T s25 (xn 3 fun _ j29=>?_))
   refine nq 0 [(33,I8 z10),(34,I8 (iadd .i64 z10 5))] ?_
   obtain ⟨x16,hx,h⟩:=ob h
   refine tkf 2 7 (I8 x16) (yn hx) ?_
   refine fin (j29 _ _ ?_)
   exact tn (kl1 _ _ ⟨n,ls n,x16,(wr z11 (iadd .i64 z3 z10) x15),h,(hs.conv rfl),eg⟩)
   refine tb 1 32 (df hc) ?_
   refine fj j24 s23 (cf (xexit (tx (tx (iH ?_)))))
   obtain rfl:=of_some h
   exact exq_n (nn1 _ _ ⟨(hs.conv rfl),eg⟩)
  clear hs h hy
  rintro a w ⟨hs,g21,rfl⟩
  have h:=hk1
  refine iN (T s11 (xn 2 fun _ j30=>?_))
  refine nq 0 [(46,I8 (iadd .i64 z3 1)),(16,I8 (iadd .i64 z3 1))] ?_
  refine fin (j30 _ _ ?_)
  exact tn (kl0 _ _ ⟨n,ls n,(iadd .i64 z3 1),y12,h,(hs.conv rfl),eg⟩)
  refine tb 0 17 (df hc) ?_
  refine fj j9 s8 (xs fun _ s31=>(cf (xexit (tx (tx (iH ?_))))))
  obtain rfl:=of_some h
  exact exq_n (nn0 _ _ ⟨(hs.conv rfl),eg⟩)
 clear hs h hy
 rintro a w ⟨hs,g7,rfl⟩
 have h:=hk0
 refine T s3 (xs fun _ s32=>(xn 5 fun _ j33=>?_))
 refine nq 0 [(47,P0 p0),(48,P0 p0)] ?_
 refine tkf 2 49 (P1 p0 1) (yi 113 112 25 1 .i64 1 (by decide) (by decide)) ?_
 refine tkt 3 50 (U8 (rd y5 1)) (yA hs 1 112 1 rfl (by decide) (by decide) .grow) ?_
 obtain ⟨x17,hx,h⟩:=ob h
 refine tkf 4 8 (U8 x17) (yn hx) ?_
 refine fj j33 s32 (xs fun _ s35=>(xs fun _ s36=>(xn 2 fun _ j37=>?_)))
 refine tkt 0 51 (ag .i64 tab_1) (yLA (C:=CV) 151 0 (hs.rowR 0 rfl) rfl (by decide) (by decide)) ?_
 refine qo 1 52 (I8 0) ?_
 refine fj j37 s36 (?_)
 obtain ⟨y21,hy,hk2⟩:=ob h
 refine wp_exq (N:=fun a w=>St w0 [p0] [.blk b2 (enc .u64 r1) 148,.blk p0 (enc .u64 y21) 113] [.rowL CV (some ⟨1,0,none⟩) 1 1 ([tab_1]),.rowL CV (some ⟨2,0,none⟩) 1 1 ([tab_2])] w∧∃ g39,a=fr g39 116 [(0,[P0 p0,U8 a1])]) (fun N2 nn2=>?_) ?_
 clear hk2
 refine xb ?_
 refine wp_loop_k (fun n a w=>∃ z18 z19 z20,keccak_round.l2 K n z18 z19 z20=some y21∧St w0 [p0] [.blk b2 (enc .u64 r1) 148,.blk p0 (enc .u64 z20) 113] [.rowL CV (some ⟨1,0,none⟩) 1 1 ([tab_1]),.rowL CV (some ⟨2,0,none⟩) 1 1 ([tab_2])] w∧∃ g38,a=fr g38 116 [(0,[P0 p0,U8 a1]),(8,[U8 z18]),(51,[ag .i64 tab_1,I8 z19])]) K ⟨x17,0,y5,hy,hs.conv rfl,eg⟩ ?_
 clear hs h hy
 rintro n a w ⟨z18,z19,z20,h,hs,g38,rfl⟩ KL2 kl2
 cases n with
 | zero=>exact nomatch (show none=some _ from h)
 | succ n=>
  refine xs fun _ s40=>?_
  refine xn 1 fun _ j41=>?_
  obtain ⟨hc,h⟩|⟨hc,h⟩:=of_if h
  refine tb 0 53 (dt hc) ?_
  refine fj j41 s40 (xs fun _ s42=>(ct (xk (T s42 (xs fun _ s43=>(xb (xs fun _ s44=>(xn 4 fun _ j45=>?_))))))))
  refine qo 0 54 (I8 z19) ?_
  obtain ⟨h0,h1,h⟩:=oc2 h
  refine tkf 1 55 (I8 (rd tab_1 z19)) (yt 151 3 .i64 h0 h1) ?_
  refine qo 2 9 (I8 z19) ?_
  obtain ⟨x22,hx,h⟩:=ob h
  refine tkf 3 10 (I8 x22) (yn hx) ?_
  refine fj j45 s44 (?_)
  refine rg [14] (fun k=>True) 16 fun _ j46=>?_
  have hs:=hs.drawn1
  refine gq 0 56 (P0 p0) ?_
  refine gq 1 57 (I8 x22) ?_
  refine gq 2 58 (U8 z18) ?_
  refine gq 3 59 (I8 z19) ?_
  obtain ⟨i0_47,i1_47,h⟩:=oc2 h
  refine tgf 4 60 (P1 2 z19) (yi 151 3 24 1 .i64 z19 i0_47 i1_47) ?_
  refine tgt 5 61 (I8 (rd tab_2 z19)) (yld_loadG (e:=3) (x:=z19) (hs.rowR 1 rfl) (by kernel_rfl) (by kernel_rfl) i0_47 i1_47) ?_
  refine gq 7 63 (P0 p0) ?_
  refine gq 8 64 (I8 x22) ?_
  refine gq 9 65 (P0 p0) ?_
  obtain ⟨i0_48,i1_48,h⟩:=oc2 h
  refine tgf 10 66 (P1 p0 x22) (yi 113 112 25 1 .i64 x22 i0_48 i1_48) ?_
  refine tgt 11 67 (U8 (rd z20 x22)) (yA hs 1 112 x22 rfl i0_48 i1_48 .grow) ?_
  refine gq 12 68 (P0 p0) ?_
  obtain ⟨r23,hg,h⟩:=ob h
  refine go 6 (oC 62 hs (math_bits_RotateLeft64.ok hg _) fun w gw hs=>⟨.of gw,?_⟩)
  obtain ⟨i0_49,i1_49,h⟩:=oc2 h
  refine tgf 13 69 (P1 p0 x22) (yi 113 112 25 1 .i64 x22 i0_49 i1_49) ?_
  refine go 14 (oA 112 r23 x22 hs 1 rfl (by kernel_rfl) i0_49 i1_49 fun w kp hs=>⟨⟨fun hf=>absurd hf (by decide),.all _ _⟩,?_⟩)
  obtain ⟨x24,hx,h⟩:=ob h
  refine tgf 15 8 (U8 x24) (yn hx) ?_
  refine gf (j46 _ _ ?_)
  refine iN (T s43 (xn 2 fun _ j50=>?_))
  refine nq 0 [(70,I8 (iadd .i64 z19 1)),(52,I8 (iadd .i64 z19 1))] ?_
  refine fin (j50 _ _ ?_)
  exact tn (kl2 _ _ ⟨n,ls n,x24,(iadd .i64 z19 1),(wr z20 x22 r23),h,(hs.conv rfl),eg⟩)
  refine tb 0 53 (df hc) ?_
  refine fj j41 s40 (xs fun _ s51=>(cf (xexit (tx (tx (iH ?_))))))
  obtain rfl:=of_some h
  exact exq_n (nn2 _ _ ⟨(hs.conv rfl),eg⟩)
 clear hs h hy
 rintro a w ⟨hs,g39,rfl⟩
 have h:=hk2
 refine T s35 (xs fun _ s52=>(xs fun _ s53=>(xn 1 fun _ j54=>?_)))
 refine qo 0 11 (I8 0) ?_
 refine fj j54 s53 (?_)
 obtain ⟨y27,hy,hk3⟩:=ob h
 refine wp_exq (N:=fun a w=>St w0 [p0] [.blk b2 (enc .u64 r1) 148,.blk p0 (enc .u64 y27) 113] [.rowL CV (some ⟨1,0,none⟩) 1 1 ([tab_1]),.rowL CV (some ⟨2,0,none⟩) 1 1 ([tab_2])] w∧∃ g56,a=fr g56 116 [(0,[P0 p0,U8 a1])]) (fun N3 nn3=>?_) ?_
 clear hk3
 refine xb ?_
 refine wp_loop_k (fun n a w=>∃ z25 z26,keccak_round.l3 K n z25 z26=some y27∧St w0 [p0] [.blk b2 (enc .u64 r1) 148,.blk p0 (enc .u64 z26) 113] [.rowL CV (some ⟨1,0,none⟩) 1 1 ([tab_1]),.rowL CV (some ⟨2,0,none⟩) 1 1 ([tab_2])] w∧∃ g55,a=fr g55 116 [(0,[P0 p0,U8 a1]),(11,[I8 z25])]) K ⟨0,y21,hy,hs.conv rfl,eg⟩ ?_
 clear hs h hy
 rintro n a w ⟨z25,z26,h,hs,g55,rfl⟩ KL3 kl3
 cases n with
 | zero=>exact nomatch (show none=some _ from h)
 | succ n=>
  refine xs fun _ s57=>?_
  refine xs fun _ s58=>?_
  refine xn 2 fun _ j59=>?_
  refine qo 0 71 (I8 z25) ?_
  obtain ⟨hc,h⟩|⟨hc,h⟩:=of_if h
  refine tb 1 72 (dt hc) ?_
  refine fj j59 s58 (ct (xk (T s57 (xs fun _ s60=>(xb (xs fun _ s61=>(xn 10 fun _ j62=>?_)))))))
  refine nq 0 [(75,P0 p0),(76,P0 p0),(77,I8 z25),(78,I8 z25),(79,I8 (iadd .i64 z25 5))] ?_
  obtain ⟨b0_63,b1_63,h⟩:=oc2 h
  obtain ⟨b2_63,b3_63,h⟩:=oc2 h
  refine tkf 5 80 (.slice (some ⟨p0,0+(z25:Int).toNat*1,none⟩) (((iadd .i64 z25 5):Int).toNat-(z25:Int).toNat) (25-(z25:Int).toNat)) (ysA 113 112 25 .i64 .i64 z25 (iadd .i64 z25 5) b0_63 b1_63 b2_63 b3_63) ?_
  obtain ⟨h0,h⟩:=oc h
  have i0_64:=b0_63
  have i1_64:(z25:Int)+((5:Nat):Int)≤((25:Nat):Int):=by have:=b2_63; omega
  refine tkf 6 81 (P1 p0 z25) (yld_toArr (t:=148) (e:=112) (n:=5) (len:=((iadd .i64 z25 5):Int).toNat-(z25:Int).toNat) (c:=25-(z25:Int).toNat) (by kernel_rfl) (by kernel_rfl) h0) ?_
  refine tkt 7 82 (ag .u64 (subA 5 z26 z25)) (yld_loadSub (e:=148) (m:=5) (x:=z25) hs 1 rfl (by kernel_rfl) (by kernel_rfl) (by kernel_rfl) i0_64 i1_64 .grow) ?_
  refine so 8 (oN 12 148 hs (enc .u64 (zeroA 5)) (ag .u64 (zeroA 5)) fun b28 w gw hs=>?_)
  refine so 9 (oWe 148 .u64 (subA 5 z26 z25) hs 0 fun w kp hs=>?_)
  refine fj j62 s61 (xs fun _ s65=>(xn 1 fun _ j66=>?_))
  refine qo 0 83 (I8 0) ?_
  refine fj j66 s65 (?_)
  obtain ⟨y31,hy,hk4⟩:=ob h
  refine wp_exq (N:=fun a w=>St w0 [p0] [.blk b28 (enc .u64 (subA 5 z26 z25)) 148,.blk b2 (enc .u64 r1) 148,.blk p0 (enc .u64 y31) 113] [.rowL CV (some ⟨1,0,none⟩) 1 1 ([tab_1]),.rowL CV (some ⟨2,0,none⟩) 1 1 ([tab_2])] w∧∃ g68,a=fr g68 116 [(0,[P0 p0,U8 a1]),(11,[I8 z25])]) (fun N4 nn4=>?_) ?_
  clear hk4
  refine xb ?_
  refine wp_loop_k (fun n a w=>∃ z29 z30,keccak_round.l4 K n z25 z26 z29 z30=some y31∧St w0 [p0] [.blk b28 (enc .u64 (subA 5 z26 z25)) 148,.blk b2 (enc .u64 r1) 148,.blk p0 (enc .u64 z30) 113] [.rowL CV (some ⟨1,0,none⟩) 1 1 ([tab_1]),.rowL CV (some ⟨2,0,none⟩) 1 1 ([tab_2])] w∧∃ g67,a=fr g67 116 [(0,[P0 p0,U8 a1]),(11,[I8 z25,P0 b28]),(83,[I8 z29])]) K ⟨0,z26,hy,hs.conv rfl,eg⟩ ?_
  clear hs h hy
  rintro n a w ⟨z29,z30,h,hs,g67,rfl⟩ KL4 kl4
  cases n with
  | zero=>exact nomatch (show none=some _ from h)
  | succ n=>
   refine xs fun _ s69=>?_
   refine xn 1 fun _ j70=>?_
   obtain ⟨hc,h⟩|⟨hc,h⟩:=of_if h
   refine tb 0 84 (dt hc) ?_
   refine fj j70 s69 (xs fun _ s71=>(ct (xk (T s71 (xs fun _ s72=>(xb (xs fun _ s73=>(xn 2 fun _ j74=>?_))))))))
   refine nq 0 [(85,I8 z29),(13,I8 z29)] ?_
   refine fj j74 s73 (?_)
   refine rg [21] (fun k=>True) 22 fun _ j75=>?_
   have hs:=hs.drawn1
   refine gq 0 86 (P0 p0) ?_
   refine gq 1 87 (I8 z25) ?_
   refine gq 2 88 (I8 z29) ?_
   refine gq 3 89 (I8 (iadd .i64 z25 z29)) ?_
   refine gq 4 90 (I8 z29) ?_
   obtain ⟨i0_76,i1_76,h⟩:=oc2 h
   refine tgf 5 91 (P1 b28 z29) (yi 148 112 5 1 .i64 z29 i0_76 i1_76) ?_
   refine tgt 6 92 (U8 (rd (subA 5 z26 z25) z29)) (yA hs 0 112 z29 rfl i0_76 i1_76 .grow) ?_
   refine gq 7 93 (I8 z29) ?_
   refine gq 8 94 (I8 (iadd .i64 z29 2)) ?_
   refine gq 9 95 (I8 (irem .i64 (iadd .i64 z29 2) 5)) ?_
   obtain ⟨x32,hx,h⟩:=ob h
   have hx:=of_some hx
   subst hx
   obtain ⟨i0_77,i1_77,h⟩:=oc2 h
   refine tgf 10 96 (.pointer (some ⟨b28,0+((irem .i64 (iadd .i64 z29 2) 5):Int).toNat*1,none⟩)) (yi 148 112 5 1 .i64 (irem .i64 (iadd .i64 z29 2) 5) i0_77 i1_77) ?_
   refine tgt 11 97 (U8 (rd (subA 5 z26 z25) (irem .i64 (iadd .i64 z29 2) 5))) (yA hs 0 112 (irem .i64 (iadd .i64 z29 2) 5) rfl i0_77 i1_77 .grow) ?_
   refine gq 12 98 (I8 z29) ?_
   refine gq 13 99 (I8 (iadd .i64 z29 1)) ?_
   refine gq 14 100 (I8 (irem .i64 (iadd .i64 z29 1) 5)) ?_
   obtain ⟨x33,hx,h⟩:=ob h
   have hx:=of_some hx
   subst hx
   obtain ⟨i0_78,i1_78,h⟩:=oc2 h
   refine tgf 15 101 (.pointer (some ⟨b28,0+((irem .i64 (iadd .i64 z29 1) 5):Int).toNat*1,none⟩)) (yi 148 112 5 1 .i64 (irem .i64 (iadd .i64 z29 1) 5) i0_78 i1_78) ?_
   refine tgt 16 102 (U8 (rd (subA 5 z26 z25) (irem .i64 (iadd .i64 z29 1) 5))) (yA hs 0 112 (irem .i64 (iadd .i64 z29 1) 5) rfl i0_78 i1_78 .grow) ?_
   refine gq 17 103 (U8 (iandn .u64 (rd (subA 5 z26 z25) (irem .i64 (iadd .i64 z29 2) 5)) (rd (subA 5 z26 z25) (irem .i64 (iadd .i64 z29 1) 5)))) ?_
   refine gq 18 104 (U8 (ixor .u64 (rd (subA 5 z26 z25) z29) (iandn .u64 (rd (subA 5 z26 z25) (irem .i64 (iadd .i64 z29 2) 5)) (rd (subA 5 z26 z25) (irem .i64 (iadd .i64 z29 1) 5))))) ?_
   refine gq 19 105 (P0 p0) ?_
   obtain ⟨x34,hx,h⟩:=ob h
   have hx:=of_some hx
   subst hx
   obtain ⟨i0_79,i1_79,h⟩:=oc2 h
   refine tgf 20 106 (P1 p0 (iadd .i64 z25 z29)) (yi 113 112 25 1 .i64 (iadd .i64 z25 z29) i0_79 i1_79) ?_
   obtain ⟨x35,hx,h⟩:=ob h
   refine go 21 (oA 112 x35 (iadd .i64 z25 z29) hs 2 rfl (by cases hx; kernel_rfl) i0_79 i1_79 fun w kp hs=>⟨⟨fun hf=>absurd hf (by decide),.all _ _⟩,?_⟩)
   refine gf (j75 _ _ ?_)
   refine iN (T s72 (xn 2 fun _ j80=>?_))
   refine nq 0 [(107,I8 (iadd .i64 z29 1)),(83,I8 (iadd .i64 z29 1))] ?_
   refine fin (j80 _ _ ?_)
   exact tn (kl4 _ _ ⟨n,ls n,(iadd .i64 z29 1),(wr z30 (iadd .i64 z25 z29) x35),h,(hs.conv rfl),eg⟩)
   refine tb 0 84 (df hc) ?_
   refine fj j70 s69 (xs fun _ s81=>(cf (xexit (tx (tx (iH ?_))))))
   obtain rfl:=of_some h
   exact exq_n (nn4 _ _ ⟨(hs.conv rfl),eg⟩)
  clear hs h hy
  rintro a w ⟨hs,g68,rfl⟩
  have h:=hk4
  refine iN (T s60 (xn 3 fun _ j82=>?_))
  refine nq 0 [(73,I8 z25),(74,I8 (iadd .i64 z25 5))] ?_
  obtain ⟨x36,hx,h⟩:=ob h
  refine tkf 2 11 (I8 x36) (yn hx) ?_
  refine fin (j82 _ _ ?_)
  exact tn (kl3 _ _ ⟨n,ls n,x36,y31,h,(dr [0,1,1] hs),eg⟩)
  refine tb 1 72 (df hc) ?_
  refine fj j59 s58 (cf (xexit (tx (tx (iH ?_)))))
  obtain rfl:=of_some h
  exact exq_n (nn3 _ _ ⟨(hs.conv rfl),eg⟩)
 clear hs h hy
 rintro a w ⟨hs,g56,rfl⟩
 have h:=hk3
 refine T s52 (?_)
 refine rg [8] (fun k=>True) 9 fun _ j83=>?_
 have hs:=hs.drawn1
 refine gq 0 108 (P0 p0) ?_
 refine gq 1 109 (P0 p0) ?_
 refine tgf 2 110 (P1 p0 0) (yi 113 112 25 1 .i64 0 (by decide) (by decide)) ?_
 refine tgt 3 111 (U8 (rd y27 0)) (yA hs 1 112 0 rfl (by decide) (by decide) .grow) ?_
 refine gq 4 112 (U8 a1) ?_
 refine gq 5 113 (U8 (ixor .u64 (rd y27 0) a1)) ?_
 refine gq 6 114 (P0 p0) ?_
 refine tgf 7 115 (P1 p0 0) (yi 113 112 25 1 .i64 0 (by decide) (by decide)) ?_
 obtain ⟨x37,hx,h⟩:=ob h
 refine go 8 (oA 112 x37 0 hs 1 rfl (by cases hx; kernel_rfl) (by decide) (by decide) fun w kp hs=>⟨⟨fun hf=>absurd hf (by decide),.all _ _⟩,?_⟩)
 refine gf (j83 _ _ ?_)
 obtain rfl:=of_some h
 exact qn _ _ (pn (rr [] [] .nil) ⟨cr,(pz (dr [0,1] hs))⟩)
theorem keccak_Permute.ok {K:Nat}{a0 r0:Arr 25}(h:keccak_Permute.f K a0=some r0) (w0:World) (hg0:RowL CW w0 (some ⟨0,0,none⟩) 1 1 [tab_0]) (hg1:RowL CV w0 (some ⟨1,0,none⟩) 1 1 [tab_1]) (hg2:RowL CV w0 (some ⟨2,0,none⟩) 1 1 [tab_2]):Ret Tryd.prog 102 #[ag .u64 a0] w0 (ag .u64 r0):=by
 refine calls_k Tryd.func102 rfl fun Q qq=>?_
 have hs:=St.startR (all_cons (RowP.ent hg0) (all_cons (RowP.ent hg1) (all_cons (RowP.ent hg2) all_nil)))
 refine wc (a':=(fu 12 [ag .u64 a0])) ?_
 refine xs fun _ s1=>?_
 refine xn 2 fun _ j2=>?_
 refine so 0 (oB 1 113 (ag .u64 a0) hs (enc .u64 a0) fun b1 w gw hs=>?_)
 refine so 1 (oN 2 113 hs (enc .u64 (zeroA 25)) (ag .u64 (zeroA 25)) fun b2 w gw hs=>?_)
 refine fj j2 s1 (xs fun _ s3=>(xs fun _ s4=>(xn 2 fun _ j5=>?_)))
 refine tkt 0 5 (ag .u64 tab_0) (yLA (C:=CW) 144 0 (hs.rowR 0 rfl) rfl (by decide) (by decide)) ?_
 refine qo 1 6 (I8 0) ?_
 refine fj j5 s4 (?_)
 obtain ⟨y5,hy,hk0⟩:=ob h
 refine wp_exq (N:=fun a w=>St w0 [] [.blk b2 (enc .u64 (zeroA 25)) 113,.blk b1 (enc .u64 y5) 113] [.rowL CW (some ⟨0,0,none⟩) 1 1 ([tab_0]),.rowL CV (some ⟨1,0,none⟩) 1 1 ([tab_1]),.rowL CV (some ⟨2,0,none⟩) 1 1 ([tab_2])] w∧∃ g7,a=fr g7 13 [(1,[P0 b1,P0 b2])]) (fun N0 nn0=>?_) ?_
 clear hk0
 refine xb ?_
 refine wp_loop_k (fun n a w=>∃ z3 z4,keccak_Permute.l0 K n z3 z4=some y5∧St w0 [] [.blk b2 (enc .u64 (zeroA 25)) 113,.blk b1 (enc .u64 z4) 113] [.rowL CW (some ⟨0,0,none⟩) 1 1 ([tab_0]),.rowL CV (some ⟨1,0,none⟩) 1 1 ([tab_1]),.rowL CV (some ⟨2,0,none⟩) 1 1 ([tab_2])] w∧∃ g6,a=fr g6 13 [(1,[P0 b1,P0 b2]),(5,[ag .u64 tab_0,I8 z3])]) K ⟨0,a0,hy,hs.conv rfl,eg⟩ ?_
 clear hs h hy
 rintro n a w ⟨z3,z4,h,hs,g6,rfl⟩ KL0 kl0
 cases n with
 | zero=>exact nomatch (show none=some _ from h)
 | succ n=>
  refine xs fun _ s8=>?_
  refine xn 1 fun _ j9=>?_
  obtain ⟨hc,h⟩|⟨hc,h⟩:=of_if h
  refine tb 0 7 (dt hc) ?_
  refine fj j9 s8 (xs fun _ s10=>(ct (xk (T s10 (xs fun _ s11=>(xb (xs fun _ s12=>(xn 2 fun _ j13=>?_))))))))
  obtain ⟨h0,h1,h⟩:=oc2 h
  refine tkf 0 8 (U8 (rd tab_0 z3)) (yt 144 112 .i64 h0 h1) ?_
  obtain ⟨x6,hx,h⟩:=ob h
  refine tkf 1 4 (U8 x6) (yn hx) ?_
  refine fj j13 s12 (xn 2 fun _ j14=>?_)
  refine qo 0 9 (U8 x6) ?_
  obtain ⟨r7,hg,h⟩:=ob h
  refine wpS.only 1 (oX 10 hs 1 rfl (keccak_round.ok hg _ (hs.rowR 1 rfl) (hs.rowR 2 rfl) (hs.blkAt 1 rfl) (hs.farR 1 1 rfl rfl) (hs.farR 1 2 rfl rfl)) ?_)
  intro w kp hs
  have hs:=hs.conv (L':=[.blk b2 (enc .u64 (zeroA 25)) 113,.blk b1 (enc .u64 r7) 113]) rfl
  refine ⟨fun _=>trivial,?_⟩
  refine fin (j14 _ _ (iN (T s11 (xn 2 fun _ j15=>?_))))
  refine nq 0 [(11,I8 (iadd .i64 z3 1)),(6,I8 (iadd .i64 z3 1))] ?_
  refine fin (j15 _ _ ?_)
  exact tn (kl0 _ _ ⟨n,ls n,(iadd .i64 z3 1),r7,h,(hs.conv rfl),eg⟩)
  refine tb 0 7 (df hc) ?_
  refine fj j9 s8 (xs fun _ s16=>(cf (xexit (tx (tx (iH ?_))))))
  obtain rfl:=of_some h
  exact exq_n (nn0 _ _ ⟨(hs.conv rfl),eg⟩)
 clear hs h hy
 rintro a w ⟨hs,g7,rfl⟩
 have h:=hk0
 refine T s3 (xs fun _ s17=>(xn 2 fun _ j18=>?_))
 refine tkt 0 12 (ag .u64 y5) (yWe 113 hs 1 .grow) ?_
 refine so 1 (oWe 113 .u64 y5 hs 0 fun w kp hs=>?_)
 refine fj j18 s17 (xret ?_)
 obtain rfl:=of_some h
 exact qq _ _ (pr (rr [.cell 2 113] [ag .u64 y5] (.cons (rcN 25 hs 0 rfl (enc_len _ _)) .nil)) ⟨cr,hs.none⟩)
theorem keccak_Absorb.ok {K:Nat}{a0_0:Int}{a0_1:Arr 25}{a0_2:Int}{a0_3:Bool}{a1:List Int}{r0_0:Int}{r0_1:Arr 25}{r0_2:Int}{r0_3:Bool}{a1_A:Option Addr}{a1_n a1_c:Nat}(h:keccak_Absorb.f K a0_0 a0_1 a0_2 a0_3 a1=some (r0_0,r0_1,r0_2,r0_3)) (w0:World) (hp1:RowL CB w0 a1_A a1_n a1_c a1) (hg0:RowL CW w0 (some ⟨0,0,none⟩) 1 1 [tab_0]) (hg1:RowL CV w0 (some ⟨1,0,none⟩) 1 1 [tab_1]) (hg2:RowL CV w0 (some ⟨2,0,none⟩) 1 1 [tab_2]):Ret Tryd.prog 78 #[.agg (vl [I8 a0_0]++enc .u64 a0_1++vl [I8 a0_2,.bool a0_3]).toArray,.slice a1_A a1_n a1_c] w0 (.agg (vl [I8 r0_0]++enc .u64 r0_1++vl [I8 r0_2,.bool r0_3]).toArray):=by
 refine calls_k Tryd.func78 rfl fun Q qq=>?_
 have hs:=St.startR (all_cons (RowP.ent hp1) (all_cons (RowP.ent hg0) (all_cons (RowP.ent hg1) (all_cons (RowP.ent hg2) all_nil))))
 refine wc (a':=(fu 38 [.agg (vl [I8 a0_0]++enc .u64 a0_1++vl [I8 a0_2,.bool a0_3]).toArray,.slice a1_A a1_n a1_c])) ?_
 refine xs fun _ s1=>?_
 refine xn 2 fun _ j2=>?_
 refine so 0 (oB 2 115 (.agg (vl [I8 a0_0]++enc .u64 a0_1++vl [I8 a0_2,.bool a0_3]).toArray) hs (vl [I8 a0_0]++enc .u64 a0_1++vl [I8 a0_2,.bool a0_3]) fun b1 w gw hs=>?_)
 refine so 1 (oN 4 115 hs (vl [I8 0]++enc .u64 (zeroA 25)++vl [I8 0,.bool false]) (.agg (vl [I8 0]++enc .u64 (zeroA 25)++vl [I8 0,.bool false]).toArray) fun b2 w gw hs=>?_)
 refine fj j2 s1 (xs fun _ s3=>(xs fun _ s4=>(xn 2 fun _ j5=>?_)))
 refine qo 0 7 (.pointer (some ⟨b1,27,none⟩)) ?_
 cases a0_3 with
 | true=>
  have h:=of_if_t h
  refine tkt 1 8 (.bool true) (yv hs 1 27 4 rfl (get_post 1 rfl rfl) .grow) ?_
  refine fj j5 s4 (ct (xs fun _ s6=>(xn 2 fun _ j7=>?_)))
  refine tkt 0 9 (.agg (vl [I8 a0_0]++enc .u64 a0_1++vl [I8 a0_2,.bool true]).toArray) (yW hs 1 28 115 rfl (by simp [enc_len]) .grow) ?_
  refine so 1 (oW 28 115 (.agg (vl [I8 a0_0]++enc .u64 a0_1++vl [I8 a0_2,.bool true]).toArray) (vl [I8 a0_0]++enc .u64 a0_1++vl [I8 a0_2,.bool true]) hs 0 rfl (by simp [enc_len]) (by simp [enc_len]) (one_app (one_app (by simp [Value.oneCell']) (fun u hu=>enc_one _ _ u hu)) (by simp [Value.oneCell'])) fun w kp hs=>?_)
  refine fj j7 s6 (xret (tr ?_))
  obtain ⟨rfl,rfl,rfl,rfl⟩:=os4 h
  exact qq _ _ (pr (rr [.cell 4 115] [.agg (vl [I8 a0_0]++enc .u64 a0_1++vl [I8 a0_2,.bool true]).toArray] (.cons (rcN 28 hs 0 rfl (by simp [enc_len])) .nil)) ⟨cr,hs.none⟩)
 | false=>
  have h:=of_if_f h
  refine tkt 1 8 (.bool false) (yv hs 1 27 4 rfl (get_post 1 rfl rfl) .grow) ?_
  refine fj j5 s4 (cf (xk (T s3 (xs fun _ s8=>(xn 4 fun _ j9=>?_)))))
  refine qo 0 10 (P0 b1) ?_
  refine tkt 1 11 (I8 a0_0) (yv hs 1 0 3 rfl (get_pre rfl) .grow) ?_
  obtain ⟨r3,hg,h⟩:=ob h
  refine so 2 (oC 12 hs (keccak_rate.ok hg _) fun w gw hs=>?_)
  refine qo 3 5 (I8 r3) ?_
  refine fj j9 s8 (xs fun _ s10=>(xs fun _ s11=>(xn 3 fun _ j12=>?_)))
  refine qo 0 13 (.slice a1_A a1_n a1_c) ?_
  refine tkf 1 14 (I8 (a1.length:Int)) (yl (hs.rowR 0 rfl)) ?_
  refine qo 2 15 (I8 0) ?_
  refine fj j12 s11 (?_)
  obtain ⟨⟨y6_0,y6_1,y6_2,y6_3⟩,hy,hk0⟩:=ob h
  refine wp_exq (N:=fun a w=>St w0 [] [.blk b2 (vl [I8 0]++enc .u64 (zeroA 25)++vl [I8 0,.bool false]) 115,.blk b1 (vl [I8 y6_0]++enc .u64 y6_1++vl [I8 y6_2,.bool y6_3]) 115] [.rowL CB a1_A a1_n a1_c a1,.rowL CW (some ⟨0,0,none⟩) 1 1 ([tab_0]),.rowL CV (some ⟨1,0,none⟩) 1 1 ([tab_1]),.rowL CV (some ⟨2,0,none⟩) 1 1 ([tab_2])] w∧∃ g14,a=fr g14 40 [(2,[P0 b1]),(4,[P0 b2])]) (fun N0 nn0=>?_) ?_
  clear hk0
  refine xb ?_
  refine wp_loop_k (fun n a w=>∃ z4 z5_0 z5_1 z5_2 z5_3,keccak_Absorb.l0 K n a1 r3 z4 z5_0 z5_1 z5_2 z5_3=some (y6_0,y6_1,y6_2,y6_3)∧St w0 [] [.blk b2 (vl [I8 0]++enc .u64 (zeroA 25)++vl [I8 0,.bool false]) 115,.blk b1 (vl [I8 z5_0]++enc .u64 z5_1++vl [I8 z5_2,.bool z5_3]) 115] [.rowL CB a1_A a1_n a1_c a1,.rowL CW (some ⟨0,0,none⟩) 1 1 ([tab_0]),.rowL CV (some ⟨1,0,none⟩) 1 1 ([tab_1]),.rowL CV (some ⟨2,0,none⟩) 1 1 ([tab_2])] w∧∃ g13,a=fr g13 40 [(1,[.slice a1_A a1_n a1_c,P0 b1]),(4,[P0 b2,I8 r3]),(14,[I8 (a1.length:Int),I8 z4])]) K ⟨0,a0_0,a0_1,a0_2,false,hy,hs.conv rfl,eg⟩ ?_
  clear hs h hy
  rintro n a w ⟨z4,z5_0,z5_1,z5_2,z5_3,h,hs,g13,rfl⟩ KL0 kl0
  cases n with
  | zero=>exact nomatch (show none=some _ from h)
  | succ n=>
   refine xs fun _ s15=>?_
   refine xn 1 fun _ j16=>?_
   obtain ⟨hc,h⟩|⟨hc,h⟩:=of_if h
   refine tb 0 16 (dt hc) ?_
   refine fj j16 s15 (xs fun _ s17=>(ct (xk (T s17 (?_)))))
   obtain ⟨⟨y7_0,y7_1,y7_2,y7_3⟩,hj,h⟩:=ob h
   refine xs fun _ s19=>wp_join (N:=fun a w=>St w0 [] [.blk b2 (vl [I8 0]++enc .u64 (zeroA 25)++vl [I8 0,.bool false]) 115,.blk b1 (vl [I8 y7_0]++enc .u64 y7_1++vl [I8 y7_2,.bool y7_3]) 115] [.rowL CB a1_A a1_n a1_c a1,.rowL CW (some ⟨0,0,none⟩) 1 1 ([tab_0]),.rowL CV (some ⟨1,0,none⟩) 1 1 ([tab_1]),.rowL CV (some ⟨2,0,none⟩) 1 1 ([tab_2])] w∧∃ g18,a=fr g18 40 [(1,[.slice a1_A a1_n a1_c,P0 b1]),(4,[P0 b2,I8 r3]),(14,[I8 (a1.length:Int),I8 z4])]) (fun N nj=>?_) ?_
   clear h
   have h:=hj
   refine xb (xs fun _ s20=>(xn 2 fun _ j21=>?_))
   refine nq 0 [(17,I8 z4),(6,I8 z4)] ?_
   refine fj j21 s20 (xs fun _ s22=>?_)
   refine rg [6] (fun k=>True) 7 fun _ j23=>?_
   have hs:=hs.drawn1
   refine gq 0 18 (.pointer (some ⟨b1,26,none⟩)) ?_
   refine tgt 1 19 (I8 z5_2) (yv hs 1 26 3 rfl (get_post 0 rfl rfl) .grow) ?_
   refine gq 2 20 (.slice a1_A a1_n a1_c) ?_
   refine gq 3 21 (I8 z4) ?_
   obtain ⟨h0,h1,h⟩:=oc2 h
   have i0_24:=h0
   have i1_24:=h1
   refine tgf 4 22 (PA CB a1_A z4) (yiL (C:=CB) 24 5 .i64 z4 (hs.rowR 0 rfl) h0 h1) ?_
   refine tgt 5 23 (U1 (rdL CB a1 z4)) (yL (C:=CB) 5 z4 (hs.rowR 0 rfl) rfl i0_24 i1_24) ?_
   obtain ⟨⟨r8_0,r8_1,r8_2,r8_3⟩,hg,h⟩:=ob h
   refine wpG.only 6 (by kernel_rfl) (oX 24 hs 1 rfl (keccak_xor.ok hg _ (hs.blkAt 1 rfl)) ?_)
   intro w kp hs
   have hs:=hs.conv (L':=[.blk b2 (vl [I8 0]++enc .u64 (zeroA 25)++vl [I8 0,.bool false]) 115,.blk b1 (vl [I8 r8_0]++enc .u64 r8_1++vl [I8 r8_2,.bool r8_3]) 115]) rfl
   refine ⟨⟨fun hf=>absurd hf (by decide),.all _ _⟩,?_⟩
   refine gf (j23 _ _ ?_)
   refine T s22 (xs fun _ s25=>(xn 5 fun _ j26=>?_))
   refine qo 0 25 (.pointer (some ⟨b1,26,none⟩)) ?_
   refine tkt 1 26 (I8 r8_2) (yv hs 1 26 3 rfl (get_post 0 rfl rfl) .grow) ?_
   refine nq 2 [(27,I8 (iadd .i64 r8_2 1)),(28,.pointer (some ⟨b1,26,none⟩))] ?_
   obtain ⟨x9,hx,h⟩:=ob h
   refine wpS.only 4 (oQ (he:=by cases hx; kernel_rfl) 3 (I8 x9) 26 hs 1 rfl rfl (by simp [enc_len]) (set_post 0 rfl) ?_)
   intro w kp hs
   try dsimp only [List.set] at hs
   refine ⟨fun _=>trivial,?_⟩
   refine fj j26 s25 (xs fun _ s27=>(xn 4 fun _ j28=>?_))
   refine qo 0 29 (.pointer (some ⟨b1,26,none⟩)) ?_
   refine tkt 1 30 (I8 x9) (yv hs 1 26 3 rfl (get_post 0 rfl rfl) .grow) ?_
   refine qo 2 31 (I8 r3) ?_
   obtain ⟨hc,h⟩|⟨hc,h⟩:=of_if h
   refine tb 3 32 (et hc) ?_
   refine fj j28 s27 (ct (xn 7 fun _ j29=>?_))
   refine qo 0 33 (.pointer (some ⟨b1,1,none⟩)) ?_
   refine tkt 1 34 (ag .u64 r8_1) (yN hs 1 1 25 113 rfl (mid_of rfl) (enc_len _ _) .grow) ?_
   obtain ⟨r10,hg,h⟩:=ob h
   refine so 2 (oC 35 hs (keccak_Permute.ok hg _ (hs.rowR 1 rfl) (hs.rowR 2 rfl) (hs.rowR 3 rfl)) fun w gw hs=>?_)
   refine qo 3 36 (.pointer (some ⟨b1,1,none⟩)) ?_
   refine so 4 (oM 113 (ag .u64 r10) 1 25 (enc .u64 r10) hs 1 rfl (enc_len _ _) (by simp [enc_len]) (enc_one _ _) (splice_row rfl) fun w kp hs=>?_)
   refine qo 5 37 (.pointer (some ⟨b1,26,none⟩)) ?_
   refine wpS.only 6 (oQ 3 (I8 0) 26 hs 1 rfl rfl (by simp [enc_len]) (set_post 0 rfl) ?_)
   intro w kp hs
   try dsimp only [List.set] at hs
   refine ⟨fun _=>trivial,?_⟩
   refine fin (j29 _ _ (iN ?_))
   obtain ⟨rfl,rfl,rfl,rfl⟩:=os4 h
   exact nj _ _ ⟨(hs.conv rfl),eg⟩
   refine tb 3 32 (ef hc) ?_
   refine fj j28 s27 (cf (xk (iN ?_)))
   obtain ⟨rfl,rfl,rfl,rfl⟩:=os4 h
   exact nj _ _ ⟨(hs.conv rfl),eg⟩
   clear hj hs
   rintro a w ⟨hs,g18,rfl⟩
   refine T s19 (xn 2 fun _ j30=>?_)
   refine nq 0 [(38,I8 (iadd .i64 z4 1)),(15,I8 (iadd .i64 z4 1))] ?_
   refine fin (j30 _ _ ?_)
   exact tn (kl0 _ _ ⟨n,ls n,(iadd .i64 z4 1),y7_0,y7_1,y7_2,y7_3,h,(hs.conv rfl),eg⟩)
   refine tb 0 16 (df hc) ?_
   refine fj j16 s15 (xs fun _ s31=>(cf (xexit (tx (tx (iH ?_))))))
   obtain ⟨rfl,rfl,rfl,rfl⟩:=os4 h
   exact exq_n (nn0 _ _ ⟨(hs.conv rfl),eg⟩)
  clear hs h hy
  rintro a w ⟨hs,g14,rfl⟩
  have h:=hk0
  refine T s10 (xs fun _ s32=>(xn 2 fun _ j33=>?_))
  refine tkt 0 39 (.agg (vl [I8 y6_0]++enc .u64 y6_1++vl [I8 y6_2,.bool y6_3]).toArray) (yW hs 1 28 115 rfl (by simp [enc_len]) .grow) ?_
  refine so 1 (oW 28 115 (.agg (vl [I8 y6_0]++enc .u64 y6_1++vl [I8 y6_2,.bool y6_3]).toArray) (vl [I8 y6_0]++enc .u64 y6_1++vl [I8 y6_2,.bool y6_3]) hs 0 rfl (by simp [enc_len]) (by simp [enc_len]) (one_app (one_app (by simp [Value.oneCell']) (fun u hu=>enc_one _ _ u hu)) (by simp [Value.oneCell'])) fun w kp hs=>?_)
  refine fj j33 s32 (xret ?_)
  obtain ⟨rfl,rfl,rfl,rfl⟩:=os4 h
  exact qq _ _ (pr (rr [.cell 4 115] [.agg (vl [I8 y6_0]++enc .u64 y6_1++vl [I8 y6_2,.bool y6_3]).toArray] (.cons (rcN 28 hs 0 rfl (by simp [enc_len])) .nil)) ⟨cr,hs.none⟩)
theorem keccak_turned.ok {K:Nat}{a0_0:Int}{a0_1:Arr 25}{a0_2:Int}{a0_3:Bool}{r0_0:Int}{r0_1:Arr 25}{r0_2:Int}{r0_3:Bool}(h:keccak_turned.f K a0_0 a0_1 a0_2 a0_3=some (r0_0,r0_1,r0_2,r0_3)) (w0:World) (hg0:RowL CW w0 (some ⟨0,0,none⟩) 1 1 [tab_0]) (hg1:RowL CV w0 (some ⟨1,0,none⟩) 1 1 [tab_1]) (hg2:RowL CV w0 (some ⟨2,0,none⟩) 1 1 [tab_2]):Ret Tryd.prog 103 #[.agg (vl [I8 a0_0]++enc .u64 a0_1++vl [I8 a0_2,.bool a0_3]).toArray] w0 (.agg (vl [I8 r0_0]++enc .u64 r0_1++vl [I8 r0_2,.bool r0_3]).toArray):=by
 refine calls_k Tryd.func103 rfl fun Q qq=>?_
 have hs:=St.startR (all_cons (RowP.ent hg0) (all_cons (RowP.ent hg1) (all_cons (RowP.ent hg2) all_nil)))
 refine wc (a':=(fu 27 [.agg (vl [I8 a0_0]++enc .u64 a0_1++vl [I8 a0_2,.bool a0_3]).toArray])) ?_
 refine xs fun _ s1=>?_
 refine xn 2 fun _ j2=>?_
 refine so 0 (oB 1 115 (.agg (vl [I8 a0_0]++enc .u64 a0_1++vl [I8 a0_2,.bool a0_3]).toArray) hs (vl [I8 a0_0]++enc .u64 a0_1++vl [I8 a0_2,.bool a0_3]) fun b1 w gw hs=>?_)
 refine so 1 (oN 2 115 hs (vl [I8 0]++enc .u64 (zeroA 25)++vl [I8 0,.bool false]) (.agg (vl [I8 0]++enc .u64 (zeroA 25)++vl [I8 0,.bool false]).toArray) fun b2 w gw hs=>?_)
 refine fj j2 s1 (xs fun _ s3=>(xn 1 fun _ j4=>?_))
 refine qo 0 3 (U1 31) ?_
 refine fj j4 s3 (?_)
 obtain ⟨y3,hj,h⟩:=ob h
 refine xs fun _ s6=>wp_join (N:=fun a w=>St w0 [] [.blk b2 (vl [I8 0]++enc .u64 (zeroA 25)++vl [I8 0,.bool false]) 115,.blk b1 (vl [I8 a0_0]++enc .u64 a0_1++vl [I8 a0_2,.bool a0_3]) 115] [.rowL CW (some ⟨0,0,none⟩) 1 1 ([tab_0]),.rowL CV (some ⟨1,0,none⟩) 1 1 ([tab_1]),.rowL CV (some ⟨2,0,none⟩) 1 1 ([tab_2])] w∧∃ g5,a=fr g5 28 [(1,[P0 b1,P0 b2,U1 y3])]) (fun N nj=>?_) ?_
 clear h
 have h:=hj
 refine xs fun _ s7=>?_
 refine xn 8 fun _ j8=>?_
 refine qo 0 4 (P0 b1) ?_
 refine tkt 1 5 (I8 a0_0) (yv hs 1 0 3 rfl (get_pre rfl) .grow) ?_
 obtain ⟨hc,h⟩|⟨hc,h⟩:=of_if h
 refine tb 2 6 (et hc) ?_
 refine nq 3 [(7,.bool true),(8,undef),(9,undef),(10,undef),(11,.bool true)] ?_
 refine fj j8 s7 (ct (xn 1 fun _ j9=>?_))
 refine qo 0 3 (U1 6) ?_
 refine fin (j9 _ _ ?_)
 obtain rfl:=of_some h
 exact nj _ _ ⟨(hs.conv rfl),eg⟩
 refine tb 2 6 (ef hc) ?_
 refine nq 3 [(7,.bool false),(8,P0 b1)] ?_
 refine tkt 5 9 (I8 a0_0) (yv hs 1 0 3 rfl (get_pre rfl) .grow) ?_
 obtain ⟨hc,h⟩|⟨hc,h⟩:=of_if h
 refine tb 6 10 (et hc) ?_
 refine qo 7 11 (.bool true) ?_
 refine fj j8 s7 (ct (xn 1 fun _ j10=>?_))
 refine qo 0 3 (U1 6) ?_
 refine fin (j10 _ _ ?_)
 obtain rfl:=of_some h
 exact nj _ _ ⟨(hs.conv rfl),eg⟩
 refine tb 6 10 (ef hc) ?_
 refine qo 7 11 (.bool false) ?_
 refine fj j8 s7 (cf (xk ?_))
 obtain rfl:=of_some h
 exact nj _ _ ⟨(hs.conv rfl),eg⟩
 clear hj hs
 rintro a w ⟨hs,g5,rfl⟩
 refine T s6 (xs fun _ s11=>(xn 4 fun _ j12=>?_))
 refine qo 0 12 (.pointer (some ⟨b1,26,none⟩)) ?_
 refine tkt 1 13 (I8 a0_2) (yv hs 1 26 3 rfl (get_post 0 rfl rfl) .grow) ?_
 refine qo 2 14 (U1 y3) ?_
 obtain ⟨⟨r4_0,r4_1,r4_2,r4_3⟩,hg,h⟩:=ob h
 refine wpS.only 3 (oX 15 hs 1 rfl (keccak_xor.ok hg _ (hs.blkAt 1 rfl)) ?_)
 intro w kp hs
 have hs:=hs.conv (L':=[.blk b2 (vl [I8 0]++enc .u64 (zeroA 25)++vl [I8 0,.bool false]) 115,.blk b1 (vl [I8 r4_0]++enc .u64 r4_1++vl [I8 r4_2,.bool r4_3]) 115]) rfl
 refine ⟨fun _=>trivial,?_⟩
 refine fj j12 s11 (xs fun _ s13=>(xn 5 fun _ j14=>?_))
 refine qo 0 16 (P0 b1) ?_
 refine tkt 1 17 (I8 r4_0) (yv hs 1 0 3 rfl (get_pre rfl) .grow) ?_
 obtain ⟨r5,hg,h⟩:=ob h
 refine so 2 (oC 18 hs (keccak_rate.ok hg _) fun w gw hs=>?_)
 refine qo 3 19 (I8 (isub .i64 r5 1)) ?_
 obtain ⟨⟨r6_0,r6_1,r6_2,r6_3⟩,hg,h⟩:=ob h
 refine wpS.only 4 (oX 20 hs 1 rfl (keccak_xor.ok hg _ (hs.blkAt 1 rfl)) ?_)
 intro w kp hs
 have hs:=hs.conv (L':=[.blk b2 (vl [I8 0]++enc .u64 (zeroA 25)++vl [I8 0,.bool false]) 115,.blk b1 (vl [I8 r6_0]++enc .u64 r6_1++vl [I8 r6_2,.bool r6_3]) 115]) rfl
 refine ⟨fun _=>trivial,?_⟩
 refine fj j14 s13 (xs fun _ s15=>(xn 9 fun _ j16=>?_))
 refine qo 0 21 (.pointer (some ⟨b1,1,none⟩)) ?_
 refine tkt 1 22 (ag .u64 r6_1) (yN hs 1 1 25 113 rfl (mid_of rfl) (enc_len _ _) .grow) ?_
 obtain ⟨r7,hg,h⟩:=ob h
 refine so 2 (oC 23 hs (keccak_Permute.ok hg _ (hs.rowR 0 rfl) (hs.rowR 1 rfl) (hs.rowR 2 rfl)) fun w gw hs=>?_)
 refine qo 3 24 (.pointer (some ⟨b1,1,none⟩)) ?_
 refine so 4 (oM 113 (ag .u64 r7) 1 25 (enc .u64 r7) hs 1 rfl (enc_len _ _) (by simp [enc_len]) (enc_one _ _) (splice_row rfl) fun w kp hs=>?_)
 refine qo 5 25 (.pointer (some ⟨b1,26,none⟩)) ?_
 refine wpS.only 6 (oQ 3 (I8 0) 26 hs 1 rfl rfl (by simp [enc_len]) (set_post 0 rfl) ?_)
 intro w kp hs
 try dsimp only [List.set] at hs
 refine ⟨fun _=>trivial,?_⟩
 refine qo 7 26 (.pointer (some ⟨b1,27,none⟩)) ?_
 refine wpS.only 8 (oQ 4 (.bool true) 27 hs 1 rfl rfl (by simp [enc_len]) (set_post 1 rfl) ?_)
 intro w kp hs
 try dsimp only [List.set] at hs
 refine ⟨fun _=>trivial,?_⟩
 refine fj j16 s15 (xs fun _ s17=>(xn 2 fun _ j18=>?_))
 refine tkt 0 27 (.agg (vl [I8 r6_0]++enc .u64 r7++vl [I8 0,.bool true]).toArray) (yW hs 1 28 115 rfl (by simp [enc_len]) .grow) ?_
 refine so 1 (oW 28 115 (.agg (vl [I8 r6_0]++enc .u64 r7++vl [I8 0,.bool true]).toArray) (vl [I8 r6_0]++enc .u64 r7++vl [I8 0,.bool true]) hs 0 rfl (by simp [enc_len]) (by simp [enc_len]) (one_app (one_app (by simp [Value.oneCell']) (fun u hu=>enc_one _ _ u hu)) (by simp [Value.oneCell'])) fun w kp hs=>?_)
 refine fj j18 s17 (xret ?_)
 obtain ⟨rfl,rfl,rfl,rfl⟩:=os4 h
 exact qq _ _ (pr (rr [.cell 2 115] [.agg (vl [I8 r6_0]++enc .u64 r7++vl [I8 0,.bool true]).toArray] (.cons (rcN 28 hs 0 rfl (by simp [enc_len])) .nil)) ⟨cr,hs.none⟩)
end Go.Proofs.YtemdbgmldljbpaaDoor

/- own -/
set_option linter.unusedVariables false
set_option linter.unusedSimpArgs false
set_option maxRecDepth 100000
set_option maxHeartbeats 4000000
namespace Go.Proofs.YtemdbgmldljbpaaDoor
open Go.Mx
attribute [local irreducible] wpOp
theorem keccak_Squeeze.ok {K:Nat}{a0_0:Int}{a0_1:Arr 25}{a0_2:Int}{a0_3:Bool}{a1 r0_0:Int}{r0_1:Arr 25}{r0_2:Int}{r0_3:Bool}{r1:List Int}(h:keccak_Squeeze.f K a0_0 a0_1 a0_2 a0_3 a1=some (r0_0,r0_1,r0_2,r0_3,r1)) (w0:World) (hg0:RowL CW w0 (some ⟨0,0,none⟩) 1 1 [tab_0]) (hg1:RowL CV w0 (some ⟨1,0,none⟩) 1 1 [tab_1]) (hg2:RowL CV w0 (some ⟨2,0,none⟩) 1 1 [tab_2]):Calls Tryd.prog 79 #[.agg (vl [I8 a0_0]++enc .u64 a0_1++vl [I8 a0_2,.bool a0_3]).toArray,I8 a1] w0 fun e w'=>∃ h:(Option Addr × Nat × Nat),e = .returned (.tuple #[.agg (vl [I8 r0_0]++enc .u64 r0_1++vl [I8 r0_2,.bool r0_3]).toArray,.slice h.1 h.2.1 h.2.2])∧St w0 [] [.ownL CB h.1 h.2.1 h.2.2 r1 5] [] w':=by
 refine calls_k Tryd.func79 rfl fun Q qq=>?_
 have hs:=St.startR (all_cons (RowP.ent hg0) (all_cons (RowP.ent hg1) (all_cons (RowP.ent hg2) all_nil)))
 refine wc (a':=(fu 54 [.agg (vl [I8 a0_0]++enc .u64 a0_1++vl [I8 a0_2,.bool a0_3]).toArray,I8 a1])) ?_
 refine xs fun _ s1=>?_
 refine xn 3 fun _ j2=>?_
 refine so 0 (oB 2 115 (.agg (vl [I8 a0_0]++enc .u64 a0_1++vl [I8 a0_2,.bool a0_3]).toArray) hs (vl [I8 a0_0]++enc .u64 a0_1++vl [I8 a0_2,.bool a0_3]) fun b1 w gw hs=>?_)
 refine so 1 (oN 4 115 hs (vl [I8 0]++enc .u64 (zeroA 25)++vl [I8 0,.bool false]) (.agg (vl [I8 0]++enc .u64 (zeroA 25)++vl [I8 0,.bool false]).toArray) fun b2 w gw hs=>?_)
 refine qo 2 5 (.slice none 0 0) ?_
 refine fj j2 s1 (xs fun _ s3=>(xs fun _ s4=>(xn 2 fun _ j5=>?_)))
 refine qo 0 8 (I8 a1) ?_
 obtain ⟨hc,h⟩|⟨hc,h⟩:=of_if h
 refine tb 1 9 (dt hc) ?_
 refine fj j5 s4 (ct (xs fun _ s6=>(xn 3 fun _ j7=>?_)))
 refine tkt 0 10 (.agg (vl [I8 a0_0]++enc .u64 a0_1++vl [I8 a0_2,.bool a0_3]).toArray) (yW hs 1 28 115 rfl (by simp [enc_len]) .grow) ?_
 refine so 1 (oW 28 115 (.agg (vl [I8 a0_0]++enc .u64 a0_1++vl [I8 a0_2,.bool a0_3]).toArray) (vl [I8 a0_0]++enc .u64 a0_1++vl [I8 a0_2,.bool a0_3]) hs 0 rfl (by simp [enc_len]) (by simp [enc_len]) (one_app (one_app (by simp [Value.oneCell']) (fun u hu=>enc_one _ _ u hu)) (by simp [Value.oneCell'])) fun w kp hs=>?_)
 refine qo 2 5 (.slice none 0 0) ?_
 refine fj j7 s6 (xret (tr ?_))
 obtain ⟨rfl,rfl,rfl,rfl,rfl⟩:=os5 h
 have hs:=hs.addNilL CB 5
 exact qq _ _ (pr (rr [.cell 4 115,.tmp 5] [.agg (vl [I8 a0_0]++enc .u64 a0_1++vl [I8 a0_2,.bool a0_3]).toArray,.slice none 0 0] (.cons (rcN 28 hs 1 rfl (by simp [enc_len])) (.cons rt .nil))) ⟨⟨none,0,0⟩,cr,(pz (dr [1,0,0] hs))⟩)
 refine tb 1 9 (df hc) ?_
 refine fj j5 s4 (cf (xk (T s3 (?_))))
 obtain ⟨⟨y3_0,y3_1,y3_2,y3_3⟩,hj,h⟩:=ob h
 refine xs fun _ s9=>wp_join (N:=fun a w=>St w0 [] [.blk b2 (vl [I8 0]++enc .u64 (zeroA 25)++vl [I8 0,.bool false]) 115,.blk b1 (vl [I8 y3_0]++enc .u64 y3_1++vl [I8 y3_2,.bool y3_3]) 115] [.rowL CW (some ⟨0,0,none⟩) 1 1 ([tab_0]),.rowL CV (some ⟨1,0,none⟩) 1 1 ([tab_1]),.rowL CV (some ⟨2,0,none⟩) 1 1 ([tab_2])] w∧∃ g8,a=fr g8 56 [(1,[I8 a1,P0 b1]),(4,[P0 b2,.slice none 0 0])]) (fun N nj=>?_) ?_
 clear h
 have h:=hj
 refine xs fun _ s10=>?_
 refine xn 3 fun _ j11=>?_
 refine qo 0 11 (.pointer (some ⟨b1,27,none⟩)) ?_
 cases a0_3 with
 | true=>
  have h:=of_if_t h
  refine tkt 1 12 (.bool true) (yv hs 1 27 4 rfl (get_post 1 rfl rfl) .grow) ?_
  refine qo 2 13 (.bool false) ?_
  refine fj j11 s10 (cf (xk ?_))
  obtain ⟨rfl,rfl,rfl,rfl⟩:=os4 h
  exact nj _ _ ⟨(hs.conv rfl),eg⟩
 | false=>
  have h:=of_if_f h
  refine tkt 1 12 (.bool false) (yv hs 1 27 4 rfl (get_post 1 rfl rfl) .grow) ?_
  refine qo 2 13 (.bool true) ?_
  refine fj j11 s10 (ct (xn 3 fun _ j12=>?_))
  refine tkt 0 14 (.agg (vl [I8 a0_0]++enc .u64 a0_1++vl [I8 a0_2,.bool false]).toArray) (yW hs 1 28 115 rfl (by simp [enc_len]) .grow) ?_
  obtain ⟨⟨r4_0,r4_1,r4_2,r4_3⟩,hg,h⟩:=ob h
  refine so 1 (oC 15 hs (keccak_turned.ok hg _ (hs.rowR 0 rfl) (hs.rowR 1 rfl) (hs.rowR 2 rfl)) fun w gw hs=>?_)
  refine so 2 (oW 28 115 (.agg (vl [I8 r4_0]++enc .u64 r4_1++vl [I8 r4_2,.bool r4_3]).toArray) (vl [I8 r4_0]++enc .u64 r4_1++vl [I8 r4_2,.bool r4_3]) hs 1 rfl (by simp [enc_len]) (by simp [enc_len]) (one_app (one_app (by simp [Value.oneCell']) (fun u hu=>enc_one _ _ u hu)) (by simp [Value.oneCell'])) fun w kp hs=>?_)
  refine fin (j12 _ _ ?_)
  obtain ⟨rfl,rfl,rfl,rfl⟩:=os4 h
  exact nj _ _ ⟨(hs.conv rfl),eg⟩
 clear hj hs
 rintro a w ⟨hs,g8,rfl⟩
 refine T s9 (xs fun _ s13=>(xn 3 fun _ j14=>?_))
 refine qo 0 16 (I8 a1) ?_
 obtain ⟨h0,h1,h⟩:=oc2 h
 refine so 1 (oMk (C:=CB) 17 24 5 1 140737488355328 .i64 .i64 a1 hs h0 h1 (by decide) (by decide) fun s5_A s5_n s5_c w gw hs=>?_)
 refine qo 2 6 (.slice s5_A s5_n s5_c) ?_
 refine fj j14 s13 (xs fun _ s15=>(xs fun _ s16=>(xn 3 fun _ j17=>?_)))
 refine qo 0 18 (.slice s5_A s5_n s5_c) ?_
 refine tkf 1 19 (I8 ((List.replicate (a1:Int).toNat (Cod.zero CB)).length:Int)) (yl (hs.rowL 0 rfl)) ?_
 refine qo 2 20 (I8 0) ?_
 refine fj j17 s16 (?_)
 obtain ⟨⟨y9,y10_0,y10_1,y10_2,y10_3⟩,hy,hk0⟩:=ob h
 refine wp_exq (N:=fun a w=>St w0 [] [.ownL CB s5_A s5_n s5_c y9 5,.blk b2 (vl [I8 0]++enc .u64 (zeroA 25)++vl [I8 0,.bool false]) 115,.blk b1 (vl [I8 y10_0]++enc .u64 y10_1++vl [I8 y10_2,.bool y10_3]) 115] [.rowL CW (some ⟨0,0,none⟩) 1 1 ([tab_0]),.rowL CV (some ⟨1,0,none⟩) 1 1 ([tab_1]),.rowL CV (some ⟨2,0,none⟩) 1 1 ([tab_2])] w∧∃ g19,a=fr g19 56 [(2,[P0 b1]),(4,[P0 b2,.slice none 0 0,.slice s5_A s5_n s5_c])]) (fun N0 nn0=>?_) ?_
 clear hk0
 refine xb ?_
 refine wp_loop_k (fun n a w=>∃ z6 z7 z8_0 z8_1 z8_2 z8_3,keccak_Squeeze.l0 K n a1 z6 z7 z8_0 z8_1 z8_2 z8_3=some (y9,y10_0,y10_1,y10_2,y10_3)∧St w0 [] [.ownL CB s5_A s5_n s5_c z7 5,.blk b2 (vl [I8 0]++enc .u64 (zeroA 25)++vl [I8 0,.bool false]) 115,.blk b1 (vl [I8 z8_0]++enc .u64 z8_1++vl [I8 z8_2,.bool z8_3]) 115] [.rowL CW (some ⟨0,0,none⟩) 1 1 ([tab_0]),.rowL CV (some ⟨1,0,none⟩) 1 1 ([tab_1]),.rowL CV (some ⟨2,0,none⟩) 1 1 ([tab_2])] w∧∃ g18,a=fr g18 56 [(2,[P0 b1]),(4,[P0 b2,.slice none 0 0,.slice s5_A s5_n s5_c]),(19,[I8 ((List.replicate (a1:Int).toNat (Cod.zero CB)).length:Int),I8 z6])]) K ⟨0,(List.replicate (a1:Int).toNat (Cod.zero CB)),y3_0,y3_1,y3_2,y3_3,hy,hs.conv rfl,eg⟩ ?_
 clear hs h hy
 rintro n a w ⟨z6,z7,z8_0,z8_1,z8_2,z8_3,h,hs,g18,rfl⟩ KL0 kl0
 cases n with
 | zero=>exact nomatch (show none=some _ from h)
 | succ n=>
  refine xs fun _ s20=>?_
  refine xn 1 fun _ j21=>?_
  obtain ⟨hc,h⟩|⟨hc,h⟩:=of_if h
  refine tb 0 21 (dt hc) ?_
  refine fj j21 s20 (xs fun _ s22=>(ct (xk (T s22 (xs fun _ s23=>(xb (xs fun _ s24=>(xn 2 fun _ j25=>?_))))))))
  refine nq 0 [(22,I8 z6),(7,I8 z6)] ?_
  refine fj j25 s24 (?_)
  obtain ⟨⟨y11_0,y11_1,y11_2,y11_3⟩,hj,h⟩:=ob h
  refine xs fun _ s27=>wp_join (N:=fun a w=>St w0 [] [.ownL CB s5_A s5_n s5_c z7 5,.blk b2 (vl [I8 0]++enc .u64 (zeroA 25)++vl [I8 0,.bool false]) 115,.blk b1 (vl [I8 y11_0]++enc .u64 y11_1++vl [I8 y11_2,.bool y11_3]) 115] [.rowL CW (some ⟨0,0,none⟩) 1 1 ([tab_0]),.rowL CV (some ⟨1,0,none⟩) 1 1 ([tab_1]),.rowL CV (some ⟨2,0,none⟩) 1 1 ([tab_2])] w∧∃ g26,a=fr g26 56 [(2,[P0 b1]),(4,[P0 b2,.slice none 0 0,.slice s5_A s5_n s5_c,I8 z6]),(19,[I8 ((List.replicate (a1:Int).toNat (Cod.zero CB)).length:Int),I8 z6])]) (fun N nj=>?_) ?_
  clear h
  have h:=hj
  refine xs fun _ s28=>?_
  refine rg [] (fun k=>True) 6 fun _ j29=>?_
  have hs:=hs.drawn1
  refine gq 0 23 (.pointer (some ⟨b1,26,none⟩)) ?_
  refine tgt 1 24 (I8 z8_2) (yv hs 2 26 3 rfl (get_post 0 rfl rfl) .grow) ?_
  refine gq 2 25 (P0 b1) ?_
  refine tgt 3 26 (I8 z8_0) (yv hs 2 0 3 rfl (get_pre rfl) .grow) ?_
  obtain ⟨r12,hg,h⟩:=ob h
  refine go 4 (oC 27 hs (keccak_rate.ok hg _) fun w gw hs=>⟨.of gw,?_⟩)
  obtain ⟨hc,h⟩|⟨hc,h⟩:=of_if h
  refine gb 5 28 (et hc) ?_
  refine gf (j29 _ _ ?_)
  refine T s28 (ct (xn 7 fun _ j30=>?_))
  refine qo 0 29 (.pointer (some ⟨b1,1,none⟩)) ?_
  refine tkt 1 30 (ag .u64 z8_1) (yN hs 2 1 25 113 rfl (mid_of rfl) (enc_len _ _) .grow) ?_
  obtain ⟨r13,hg,h⟩:=ob h
  refine so 2 (oC 31 hs (keccak_Permute.ok hg _ (hs.rowR 0 rfl) (hs.rowR 1 rfl) (hs.rowR 2 rfl)) fun w gw hs=>?_)
  refine qo 3 32 (.pointer (some ⟨b1,1,none⟩)) ?_
  refine so 4 (oM 113 (ag .u64 r13) 1 25 (enc .u64 r13) hs 2 rfl (enc_len _ _) (by simp [enc_len]) (enc_one _ _) (splice_row rfl) fun w kp hs=>?_)
  refine qo 5 33 (.pointer (some ⟨b1,26,none⟩)) ?_
  refine wpS.only 6 (oQ 3 (I8 0) 26 hs 2 rfl rfl (by simp [enc_len]) (set_post 0 rfl) ?_)
  intro w kp hs
  try dsimp only [List.set] at hs
  refine ⟨fun _=>trivial,?_⟩
  refine fin (j30 _ _ ?_)
  obtain ⟨rfl,rfl,rfl,rfl⟩:=os4 h
  exact nj _ _ ⟨(hs.conv rfl),eg⟩
  refine gb 5 28 (ef hc) ?_
  refine gf (j29 _ _ ?_)
  refine T s28 (cf (xk ?_))
  obtain ⟨rfl,rfl,rfl,rfl⟩:=os4 h
  exact nj _ _ ⟨(hs.conv rfl),eg⟩
  clear hj hs
  rintro a w ⟨hs,g26,rfl⟩
  refine T s27 (xs fun _ s31=>?_)
  refine rg [15] (fun k=>True) 16 fun _ j32=>?_
  have hs:=hs.drawn1
  refine gq 0 34 (.slice s5_A s5_n s5_c) ?_
  refine gq 1 35 (I8 z6) ?_
  refine gq 2 36 (.pointer (some ⟨b1,26,none⟩)) ?_
  refine tgt 3 37 (I8 y11_2) (yv hs 2 26 3 rfl (get_post 0 rfl rfl) .grow) ?_
  refine gq 4 38 (I8 (iquo .i64 y11_2 8)) ?_
  refine gq 5 39 (.pointer (some ⟨b1,1,none⟩)) ?_
  obtain ⟨x14,hx,h⟩:=ob h
  have hx:=of_some hx
  subst hx
  obtain ⟨i0_33,i1_33,h⟩:=oc2 h
  refine tgf 6 40 (.pointer (some ⟨b1,1+((iquo .i64 y11_2 8):Int).toNat*1,none⟩)) (yi 113 112 25 1 .i64 (iquo .i64 y11_2 8) i0_33 i1_33) ?_
  refine tgt 7 41 (U8 (rd y11_1 (iquo .i64 y11_2 8))) (yP 1 hs 2 112 (iquo .i64 y11_2 8) rfl i0_33 i1_33 (by simp [enc_len]) .grow) ?_
  refine gq 8 42 (.pointer (some ⟨b1,26,none⟩)) ?_
  refine tgt 9 43 (I8 y11_2) (yv hs 2 26 3 rfl (get_post 0 rfl rfl) .grow) ?_
  refine gq 10 44 (I8 (irem .i64 y11_2 8)) ?_
  refine gq 11 45 (I8 (imul .i64 8 (irem .i64 y11_2 8))) ?_
  obtain ⟨h0,h⟩:=oc h
  refine tgf 12 46 (U8 (ishr .u64 (rd y11_1 (iquo .i64 y11_2 8)) (imul .i64 8 (irem .i64 y11_2 8)))) (ysr 112 .i64 h0) ?_
  refine gq 13 47 (U1 (iconv .u8 (ishr .u64 (rd y11_1 (iquo .i64 y11_2 8)) (imul .i64 8 (irem .i64 y11_2 8))))) ?_
  obtain ⟨h0,h1,h⟩:=oc2 h
  have i0_34:=h0
  have i1_34:=h1
  refine tgf 14 48 (PA CB s5_A z6) (yiL (C:=CB) 24 5 .i64 z6 (hs.rowL 0 rfl) h0 h1) ?_
  obtain ⟨x15,hx,h⟩:=ob h
  refine go 15 (oL (C:=CB) (he:=by cases hx; kernel_rfl) 5 z6 x15 hs 0 rfl i0_34 i1_34 fun w hs=>⟨⟨fun hf=>absurd hf (by decide),.all _ _⟩,?_⟩)
  refine gf (j32 _ _ ?_)
  refine T s31 (xn 5 fun _ j35=>?_)
  refine qo 0 49 (.pointer (some ⟨b1,26,none⟩)) ?_
  refine tkt 1 50 (I8 y11_2) (yv hs 2 26 3 rfl (get_post 0 rfl rfl) .grow) ?_
  refine nq 2 [(51,I8 (iadd .i64 y11_2 1)),(52,.pointer (some ⟨b1,26,none⟩))] ?_
  obtain ⟨x16,hx,h⟩:=ob h
  refine wpS.only 4 (oQ (he:=by cases hx; kernel_rfl) 3 (I8 x16) 26 hs 2 rfl rfl (by simp [enc_len]) (set_post 0 rfl) ?_)
  intro w kp hs
  try dsimp only [List.set] at hs
  refine ⟨fun _=>trivial,?_⟩
  refine fin (j35 _ _ (iN (T s23 (xn 2 fun _ j36=>?_))))
  refine nq 0 [(53,I8 (iadd .i64 z6 1)),(20,I8 (iadd .i64 z6 1))] ?_
  refine fin (j36 _ _ ?_)
  exact tn (kl0 _ _ ⟨n,ls n,(iadd .i64 z6 1),(wrL z7 z6 x15),y11_0,y11_1,x16,y11_3,h,(hs.conv rfl),eg⟩)
  refine tb 0 21 (df hc) ?_
  refine fj j21 s20 (xs fun _ s37=>(cf (xexit (tx (tx (iH ?_))))))
  obtain ⟨rfl,rfl,rfl,rfl,rfl⟩:=os5 h
  exact exq_n (nn0 _ _ ⟨(hs.conv rfl),eg⟩)
 clear hs h hy
 rintro a w ⟨hs,g19,rfl⟩
 have h:=hk0
 refine T s15 (xs fun _ s38=>(xn 4 fun _ j39=>?_))
 refine tkt 0 54 (.agg (vl [I8 y10_0]++enc .u64 y10_1++vl [I8 y10_2,.bool y10_3]).toArray) (yW hs 2 28 115 rfl (by simp [enc_len]) .grow) ?_
 refine qo 1 55 (.slice s5_A s5_n s5_c) ?_
 refine so 2 (oW 28 115 (.agg (vl [I8 y10_0]++enc .u64 y10_1++vl [I8 y10_2,.bool y10_3]).toArray) (vl [I8 y10_0]++enc .u64 y10_1++vl [I8 y10_2,.bool y10_3]) hs 1 rfl (by simp [enc_len]) (by simp [enc_len]) (one_app (one_app (by simp [Value.oneCell']) (fun u hu=>enc_one _ _ u hu)) (by simp [Value.oneCell'])) fun w kp hs=>?_)
 refine qo 3 5 (.slice s5_A s5_n s5_c) ?_
 refine fj j39 s38 (xret ?_)
 obtain ⟨rfl,rfl,rfl,rfl,rfl⟩:=os5 h
 exact qq _ _ (pr (rr [.cell 4 115,.tmp 5] [.agg (vl [I8 y10_0]++enc .u64 y10_1++vl [I8 y10_2,.bool y10_3]).toArray,.slice s5_A s5_n s5_c] (.cons (rcN 28 hs 1 rfl (by simp [enc_len])) (.cons rt .nil))) ⟨⟨s5_A,s5_n,s5_c⟩,cr,(pz (dr [1,0,0] hs))⟩)
theorem keccak_Sum.ok {K:Nat}{a0:Int}{a1:List Int}{a2:Int}{r0:List Int}{r1:Int}{a1_A:Option Addr}{a1_n a1_c:Nat}(h:keccak_Sum.f K a0 a1 a2=some (r0,r1)) (w0:World) (hp1:RowL CB w0 a1_A a1_n a1_c a1) (hg0:RowL CW w0 (some ⟨0,0,none⟩) 1 1 [tab_0]) (hg1:RowL CV w0 (some ⟨1,0,none⟩) 1 1 [tab_1]) (hg2:RowL CV w0 (some ⟨2,0,none⟩) 1 1 [tab_2]):Calls Tryd.prog 39 #[I8 a0,.slice a1_A a1_n a1_c,I8 a2] w0 fun e w'=>∃ h:(Option Addr × Nat × Nat),e = .returned (.tuple #[.slice h.1 h.2.1 h.2.2,I8 r1])∧St w0 [] [.ownL CB h.1 h.2.1 h.2.2 r0 5] [] w':=by
 refine calls_k Tryd.func39 rfl fun Q qq=>?_
 have hs:=St.startR (all_cons (RowP.ent hp1) (all_cons (RowP.ent hg0) (all_cons (RowP.ent hg1) (all_cons (RowP.ent hg2) all_nil))))
 refine wc (a':=(fu 32 [I8 a0,.slice a1_A a1_n a1_c,I8 a2])) ?_
 refine xs fun _ s1=>?_
 refine xn 2 fun _ j2=>?_
 refine nq 0 [(6,.slice none 0 0),(7,I8 0)] ?_
 refine fj j2 s1 (xs fun _ s3=>(xn 8 fun _ j4=>?_))
 refine qo 0 13 (I8 a0) ?_
 obtain ⟨⟨r1_0,r1_1,r1_2,r1_3,r2⟩,hg,h⟩:=ob h
 refine so 1 (oC 14 hs (keccak_New.ok hg _) fun w gw hs=>?_)
 refine nq 2 [(12,.tuple #[.agg (vl [I8 r1_0]++enc .u64 r1_1++vl [I8 r1_2,.bool r1_3]).toArray,I8 r2]),(15,.agg (vl [I8 r1_0]++enc .u64 r1_1++vl [I8 r1_2,.bool r1_3]).toArray),(16,I8 r2)] ?_
 refine so 5 (oN 8 115 hs (vl [I8 0]++enc .u64 (zeroA 25)++vl [I8 0,.bool false]) (.agg (vl [I8 0]++enc .u64 (zeroA 25)++vl [I8 0,.bool false]).toArray) fun b3 w gw hs=>?_)
 refine so 6 (oW 28 115 (.agg (vl [I8 r1_0]++enc .u64 r1_1++vl [I8 r1_2,.bool r1_3]).toArray) (vl [I8 r1_0]++enc .u64 r1_1++vl [I8 r1_2,.bool r1_3]) hs 0 rfl (by simp [enc_len]) (by simp [enc_len]) (one_app (one_app (by simp [Value.oneCell']) (fun u hu=>enc_one _ _ u hu)) (by simp [Value.oneCell'])) fun w kp hs=>?_)
 refine qo 7 9 (I8 r2) ?_
 refine fj j4 s3 (xs fun _ s5=>(xs fun _ s6=>(xn 2 fun _ j7=>?_)))
 refine qo 0 17 (I8 r2) ?_
 obtain ⟨hc,h⟩|⟨hc,h⟩:=of_if h
 refine tb 1 18 (nf hc) ?_
 refine fj j7 s6 (cf (xk (T s5 (xs fun _ s8=>(xs fun _ s9=>(xn 6 fun _ j10=>?_))))))
 refine qo 0 20 (I8 a2) ?_
 obtain ⟨hc,h⟩|⟨hc,h⟩:=of_if h
 refine tb 1 21 (dt hc) ?_
 refine nq 2 [(22,.bool true),(23,undef),(24,undef),(25,.bool true)] ?_
 refine fj j10 s9 (ct (xs fun _ s11=>(xn 2 fun _ j12=>?_)))
 refine nq 0 [(6,.slice none 0 0),(7,I8 8)] ?_
 refine fj j12 s11 (xret (tr ?_))
 obtain ⟨rfl,rfl⟩:=os2 h
 have hs:=hs.addNilL CB 5
 exact qq _ _ (pt [6,7] [.slice none 0 0,I8 8] ⟨⟨none,0,0⟩,cr,(pz (dr [1,0] hs))⟩)
 refine tb 1 21 (df hc) ?_
 refine nq 2 [(22,.bool false),(23,I8 a2)] ?_
 obtain ⟨hc,h⟩|⟨hc,h⟩:=of_if h
 refine tb 4 24 (dt hc) ?_
 refine qo 5 25 (.bool true) ?_
 refine fj j10 s9 (ct (xs fun _ s13=>(xn 2 fun _ j14=>?_)))
 refine nq 0 [(6,.slice none 0 0),(7,I8 8)] ?_
 refine fj j14 s13 (xret (tr ?_))
 obtain ⟨rfl,rfl⟩:=os2 h
 have hs:=hs.addNilL CB 5
 exact qq _ _ (pt [6,7] [.slice none 0 0,I8 8] ⟨⟨none,0,0⟩,cr,(pz (dr [1,0] hs))⟩)
 refine tb 4 24 (df hc) ?_
 refine qo 5 25 (.bool false) ?_
 refine fj j10 s9 (cf (xk (T s8 (xs fun _ s15=>(xn 11 fun _ j16=>?_)))))
 refine tkt 0 27 (.agg (vl [I8 r1_0]++enc .u64 r1_1++vl [I8 r1_2,.bool r1_3]).toArray) (yW hs 0 28 115 rfl (by simp [enc_len]) .grow) ?_
 refine qo 1 28 (.slice a1_A a1_n a1_c) ?_
 obtain ⟨⟨r4_0,r4_1,r4_2,r4_3⟩,hg,h⟩:=ob h
 refine so 2 (oC 29 hs (keccak_Absorb.ok hg _ (hs.rowR 0 rfl) (hs.rowR 1 rfl) (hs.rowR 2 rfl) (hs.rowR 3 rfl)) fun w gw hs=>?_)
 refine qo 3 30 (I8 a2) ?_
 obtain ⟨⟨r5_0,r5_1,r5_2,r5_3,r6⟩,hg,h⟩:=ob h
 refine wpS.only 4 (oH 31 hs (keccak_Squeeze.ok hg _ (hs.rowR 1 rfl) (hs.rowR 2 rfl) (hs.rowR 3 rfl)) ?_)
 rintro ⟨r6_A,r6_n,r6_c⟩ w gw hs
 have hs:=hs.conv (L':=[.ownL CB r6_A r6_n r6_c r6 5,.blk b3 (vl [I8 r1_0]++enc .u64 r1_1++vl [I8 r1_2,.bool r1_3]) 115]) rfl
 refine ⟨fun _=>trivial,?_⟩
 refine nq 5 [(26,.tuple #[.agg (vl [I8 r5_0]++enc .u64 r5_1++vl [I8 r5_2,.bool r5_3]).toArray,.slice r6_A r6_n r6_c]),(32,.agg (vl [I8 r5_0]++enc .u64 r5_1++vl [I8 r5_2,.bool r5_3]).toArray),(33,.slice r6_A r6_n r6_c)] ?_
 refine so 8 (oN 10 115 hs (vl [I8 0]++enc .u64 (zeroA 25)++vl [I8 0,.bool false]) (.agg (vl [I8 0]++enc .u64 (zeroA 25)++vl [I8 0,.bool false]).toArray) fun b7 w gw hs=>?_)
 refine so 9 (oW 28 115 (.agg (vl [I8 r5_0]++enc .u64 r5_1++vl [I8 r5_2,.bool r5_3]).toArray) (vl [I8 r5_0]++enc .u64 r5_1++vl [I8 r5_2,.bool r5_3]) hs 0 rfl (by simp [enc_len]) (by simp [enc_len]) (one_app (one_app (by simp [Value.oneCell']) (fun u hu=>enc_one _ _ u hu)) (by simp [Value.oneCell'])) fun w kp hs=>?_)
 refine qo 10 11 (.slice r6_A r6_n r6_c) ?_
 refine fj j16 s15 (xs fun _ s17=>(xn 3 fun _ j18=>?_))
 refine nq 0 [(34,.slice r6_A r6_n r6_c),(6,.slice r6_A r6_n r6_c),(7,I8 0)] ?_
 refine fj j18 s17 (xret ?_)
 obtain ⟨rfl,rfl⟩:=os2 h
 exact qq _ _ (pt [6,7] [.slice r6_A r6_n r6_c,I8 0] ⟨⟨r6_A,r6_n,r6_c⟩,cr,(pz (dr [0,1,0] hs))⟩)
 refine tb 1 18 (nt hc) ?_
 refine fj j7 s6 (ct (xs fun _ s19=>(xn 3 fun _ j20=>?_)))
 refine nq 0 [(19,I8 r2),(6,.slice none 0 0),(7,I8 r2)] ?_
 refine fj j20 s19 (xret (tr ?_))
 obtain ⟨rfl,rfl⟩:=os2 h
 have hs:=hs.addNilL CB 5
 exact qq _ _ (pt [6,7] [.slice none 0 0,I8 r2] ⟨⟨none,0,0⟩,cr,(pz (dr [1,0] hs))⟩)
theorem bits_such.ok {K:Nat}{a0:List Int}{a1 a2:Int}{r0:Bool}{a0_A:Option Addr}{a0_n a0_c:Nat}(h:bits_such.f K a0 a1 a2=some r0) (w0:World) (hp0:RowL CB w0 a0_A a0_n a0_c a0):Ret Tryd.prog 83 #[.slice a0_A a0_n a0_c,I8 a1,I8 a2] w0 (.bool r0):=by
 refine calls_k Tryd.func83 rfl fun Q qq=>?_
 have hs:=St.startR (all_cons (RowP.ent hp0) all_nil)
 refine wc (a':=(fu 23 [.slice a0_A a0_n a0_c,I8 a1,I8 a2])) ?_
 refine xs fun _ s1=>?_
 refine xn 1 fun _ j2=>?_
 refine qo 0 6 (.bool false) ?_
 refine fj j2 s1 (xs fun _ s3=>(xn 20 fun _ j4=>?_))
 refine qo 0 7 (I8 a1) ?_
 obtain ⟨hc,h⟩|⟨hc,h⟩:=of_if h
 refine tb 1 8 (dt hc) ?_
 refine nq 2 [(9,.bool true),(10,I8 a1)] ?_
 obtain ⟨hc,h⟩|⟨hc,h⟩:=of_if h
 refine tb 4 11 (dt hc) ?_
 refine nq 5 [(12,.bool true),(13,.bool true),(14,I8 a2)] ?_
 obtain ⟨hc,h⟩|⟨hc,h⟩:=of_if h
 refine tb 8 15 (dt hc) ?_
 refine nq 9 [(16,.bool true),(17,.bool true),(18,I8 a2),(19,.slice a0_A a0_n a0_c)] ?_
 refine tkf 13 20 (I8 (a0.length:Int)) (yl (hs.rowR 0 rfl)) ?_
 refine nq 14 [(21,I8 (imul .i64 (a0.length:Int) 8)),(22,I8 a1)] ?_
 obtain ⟨h0,h⟩:=oc h
 refine tkf 16 23 (I8 (iquo .i64 (imul .i64 (a0.length:Int) 8) a1)) (yq 3 h0) ?_
 refine nq 17 [(24,.bool (decide (a2≤(iquo .i64 (imul .i64 (a0.length:Int) 8) a1)))),(25,.bool (decide (a2≤(iquo .i64 (imul .i64 (a0.length:Int) 8) a1)))),(6,.bool (decide (a2≤(iquo .i64 (imul .i64 (a0.length:Int) 8) a1))))] ?_
 refine fj j4 s3 (xret ?_)
 obtain rfl:=of_some h
 exact qq _ _ (pt [6] [.bool (decide (a2≤(iquo .i64 (imul .i64 (a0.length:Int) 8) a1)))] ⟨cr,hs.none⟩)
 refine tb 8 15 (df hc) ?_
 refine nq 9 [(16,.bool false),(17,.bool false),(18,undef),(19,undef),(20,undef),(21,undef),(22,undef),(23,undef),(24,undef),(25,.bool false),(6,.bool false)] ?_
 refine fj j4 s3 (xret ?_)
 obtain rfl:=of_some h
 exact qq _ _ (pt [6] [.bool false] ⟨cr,hs.none⟩)
 refine tb 4 11 (df hc) ?_
 refine nq 5 [(12,.bool false),(13,.bool false),(14,undef),(15,undef),(16,.bool false),(17,.bool false),(18,undef),(19,undef),(20,undef),(21,undef),(22,undef),(23,undef),(24,undef),(25,.bool false),(6,.bool false)] ?_
 refine fj j4 s3 (xret ?_)
 obtain rfl:=of_some h
 exact qq _ _ (pt [6] [.bool false] ⟨cr,hs.none⟩)
 refine tb 1 8 (df hc) ?_
 refine nq 2 [(9,.bool false),(10,undef),(11,undef),(12,.bool false),(13,.bool false),(14,undef),(15,undef),(16,.bool false),(17,.bool false),(18,undef),(19,undef),(20,undef),(21,undef),(22,undef),(23,undef),(24,undef),(25,.bool false),(6,.bool false)] ?_
 refine fj j4 s3 (xret ?_)
 obtain rfl:=of_some h
 exact qq _ _ (pt [6] [.bool false] ⟨cr,hs.none⟩)
theorem bits_Unpack.ok {K:Nat}{a0:List Int}{a1 a2:Int}{r0:List Int}{a0_A:Option Addr}{a0_n a0_c:Nat}(h:bits_Unpack.f K a0 a1 a2=some r0) (w0:World) (hp0:RowL CB w0 a0_A a0_n a0_c a0):Calls Tryd.prog 40 #[.slice a0_A a0_n a0_c,I8 a1,I8 a2] w0 fun e w'=>∃ h:(Option Addr × Nat × Nat),e = .returned (.slice h.1 h.2.1 h.2.2)∧St w0 [] [.ownL (CI .u32) h.1 h.2.1 h.2.2 r0 70] [] w':=by
 refine calls_k Tryd.func40 rfl fun Q qq=>?_
 have hs:=St.startR (all_cons (RowP.ent hp0) all_nil)
 refine wc (a':=(fu 52 [.slice a0_A a0_n a0_c,I8 a1,I8 a2])) ?_
 refine xs fun _ s1=>?_
 refine xn 1 fun _ j2=>?_
 refine qo 0 6 (.slice none 0 0) ?_
 refine fj j2 s1 (xs fun _ s3=>(xs fun _ s4=>(xn 5 fun _ j5=>?_)))
 refine nq 0 [(11,.slice a0_A a0_n a0_c),(12,I8 a1),(13,I8 a2)] ?_
 obtain ⟨r1,hg,h⟩:=ob h
 cases r1 with
 | true=>
  have h:=of_if_t h
  refine so 3 (oC 14 hs (bits_such.ok hg _ (hs.rowR 0 rfl)) fun w gw hs=>?_)
  refine qo 4 15 (.bool false) ?_
  refine fj j5 s4 (cf (xk (T s3 (xs fun _ s6=>(xn 3 fun _ j7=>?_)))))
  refine qo 0 16 (I8 a2) ?_
  obtain ⟨h0,h1,h⟩:=oc2 h
  refine so 1 (oMk (C:=(CI .u32)) 17 68 70 4 35184372088832 .i64 .i64 a2 hs h0 h1 (by decide) (by decide) fun s2_A s2_n s2_c w gw hs=>?_)
  refine qo 2 7 (.slice s2_A s2_n s2_c) ?_
  refine fj j7 s6 (xs fun _ s8=>(xn 2 fun _ j9=>?_))
  refine nq 0 [(8,U8 0),(9,I8 0)] ?_
  refine fj j9 s8 (xs fun _ s10=>(xs fun _ s11=>(xn 3 fun _ j12=>?_)))
  refine qo 0 18 (.slice s2_A s2_n s2_c) ?_
  refine tkf 1 19 (I8 ((List.replicate (a2:Int).toNat (Cod.zero (CI .u32))).length:Int)) (yl (hs.rowL 0 rfl)) ?_
  refine qo 2 20 (I8 0) ?_
  refine fj j12 s11 (?_)
  obtain ⟨y8,hy,hk0⟩:=ob h
  refine wp_exq (N:=fun a w=>St w0 [] [.ownL (CI .u32) s2_A s2_n s2_c y8 70] [.rowL CB a0_A a0_n a0_c a0] w∧∃ g14,a=fr g14 55 [(6,[.slice none 0 0,.slice s2_A s2_n s2_c])]) (fun N0 nn0=>?_) ?_
  clear hk0
  refine xb ?_
  refine wp_loop_k (fun n a w=>∃ z3 z4 z5 z6 z7,∃ z7_A z7_n z7_c,bits_Unpack.l0 K n a1 a2 z3 z4 z5 z6 z7=some y8∧St w0 [] [.ownL (CI .u32) s2_A s2_n s2_c z6 70] [.rowL CB z7_A z7_n z7_c z7,.rowL CB a0_A a0_n a0_c a0] w∧∃ g13,a=fr g13 55 [(0,[.slice z7_A z7_n z7_c,I8 a1]),(6,[.slice none 0 0,.slice s2_A s2_n s2_c,U8 z3,I8 z4]),(19,[I8 ((List.replicate (a2:Int).toNat (Cod.zero (CI .u32))).length:Int),I8 z5])]) K ⟨0,0,0,(List.replicate (a2:Int).toNat (Cod.zero (CI .u32))),a0,a0_A,a0_n,a0_c,hy,(pk [0,0] (hs.conv (L':=[.ownL (CI .u32) s2_A s2_n s2_c (List.replicate (a2:Int).toNat (Cod.zero (CI .u32))) 70]) rfl)),eg⟩ ?_
  clear hs h hy
  rintro n a w ⟨z3,z4,z5,z6,z7,z7_A,z7_n,z7_c,h,hs,g13,rfl⟩ KL0 kl0
  cases n with
  | zero=>exact nomatch (show none=some _ from h)
  | succ n=>
   refine xs fun _ s15=>?_
   refine xn 1 fun _ j16=>?_
   obtain ⟨hc,h⟩|⟨hc,h⟩:=of_if h
   refine tb 0 21 (dt hc) ?_
   refine fj j16 s15 (xs fun _ s17=>(ct (xk (T s17 (xs fun _ s18=>(xb (xs fun _ s19=>(xn 2 fun _ j20=>?_))))))))
   refine nq 0 [(22,I8 z5),(10,I8 z5)] ?_
   refine fj j20 s19 (xs fun _ s21=>?_)
   obtain ⟨⟨y12,y13,y14⟩,hy,hk1⟩:=ob h
   refine wp_exq (N:=fun a w=>∃ y14_A y14_n y14_c,St w0 [] [.ownL (CI .u32) s2_A s2_n s2_c z6 70] [.rowL CB y14_A y14_n y14_c y14,.rowL CB z7_A z7_n z7_c z7,.rowL CB a0_A a0_n a0_c a0] w∧∃ g23,a=fr g23 55 [(0,[.slice y14_A y14_n y14_c,I8 a1]),(6,[.slice none 0 0,.slice s2_A s2_n s2_c,U8 y12,I8 y13,I8 z5]),(19,[I8 ((List.replicate (a2:Int).toNat (Cod.zero (CI .u32))).length:Int),I8 z5])]) (fun N1 nn1=>?_) ?_
   clear hk1
   refine xb ?_
   refine wp_loop_k (fun n a w=>∃ z9 z10 z11,∃ z11_A z11_n z11_c,bits_Unpack.l1 K n a1 z9 z10 z11=some (y12,y13,y14)∧St w0 [] [.ownL (CI .u32) s2_A s2_n s2_c z6 70] [.rowL CB z11_A z11_n z11_c z11,.rowL CB z7_A z7_n z7_c z7,.rowL CB a0_A a0_n a0_c a0] w∧∃ g22,a=fr g22 55 [(0,[.slice z11_A z11_n z11_c,I8 a1]),(6,[.slice none 0 0,.slice s2_A s2_n s2_c,U8 z9,I8 z10,I8 z5]),(19,[I8 ((List.replicate (a2:Int).toNat (Cod.zero (CI .u32))).length:Int),I8 z5])]) K ⟨z3,z4,z7,z7_A,z7_n,z7_c,hy,(pk [0,0,1] (hs.conv (L':=[.ownL (CI .u32) s2_A s2_n s2_c z6 70]) rfl)),eg⟩ ?_
   clear hs h hy
   rintro n a w ⟨z9,z10,z11,z11_A,z11_n,z11_c,h,hs,g22,rfl⟩ KL1 kl1
   cases n with
   | zero=>exact nomatch (show none=some _ from h)
   | succ n=>
    refine xs fun _ s24=>?_
    refine xs fun _ s25=>?_
    refine xn 3 fun _ j26=>?_
    refine nq 0 [(23,I8 z10),(24,I8 a1)] ?_
    obtain ⟨hc,h⟩|⟨hc,h⟩:=of_if h
    refine tb 2 25 (dt hc) ?_
    refine fj j26 s25 (ct (xk (T s24 (xb ?_))))
    refine rg [] (fun k=>True) 15 fun _ j27=>?_
    have hs:=hs.drawn1
    refine gq 0 26 (U8 z9) ?_
    refine gq 1 27 (.slice z11_A z11_n z11_c) ?_
    obtain ⟨h0,h1,h⟩:=oc2 h
    have i0_28:=h0
    have i1_28:=h1
    refine tgf 2 28 (PA CB z11_A 0) (yiL (C:=CB) 24 5 .i64 0 (hs.rowR 0 rfl) h0 h1) ?_
    refine tgt 3 29 (U1 (rdL CB z11 0)) (yL (C:=CB) 5 0 (hs.rowR 0 rfl) rfl i0_28 i1_28) ?_
    refine gq 4 30 (U8 (iconv .u64 (rdL CB z11 0))) ?_
    refine gq 5 31 (I8 z10) ?_
    obtain ⟨h0,h⟩:=oc h
    refine tgf 6 32 (U8 (ishl .u64 (iconv .u64 (rdL CB z11 0)) z10)) (ysl 112 .i64 h0) ?_
    refine gq 7 33 (U8 (ior .u64 z9 (ishl .u64 (iconv .u64 (rdL CB z11 0)) z10))) ?_
    refine gq 8 34 (I8 z10) ?_
    refine gq 9 35 (I8 (iadd .i64 z10 8)) ?_
    refine gq 10 36 (.slice z11_A z11_n z11_c) ?_
    obtain ⟨h0,h1,h⟩:=oc2 h
    obtain ⟨h2,h⟩:=oc h
    obtain ⟨s15_A,hA⟩ : ∃ A,A=if z11_c=(1:Int).toNat then z11_A else adr z11_A ((1:Int).toNat*Cod.size CB):=⟨_,rfl⟩
    obtain ⟨s15_n,hn⟩ : ∃ n,n=((z11.length:Int):Int).toNat-(1:Int).toNat:=⟨_,rfl⟩
    obtain ⟨s15_c,hc⟩ : ∃ c,c=z11_c-(1:Int).toNat:=⟨_,rfl⟩
    refine tgf 11 37 (.slice s15_A s15_n s15_c) (ysb (C:=CB) 24 5 (some (I8 1)) none 1 (z11.length:Int) (hs.rowR 0 rfl) (.inr ⟨_,rfl⟩) (.inl ⟨rfl,rfl⟩) h0 h1 h2 hA hn hc) ?_
    have hs:=hs.addSub (C:=CB) 0 rfl h0 h1 h2 hA hn hc
    obtain ⟨x16,hx,h⟩:=ob h
    refine tgf 12 8 (U8 x16) (yn hx) ?_
    obtain ⟨x17,hx,h⟩:=ob h
    refine tgf 13 9 (I8 x17) (yn hx) ?_
    refine gq 14 0 (.slice s15_A s15_n s15_c) ?_
    refine gf (j27 _ _ ?_)
    refine iN ?_
    exact tn (kl1 _ _ ⟨n,ls n,x16,x17,(subL z11 1 (z11.length:Int)),s15_A,s15_n,s15_c,h,(pk [0,2,3] hs),eg⟩)
    refine tb 2 25 (df hc) ?_
    refine fj j26 s25 (cf (xexit (tx (tx (iH ?_)))))
    obtain ⟨rfl,rfl,rfl⟩:=os3 h
    exact exq_n (nn1 _ _ ⟨z11_A,z11_n,z11_c,(hs.conv rfl),eg⟩)
   clear hs h hy
   rintro a w ⟨y14_A,y14_n,y14_c,hs,g23,rfl⟩
   have h:=hk1
   refine T s21 (xs fun _ s29=>(xn 10 fun _ j30=>?_))
   refine nq 0 [(38,.slice s2_A s2_n s2_c),(39,I8 z5),(40,U8 y12),(41,I8 a1)] ?_
   obtain ⟨h0,h⟩:=oc h
   refine tkf 4 42 (U8 (ishl .u64 1 a1)) (ysl 112 .i64 h0) ?_
   refine nq 5 [(43,U8 (isub .u64 (ishl .u64 1 a1) 1)),(44,U8 (iand .u64 y12 (isub .u64 (ishl .u64 1 a1) 1))),(45,U4 (iconv .u32 (iand .u64 y12 (isub .u64 (ishl .u64 1 a1) 1))))] ?_
   obtain ⟨h0,h1,h⟩:=oc2 h
   have i0_31:=h0
   have i1_31:=h1
   refine tkf 8 46 (PA (CI .u32) s2_A z5) (yiL (C:=(CI .u32)) 68 70 .i64 z5 (hs.rowL 0 rfl) h0 h1) ?_
   obtain ⟨x18,hx,h⟩:=ob h
   refine so 9 (oL (C:=(CI .u32)) (he:=by cases hx; kernel_rfl) 70 z5 x18 hs 0 rfl i0_31 i1_31 fun w hs=>?_)
   refine fj j30 s29 (xs fun _ s32=>(xn 4 fun _ j33=>?_))
   refine nq 0 [(47,U8 y12),(48,I8 a1)] ?_
   obtain ⟨h0,h⟩:=oc h
   refine tkf 2 49 (U8 (ishr .u64 y12 a1)) (ysr 112 .i64 h0) ?_
   obtain ⟨x19,hx,h⟩:=ob h
   refine tkf 3 8 (U8 x19) (yn hx) ?_
   refine fj j33 s32 (xn 4 fun _ j34=>?_)
   refine nq 0 [(50,I8 y13),(51,I8 a1),(52,I8 (isub .i64 y13 a1))] ?_
   obtain ⟨x20,hx,h⟩:=ob h
   refine tkf 3 9 (I8 x20) (yn hx) ?_
   refine fin (j34 _ _ (iN (T s18 (xn 2 fun _ j35=>?_))))
   refine nq 0 [(53,I8 (iadd .i64 z5 1)),(20,I8 (iadd .i64 z5 1))] ?_
   refine fin (j35 _ _ ?_)
   exact tn (kl0 _ _ ⟨n,ls n,x19,x20,(iadd .i64 z5 1),(wrL z6 z5 x18),y14,y14_A,y14_n,y14_c,h,(pk [0,2] hs),eg⟩)
   refine tb 0 21 (df hc) ?_
   refine fj j16 s15 (xs fun _ s36=>(cf (xexit (tx (tx (iH ?_))))))
   obtain rfl:=of_some h
   exact exq_n (nn0 _ _ ⟨(pk [1] hs),eg⟩)
  clear hs h hy
  rintro a w ⟨hs,g14,rfl⟩
  have h:=hk0
  refine T s10 (xs fun _ s37=>(xn 2 fun _ j38=>?_))
  refine nq 0 [(54,.slice s2_A s2_n s2_c),(6,.slice s2_A s2_n s2_c)] ?_
  refine fj j38 s37 (xret ?_)
  obtain rfl:=of_some h
  exact qq _ _ (pt [6] [.slice s2_A s2_n s2_c] ⟨⟨s2_A,s2_n,s2_c⟩,cr,(pz hs)⟩)
 | false=>
  have h:=of_if_f h
  refine so 3 (oC 14 hs (bits_such.ok hg _ (hs.rowR 0 rfl)) fun w gw hs=>?_)
  refine qo 4 15 (.bool true) ?_
  refine fj j5 s4 (ct (xs fun _ s39=>(xn 1 fun _ j40=>?_)))
  refine qo 0 6 (.slice none 0 0) ?_
  refine fj j40 s39 (xret (tr ?_))
  obtain rfl:=of_some h
  have hs:=hs.addNilL (CI .u32) 70
  exact qq _ _ (pt [6] [.slice none 0 0] ⟨⟨none,0,0⟩,cr,(pz hs)⟩)
theorem kpke_Noise.ok {K:Nat}{a0:Int}{a1:List Int}{a2:Int}{r0:Arr 256}{a1_A:Option Addr}{a1_n a1_c:Nat}(h:kpke_Noise.f K a0 a1 a2=some r0) (w0:World) (hp1:RowL CB w0 a1_A a1_n a1_c a1) (hg0:RowL CW w0 (some ⟨0,0,none⟩) 1 1 [tab_0]) (hg1:RowL CV w0 (some ⟨1,0,none⟩) 1 1 [tab_1]) (hg2:RowL CV w0 (some ⟨2,0,none⟩) 1 1 [tab_2]):Ret Tryd.prog 16 #[I8 a0,.slice a1_A a1_n a1_c,U1 a2] w0 (ag .i32 r0):=by
 refine calls_k Tryd.func16 rfl fun Q qq=>?_
 have hs:=St.startR (all_cons (RowP.ent hp1) (all_cons (RowP.ent hg0) (all_cons (RowP.ent hg1) (all_cons (RowP.ent hg2) all_nil))))
 refine wc (a':=(fu 71 [I8 a0,.slice a1_A a1_n a1_c,U1 a2])) ?_
 refine xs fun _ s1=>?_
 refine xn 1 fun _ j2=>?_
 refine so 0 (oN 6 32 hs (enc .i32 (zeroA 256)) (ag .i32 (zeroA 256)) fun b1 w gw hs=>?_)
 refine fj j2 s1 (xs fun _ s3=>(xn 1 fun _ j4=>?_))
 refine so 0 (oN 7 32 hs (enc .i32 (zeroA 256)) (ag .i32 (zeroA 256)) fun b2 w gw hs=>?_)
 refine fj j4 s3 (?_)
 obtain ⟨tv6,hj,hk_6⟩:=ob h
 refine xs fun _ s6=>wp_exj (N:=fun a w=>∃ y3,tv6 = .inl y3∧St w0 [] [.blk b2 (enc .i32 (zeroA 256)) 32,.blk b1 (enc .i32 y3) 32] [.rowL CB a1_A a1_n a1_c a1,.rowL CW (some ⟨0,0,none⟩) 1 1 ([tab_0]),.rowL CV (some ⟨1,0,none⟩) 1 1 ([tab_1]),.rowL CV (some ⟨2,0,none⟩) 1 1 ([tab_2])] w∧∃ g5,a=fr g5 74 [(0,[I8 a0,.slice a1_A a1_n a1_c,U1 a2]),(6,[P0 b1,P0 b2])]) (fun N nj=>?_) ?_
 clear h
 have h:=hj
 refine xs fun _ s7=>?_
 refine xn 6 fun _ j8=>?_
 refine qo 0 14 (I8 a0) ?_
 obtain ⟨hc,h⟩|⟨hc,h⟩:=of_if h
 refine tb 1 15 (nf hc) ?_
 refine nq 2 [(16,.bool false),(17,undef),(18,undef),(19,.bool false)] ?_
 refine fj j8 s7 (cf (xk ?_))
 obtain rfl:=of_some h
 exact exj_n (nj _ _ ⟨(zeroA 256),rfl,(hs.conv rfl),eg⟩)
 refine tb 1 15 (nt hc) ?_
 refine nq 2 [(16,.bool true),(17,I8 a0)] ?_
 obtain ⟨hc,h⟩|⟨hc,h⟩:=of_if h
 refine tb 4 18 (nf hc) ?_
 refine qo 5 19 (.bool false) ?_
 refine fj j8 s7 (cf (xk ?_))
 obtain rfl:=of_some h
 exact exj_n (nj _ _ ⟨(zeroA 256),rfl,(hs.conv rfl),eg⟩)
 refine tb 4 18 (nt hc) ?_
 refine qo 5 19 (.bool true) ?_
 refine fj j8 s7 (ct (xs fun _ s9=>(xn 2 fun _ j10=>?_)))
 refine tkt 0 20 (ag .i32 (zeroA 256)) (yWe 32 hs 0 .grow) ?_
 refine so 1 (oWe 32 .i32 (zeroA 256) hs 1 fun w kp hs=>?_)
 refine fj j10 s9 (xret ?_)
 obtain rfl:=of_some h
 have h:=hk_6
 refine exj_r ?_
 refine tr ?_
 obtain rfl:=of_some h
 exact qq _ _ (pr (rr [.cell 6 32] [ag .i32 (zeroA 256)] (.cons (rcN 256 hs 1 rfl (enc_len _ _)) .nil)) ⟨cr,hs.none⟩)
 clear hj hs
 rintro a w ⟨y3,rfl,hs,g5,rfl⟩
 have h:=hk_6
 refine T s6 (xs fun _ s11=>(xn 13 fun _ j12=>?_))
 refine nq 0 [(22,.slice a1_A a1_n a1_c),(23,U1 a2)] ?_
 refine so 2 (oLt (C:=CB) 24 24 5 1 (U1 0) #[(0,U1 a2)] [a2] hs rfl (by decide) (by decide) fun s4_A s4_n s4_c w gw hs=>?_)
 refine so 3 (oLt (C:=CS) 25 59 24 2 (.slice none 0 0) #[(0,.slice a1_A a1_n a1_c),(1,.slice s4_A s4_n s4_c)] ([(a1_A,a1_n,a1_c),(s4_A,s4_n,s4_c)]:List HS) hs rfl (by decide) (by decide) fun s5_A s5_n s5_c w gw hs=>?_)
 obtain ⟨r6,hg,h⟩:=ob h
 refine wpS.only 4 (oH 26 hs (bits_Join.ok hg _ (LLP.mk (hs.rowL 0 rfl) (inn_cons (hs.rowR 0 rfl) (inn_cons (hs.rowL 1 rfl) inn_nil)))) ?_)
 rintro ⟨r6_A,r6_n,r6_c⟩ w gw hs
 have hs:=hs.conv (L':=[.ownL CB r6_A r6_n r6_c r6 5,.ownL CS s5_A s5_n s5_c ([(a1_A,a1_n,a1_c),(s4_A,s4_n,s4_c)]:List HS) 24,.ownL CB s4_A s4_n s4_c ([a2]:List Int) 5,.blk b2 (enc .i32 (zeroA 256)) 32,.blk b1 (enc .i32 y3) 32]) rfl
 refine ⟨fun _=>trivial,?_⟩
 refine nq 5 [(27,I8 a0),(28,I8 (imul .i64 64 a0))] ?_
 obtain ⟨⟨r7,r8⟩,hg,h⟩:=ob h
 refine wpS.only 7 (oH 29 hs (keccak_Sum.ok hg _ (hs.rowL 0 rfl) (hs.rowR 1 rfl) (hs.rowR 2 rfl) (hs.rowR 3 rfl)) ?_)
 rintro ⟨r7_A,r7_n,r7_c⟩ w gw hs
 have hs:=hs.conv (L':=[.ownL CB r7_A r7_n r7_c r7 5,.ownL CB r6_A r6_n r6_c r6 5,.ownL CS s5_A s5_n s5_c ([(a1_A,a1_n,a1_c),(s4_A,s4_n,s4_c)]:List HS) 24,.ownL CB s4_A s4_n s4_c ([a2]:List Int) 5,.blk b2 (enc .i32 (zeroA 256)) 32,.blk b1 (enc .i32 y3) 32]) rfl
 refine ⟨fun _=>trivial,?_⟩
 refine nq 8 [(21,.tuple #[.slice r7_A r7_n r7_c,I8 r8]),(30,.slice r7_A r7_n r7_c),(31,I8 r8),(8,.slice r7_A r7_n r7_c),(9,I8 r8)] ?_
 refine fj j12 s11 (xs fun _ s13=>(xn 5 fun _ j14=>?_))
 refine nq 0 [(32,.slice r7_A r7_n r7_c),(33,I8 a0),(34,I8 (imul .i64 512 a0))] ?_
 obtain ⟨r9,hg,h⟩:=ob h
 refine wpS.only 3 (oH 35 hs (bits_Unpack.ok hg _ (hs.rowL 0 rfl)) ?_)
 rintro ⟨r9_A,r9_n,r9_c⟩ w gw hs
 have hs:=hs.conv (L':=[.ownL (CI .u32) r9_A r9_n r9_c r9 70,.ownL CB r7_A r7_n r7_c r7 5,.ownL CB r6_A r6_n r6_c r6 5,.ownL CS s5_A s5_n s5_c ([(a1_A,a1_n,a1_c),(s4_A,s4_n,s4_c)]:List HS) 24,.ownL CB s4_A s4_n s4_c ([a2]:List Int) 5,.blk b2 (enc .i32 (zeroA 256)) 32,.blk b1 (enc .i32 y3) 32]) rfl
 refine ⟨fun _=>trivial,?_⟩
 refine qo 4 10 (.slice r9_A r9_n r9_c) ?_
 refine fj j14 s13 (xs fun _ s15=>(xs fun _ s16=>(xn 1 fun _ j17=>?_)))
 refine qo 0 36 (I8 0) ?_
 refine fj j17 s16 (?_)
 obtain ⟨y12,hy,hk0⟩:=ob h
 refine wp_exq (N:=fun a w=>St w0 [] [.ownL (CI .u32) r9_A r9_n r9_c r9 70,.ownL CB r7_A r7_n r7_c r7 5,.ownL CB r6_A r6_n r6_c r6 5,.ownL CS s5_A s5_n s5_c ([(a1_A,a1_n,a1_c),(s4_A,s4_n,s4_c)]:List HS) 24,.ownL CB s4_A s4_n s4_c ([a2]:List Int) 5,.blk b2 (enc .i32 y12) 32,.blk b1 (enc .i32 y3) 32] [.rowL CB a1_A a1_n a1_c a1,.rowL CW (some ⟨0,0,none⟩) 1 1 ([tab_0]),.rowL CV (some ⟨1,0,none⟩) 1 1 ([tab_1]),.rowL CV (some ⟨2,0,none⟩) 1 1 ([tab_2])] w∧∃ g19,a=fr g19 74 [(6,[P0 b1,P0 b2])]) (fun N0 nn0=>?_) ?_
 clear hk0
 refine xb ?_
 refine wp_loop_k (fun n a w=>∃ z10 z11,kpke_Noise.l0 K n a0 r9 z10 z11=some y12∧St w0 [] [.ownL (CI .u32) r9_A r9_n r9_c r9 70,.ownL CB r7_A r7_n r7_c r7 5,.ownL CB r6_A r6_n r6_c r6 5,.ownL CS s5_A s5_n s5_c ([(a1_A,a1_n,a1_c),(s4_A,s4_n,s4_c)]:List HS) 24,.ownL CB s4_A s4_n s4_c ([a2]:List Int) 5,.blk b2 (enc .i32 z11) 32,.blk b1 (enc .i32 y3) 32] [.rowL CB a1_A a1_n a1_c a1,.rowL CW (some ⟨0,0,none⟩) 1 1 ([tab_0]),.rowL CV (some ⟨1,0,none⟩) 1 1 ([tab_1]),.rowL CV (some ⟨2,0,none⟩) 1 1 ([tab_2])] w∧∃ g18,a=fr g18 74 [(0,[I8 a0]),(6,[P0 b1,P0 b2]),(10,[.slice r9_A r9_n r9_c]),(36,[I8 z10])]) K ⟨0,(zeroA 256),hy,hs.conv rfl,eg⟩ ?_
 clear hs h hy
 rintro n a w ⟨z10,z11,h,hs,g18,rfl⟩ KL0 kl0
 cases n with
 | zero=>exact nomatch (show none=some _ from h)
 | succ n=>
  refine xs fun _ s20=>?_
  refine xn 1 fun _ j21=>?_
  obtain ⟨hc,h⟩|⟨hc,h⟩:=of_if h
  refine tb 0 37 (dt hc) ?_
  refine fj j21 s20 (xs fun _ s22=>(ct (xk (T s22 (xs fun _ s23=>(xb (xs fun _ s24=>(xn 2 fun _ j25=>?_))))))))
  refine nq 0 [(38,I8 z10),(11,I8 z10)] ?_
  refine fj j25 s24 (xs fun _ s26=>(xn 1 fun _ j27=>?_))
  refine qo 0 12 (I4 3329) ?_
  refine fj j27 s26 (xs fun _ s28=>(xs fun _ s29=>(xn 2 fun _ j30=>?_)))
  refine nq 0 [(39,I8 a0),(40,I8 0)] ?_
  refine fj j30 s29 (?_)
  obtain ⟨y15,hy,hk1⟩:=ob h
  refine wp_exq (N:=fun a w=>St w0 [] [.ownL (CI .u32) r9_A r9_n r9_c r9 70,.ownL CB r7_A r7_n r7_c r7 5,.ownL CB r6_A r6_n r6_c r6 5,.ownL CS s5_A s5_n s5_c ([(a1_A,a1_n,a1_c),(s4_A,s4_n,s4_c)]:List HS) 24,.ownL CB s4_A s4_n s4_c ([a2]:List Int) 5,.blk b2 (enc .i32 z11) 32,.blk b1 (enc .i32 y3) 32] [.rowL CB a1_A a1_n a1_c a1,.rowL CW (some ⟨0,0,none⟩) 1 1 ([tab_0]),.rowL CV (some ⟨1,0,none⟩) 1 1 ([tab_1]),.rowL CV (some ⟨2,0,none⟩) 1 1 ([tab_2])] w∧∃ g32,a=fr g32 74 [(0,[I8 a0]),(6,[P0 b1,P0 b2]),(10,[.slice r9_A r9_n r9_c,I8 z10,I4 y15]),(36,[I8 z10])]) (fun N1 nn1=>?_) ?_
  clear hk1
  refine xb ?_
  refine wp_loop_k (fun n a w=>∃ z13 z14,kpke_Noise.l1 K n a0 r9 z10 z13 z14=some y15∧St w0 [] [.ownL (CI .u32) r9_A r9_n r9_c r9 70,.ownL CB r7_A r7_n r7_c r7 5,.ownL CB r6_A r6_n r6_c r6 5,.ownL CS s5_A s5_n s5_c ([(a1_A,a1_n,a1_c),(s4_A,s4_n,s4_c)]:List HS) 24,.ownL CB s4_A s4_n s4_c ([a2]:List Int) 5,.blk b2 (enc .i32 z11) 32,.blk b1 (enc .i32 y3) 32] [.rowL CB a1_A a1_n a1_c a1,.rowL CW (some ⟨0,0,none⟩) 1 1 ([tab_0]),.rowL CV (some ⟨1,0,none⟩) 1 1 ([tab_1]),.rowL CV (some ⟨2,0,none⟩) 1 1 ([tab_2])] w∧∃ g31,a=fr g31 74 [(0,[I8 a0]),(6,[P0 b1,P0 b2]),(10,[.slice r9_A r9_n r9_c,I8 z10,I4 z13]),(36,[I8 z10]),(39,[I8 a0,I8 z14])]) K ⟨3329,0,hy,hs.conv rfl,eg⟩ ?_
  clear hs h hy
  rintro n a w ⟨z13,z14,h,hs,g31,rfl⟩ KL1 kl1
  cases n with
  | zero=>exact nomatch (show none=some _ from h)
  | succ n=>
   refine xs fun _ s33=>?_
   refine xn 1 fun _ j34=>?_
   obtain ⟨hc,h⟩|⟨hc,h⟩:=of_if h
   refine tb 0 41 (dt hc) ?_
   refine fj j34 s33 (xs fun _ s35=>(ct (xk (T s35 (xs fun _ s36=>(xb (xs fun _ s37=>(xn 2 fun _ j38=>?_))))))))
   refine nq 0 [(42,I8 z14),(13,I8 z14)] ?_
   refine fj j38 s37 (?_)
   refine rg [] (fun k=>True) 25 fun _ j39=>?_
   have hs:=hs.drawn1
   refine gq 0 43 (I4 z13) ?_
   refine gq 1 44 (.slice r9_A r9_n r9_c) ?_
   refine gq 2 45 (I8 z10) ?_
   refine gq 3 46 (I8 (imul .i64 2 z10)) ?_
   refine gq 4 47 (I8 a0) ?_
   refine gq 5 48 (I8 (imul .i64 (imul .i64 2 z10) a0)) ?_
   refine gq 6 49 (I8 z14) ?_
   refine gq 7 50 (I8 (iadd .i64 (imul .i64 (imul .i64 2 z10) a0) z14)) ?_
   obtain ⟨x16,hx,h⟩:=ob h
   have hx:=of_some hx
   subst hx
   obtain ⟨h0,h1,h⟩:=oc2 h
   have i0_40:=h0
   have i1_40:=h1
   refine tgf 8 51 (.pointer (adr r9_A (((iadd .i64 (imul .i64 (imul .i64 2 z10) a0) z14):Int).toNat*Cod.size (CI .u32)))) (yiL (C:=(CI .u32)) 68 70 .i64 (iadd .i64 (imul .i64 (imul .i64 2 z10) a0) z14) (hs.rowL 0 rfl) h0 h1) ?_
   refine tgt 9 52 (U4 (rdL (CI .u32) r9 (iadd .i64 (imul .i64 (imul .i64 2 z10) a0) z14))) (yL (C:=(CI .u32)) 70 (iadd .i64 (imul .i64 (imul .i64 2 z10) a0) z14) (hs.rowL 0 rfl) rfl i0_40 i1_40) ?_
   refine gq 10 53 (I4 (iconv .i32 (rdL (CI .u32) r9 (iadd .i64 (imul .i64 (imul .i64 2 z10) a0) z14)))) ?_
   refine gq 11 54 (.slice r9_A r9_n r9_c) ?_
   refine gq 12 55 (I8 z10) ?_
   refine gq 13 56 (I8 (imul .i64 2 z10)) ?_
   refine gq 14 57 (I8 (iadd .i64 (imul .i64 2 z10) 1)) ?_
   refine gq 15 58 (I8 a0) ?_
   refine gq 16 59 (I8 (imul .i64 (iadd .i64 (imul .i64 2 z10) 1) a0)) ?_
   refine gq 17 60 (I8 z14) ?_
   refine gq 18 61 (I8 (iadd .i64 (imul .i64 (iadd .i64 (imul .i64 2 z10) 1) a0) z14)) ?_
   obtain ⟨x17,hx,h⟩:=ob h
   have hx:=of_some hx
   subst hx
   obtain ⟨h0,h1,h⟩:=oc2 h
   have i0_41:=h0
   have i1_41:=h1
   refine tgf 19 62 (.pointer (adr r9_A (((iadd .i64 (imul .i64 (iadd .i64 (imul .i64 2 z10) 1) a0) z14):Int).toNat*Cod.size (CI .u32)))) (yiL (C:=(CI .u32)) 68 70 .i64 (iadd .i64 (imul .i64 (iadd .i64 (imul .i64 2 z10) 1) a0) z14) (hs.rowL 0 rfl) h0 h1) ?_
   refine tgt 20 63 (U4 (rdL (CI .u32) r9 (iadd .i64 (imul .i64 (iadd .i64 (imul .i64 2 z10) 1) a0) z14))) (yL (C:=(CI .u32)) 70 (iadd .i64 (imul .i64 (iadd .i64 (imul .i64 2 z10) 1) a0) z14) (hs.rowL 0 rfl) rfl i0_41 i1_41) ?_
   refine gq 21 64 (I4 (iconv .i32 (rdL (CI .u32) r9 (iadd .i64 (imul .i64 (iadd .i64 (imul .i64 2 z10) 1) a0) z14)))) ?_
   refine gq 22 65 (I4 (isub .i32 (iconv .i32 (rdL (CI .u32) r9 (iadd .i64 (imul .i64 (imul .i64 2 z10) a0) z14))) (iconv .i32 (rdL (CI .u32) r9 (iadd .i64 (imul .i64 (iadd .i64 (imul .i64 2 z10) 1) a0) z14))))) ?_
   refine gq 23 66 (I4 (iadd .i32 z13 (isub .i32 (iconv .i32 (rdL (CI .u32) r9 (iadd .i64 (imul .i64 (imul .i64 2 z10) a0) z14))) (iconv .i32 (rdL (CI .u32) r9 (iadd .i64 (imul .i64 (iadd .i64 (imul .i64 2 z10) 1) a0) z14)))))) ?_
   obtain ⟨x18,hx,h⟩:=ob h
   refine tgf 24 12 (I4 x18) (yn hx) ?_
   refine gf (j39 _ _ ?_)
   refine iN (T s36 (xn 2 fun _ j42=>?_))
   refine nq 0 [(67,I8 (iadd .i64 z14 1)),(40,I8 (iadd .i64 z14 1))] ?_
   refine fin (j42 _ _ ?_)
   exact tn (kl1 _ _ ⟨n,ls n,x18,(iadd .i64 z14 1),h,(hs.conv rfl),eg⟩)
   refine tb 0 41 (df hc) ?_
   refine fj j34 s33 (xs fun _ s43=>(cf (xexit (tx (tx (iH ?_))))))
   obtain rfl:=of_some h
   exact exq_n (nn1 _ _ ⟨(hs.conv rfl),eg⟩)
  clear hs h hy
  rintro a w ⟨hs,g32,rfl⟩
  have h:=hk1
  refine T s28 (xn 5 fun _ j44=>?_)
  refine nq 0 [(68,I8 z10),(69,I4 y15),(70,I4 (irem .i32 y15 3329))] ?_
  obtain ⟨i0_45,i1_45,h⟩:=oc2 h
  refine tkf 3 71 (P1 b2 z10) (yi 32 21 256 1 .i64 z10 i0_45 i1_45) ?_
  obtain ⟨x19,hx,h⟩:=ob h
  refine so 4 (oA 21 x19 z10 hs 5 rfl (by cases hx; kernel_rfl) i0_45 i1_45 fun w kp hs=>?_)
  refine fin (j44 _ _ (iN (T s23 (xn 2 fun _ j46=>?_))))
  refine nq 0 [(72,I8 (iadd .i64 z10 1)),(36,I8 (iadd .i64 z10 1))] ?_
  refine fin (j46 _ _ ?_)
  exact tn (kl0 _ _ ⟨n,ls n,(iadd .i64 z10 1),(wr z11 z10 x19),h,(hs.conv rfl),eg⟩)
  refine tb 0 37 (df hc) ?_
  refine fj j21 s20 (xs fun _ s47=>(cf (xexit (tx (tx (iH ?_))))))
  obtain rfl:=of_some h
  exact exq_n (nn0 _ _ ⟨(hs.conv rfl),eg⟩)
 clear hs h hy
 rintro a w ⟨hs,g19,rfl⟩
 have h:=hk0
 refine T s15 (xs fun _ s48=>(xn 2 fun _ j49=>?_))
 refine tkt 0 73 (ag .i32 y12) (yWe 32 hs 5 .grow) ?_
 refine so 1 (oWe 32 .i32 y12 hs 6 fun w kp hs=>?_)
 refine fj j49 s48 (xret ?_)
 obtain rfl:=of_some h
 exact qq _ _ (pr (rr [.cell 6 32] [ag .i32 y12] (.cons (rcN 256 hs 6 rfl (enc_len _ _)) .nil)) ⟨cr,hs.none⟩)
theorem bits_NumLe.ok {K:Nat}{a0:List Int}{r0:Int}{a0_A:Option Addr}{a0_n a0_c:Nat}(h:bits_NumLe.f K a0=some r0) (w0:World) (hp0:RowL CB w0 a0_A a0_n a0_c a0):Ret Tryd.prog 80 #[.slice a0_A a0_n a0_c] w0 (U8 r0):=by
 refine calls_k Tryd.func80 rfl fun Q qq=>?_
 have hs:=St.startR (all_cons (RowP.ent hp0) all_nil)
 refine wc (a':=(fu 22 [.slice a0_A a0_n a0_c])) ?_
 refine xs fun _ s1=>?_
 refine xn 1 fun _ j2=>?_
 refine qo 0 2 (U8 0) ?_
 refine fj j2 s1 (xs fun _ s3=>(xn 1 fun _ j4=>?_))
 refine qo 0 3 (U8 0) ?_
 refine fj j4 s3 (xs fun _ s5=>(xs fun _ s6=>(xn 4 fun _ j7=>?_)))
 refine qo 0 5 (.slice a0_A a0_n a0_c) ?_
 refine tkf 1 6 (I8 (a0.length:Int)) (yl (hs.rowR 0 rfl)) ?_
 refine nq 2 [(7,I8 (imin (a0.length:Int) 8)),(8,I8 0)] ?_
 refine fj j7 s6 (?_)
 obtain ⟨y3,hy,hk0⟩:=ob h
 refine wp_exq (N:=fun a w=>St w0 [] [] [.rowL CB a0_A a0_n a0_c a0] w∧∃ g9,a=fr g9 23 [(2,[U8 0,U8 y3])]) (fun N0 nn0=>?_) ?_
 clear hk0
 refine xb ?_
 refine wp_loop_k (fun n a w=>∃ z1 z2,bits_NumLe.l0 K n a0 z1 z2=some y3∧St w0 [] [] [.rowL CB a0_A a0_n a0_c a0] w∧∃ g8,a=fr g8 23 [(0,[.slice a0_A a0_n a0_c]),(2,[U8 0,U8 z1]),(7,[I8 (imin (a0.length:Int) 8),I8 z2])]) K ⟨0,0,hy,hs.conv rfl,eg⟩ ?_
 clear hs h hy
 rintro n a w ⟨z1,z2,h,hs,g8,rfl⟩ KL0 kl0
 cases n with
 | zero=>exact nomatch (show none=some _ from h)
 | succ n=>
  refine xs fun _ s10=>?_
  refine xn 1 fun _ j11=>?_
  obtain ⟨hc,h⟩|⟨hc,h⟩:=of_if h
  refine tb 0 9 (dt hc) ?_
  refine fj j11 s10 (xs fun _ s12=>(ct (xk (T s12 (xs fun _ s13=>(xb (xs fun _ s14=>(xn 2 fun _ j15=>?_))))))))
  refine nq 0 [(10,I8 z2),(4,I8 z2)] ?_
  refine fj j15 s14 (xn 11 fun _ j16=>?_)
  refine nq 0 [(11,U8 z1),(12,.slice a0_A a0_n a0_c),(13,I8 z2)] ?_
  obtain ⟨h0,h1,h⟩:=oc2 h
  have i0_17:=h0
  have i1_17:=h1
  refine tkf 3 14 (PA CB a0_A z2) (yiL (C:=CB) 24 5 .i64 z2 (hs.rowR 0 rfl) h0 h1) ?_
  refine tkt 4 15 (U1 (rdL CB a0 z2)) (yL (C:=CB) 5 z2 (hs.rowR 0 rfl) rfl i0_17 i1_17) ?_
  refine nq 5 [(16,U8 (iconv .u64 (rdL CB a0 z2))),(17,I8 z2),(18,I8 (imul .i64 8 z2))] ?_
  obtain ⟨h0,h⟩:=oc h
  refine tkf 8 19 (U8 (ishl .u64 (iconv .u64 (rdL CB a0 z2)) (imul .i64 8 z2))) (ysl 112 .i64 h0) ?_
  refine qo 9 20 (U8 (ior .u64 z1 (ishl .u64 (iconv .u64 (rdL CB a0 z2)) (imul .i64 8 z2)))) ?_
  obtain ⟨x4,hx,h⟩:=ob h
  refine tkf 10 3 (U8 x4) (yn hx) ?_
  refine fin (j16 _ _ (iN (T s13 (xn 2 fun _ j18=>?_))))
  refine nq 0 [(21,I8 (iadd .i64 z2 1)),(8,I8 (iadd .i64 z2 1))] ?_
  refine fin (j18 _ _ ?_)
  exact tn (kl0 _ _ ⟨n,ls n,x4,(iadd .i64 z2 1),h,(hs.conv rfl),eg⟩)
  refine tb 0 9 (df hc) ?_
  refine fj j11 s10 (xs fun _ s19=>(cf (xexit (tx (tx (iH ?_))))))
  obtain rfl:=of_some h
  exact exq_n (nn0 _ _ ⟨(hs.conv rfl),eg⟩)
 clear hs h hy
 rintro a w ⟨hs,g9,rfl⟩
 have h:=hk0
 refine T s5 (xs fun _ s20=>(xn 2 fun _ j21=>?_))
 refine nq 0 [(22,U8 y3),(2,U8 y3)] ?_
 refine fj j21 s20 (xret ?_)
 obtain rfl:=of_some h
 exact qq _ _ (pt [2] [U8 y3] ⟨cr,hs.none⟩)
end Go.Proofs.YtemdbgmldljbpaaDoor
