/- own -/
import Derived.Test.YtemdbgmldljbpaaDoorMh
import Derived.Test.YtemdbgmldljbpaaDoorProg
import Derived.Test.YtemdbgmldljbpaaDoorYF0
set_option linter.unusedVariables false
set_option linter.unusedSimpArgs false
set_option maxRecDepth 100000
set_option maxHeartbeats 4000000
namespace Go.Proofs.YtemdbgmldljbpaaDoor
open Go.Mx
attribute [local irreducible] wpOp
theorem ref01_Same.ok {K:Nat}{a0 a1:List Int}{r0:Bool}{a0_A:Option Addr}{a0_n a0_c:Nat}{a1_A:Option Addr}{a1_n a1_c:Nat}(h:ref01_Same.f K a0 a1=some r0) (w0:World) (hp0:RowL CB w0 a0_A a0_n a0_c a0) (hp1:RowL CB w0 a1_A a1_n a1_c a1):Ret Tryd.prog 25 #[.slice a0_A a0_n a0_c,.slice a1_A a1_n a1_c] w0 (.bool r0):=by
 refine calls_k Tryd.func25 rfl fun Q qq=>?_
 have hs:=St.startR (all_cons (RowP.ent hp0) (all_cons (RowP.ent hp1) all_nil))
 refine wc (a':=(fu 24 [.slice a0_A a0_n a0_c,.slice a1_A a1_n a1_c])) ?_
 refine xs fun _ s1=>?_
 refine xn 1 fun _ j2=>?_
 refine qo 0 4 (.bool false) ?_
 refine fj j2 s1 (xs fun _ s3=>(xs fun _ s4=>(xn 5 fun _ j5=>?_)))
 refine qo 0 6 (.slice a0_A a0_n a0_c) ?_
 refine tkf 1 7 (I8 (a0.length:Int)) (yl (rR 0 hs)) ?_
 refine qo 2 8 (.slice a1_A a1_n a1_c) ?_
 refine tkf 3 9 (I8 (a1.length:Int)) (yl (rR 1 hs)) ?_
 obtain ⟨hc,h⟩|⟨hc,h⟩:=of_if h
 refine tb 4 10 (nf hc) ?_
 refine fj j5 s4 (cf (xk (T s3 (xs fun _ s6=>(xs fun _ s7=>(xn 1 fun _ j8=>?_))))))
 refine qo 0 5 (I8 0) ?_
 refine fj j8 s7 (?_)
 obtain ⟨t0,hy,hk0⟩:=ob h
 refine wp_exq (N:=fun a w=>t0 = .inl ()∧St w0 [] [] [.rowL CB a0_A a0_n a0_c a0,.rowL CB a1_A a1_n a1_c a1] w∧∃ g10,a=fr g10 26 []) (fun N0 nn0=>?_) ?_
 refine xb ?_
 refine wp_loop_k (fun n a w=>∃ z1,ref01_Same.l0 K n a0 a1 z1=some t0∧St w0 [] [] [.rowL CB a0_A a0_n a0_c a0,.rowL CB a1_A a1_n a1_c a1] w∧∃ g9,a=fr g9 26 [(0,[.slice a0_A a0_n a0_c,.slice a1_A a1_n a1_c]),(5,[I8 z1])]) K ⟨0,hy,hs.conv rfl,eg⟩ ?_
 clear hs h hy
 rintro n a w ⟨z1,h,hs,g9,rfl⟩ KL0 kl0
 cases n with
 | zero=>exact nomatch (show none=some _ from h)
 | succ n=>
  refine xs fun _ s11=>?_
  refine xs fun _ s12=>?_
  refine xn 4 fun _ j13=>?_
  refine nq 0 [(11,I8 z1),(12,.slice a0_A a0_n a0_c)] ?_
  refine tkf 2 13 (I8 (a0.length:Int)) (yl (rR 0 hs)) ?_
  obtain ⟨hc,h⟩|⟨hc,h⟩:=of_if h
  refine tb 3 14 (dt hc) ?_
  refine fj j13 s12 (ct (xk (T s11 (xs fun _ s14=>(xb (xs fun _ s15=>?_))))))
  refine rg [] (fun k=>True) 9 fun _ j16=>?_
  have hs:=hs.drawn1
  refine gq 0 17 (.slice a0_A a0_n a0_c) ?_
  refine gq 1 18 (I8 z1) ?_
  obtain ⟨h0,h1,h⟩:=oc2 h
  have i0_17:=h0
  have i1_17:=h1
  refine tgf 2 19 (PA CB a0_A z1) (yiL (C:=CB) 24 5 .i64 z1 (rR 0 hs) h0 h1) ?_
  refine tgt 3 20 _ (yL (C:=CB) 5 z1 (rR 0 hs) rfl i0_17 i1_17) ?_
  refine gq 4 21 (.slice a1_A a1_n a1_c) ?_
  refine gq 5 22 (I8 z1) ?_
  obtain ⟨h0,h1,h⟩:=oc2 h
  have i0_18:=h0
  have i1_18:=h1
  refine tgf 6 23 (PA CB a1_A z1) (yiL (C:=CB) 24 5 .i64 z1 (rR 1 hs) h0 h1) ?_
  refine tgt 7 24 _ (yL (C:=CB) 5 z1 (rR 1 hs) rfl i0_18 i1_18) ?_
  obtain ⟨hc,h⟩|⟨hc,h⟩:=of_if h
  refine gb 8 25 (nf hc) ?_
  refine gf (j16 _ _ ?_)
  refine T s15 (cf (xk (iN (T s14 (xn 3 fun _ j19=>?_)))))
  refine nq 0 [(15,I8 z1),(16,I8 (iadd .i64 z1 1))] ?_
  obtain ⟨x2,hx,h⟩:=ob h
  refine tkf 2 5 (I8 x2) (yn hx) ?_
  refine fin (j19 _ _ ?_)
  exact tn (kl0 _ _ ⟨n,ls n,x2,h,(hs.conv rfl),eg⟩)
  refine gb 8 25 (nt hc) ?_
  refine gf (j16 _ _ ?_)
  refine T s15 (ct (xs fun _ s20=>(xn 1 fun _ j21=>?_)))
  refine qo 0 4 (.bool false) ?_
  refine fj j21 s20 (xret (iR (tr (tr (iR (exq_r (tr ?_)))))))
  obtain rfl:=of_some h
  have q0:=of_some hk0
  subst q0
  exact qq _ _ (pt [4] [.bool false] ⟨cr,hs.none⟩)
  refine tb 3 14 (df hc) ?_
  refine fj j13 s12 (cf (xexit (tx (tx (iH ?_)))))
  obtain rfl:=of_some h
  exact exq_n (nn0 _ _ ⟨rfl,(hs.conv rfl),eg⟩)
 clear hs h hy
 rintro a w ⟨rfl,hs,g10,rfl⟩
 have h:=hk0
 refine T s6 (xs fun _ s22=>(xn 1 fun _ j23=>?_))
 refine qo 0 4 (.bool true) ?_
 refine fj j23 s22 (xret ?_)
 obtain rfl:=of_some h
 exact qq _ _ (pt [4] [.bool true] ⟨cr,hs.none⟩)
 refine tb 4 10 (nt hc) ?_
 refine fj j5 s4 (ct (xs fun _ s24=>(xn 1 fun _ j25=>?_)))
 refine qo 0 4 (.bool false) ?_
 refine fj j25 s24 (xret (tr ?_))
 obtain rfl:=of_some h
 exact qq _ _ (pt [4] [.bool false] ⟨cr,hs.none⟩)
theorem ref26_Set.ok {K:Nat}{a0 r0_0 r0_1 r0_2 r0_3 r0_4:Int}{r1:Bool}(h:ref26_Set.f K a0=some (r0_0,r0_1,r0_2,r0_3,r0_4,r1)) (w0:World):Ret Tryd.prog 11 #[I8 a0] w0 (.tuple #[.agg #[I8 r0_0,I8 r0_1,I8 r0_2,I8 r0_3,I8 r0_4],.bool r1]):=by
 refine calls_k Tryd.func11 rfl fun Q qq=>?_
 have hs:=St.start w0
 refine wc (a':=(fu 14 [I8 a0])) ?_
 refine xs fun _ s1=>?_
 refine xn 2 fun _ j2=>?_
 refine so 0 (oNa 2 23 hs [I8 0,I8 0,I8 0,I8 0,I8 0] fun b1 w gw hs=>?_)
 refine qo 1 3 (.bool false) ?_
 refine fj j2 s1 (xs fun _ s3=>(xs fun _ s4=>(xn 1 fun _ j5=>?_)))
 refine qo 0 4 (I8 a0) ?_
 refine fj j5 s4 (xb (xs fun _ s6=>(xn 2 fun _ j7=>?_)))
 obtain ⟨hc,h⟩|⟨hc,h⟩:=of_if h
 refine tb 0 6 (et hc) ?_
 refine qo 1 5 (.bool true) ?_
 refine fj j7 s6 (ct (xs fun _ s8=>(xn 3 fun _ j9=>?_)))
 refine qo 0 7 (.agg #[I8 2,I8 3,I8 2,I8 10,I8 4]) ?_
 refine so 1 (oWa 23 [I8 2,I8 3,I8 2,I8 10,I8 4] hs 0 fun w kp hs=>?_)
 refine qo 2 3 (.bool true) ?_
 refine fj j9 s8 (xret (iR (tr ?_)))
 obtain ⟨rfl,rfl,rfl,rfl,rfl,rfl⟩:=os6 h
 exact qq _ _ (pr (rr [.cell 2 23,.tmp 3] [.agg #[I8 2,I8 3,I8 2,I8 10,I8 4],.bool true] (.cons (rcN 5 hs 0 rfl (by simp [enc_len])) (.cons rt .nil))) ⟨cr,hs.none⟩)
 refine tb 0 6 (ef hc) ?_
 refine qo 1 5 (.bool false) ?_
 refine fj j7 s6 (cf (xs fun _ s10=>(xn 2 fun _ j11=>?_)))
 obtain ⟨hc,h⟩|⟨hc,h⟩:=of_if h
 refine tb 0 9 (et hc) ?_
 refine qo 1 8 (.bool true) ?_
 refine fj j11 s10 (ct (xs fun _ s12=>(xn 3 fun _ j13=>?_)))
 refine qo 0 10 (.agg #[I8 3,I8 2,I8 2,I8 10,I8 4]) ?_
 refine so 1 (oWa 23 [I8 3,I8 2,I8 2,I8 10,I8 4] hs 0 fun w kp hs=>?_)
 refine qo 2 3 (.bool true) ?_
 refine fj j13 s12 (xret (iR (tr ?_)))
 obtain ⟨rfl,rfl,rfl,rfl,rfl,rfl⟩:=os6 h
 exact qq _ _ (pr (rr [.cell 2 23,.tmp 3] [.agg #[I8 3,I8 2,I8 2,I8 10,I8 4],.bool true] (.cons (rcN 5 hs 0 rfl (by simp [enc_len])) (.cons rt .nil))) ⟨cr,hs.none⟩)
 refine tb 0 9 (ef hc) ?_
 refine qo 1 8 (.bool false) ?_
 refine fj j11 s10 (cf (xs fun _ s14=>(xn 2 fun _ j15=>?_)))
 obtain ⟨hc,h⟩|⟨hc,h⟩:=of_if h
 refine tb 0 12 (et hc) ?_
 refine qo 1 11 (.bool true) ?_
 refine fj j15 s14 (ct (xs fun _ s16=>(xn 3 fun _ j17=>?_)))
 refine qo 0 13 (.agg #[I8 4,I8 2,I8 2,I8 11,I8 5]) ?_
 refine so 1 (oWa 23 [I8 4,I8 2,I8 2,I8 11,I8 5] hs 0 fun w kp hs=>?_)
 refine qo 2 3 (.bool true) ?_
 refine fj j17 s16 (xret (iR (tr ?_)))
 obtain ⟨rfl,rfl,rfl,rfl,rfl,rfl⟩:=os6 h
 exact qq _ _ (pr (rr [.cell 2 23,.tmp 3] [.agg #[I8 4,I8 2,I8 2,I8 11,I8 5],.bool true] (.cons (rcN 5 hs 0 rfl (by simp [enc_len])) (.cons rt .nil))) ⟨cr,hs.none⟩)
 refine tb 0 12 (ef hc) ?_
 refine qo 1 11 (.bool false) ?_
 refine fj j15 s14 (cf (xk (iN (T s3 (xs fun _ s18=>(xn 3 fun _ j19=>?_))))))
 refine qo 0 14 (.agg #[I8 0,I8 0,I8 0,I8 0,I8 0]) ?_
 refine so 1 (oWa 23 [I8 0,I8 0,I8 0,I8 0,I8 0] hs 0 fun w kp hs=>?_)
 refine qo 2 3 (.bool false) ?_
 refine fj j19 s18 (xret ?_)
 obtain ⟨rfl,rfl,rfl,rfl,rfl,rfl⟩:=os6 h
 exact qq _ _ (pr (rr [.cell 2 23,.tmp 3] [.agg #[I8 0,I8 0,I8 0,I8 0,I8 0],.bool false] (.cons (rcN 5 hs 0 rfl (by simp [enc_len])) (.cons rt .nil))) ⟨cr,hs.none⟩)
theorem law27_kind.ok {K:Nat}{a0 a1_0 a1_1 a1_2 a1_3 a1_4 r0_0 r0_1 r0_2 r0_3 r0_4:Int}(h:law27_kind.f K a0 a1_0 a1_1 a1_2 a1_3 a1_4=some (r0_0,r0_1,r0_2,r0_3,r0_4)) (w0:World):Ret Tryd.prog 27 #[U1 a0,.agg #[I8 a1_0,I8 a1_1,I8 a1_2,I8 a1_3,I8 a1_4]] w0 (.agg #[I8 r0_0,I8 r0_1,I8 r0_2,I8 r0_3,I8 r0_4]):=by
 refine calls_k Tryd.func27 rfl fun Q qq=>?_
 have hs:=St.start w0
 refine wc (a':=(fu 18 [U1 a0,.agg #[I8 a1_0,I8 a1_1,I8 a1_2,I8 a1_3,I8 a1_4]])) ?_
 refine xs fun _ s1=>?_
 refine xn 2 fun _ j2=>?_
 refine so 0 (oBa 3 23 hs [I8 a1_0,I8 a1_1,I8 a1_2,I8 a1_3,I8 a1_4] fun b1 w gw hs=>?_)
 refine so 1 (oNa 4 23 hs [I8 0,I8 0,I8 0,I8 0,I8 0] fun b2 w gw hs=>?_)
 refine fj j2 s1 (xs fun _ s3=>(xn 12 fun _ j4=>?_))
 refine so 0 (oLt (C:=(CI .i64)) 8 73 3 4 (I8 0) #[(0,I8 512),(1,I8 768),(2,I8 1024),(3,I8 0)] [512,768,1024,0] hs rfl (by decide) (by decide) fun s3_A s3_n s3_c w gw hs=>?_)
 refine nq 1 [(9,U1 a0),(10,U1 (irem .u8 a0 4))] ?_
 obtain ⟨x4,hx,h⟩:=ob h
 have hx:=of_some hx
 subst hx
 obtain ⟨h0,h1,h⟩:=oc2 h
 have i0_5:=h0
 have i1_5:=h1
 refine tkf 3 11 (PA (CI .i64) s3_A (irem .u8 a0 4)) (yiL (C:=(CI .i64)) 73 3 .u8 (irem .u8 a0 4) (rL 0 hs) h0 h1) ?_
 refine tkt 4 12 _ (yL (C:=(CI .i64)) 3 (irem .u8 a0 4) (rL 0 hs) rfl i0_5 i1_5) ?_
 obtain ⟨⟨r5_0,r5_1,r5_2,r5_3,r5_4,r6⟩,hg,h⟩:=ob h
 refine so 5 (oC 13 hs (ref26_Set.ok hg _) fun w gw hs=>?_)
 refine nq 6 [(7,.tuple #[.agg #[I8 r5_0,I8 r5_1,I8 r5_2,I8 r5_3,I8 r5_4],.bool r6]),(14,.agg #[I8 r5_0,I8 r5_1,I8 r5_2,I8 r5_3,I8 r5_4])] ?_
 cases r6 with
 | true=>
  have h:=of_if_t h
  refine qo 8 15 (.bool true) ?_
  refine so 9 (oNa 5 23 hs [I8 0,I8 0,I8 0,I8 0,I8 0] fun b7 w gw hs=>?_)
  refine so 10 (oWa 23 [I8 r5_0,I8 r5_1,I8 r5_2,I8 r5_3,I8 r5_4] hs 0 fun w kp hs=>?_)
  refine qo 11 6 (.bool true) ?_
  refine fj j4 s3 (xs fun _ s6=>(xs fun _ s7=>(xn 2 fun _ j8=>?_)))
  refine nq 0 [(16,.bool true),(17,.bool false)] ?_
  refine fj j8 s7 (cf (xk (T s6 (xs fun _ s9=>(xn 2 fun _ j10=>?_)))))
  refine tkt 0 19 _ (yWs 5 23 hs 0 .grow) ?_
  refine so 1 (oWa 23 [I8 r5_0,I8 r5_1,I8 r5_2,I8 r5_3,I8 r5_4] hs 2 fun w kp hs=>?_)
  refine fj j10 s9 (xret ?_)
  obtain ⟨rfl,rfl,rfl,rfl,rfl⟩:=os5 h
  exact qq _ _ (pr (rr [.cell 4 23] [.agg #[I8 r5_0,I8 r5_1,I8 r5_2,I8 r5_3,I8 r5_4]] (.cons (rcN 5 hs 2 rfl (by simp [enc_len])) .nil)) ⟨cr,hs.none⟩)
 | false=>
  have h:=of_if_f h
  refine qo 8 15 (.bool false) ?_
  refine so 9 (oNa 5 23 hs [I8 0,I8 0,I8 0,I8 0,I8 0] fun b8 w gw hs=>?_)
  refine so 10 (oWa 23 [I8 r5_0,I8 r5_1,I8 r5_2,I8 r5_3,I8 r5_4] hs 0 fun w kp hs=>?_)
  refine qo 11 6 (.bool false) ?_
  refine fj j4 s3 (xs fun _ s11=>(xs fun _ s12=>(xn 2 fun _ j13=>?_)))
  refine nq 0 [(16,.bool false),(17,.bool true)] ?_
  refine fj j13 s12 (ct (xs fun _ s14=>(xn 2 fun _ j15=>?_)))
  refine tkt 0 18 _ (yWs 5 23 hs 3 .grow) ?_
  refine so 1 (oWa 23 [I8 a1_0,I8 a1_1,I8 a1_2,I8 a1_3,I8 a1_4] hs 2 fun w kp hs=>?_)
  refine fj j15 s14 (xret (tr ?_))
  obtain ⟨rfl,rfl,rfl,rfl,rfl⟩:=os5 h
  exact qq _ _ (pr (rr [.cell 4 23] [.agg #[I8 a1_0,I8 a1_1,I8 a1_2,I8 a1_3,I8 a1_4]] (.cons (rcN 5 hs 2 rfl (by simp [enc_len])) .nil)) ⟨cr,hs.none⟩)
theorem kpke_Set.ok {K:Nat}{a0 r0_0 r0_1 r0_2 r0_3 r0_4:Int}{r1:Bool}(h:kpke_Set.f K a0=some (r0_0,r0_1,r0_2,r0_3,r0_4,r1)) (w0:World):Ret Tryd.prog 10 #[I8 a0] w0 (.tuple #[.agg #[I8 r0_0,I8 r0_1,I8 r0_2,I8 r0_3,I8 r0_4],.bool r1]):=by
 refine calls_k Tryd.func10 rfl fun Q qq=>?_
 have hs:=St.start w0
 refine wc (a':=(fu 14 [I8 a0])) ?_
 refine xs fun _ s1=>?_
 refine xn 2 fun _ j2=>?_
 refine so 0 (oNa 2 23 hs [I8 0,I8 0,I8 0,I8 0,I8 0] fun b1 w gw hs=>?_)
 refine qo 1 3 (.bool false) ?_
 refine fj j2 s1 (xs fun _ s3=>(xs fun _ s4=>(xn 1 fun _ j5=>?_)))
 refine qo 0 4 (I8 a0) ?_
 refine fj j5 s4 (xb (xs fun _ s6=>(xn 2 fun _ j7=>?_)))
 obtain ⟨hc,h⟩|⟨hc,h⟩:=of_if h
 refine tb 0 6 (et hc) ?_
 refine qo 1 5 (.bool true) ?_
 refine fj j7 s6 (ct (xs fun _ s8=>(xn 3 fun _ j9=>?_)))
 refine qo 0 7 (.agg #[I8 2,I8 3,I8 2,I8 10,I8 4]) ?_
 refine so 1 (oWa 23 [I8 2,I8 3,I8 2,I8 10,I8 4] hs 0 fun w kp hs=>?_)
 refine qo 2 3 (.bool true) ?_
 refine fj j9 s8 (xret (iR (tr ?_)))
 obtain ⟨rfl,rfl,rfl,rfl,rfl,rfl⟩:=os6 h
 exact qq _ _ (pr (rr [.cell 2 23,.tmp 3] [.agg #[I8 2,I8 3,I8 2,I8 10,I8 4],.bool true] (.cons (rcN 5 hs 0 rfl (by simp [enc_len])) (.cons rt .nil))) ⟨cr,hs.none⟩)
 refine tb 0 6 (ef hc) ?_
 refine qo 1 5 (.bool false) ?_
 refine fj j7 s6 (cf (xs fun _ s10=>(xn 2 fun _ j11=>?_)))
 obtain ⟨hc,h⟩|⟨hc,h⟩:=of_if h
 refine tb 0 9 (et hc) ?_
 refine qo 1 8 (.bool true) ?_
 refine fj j11 s10 (ct (xs fun _ s12=>(xn 3 fun _ j13=>?_)))
 refine qo 0 10 (.agg #[I8 3,I8 2,I8 2,I8 10,I8 4]) ?_
 refine so 1 (oWa 23 [I8 3,I8 2,I8 2,I8 10,I8 4] hs 0 fun w kp hs=>?_)
 refine qo 2 3 (.bool true) ?_
 refine fj j13 s12 (xret (iR (tr ?_)))
 obtain ⟨rfl,rfl,rfl,rfl,rfl,rfl⟩:=os6 h
 exact qq _ _ (pr (rr [.cell 2 23,.tmp 3] [.agg #[I8 3,I8 2,I8 2,I8 10,I8 4],.bool true] (.cons (rcN 5 hs 0 rfl (by simp [enc_len])) (.cons rt .nil))) ⟨cr,hs.none⟩)
 refine tb 0 9 (ef hc) ?_
 refine qo 1 8 (.bool false) ?_
 refine fj j11 s10 (cf (xs fun _ s14=>(xn 2 fun _ j15=>?_)))
 obtain ⟨hc,h⟩|⟨hc,h⟩:=of_if h
 refine tb 0 12 (et hc) ?_
 refine qo 1 11 (.bool true) ?_
 refine fj j15 s14 (ct (xs fun _ s16=>(xn 3 fun _ j17=>?_)))
 refine qo 0 13 (.agg #[I8 4,I8 2,I8 2,I8 11,I8 5]) ?_
 refine so 1 (oWa 23 [I8 4,I8 2,I8 2,I8 11,I8 5] hs 0 fun w kp hs=>?_)
 refine qo 2 3 (.bool true) ?_
 refine fj j17 s16 (xret (iR (tr ?_)))
 obtain ⟨rfl,rfl,rfl,rfl,rfl,rfl⟩:=os6 h
 exact qq _ _ (pr (rr [.cell 2 23,.tmp 3] [.agg #[I8 4,I8 2,I8 2,I8 11,I8 5],.bool true] (.cons (rcN 5 hs 0 rfl (by simp [enc_len])) (.cons rt .nil))) ⟨cr,hs.none⟩)
 refine tb 0 12 (ef hc) ?_
 refine qo 1 11 (.bool false) ?_
 refine fj j15 s14 (cf (xk (iN (T s3 (xs fun _ s18=>(xn 3 fun _ j19=>?_))))))
 refine qo 0 14 (.agg #[I8 0,I8 0,I8 0,I8 0,I8 0]) ?_
 refine so 1 (oWa 23 [I8 0,I8 0,I8 0,I8 0,I8 0] hs 0 fun w kp hs=>?_)
 refine qo 2 3 (.bool false) ?_
 refine fj j19 s18 (xret ?_)
 obtain ⟨rfl,rfl,rfl,rfl,rfl,rfl⟩:=os6 h
 exact qq _ _ (pr (rr [.cell 2 23,.tmp 3] [.agg #[I8 0,I8 0,I8 0,I8 0,I8 0],.bool false] (.cons (rcN 5 hs 0 rfl (by simp [enc_len])) (.cons rt .nil))) ⟨cr,hs.none⟩)
theorem kpke_known.ok {K:Nat}{a0_0 a0_1 a0_2 a0_3 a0_4:Int}{r0:Bool}(h:kpke_known.f K a0_0 a0_1 a0_2 a0_3 a0_4=some r0) (w0:World):Ret Tryd.prog 33 #[.agg #[I8 a0_0,I8 a0_1,I8 a0_2,I8 a0_3,I8 a0_4]] w0 (.bool r0):=by
 refine calls_k Tryd.func33 rfl fun Q qq=>?_
 have hs:=St.start w0
 refine wc (a':=(fu 17 [.agg #[I8 a0_0,I8 a0_1,I8 a0_2,I8 a0_3,I8 a0_4]])) ?_
 refine xs fun _ s1=>?_
 refine xn 2 fun _ j2=>?_
 refine so 0 (oBa 1 23 hs [I8 a0_0,I8 a0_1,I8 a0_2,I8 a0_3,I8 a0_4] fun b1 w gw hs=>?_)
 refine qo 1 2 (.bool false) ?_
 refine fj j2 s1 (xs fun _ s3=>(xn 10 fun _ j4=>?_))
 refine qo 0 6 (P0 b1) ?_
 refine tkt 1 7 _ (yv hs 0 0 3 rfl (by rfl) .grow) ?_
 refine qo 2 8 (I8 (imul .i64 256 a0_0)) ?_
 obtain ⟨⟨r2_0,r2_1,r2_2,r2_3,r2_4,r3⟩,hg,h⟩:=ob h
 refine so 3 (oC 9 hs (kpke_Set.ok hg _) fun w gw hs=>?_)
 refine nq 4 [(5,.tuple #[.agg #[I8 r2_0,I8 r2_1,I8 r2_2,I8 r2_3,I8 r2_4],.bool r3]),(10,.agg #[I8 r2_0,I8 r2_1,I8 r2_2,I8 r2_3,I8 r2_4])] ?_
 cases r3 with
 | true=>
  have h:=of_if_t h
  refine qo 6 11 (.bool true) ?_
  refine so 7 (oNa 3 23 hs [I8 0,I8 0,I8 0,I8 0,I8 0] fun b4 w gw hs=>?_)
  refine so 8 (oWa 23 [I8 r2_0,I8 r2_1,I8 r2_2,I8 r2_3,I8 r2_4] hs 0 fun w kp hs=>?_)
  refine qo 9 4 (.bool true) ?_
  refine fj j4 s3 (xs fun _ s5=>(xn 7 fun _ j6=>?_))
  refine nq 0 [(12,.bool true),(13,.bool true)] ?_
  refine tkt 2 14 _ (yWs 5 23 hs 0 .grow) ?_
  refine tkt 3 15 _ (yWs 5 23 hs 1 .grow) ?_
  refine tkf 4 16 (.bool ((r2_0 == a0_0) && ((r2_1 == a0_1) && ((r2_2 == a0_2) && ((r2_3 == a0_3) && ((r2_4 == a0_4) && true)))))) (yld_eqS (fs:=[Field.mk "K" 3 0 false "" "" 0,Field.mk "Eta1" 3 1 false "" "" 8,Field.mk "Eta2" 3 2 false "" "" 16,Field.mk "Du" 3 3 false "" "" 24,Field.mk "Dv" 3 4 false "" "" 32]) (xs:=[I8 r2_0,I8 r2_1,I8 r2_2,I8 r2_3,I8 r2_4]) (ys:=[I8 a0_0,I8 a0_1,I8 a0_2,I8 a0_3,I8 a0_4]) (t:=23) (.tmp 14) (.tmp 15) (by kernel_rfl) (by kernel_rfl) (by kernel_rfl) (by kernel_rfl) (.cons rfl (fun w=>Go.Mx.run_part1 (by kernel_rfl) rfl) (fun w=>Go.Mx.run_part1 (by kernel_rfl) rfl) (fun w=>Go.Mx.run_equalIn_int (by kernel_rfl)) (.cons rfl (fun w=>Go.Mx.run_part1 (by kernel_rfl) rfl) (fun w=>Go.Mx.run_part1 (by kernel_rfl) rfl) (fun w=>Go.Mx.run_equalIn_int (by kernel_rfl)) (.cons rfl (fun w=>Go.Mx.run_part1 (by kernel_rfl) rfl) (fun w=>Go.Mx.run_part1 (by kernel_rfl) rfl) (fun w=>Go.Mx.run_equalIn_int (by kernel_rfl)) (.cons rfl (fun w=>Go.Mx.run_part1 (by kernel_rfl) rfl) (fun w=>Go.Mx.run_part1 (by kernel_rfl) rfl) (fun w=>Go.Mx.run_equalIn_int (by kernel_rfl)) (.cons rfl (fun w=>Go.Mx.run_part1 (by kernel_rfl) rfl) (fun w=>Go.Mx.run_part1 (by kernel_rfl) rfl) (fun w=>Go.Mx.run_equalIn_int (by kernel_rfl)) .nil)))))) ?_
  refine nq 5 [(17,.bool ((r2_0 == a0_0) && ((r2_1 == a0_1) && ((r2_2 == a0_2) && ((r2_3 == a0_3) && ((r2_4 == a0_4) && true)))))),(2,.bool ((r2_0 == a0_0) && ((r2_1 == a0_1) && ((r2_2 == a0_2) && ((r2_3 == a0_3) && ((r2_4 == a0_4) && true))))))] ?_
  refine fj j6 s5 (xret ?_)
  obtain rfl:=of_some h
  exact qq _ _ (pt [2] [.bool ((r2_0 == a0_0) && ((r2_1 == a0_1) && ((r2_2 == a0_2) && ((r2_3 == a0_3) && ((r2_4 == a0_4) && true)))))] ⟨cr,hs.none⟩)
 | false=>
  have h:=of_if_f h
  refine qo 6 11 (.bool false) ?_
  refine so 7 (oNa 3 23 hs [I8 0,I8 0,I8 0,I8 0,I8 0] fun b5 w gw hs=>?_)
  refine so 8 (oWa 23 [I8 r2_0,I8 r2_1,I8 r2_2,I8 r2_3,I8 r2_4] hs 0 fun w kp hs=>?_)
  refine qo 9 4 (.bool false) ?_
  refine fj j4 s3 (xs fun _ s7=>(xn 7 fun _ j8=>?_))
  refine nq 0 [(12,.bool false),(13,.bool false),(14,undef),(15,undef),(16,undef),(17,.bool false),(2,.bool false)] ?_
  refine fj j8 s7 (xret ?_)
  obtain rfl:=of_some h
  exact qq _ _ (pt [2] [.bool false] ⟨cr,hs.none⟩)
theorem kpke_Sizes.ok {K:Nat}{a0_0 a0_1 a0_2 a0_3 a0_4 r0 r1 r2:Int}(h:kpke_Sizes.f K a0_0 a0_1 a0_2 a0_3 a0_4=some (r0,r1,r2)) (w0:World):Ret Tryd.prog 12 #[.agg #[I8 a0_0,I8 a0_1,I8 a0_2,I8 a0_3,I8 a0_4]] w0 (.tuple #[I8 r0,I8 r1,I8 r2]):=by
 refine calls_k Tryd.func12 rfl fun Q qq=>?_
 have hs:=St.start w0
 refine wc (a':=(fu 29 [.agg #[I8 a0_0,I8 a0_1,I8 a0_2,I8 a0_3,I8 a0_4]])) ?_
 refine xs fun _ s1=>?_
 refine xn 4 fun _ j2=>?_
 refine so 0 (oBa 1 23 hs [I8 a0_0,I8 a0_1,I8 a0_2,I8 a0_3,I8 a0_4] fun b1 w gw hs=>?_)
 refine nq 1 [(2,I8 0),(3,I8 0),(4,I8 0)] ?_
 refine fj j2 s1 (xs fun _ s3=>(xs fun _ s4=>(xn 3 fun _ j5=>?_)))
 refine tkt 0 6 _ (yWs 5 23 hs 0 .grow) ?_
 obtain ⟨r2,hg,h⟩:=ob h
 cases r2 with
 | true=>
  have h:=of_if_t h
  refine so 1 (oC 7 hs (kpke_known.ok hg _) fun w gw hs=>?_)
  refine qo 2 8 (.bool false) ?_
  refine fj j5 s4 (cf (xk (T s3 (xs fun _ s6=>(xn 1 fun _ j7=>?_)))))
  refine qo 0 5 (I8 32) ?_
  refine fj j7 s6 (xs fun _ s8=>?_)
  refine rg [] (fun k=>True) 24 fun _ j9=>?_
  have hs:=hs.drawn1
  refine gq 0 9 (I8 32) ?_
  refine gq 1 10 (I8 384) ?_
  refine gq 2 11 (P0 b1) ?_
  refine tgt 3 12 _ (yv hs 0 0 3 rfl (by rfl) .grow) ?_
  refine gq 4 13 (I8 (imul .i64 384 a0_0)) ?_
  refine gq 5 14 (I8 (iadd .i64 (imul .i64 384 a0_0) 32)) ?_
  refine gq 6 15 (I8 32) ?_
  refine gq 7 16 (I8 384) ?_
  refine gq 8 17 (P0 b1) ?_
  refine tgt 9 18 _ (yv hs 0 0 3 rfl (by rfl) .grow) ?_
  refine gq 10 19 (I8 (imul .i64 384 a0_0)) ?_
  refine gq 11 20 (I8 32) ?_
  refine gq 12 21 (.pointer (some ⟨b1,3,none⟩)) ?_
  refine tgt 13 22 _ (yv hs 0 3 3 rfl (by rfl) .grow) ?_
  refine gq 14 23 (P0 b1) ?_
  refine tgt 15 24 _ (yv hs 0 0 3 rfl (by rfl) .grow) ?_
  refine gq 16 25 (I8 (imul .i64 a0_3 a0_0)) ?_
  refine gq 17 26 (.pointer (some ⟨b1,4,none⟩)) ?_
  refine tgt 18 27 _ (yv hs 0 4 3 rfl (by rfl) .grow) ?_
  refine gq 19 28 (I8 (iadd .i64 (imul .i64 a0_3 a0_0) a0_4)) ?_
  refine gq 20 29 (I8 (imul .i64 32 (iadd .i64 (imul .i64 a0_3 a0_0) a0_4))) ?_
  obtain ⟨x3,hx,h⟩:=ob h
  refine tgf 21 2 (I8 x3) (yn hx) ?_
  obtain ⟨x4,hx,h⟩:=ob h
  refine tgf 22 3 (I8 x4) (yn hx) ?_
  obtain ⟨x5,hx,h⟩:=ob h
  refine tgf 23 4 (I8 x5) (yn hx) ?_
  refine gf (j9 _ _ ?_)
  refine T s8 (xret ?_)
  obtain ⟨rfl,rfl,rfl⟩:=os3 h
  exact qq _ _ (pt [2,3,4] [I8 x3,I8 x4,I8 x5] ⟨cr,hs.none⟩)
 | false=>
  have h:=of_if_f h
  refine so 1 (oC 7 hs (kpke_known.ok hg _) fun w gw hs=>?_)
  refine qo 2 8 (.bool true) ?_
  refine fj j5 s4 (ct (xs fun _ s10=>(xn 3 fun _ j11=>?_)))
  refine nq 0 [(2,I8 0),(3,I8 0),(4,I8 0)] ?_
  refine fj j11 s10 (xret (tr ?_))
  obtain ⟨rfl,rfl,rfl⟩:=os3 h
  exact qq _ _ (pt [2,3,4] [I8 0,I8 0,I8 0] ⟨cr,hs.none⟩)
theorem kem_Sizes.ok {K:Nat}{a0_0 a0_1 a0_2 a0_3 a0_4 r0 r1 r2:Int}(h:kem_Sizes.f K a0_0 a0_1 a0_2 a0_3 a0_4=some (r0,r1,r2)) (w0:World):Ret Tryd.prog 30 #[.agg #[I8 a0_0,I8 a0_1,I8 a0_2,I8 a0_3,I8 a0_4]] w0 (.tuple #[I8 r0,I8 r1,I8 r2]):=by
 refine calls_k Tryd.func30 rfl fun Q qq=>?_
 have hs:=St.start w0
 refine wc (a':=(fu 21 [.agg #[I8 a0_0,I8 a0_1,I8 a0_2,I8 a0_3,I8 a0_4]])) ?_
 refine xs fun _ s1=>?_
 refine xn 4 fun _ j2=>?_
 refine so 0 (oBa 1 23 hs [I8 a0_0,I8 a0_1,I8 a0_2,I8 a0_3,I8 a0_4] fun b1 w gw hs=>?_)
 refine nq 1 [(2,I8 0),(3,I8 0),(4,I8 0)] ?_
 refine fj j2 s1 (xs fun _ s3=>(xn 9 fun _ j4=>?_))
 refine tkt 0 9 _ (yWs 5 23 hs 0 .grow) ?_
 obtain ⟨⟨r2,r3,r4⟩,hg,h⟩:=ob h
 refine so 1 (oC 10 hs (kpke_Sizes.ok hg _) fun w gw hs=>?_)
 refine nq 2 [(8,.tuple #[I8 r2,I8 r3,I8 r4]),(11,I8 r2),(12,I8 r3),(13,I8 r4),(5,I8 r2),(6,I8 r3),(7,I8 r4)] ?_
 refine fj j4 s3 (xs fun _ s5=>(xs fun _ s6=>(xn 2 fun _ j7=>?_)))
 refine qo 0 14 (I8 r2) ?_
 obtain ⟨hc,h⟩|⟨hc,h⟩:=of_if h
 refine tb 1 15 (et hc) ?_
 refine fj j7 s6 (ct (xs fun _ s8=>(xn 3 fun _ j9=>?_)))
 refine nq 0 [(2,I8 0),(3,I8 0),(4,I8 0)] ?_
 refine fj j9 s8 (xret (tr ?_))
 obtain ⟨rfl,rfl,rfl⟩:=os3 h
 exact qq _ _ (pt [2,3,4] [I8 0,I8 0,I8 0] ⟨cr,hs.none⟩)
 refine tb 1 15 (ef hc) ?_
 refine fj j7 s6 (cf (xk (T s5 (xs fun _ s10=>(xn 9 fun _ j11=>?_)))))
 refine nq 0 [(16,I8 r2),(17,I8 r3),(18,I8 r2),(19,I8 (iadd .i64 r3 r2)),(20,I8 (iadd .i64 (iadd .i64 r3 r2) 64)),(21,I8 r4),(2,I8 r2)] ?_
 obtain ⟨x5,hx,h⟩:=ob h
 refine tkf 7 3 (I8 x5) (yn hx) ?_
 refine qo 8 4 (I8 r4) ?_
 refine fj j11 s10 (xret ?_)
 obtain ⟨rfl,rfl,rfl⟩:=os3 h
 exact qq _ _ (pt [2,3,4] [I8 r2,I8 x5,I8 r4] ⟨cr,hs.none⟩)
theorem math_bits_Reverse8.ok {K:Nat}{a0 r0:Int}(h:math_bits_Reverse8.f K a0=some r0) (w0:World):Ret Tryd.prog 110 #[U1 a0] w0 (U1 r0):=by
 refine calls_k Tryd.func110 rfl fun Q qq=>?_
 have hs:=St.start w0
 refine wc (a':=(fu 4 [U1 a0])) ?_
 refine xs fun _ s1=>?_
 refine xn 1 fun _ j2=>?_
 refine qo 0 2 (U1 0) ?_
 refine fj j2 s1 (xs fun _ s3=>(xn 3 fun _ j4=>?_))
 refine qo 0 3 (U1 a0) ?_
 obtain ⟨h0,h1,h⟩:=oc2 h
 refine tkf 1 4 (U1 (strAt [0,128,64,192,32,160,96,224,16,144,80,208,48,176,112,240,8,136,72,200,40,168,104,232,24,152,88,216,56,184,120,248,4,132,68,196,36,164,100,228,20,148,84,212,52,180,116,244,12,140,76,204,44,172,108,236,28,156,92,220,60,188,124,252,2,130,66,194,34,162,98,226,18,146,82,210,50,178,114,242,10,138,74,202,42,170,106,234,26,154,90,218,58,186,122,250,6,134,70,198,38,166,102,230,22,150,86,214,54,182,118,246,14,142,78,206,46,174,110,238,30,158,94,222,62,190,126,254,1,129,65,193,33,161,97,225,17,145,81,209,49,177,113,241,9,137,73,201,41,169,105,233,25,153,89,217,57,185,121,249,5,133,69,197,37,165,101,229,21,149,85,213,53,181,117,245,13,141,77,205,45,173,109,237,29,157,93,221,61,189,125,253,3,131,67,195,35,163,99,227,19,147,83,211,51,179,115,243,11,139,75,203,43,171,107,235,27,155,91,219,59,187,123,251,7,135,71,199,39,167,103,231,23,151,87,215,55,183,119,247,15,143,79,207,47,175,111,239,31,159,95,223,63,191,127,255] a0)) (yld_str (t:=9) (k':=.u8) (by kernel_rfl) (by kernel_rfl) h0 h1) ?_
 obtain ⟨x1,hx,h⟩:=ob h
 refine tkf 2 2 (U1 x1) (yn hx) ?_
 refine fj j4 s3 (xret ?_)
 obtain rfl:=of_some h
 exact qq _ _ (pt [2] [U1 x1] ⟨cr,hs.none⟩)
theorem kq_roots.ok {K:Nat}{r0:Arr 128}(h:kq_roots.f K=some r0) (w0:World):Calls Tryd.prog 92 #[] w0 fun e w'=>∃ b,e = .returned (P0 b)∧St w0 [] [.blk b (enc .i32 r0) 142] [] w':=by
 refine calls_k Tryd.func92 rfl fun Q qq=>?_
 have hs:=St.start w0
 refine wc (a':=(fu 30 [])) ?_
 refine xs fun _ s1=>?_
 refine xn 1 fun _ j2=>?_
 refine qo 0 0 (.pointer none) ?_
 refine fj j2 s1 (xs fun _ s3=>(xn 2 fun _ j4=>?_))
 refine so 0 (oNe 1 142 .i32 (zeroA 128) hs fun b1 w gw hs=>?_)
 refine so 1 (oNe 2 142 .i32 (zeroA 128) hs fun b2 w gw hs=>?_)
 refine fj j4 s3 (xs fun _ s5=>(xn 2 fun _ j6=>?_))
 refine tkf 0 5 (P1 b1 0) (yi 142 21 128 1 .i64 0 (by decide) (by decide)) ?_
 refine so 1 (oA 21 1 0 hs 1 rfl (by kernel_rfl) (by decide) (by decide) fun w kp hs=>?_)
 refine fj j6 s5 (xs fun _ s8=>(xs fun _ s9=>(xn 1 fun _ j10=>?_)))
 refine qo 0 3 (I8 1) ?_
 refine fj j10 s9 (?_)
 obtain ⟨y5,hy,hk0⟩:=ob h
 refine wp_exq (N:=fun a w=>St w0 [] [.blk b2 (enc .i32 (zeroA 128)) 142,.blk b1 (enc .i32 y5) 142] [] w∧∃ g12,a=fr g12 30 [(0,[.pointer none,P0 b1,P0 b2])]) (fun N0 nn0=>?_) ?_
 clear hk0
 refine xb ?_
 refine wp_loop_k (fun n a w=>∃ z3 z4,kq_roots.l0 K n z3 z4=some y5∧St w0 [] [.blk b2 (enc .i32 (zeroA 128)) 142,.blk b1 (enc .i32 z4) 142] [] w∧∃ g11,a=fr g11 30 [(0,[.pointer none,P0 b1,P0 b2,I8 z3])]) K ⟨1,(wr (zeroA 128) 0 1),hy,hs.conv rfl,eg⟩ ?_
 clear hs h hy
 rintro n a w ⟨z3,z4,h,hs,g11,rfl⟩ KL0 kl0
 cases n with
 | zero=>exact nomatch (show none=some _ from h)
 | succ n=>
  refine xs fun _ s13=>?_
  refine xs fun _ s14=>?_
  refine xn 2 fun _ j15=>?_
  refine qo 0 6 (I8 z3) ?_
  obtain ⟨hc,h⟩|⟨hc,h⟩:=of_if h
  refine tb 1 7 (dt hc) ?_
  refine fj j15 s14 (ct (xk (T s13 (xs fun _ s16=>(xb (xn 9 fun _ j17=>?_))))))
  refine nq 0 [(10,I8 z3),(11,I8 z3),(12,I8 (isub .i64 z3 1))] ?_
  obtain ⟨x6,hx,h⟩:=ob h
  have hx:=of_some hx
  subst hx
  obtain ⟨i0_18,i1_18,h⟩:=oc2 h
  refine tkf 3 13 (P1 b1 (isub .i64 z3 1)) (yi 142 21 128 1 .i64 (isub .i64 z3 1) i0_18 i1_18) ?_
  refine tkt 4 14 _ (yA hs 1 21 (isub .i64 z3 1) rfl i0_18 i1_18 .grow) ?_
  refine nq 5 [(15,I4 (imul .i32 (rd z4 (isub .i64 z3 1)) 17)),(16,I4 (irem .i32 (imul .i32 (rd z4 (isub .i64 z3 1)) 17) 3329))] ?_
  obtain ⟨i0_19,i1_19,h⟩:=oc2 h
  refine tkf 7 17 (P1 b1 z3) (yi 142 21 128 1 .i64 z3 i0_19 i1_19) ?_
  obtain ⟨x7,hx,h⟩:=ob h
  refine so 8 (oA 21 x7 z3 hs 1 rfl (by cases hx; kernel_rfl) i0_19 i1_19 fun w kp hs=>?_)
  refine fin (j17 _ _ (iN (T s16 (xn 3 fun _ j20=>?_))))
  refine nq 0 [(8,I8 z3),(9,I8 (iadd .i64 z3 1))] ?_
  obtain ⟨x8,hx,h⟩:=ob h
  refine tkf 2 3 (I8 x8) (yn hx) ?_
  refine fin (j20 _ _ ?_)
  exact tn (kl0 _ _ ⟨n,ls n,x8,(wr z4 z3 x7),h,(hs.conv rfl),eg⟩)
  refine tb 1 7 (df hc) ?_
  refine fj j15 s14 (cf (xexit (tx (tx (iH ?_)))))
  obtain rfl:=of_some h
  exact exq_n (nn0 _ _ ⟨(hs.conv rfl),eg⟩)
 clear hs h hy
 rintro a w ⟨hs,g12,rfl⟩
 have h:=hk0
 refine T s8 (xs fun _ s21=>(xs fun _ s22=>(xn 1 fun _ j23=>?_)))
 refine qo 0 18 (I8 0) ?_
 refine fj j23 s22 (?_)
 obtain ⟨y11,hy,hk1⟩:=ob h
 refine wp_exq (N:=fun a w=>St w0 [] [.blk b2 (enc .i32 y11) 142,.blk b1 (enc .i32 y5) 142] [] w∧∃ g25,a=fr g25 30 [(0,[.pointer none]),(2,[P0 b2])]) (fun N1 nn1=>?_) ?_
 clear hk1
 refine xb ?_
 refine wp_loop_k (fun n a w=>∃ z9 z10,kq_roots.l1 K n y5 z9 z10=some y11∧St w0 [] [.blk b2 (enc .i32 z10) 142,.blk b1 (enc .i32 y5) 142] [] w∧∃ g24,a=fr g24 30 [(0,[.pointer none,P0 b1,P0 b2]),(18,[I8 z9])]) K ⟨0,(zeroA 128),hy,hs.conv rfl,eg⟩ ?_
 clear hs h hy
 rintro n a w ⟨z9,z10,h,hs,g24,rfl⟩ KL1 kl1
 cases n with
 | zero=>exact nomatch (show none=some _ from h)
 | succ n=>
  refine xs fun _ s26=>?_
  refine xn 1 fun _ j27=>?_
  obtain ⟨hc,h⟩|⟨hc,h⟩:=of_if h
  refine tb 0 19 (dt hc) ?_
  refine fj j27 s26 (xs fun _ s28=>(ct (xk (T s28 (xs fun _ s29=>(xb (xs fun _ s30=>(xn 2 fun _ j31=>?_))))))))
  refine nq 0 [(20,I8 z9),(4,I8 z9)] ?_
  refine fj j31 s30 (xn 9 fun _ j32=>?_)
  refine nq 0 [(21,I8 z9),(22,I8 z9),(23,U1 (iconv .u8 z9))] ?_
  obtain ⟨r12,hg,h⟩:=ob h
  refine so 3 (oC 24 hs (math_bits_Reverse8.ok hg _) fun w gw hs=>?_)
  refine qo 4 25 (U1 (ishr .u8 r12 1)) ?_
  obtain ⟨x13,hx,h⟩:=ob h
  have hx:=of_some hx
  subst hx
  obtain ⟨i0_33,i1_33,h⟩:=oc2 h
  refine tkf 5 26 (P1 b1 (ishr .u8 r12 1)) (yi 142 21 128 1 .u8 (ishr .u8 r12 1) i0_33 i1_33) ?_
  refine tkt 6 27 _ (yA hs 1 21 (ishr .u8 r12 1) rfl i0_33 i1_33 .grow) ?_
  obtain ⟨i0_34,i1_34,h⟩:=oc2 h
  refine tkf 7 28 (P1 b2 z9) (yi 142 21 128 1 .i64 z9 i0_34 i1_34) ?_
  obtain ⟨x14,hx,h⟩:=ob h
  refine so 8 (oA 21 x14 z9 hs 0 rfl (by cases hx; kernel_rfl) i0_34 i1_34 fun w kp hs=>?_)
  refine fin (j32 _ _ (iN (T s29 (xn 2 fun _ j35=>?_))))
  refine nq 0 [(29,I8 (iadd .i64 z9 1)),(18,I8 (iadd .i64 z9 1))] ?_
  refine fin (j35 _ _ ?_)
  exact tn (kl1 _ _ ⟨n,ls n,(iadd .i64 z9 1),(wr z10 z9 x14),h,(hs.conv rfl),eg⟩)
  refine tb 0 19 (df hc) ?_
  refine fj j27 s26 (xs fun _ s36=>(cf (xexit (tx (tx (iH ?_))))))
  obtain rfl:=of_some h
  exact exq_n (nn1 _ _ ⟨(hs.conv rfl),eg⟩)
 clear hs h hy
 rintro a w ⟨hs,g25,rfl⟩
 have h:=hk1
 refine T s21 (xs fun _ s37=>(xn 1 fun _ j38=>?_))
 refine qo 0 0 (P0 b2) ?_
 refine fj j38 s37 (xret ?_)
 obtain rfl:=of_some h
 exact qq _ _ (pt [0] [P0 b2] ⟨_,cr,(dr [1,0] hs)⟩)
theorem kq_Ntt.ok {K:Nat}{a0 r0:Arr 256}(h:kq_Ntt.f K a0=some r0) (w0:World):Ret Tryd.prog 87 #[ag .i32 a0] w0 (ag .i32 r0):=by
 refine calls_k Tryd.func87 rfl fun Q qq=>?_
 have hs:=St.start w0
 refine wc (a':=(fu 61 [ag .i32 a0])) ?_
 refine xs fun _ s1=>?_
 refine xn 2 fun _ j2=>?_
 refine so 0 (oBe 1 32 .i32 a0 hs fun b1 w gw hs=>?_)
 refine so 1 (oNe 2 32 .i32 (zeroA 256) hs fun b2 w gw hs=>?_)
 refine fj j2 s1 (xs fun _ s3=>(xn 2 fun _ j4=>?_))
 obtain ⟨r3,hg,h⟩:=ob h
 refine so 0 (oCB 9 hs (kq_roots.ok hg _) fun b4 w gw hs=>?_)
 refine qo 1 3 (P0 b4) ?_
 refine fj j4 s3 (xs fun _ s5=>(xn 1 fun _ j6=>?_))
 refine qo 0 4 (I8 0) ?_
 refine fj j6 s5 (xs fun _ s7=>(xs fun _ s8=>(xn 1 fun _ j9=>?_)))
 refine qo 0 5 (I8 128) ?_
 refine fj j9 s8 (?_)
 obtain ⟨y8,hy,hk0⟩:=ob h
 refine wp_exq (N:=fun a w=>St w0 [] [.blk b4 (enc .i32 r3) 142,.blk b2 (enc .i32 (zeroA 256)) 32,.blk b1 (enc .i32 y8) 32] [] w∧∃ g11,a=fr g11 62 [(1,[P0 b1,P0 b2])]) (fun N0 nn0=>?_) ?_
 clear hk0
 refine xb ?_
 refine wp_loop_k (fun n a w=>∃ z5 z6 z7,kq_Ntt.l0 K n r3 z5 z6 z7=some y8∧St w0 [] [.blk b4 (enc .i32 r3) 142,.blk b2 (enc .i32 (zeroA 256)) 32,.blk b1 (enc .i32 z7) 32] [] w∧∃ g10,a=fr g10 62 [(1,[P0 b1,P0 b2,P0 b4,I8 z5,I8 z6])]) K ⟨0,128,a0,hy,hs.conv rfl,eg⟩ ?_
 clear hs h hy
 rintro n a w ⟨z5,z6,z7,h,hs,g10,rfl⟩ KL0 kl0
 cases n with
 | zero=>exact nomatch (show none=some _ from h)
 | succ n=>
  refine xs fun _ s12=>?_
  refine xs fun _ s13=>?_
  refine xn 2 fun _ j14=>?_
  refine qo 0 10 (I8 z6) ?_
  obtain ⟨hc,h⟩|⟨hc,h⟩:=of_if h
  refine tb 1 11 (dt hc) ?_
  refine fj j14 s13 (ct (xk (T s12 (xs fun _ s15=>(xb (xs fun _ s16=>(xn 1 fun _ j17=>?_)))))))
  refine qo 0 6 (I8 0) ?_
  refine fj j17 s16 (?_)
  obtain ⟨⟨y12,y13⟩,hy,hk1⟩:=ob h
  refine wp_exq (N:=fun a w=>St w0 [] [.blk b4 (enc .i32 r3) 142,.blk b2 (enc .i32 (zeroA 256)) 32,.blk b1 (enc .i32 y13) 32] [] w∧∃ g19,a=fr g19 62 [(1,[P0 b1,P0 b2,P0 b4,I8 y12,I8 z6])]) (fun N1 nn1=>?_) ?_
  clear hk1
  refine xb ?_
  refine wp_loop_k (fun n a w=>∃ z9 z10 z11,kq_Ntt.l1 K n r3 z6 z9 z10 z11=some (y12,y13)∧St w0 [] [.blk b4 (enc .i32 r3) 142,.blk b2 (enc .i32 (zeroA 256)) 32,.blk b1 (enc .i32 z11) 32] [] w∧∃ g18,a=fr g18 62 [(1,[P0 b1,P0 b2,P0 b4,I8 z9,I8 z6,I8 z10])]) K ⟨z5,0,z7,hy,hs.conv rfl,eg⟩ ?_
  clear hs h hy
  rintro n a w ⟨z9,z10,z11,h,hs,g18,rfl⟩ KL1 kl1
  cases n with
  | zero=>exact nomatch (show none=some _ from h)
  | succ n=>
   refine xs fun _ s20=>?_
   refine xs fun _ s21=>?_
   refine xn 2 fun _ j22=>?_
   refine qo 0 14 (I8 z10) ?_
   obtain ⟨hc,h⟩|⟨hc,h⟩:=of_if h
   refine tb 1 15 (dt hc) ?_
   refine fj j22 s21 (ct (xk (T s20 (xs fun _ s23=>(xb (xs fun _ s24=>(xn 3 fun _ j25=>?_)))))))
   refine nq 0 [(20,I8 z9),(21,I8 (iadd .i64 z9 1))] ?_
   obtain ⟨x14,hx,h⟩:=ob h
   refine tkf 2 4 (I8 x14) (yn hx) ?_
   refine fj j25 s24 (xs fun _ s26=>(xn 2 fun _ j27=>?_))
   refine nq 0 [(22,I8 z10),(7,I8 z10)] ?_
   refine fj j27 s26 (?_)
   obtain ⟨y17,hy,hk2⟩:=ob h
   refine wp_exq (N:=fun a w=>St w0 [] [.blk b4 (enc .i32 r3) 142,.blk b2 (enc .i32 (zeroA 256)) 32,.blk b1 (enc .i32 y17) 32] [] w∧∃ g29,a=fr g29 62 [(1,[P0 b1,P0 b2,P0 b4,I8 x14,I8 z6,I8 z10])]) (fun N2 nn2=>?_) ?_
   clear hk2
   refine xb ?_
   refine wp_loop_k (fun n a w=>∃ z15 z16,kq_Ntt.l2 K n r3 z6 z10 x14 z15 z16=some y17∧St w0 [] [.blk b4 (enc .i32 r3) 142,.blk b2 (enc .i32 (zeroA 256)) 32,.blk b1 (enc .i32 z16) 32] [] w∧∃ g28,a=fr g28 62 [(1,[P0 b1,P0 b2,P0 b4,I8 x14,I8 z6,I8 z10,I8 z15])]) K ⟨z10,z11,hy,hs.conv rfl,eg⟩ ?_
   clear hs h hy
   rintro n a w ⟨z15,z16,h,hs,g28,rfl⟩ KL2 kl2
   cases n with
   | zero=>exact nomatch (show none=some _ from h)
   | succ n=>
    refine xs fun _ s30=>?_
    refine xs fun _ s31=>?_
    refine xn 5 fun _ j32=>?_
    refine nq 0 [(23,I8 z15),(24,I8 z10),(25,I8 z6),(26,I8 (iadd .i64 z10 z6))] ?_
    obtain ⟨hc,h⟩|⟨hc,h⟩:=of_if h
    refine tb 4 27 (dt hc) ?_
    refine fj j32 s31 (ct (xk (T s30 (xs fun _ s33=>(xb (xs fun _ s34=>?_))))))
    refine rg [] (fun k=>True) 13 fun _ j35=>?_
    have hs:=hs.drawn1
    refine gq 0 30 (P0 b4) ?_
    refine gq 1 31 (I8 x14) ?_
    refine gq 2 32 (P0 b4) ?_
    obtain ⟨i0_36,i1_36,h⟩:=oc2 h
    refine tgf 3 33 (P1 b4 x14) (yi 142 21 128 1 .i64 x14 i0_36 i1_36) ?_
    refine tgt 4 34 _ (yA hs 0 21 x14 rfl i0_36 i1_36 .grow) ?_
    refine gq 5 35 (I8 z15) ?_
    refine gq 6 36 (I8 z6) ?_
    refine gq 7 37 (I8 (iadd .i64 z15 z6)) ?_
    obtain ⟨x18,hx,h⟩:=ob h
    have hx:=of_some hx
    subst hx
    obtain ⟨i0_37,i1_37,h⟩:=oc2 h
    refine tgf 8 38 (P1 b1 (iadd .i64 z15 z6)) (yi 32 21 256 1 .i64 (iadd .i64 z15 z6) i0_37 i1_37) ?_
    refine tgt 9 39 _ (yA hs 2 21 (iadd .i64 z15 z6) rfl i0_37 i1_37 .grow) ?_
    refine gq 10 40 (I4 (imul .i32 (rd r3 x14) (rd z16 (iadd .i64 z15 z6)))) ?_
    refine gq 11 41 (I4 (irem .i32 (imul .i32 (rd r3 x14) (rd z16 (iadd .i64 z15 z6))) 3329)) ?_
    obtain ⟨x19,hx,h⟩:=ob h
    refine tgf 12 8 (I4 x19) (yn hx) ?_
    refine gf (j35 _ _ ?_)
    refine T s34 (?_)
    refine rg [18,20] (fun k=>True) 21 fun _ j38=>?_
    have hs:=hs.drawn1
    refine gq 0 42 (I8 z15) ?_
    refine gq 1 43 (I8 z6) ?_
    refine gq 2 44 (I8 (iadd .i64 z15 z6)) ?_
    refine gq 3 45 (I8 z15) ?_
    refine gq 4 46 (I8 z15) ?_
    obtain ⟨i0_39,i1_39,h⟩:=oc2 h
    refine tgf 5 47 (P1 b1 z15) (yi 32 21 256 1 .i64 z15 i0_39 i1_39) ?_
    refine tgt 6 48 _ (yA hs 2 21 z15 rfl i0_39 i1_39 .grow) ?_
    refine gq 7 49 (I4 x19) ?_
    refine gq 8 50 (I4 (isub .i32 (rd z16 z15) x19)) ?_
    refine gq 9 51 (I4 (iadd .i32 (isub .i32 (rd z16 z15) x19) 3329)) ?_
    refine gq 10 52 (I4 (irem .i32 (iadd .i32 (isub .i32 (rd z16 z15) x19) 3329) 3329)) ?_
    refine gq 11 53 (I8 z15) ?_
    obtain ⟨i0_40,i1_40,h⟩:=oc2 h
    refine tgf 12 54 (P1 b1 z15) (yi 32 21 256 1 .i64 z15 i0_40 i1_40) ?_
    refine tgt 13 55 _ (yA hs 2 21 z15 rfl i0_40 i1_40 .grow) ?_
    refine gq 14 56 (I4 x19) ?_
    refine gq 15 57 (I4 (iadd .i32 (rd z16 z15) x19)) ?_
    refine gq 16 58 (I4 (irem .i32 (iadd .i32 (rd z16 z15) x19) 3329)) ?_
    obtain ⟨x20,hx,h⟩:=ob h
    have hx:=of_some hx
    subst hx
    obtain ⟨i0_41,i1_41,h⟩:=oc2 h
    refine tgf 17 59 (P1 b1 (iadd .i64 z15 z6)) (yi 32 21 256 1 .i64 (iadd .i64 z15 z6) i0_41 i1_41) ?_
    obtain ⟨x21,hx,h⟩:=ob h
    refine go 18 (oA 21 x21 (iadd .i64 z15 z6) hs 2 rfl (by cases hx; kernel_rfl) i0_41 i1_41 fun w kp hs=>⟨⟨fun hf=>absurd hf (by decide),.all _ _⟩,?_⟩)
    obtain ⟨i0_42,i1_42,h⟩:=oc2 h
    refine tgf 19 60 (P1 b1 z15) (yi 32 21 256 1 .i64 z15 i0_42 i1_42) ?_
    obtain ⟨x22,hx,h⟩:=ob h
    refine go 20 (oA 21 x22 z15 hs 2 rfl (by cases hx; kernel_rfl) i0_42 i1_42 fun w kp hs=>⟨⟨fun hf=>absurd hf (by decide),.all _ _⟩,?_⟩)
    refine gf (j38 _ _ ?_)
    refine iN (T s33 (xn 3 fun _ j43=>?_))
    refine nq 0 [(28,I8 z15),(29,I8 (iadd .i64 z15 1))] ?_
    obtain ⟨x23,hx,h⟩:=ob h
    refine tkf 2 7 (I8 x23) (yn hx) ?_
    refine fin (j43 _ _ ?_)
    exact tn (kl2 _ _ ⟨n,ls n,x23,(wr (wr z16 (iadd .i64 z15 z6) x21) z15 x22),h,(hs.conv rfl),eg⟩)
    refine tb 4 27 (df hc) ?_
    refine fj j32 s31 (cf (xexit (tx (tx (iH ?_)))))
    obtain rfl:=of_some h
    exact exq_n (nn2 _ _ ⟨(hs.conv rfl),eg⟩)
   clear hs h hy
   rintro a w ⟨hs,g29,rfl⟩
   have h:=hk2
   refine iN (T s23 (xn 5 fun _ j44=>?_))
   refine nq 0 [(16,I8 z10),(17,I8 z6),(18,I8 (imul .i64 2 z6)),(19,I8 (iadd .i64 z10 (imul .i64 2 z6)))] ?_
   obtain ⟨x24,hx,h⟩:=ob h
   refine tkf 4 6 (I8 x24) (yn hx) ?_
   refine fin (j44 _ _ ?_)
   exact tn (kl1 _ _ ⟨n,ls n,x14,x24,y17,h,(hs.conv rfl),eg⟩)
   refine tb 1 15 (df hc) ?_
   refine fj j22 s21 (cf (xexit (tx (tx (iH ?_)))))
   obtain ⟨rfl,rfl⟩:=os2 h
   exact exq_n (nn1 _ _ ⟨(hs.conv rfl),eg⟩)
  clear hs h hy
  rintro a w ⟨hs,g19,rfl⟩
  have h:=hk1
  refine iN (T s15 (xn 3 fun _ j45=>?_))
  refine nq 0 [(12,I8 z6),(13,I8 (iquo .i64 z6 2))] ?_
  obtain ⟨x25,hx,h⟩:=ob h
  refine tkf 2 5 (I8 x25) (yn hx) ?_
  refine fin (j45 _ _ ?_)
  exact tn (kl0 _ _ ⟨n,ls n,y12,x25,y13,h,(hs.conv rfl),eg⟩)
  refine tb 1 11 (df hc) ?_
  refine fj j14 s13 (cf (xexit (tx (tx (iH ?_)))))
  obtain rfl:=of_some h
  exact exq_n (nn0 _ _ ⟨(hs.conv rfl),eg⟩)
 clear hs h hy
 rintro a w ⟨hs,g11,rfl⟩
 have h:=hk0
 refine T s7 (xs fun _ s46=>(xn 2 fun _ j47=>?_))
 refine tkt 0 61 _ (yWe 32 hs 2 .grow) ?_
 refine so 1 (oWe 32 .i32 y8 hs 1 fun w kp hs=>?_)
 refine fj j47 s46 (xret ?_)
 obtain rfl:=of_some h
 exact qq _ _ (pr (rr [.cell 2 32] [ag .i32 y8] (.cons (rcN 256 hs 1 rfl (enc_len _ _)) .nil)) ⟨cr,hs.none⟩)
theorem kpke_vector_parts.ok {K:Nat}{a0 r0:List (Arr 256)}{a0_A:Option Addr}{a0_n a0_c:Nat}(h:kpke_vector_parts.f K a0=some r0) (w0:World) (hp0:RowL CZ w0 a0_A a0_n a0_c a0):Calls Tryd.prog 45 #[.slice a0_A a0_n a0_c] w0 fun e w'=>∃ h:(Option Addr × Nat × Nat),e = .returned (.slice h.1 h.2.1 h.2.2)∧St w0 [] [.ownL CZ h.1 h.2.1 h.2.2 r0 32] [] w':=by
 refine calls_k Tryd.func45 rfl fun Q qq=>?_
 have hs:=St.startR (all_cons (RowP.ent hp0) all_nil)
 refine wc (a':=(fu 22 [.slice a0_A a0_n a0_c])) ?_
 refine xs fun _ s1=>?_
 refine xn 1 fun _ j2=>?_
 refine qo 0 2 (.slice none 0 0) ?_
 refine fj j2 s1 (xs fun _ s3=>(xn 4 fun _ j4=>?_))
 refine qo 0 6 (.slice a0_A a0_n a0_c) ?_
 refine tkf 1 7 (I8 (a0.length:Int)) (yl (rR 0 hs)) ?_
 obtain ⟨h0,h1,h⟩:=oc2 h
 refine so 2 (oMk (C:=CZ) 8 78 32 1024 137438953472 .i64 .i64 (a0.length:Int) hs h0 h1 (by decide) (by decide) fun s1_A s1_n s1_c w gw hs=>?_)
 refine qo 3 3 (.slice s1_A s1_n s1_c) ?_
 refine fj j4 s3 (xs fun _ s5=>(xs fun _ s6=>(xn 3 fun _ j7=>?_)))
 refine qo 0 9 (.slice a0_A a0_n a0_c) ?_
 refine tkf 1 10 (I8 (a0.length:Int)) (yl (rR 0 hs)) ?_
 refine qo 2 11 (I8 0) ?_
 refine fj j7 s6 (?_)
 obtain ⟨y4,hy,hk0⟩:=ob h
 refine wp_exq (N:=fun a w=>St w0 [] [.ownL CZ s1_A s1_n s1_c y4 32] [.rowL CZ a0_A a0_n a0_c a0] w∧∃ g9,a=fr g9 23 [(2,[.slice none 0 0,.slice s1_A s1_n s1_c])]) (fun N0 nn0=>?_) ?_
 clear hk0
 refine xb ?_
 refine wp_loop_k (fun n a w=>∃ z2 z3,kpke_vector_parts.l0 K n a0 z2 z3=some y4∧St w0 [] [.ownL CZ s1_A s1_n s1_c z3 32] [.rowL CZ a0_A a0_n a0_c a0] w∧∃ g8,a=fr g8 23 [(2,[.slice none 0 0,.slice s1_A s1_n s1_c]),(9,[.slice a0_A a0_n a0_c,I8 (a0.length:Int),I8 z2])]) K ⟨0,(List.replicate ((a0.length:Int):Int).toNat (Cod.zero CZ)),hy,hs.conv rfl,eg⟩ ?_
 clear hs h hy
 rintro n a w ⟨z2,z3,h,hs,g8,rfl⟩ KL0 kl0
 cases n with
 | zero=>exact nomatch (show none=some _ from h)
 | succ n=>
  refine xs fun _ s10=>?_
  refine xn 1 fun _ j11=>?_
  obtain ⟨hc,h⟩|⟨hc,h⟩:=of_if h
  refine tb 0 12 (dt hc) ?_
  refine fj j11 s10 (xs fun _ s12=>(ct (xk (T s12 (xs fun _ s13=>(xb (xs fun _ s14=>(xn 6 fun _ j15=>?_))))))))
  refine qo 0 13 (I8 z2) ?_
  obtain ⟨h0,h1,h⟩:=oc2 h
  have i0_16:=h0
  have i1_16:=h1
  refine tkf 1 14 (PA CZ a0_A z2) (yiL (C:=CZ) 78 32 .i64 z2 (rR 0 hs) h0 h1) ?_
  refine tkt 2 15 _ (yLA (C:=CZ) 32 z2 (rR 0 hs) rfl i0_16 i1_16) ?_
  refine so 3 (oNe 5 32 .i32 (zeroA 256) hs fun b5 w gw hs=>?_)
  refine qo 4 4 (I8 z2) ?_
  refine so 5 (oWe 32 .i32 (rdL CZ a0 z2) hs 0 fun w kp hs=>?_)
  refine fj j15 s14 (xn 6 fun _ j17=>?_)
  refine nq 0 [(16,.slice s1_A s1_n s1_c),(17,I8 z2)] ?_
  refine tkt 2 18 _ (yWe 32 hs 0 .grow) ?_
  obtain ⟨r6,hg,h⟩:=ob h
  refine so 3 (oC 19 hs (kq_Ntt.ok hg _) fun w gw hs=>?_)
  obtain ⟨h0,h1,h⟩:=oc2 h
  have i0_18:=h0
  have i1_18:=h1
  refine tkf 4 20 (PA CZ s1_A z2) (yiL (C:=CZ) 78 32 .i64 z2 (rL 1 hs) h0 h1) ?_
  refine so 5 (oL (C:=CZ) 32 z2 r6 hs 1 rfl i0_18 i1_18 fun w hs=>?_)
  refine fin (j17 _ _ (iN (T s13 (xn 2 fun _ j19=>?_))))
  refine nq 0 [(21,I8 (iadd .i64 z2 1)),(11,I8 (iadd .i64 z2 1))] ?_
  refine fin (j19 _ _ ?_)
  exact tn (kl0 _ _ ⟨n,ls n,(iadd .i64 z2 1),(wrL z3 z2 r6),h,(dr [0,1] hs),eg⟩)
  refine tb 0 12 (df hc) ?_
  refine fj j11 s10 (xs fun _ s20=>(cf (xexit (tx (tx (iH ?_))))))
  obtain rfl:=of_some h
  exact exq_n (nn0 _ _ ⟨(hs.conv rfl),eg⟩)
 clear hs h hy
 rintro a w ⟨hs,g9,rfl⟩
 have h:=hk0
 refine T s5 (xs fun _ s21=>(xn 2 fun _ j22=>?_))
 refine nq 0 [(22,.slice s1_A s1_n s1_c),(2,.slice s1_A s1_n s1_c)] ?_
 refine fj j22 s21 (xret ?_)
 obtain rfl:=of_some h
 exact qq _ _ (pt [2] [.slice s1_A s1_n s1_c] ⟨⟨s1_A,s1_n,s1_c⟩,cr,(pz hs)⟩)
end Go.Proofs.YtemdbgmldljbpaaDoor
