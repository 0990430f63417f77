/- own -/
import Derived.Test.YtemdbgmldljbpaaDoorMh
import Derived.Test.YtemdbgmldljbpaaDoorProg
import Derived.Test.YtemdbgmldljbpaaDoorZFKpkeWorks
import Derived.Test.YtemdbgmldljbpaaDoorZX0
set_option linter.unusedVariables false
set_option linter.unusedSimpArgs false
set_option maxRecDepth 100000
set_option maxHeartbeats 4000000
namespace Go.Proofs.YtemdbgmldljbpaaDoor
open Go.Mx
attribute [local irreducible] wpOp
theorem ref08_put.ok {K:Nat}{a0:Arr 25}{a1 a2:Int}{r0:Arr 25}(h:ref08_put.f K a0 a1 a2=some r0) (w0:World):Ret Tryd.prog 108 #[ag .u64 a0,I8 a1,U1 a2] w0 (ag .u64 r0):=by
 refine calls_k Tryd.func108 rfl fun Q qq=>?_
 have hs:=St.start w0
 refine wc (a':=(fu 19 [ag .u64 a0,I8 a1,U1 a2])) ?_
 refine xs fun _ s1=>?_
 refine xn 2 fun _ j2=>?_
 refine so 0 (oB 3 113 (ag .u64 a0) hs (enc .u64 a0) fun b1 w gw hs=>?_)
 refine so 1 (oN 6 113 hs (enc .u64 (zeroA 25)) (ag .u64 (zeroA 25)) fun b2 w gw hs=>?_)
 refine fj j2 s1 (xs fun _ s3=>?_)
 refine rg [14] (fun k=>True) 15 fun _ j4=>?_
 have hs:=hs.drawn1
 refine gq 0 7 (I8 a1) ?_
 refine gq 1 8 (I8 (iquo .i64 a1 8)) ?_
 refine gq 2 9 (I8 a1) ?_
 refine gq 3 10 (I8 (iquo .i64 a1 8)) ?_
 obtain ⟨x3,hx,h⟩:=ob h
 have hx:=of_some hx
 subst hx
 obtain ⟨i0_5,i1_5,h⟩:=oc2 h
 refine tgf 4 11 (P1 b1 (iquo .i64 a1 8)) (yi 113 112 25 1 .i64 (iquo .i64 a1 8) i0_5 i1_5) ?_
 refine tgt 5 12 (U8 (rd a0 (iquo .i64 a1 8))) (yA hs 1 112 (iquo .i64 a1 8) rfl i0_5 i1_5 .grow) ?_
 refine gq 6 13 (U1 a2) ?_
 refine gq 7 14 (U8 (iconv .u64 a2)) ?_
 refine gq 8 15 (I8 a1) ?_
 refine gq 9 16 (I8 (irem .i64 a1 8)) ?_
 refine gq 10 17 (I8 (imul .i64 8 (irem .i64 a1 8))) ?_
 obtain ⟨h0,h⟩:=oc h
 refine tgf 11 18 (U8 (ishl .u64 (iconv .u64 a2) (imul .i64 8 (irem .i64 a1 8)))) (ysl 112 .i64 h0) ?_
 refine gq 12 19 (U8 (ixor .u64 (rd a0 (iquo .i64 a1 8)) (ishl .u64 (iconv .u64 a2) (imul .i64 8 (irem .i64 a1 8))))) ?_
 obtain ⟨x4,hx,h⟩:=ob h
 have hx:=of_some hx
 subst hx
 obtain ⟨i0_6,i1_6,h⟩:=oc2 h
 refine tgf 13 20 (P1 b1 (iquo .i64 a1 8)) (yi 113 112 25 1 .i64 (iquo .i64 a1 8) i0_6 i1_6) ?_
 obtain ⟨x5,hx,h⟩:=ob h
 refine go 14 (oA 112 x5 (iquo .i64 a1 8) hs 1 rfl (by cases hx; kernel_rfl) i0_6 i1_6 fun w kp hs=>⟨⟨fun hf=>absurd hf (by decide),.all _ _⟩,?_⟩)
 refine gf (j4 _ _ ?_)
 refine T s3 (xs fun _ s7=>(xn 2 fun _ j8=>?_))
 refine tkt 0 21 (ag .u64 (wr a0 (iquo .i64 a1 8) x5)) (yWe 113 hs 1 .grow) ?_
 refine so 1 (oWe 113 .u64 (wr a0 (iquo .i64 a1 8) x5) hs 0 fun w kp hs=>?_)
 refine fj j8 s7 (xret ?_)
 obtain rfl:=of_some h
 exact qq _ _ (pr (rr [.cell 6 113] [ag .u64 (wr a0 (iquo .i64 a1 8) x5)] (.cons (rcN 25 hs 0 rfl (enc_len _ _)) .nil)) ⟨cr,hs.none⟩)
theorem ref08_Squeeze.ok {K:Nat}{a0_0:Int}{a0_1:Arr 25}{a0_2:Int}{a0_3:Bool}{a1 r0_0:Int}{r0_1:Arr 25}{r0_2:Int}{r0_3:Bool}{r1:List Int}(h:ref08_Squeeze.f K a0_0 a0_1 a0_2 a0_3 a1=some (r0_0,r0_1,r0_2,r0_3,r1)) (w0:World):Calls Tryd.prog 85 #[.agg (vl [I8 a0_0]++enc .u64 a0_1++vl [I8 a0_2,.bool a0_3]).toArray,I8 a1] w0 fun e w'=>∃ h:(Option Addr × Nat × Nat),e = .returned (.tuple #[.agg (vl [I8 r0_0]++enc .u64 r0_1++vl [I8 r0_2,.bool r0_3]).toArray,.slice h.1 h.2.1 h.2.2])∧St w0 [] [.ownL CB h.1 h.2.1 h.2.2 r1 5] [] w':=by
 refine calls_k Tryd.func85 rfl fun Q qq=>?_
 have hs:=St.start w0
 refine wc (a':=(fu 71 [.agg (vl [I8 a0_0]++enc .u64 a0_1++vl [I8 a0_2,.bool a0_3]).toArray,I8 a1])) ?_
 refine xs fun _ s1=>?_
 refine xn 3 fun _ j2=>?_
 refine so 0 (oB 2 115 (.agg (vl [I8 a0_0]++enc .u64 a0_1++vl [I8 a0_2,.bool a0_3]).toArray) hs (vl [I8 a0_0]++enc .u64 a0_1++vl [I8 a0_2,.bool a0_3]) fun b1 w gw hs=>?_)
 refine so 1 (oN 4 115 hs (vl [I8 0]++enc .u64 (zeroA 25)++vl [I8 0,.bool false]) (.agg (vl [I8 0]++enc .u64 (zeroA 25)++vl [I8 0,.bool false]).toArray) fun b2 w gw hs=>?_)
 refine qo 2 5 (.slice none 0 0) ?_
 refine fj j2 s1 (xs fun _ s3=>(xs fun _ s4=>(xn 2 fun _ j5=>?_)))
 refine qo 0 9 (I8 a1) ?_
 obtain ⟨hc,h⟩|⟨hc,h⟩:=of_if h
 refine tb 1 10 (dt hc) ?_
 refine fj j5 s4 (ct (xs fun _ s6=>(xn 3 fun _ j7=>?_)))
 refine tkt 0 11 (.agg (vl [I8 a0_0]++enc .u64 a0_1++vl [I8 a0_2,.bool a0_3]).toArray) (yW hs 1 28 115 rfl (by simp [enc_len]) .grow) ?_
 refine so 1 (oW 28 115 (.agg (vl [I8 a0_0]++enc .u64 a0_1++vl [I8 a0_2,.bool a0_3]).toArray) (vl [I8 a0_0]++enc .u64 a0_1++vl [I8 a0_2,.bool a0_3]) hs 0 rfl (by simp [enc_len]) (by simp [enc_len]) (one_app (one_app (by simp [Value.oneCell']) (fun u hu=>enc_one _ _ u hu)) (by simp [Value.oneCell'])) fun w kp hs=>?_)
 refine qo 2 5 (.slice none 0 0) ?_
 refine fj j7 s6 (xret (tr ?_))
 obtain ⟨rfl,rfl,rfl,rfl,rfl⟩:=os5 h
 have hs:=hs.addNilL CB 5
 exact qq _ _ (pr (rr [.cell 4 115,.tmp 5] [.agg (vl [I8 a0_0]++enc .u64 a0_1++vl [I8 a0_2,.bool a0_3]).toArray,.slice none 0 0] (.cons (rcN 28 hs 1 rfl (by simp [enc_len])) (.cons rt .nil))) ⟨⟨none,0,0⟩,cr,(dr [1,0,0] hs)⟩)
 refine tb 1 10 (df hc) ?_
 refine fj j5 s4 (cf (xk (T s3 (xs fun _ s8=>(xn 4 fun _ j9=>?_)))))
 refine qo 0 12 (P0 b1) ?_
 refine tkt 1 13 (I8 a0_0) (yv hs 1 0 3 rfl (get_pre rfl) .grow) ?_
 obtain ⟨r3,hg,h⟩:=ob h
 refine so 2 (oC 14 hs (ref08_Rate.ok hg _) fun w gw hs=>?_)
 refine qo 3 6 (I8 r3) ?_
 refine fj j9 s8 (?_)
 obtain ⟨⟨y4_0,y4_1,y4_2,y4_3⟩,hj,h⟩:=ob h
 refine xs fun _ s11=>wp_join (N:=fun a w=>St w0 [] [.blk b2 (vl [I8 0]++enc .u64 (zeroA 25)++vl [I8 0,.bool false]) 115,.blk b1 (vl [I8 y4_0]++enc .u64 y4_1++vl [I8 y4_2,.bool y4_3]) 115] [] w∧∃ g10,a=fr g10 73 [(1,[I8 a1,P0 b1]),(4,[P0 b2,.slice none 0 0,I8 r3])]) (fun N nj=>?_) ?_
 clear h
 have h:=hj
 refine xs fun _ s12=>?_
 refine xn 3 fun _ j13=>?_
 refine qo 0 15 (.pointer (some ⟨b1,27,none⟩)) ?_
 cases a0_3 with
 | true=>
  have h:=of_if_t h
  refine tkt 1 16 (.bool true) (yv hs 1 27 4 rfl (get_post 1 rfl rfl) .grow) ?_
  refine qo 2 17 (.bool false) ?_
  refine fj j13 s12 (cf (xk ?_))
  obtain ⟨rfl,rfl,rfl,rfl⟩:=os4 h
  exact nj _ _ ⟨(hs.conv rfl),eg⟩
 | false=>
  have h:=of_if_f h
  refine tkt 1 16 (.bool false) (yv hs 1 27 4 rfl (get_post 1 rfl rfl) .grow) ?_
  refine qo 2 17 (.bool true) ?_
  refine fj j13 s12 (ct (xs fun _ s14=>(xn 1 fun _ j15=>?_)))
  refine qo 0 7 (U1 31) ?_
  refine fj j15 s14 (?_)
  obtain ⟨y5,hj,h⟩:=ob h
  refine xs fun _ s17=>wp_join (N:=fun a w=>St w0 [] [.blk b2 (vl [I8 0]++enc .u64 (zeroA 25)++vl [I8 0,.bool false]) 115,.blk b1 (vl [I8 a0_0]++enc .u64 a0_1++vl [I8 a0_2,.bool false]) 115] [] w∧∃ g16,a=fr g16 73 [(1,[I8 a1,P0 b1]),(4,[P0 b2,.slice none 0 0,I8 r3,U1 y5])]) (fun N nj=>?_) ?_
  clear h
  have h:=hj
  refine xs fun _ s18=>?_
  refine xn 8 fun _ j19=>?_
  refine qo 0 18 (P0 b1) ?_
  refine tkt 1 19 (I8 a0_0) (yv hs 1 0 3 rfl (get_pre rfl) .grow) ?_
  obtain ⟨hc,h⟩|⟨hc,h⟩:=of_if h
  refine tb 2 20 (et hc) ?_
  refine nq 3 [(21,.bool true),(22,undef),(23,undef),(24,undef),(25,.bool true)] ?_
  refine fj j19 s18 (ct (xn 1 fun _ j20=>?_))
  refine qo 0 7 (U1 6) ?_
  refine fin (j20 _ _ ?_)
  obtain rfl:=of_some h
  exact nj _ _ ⟨(hs.conv rfl),eg⟩
  refine tb 2 20 (ef hc) ?_
  refine nq 3 [(21,.bool false),(22,P0 b1)] ?_
  refine tkt 5 23 (I8 a0_0) (yv hs 1 0 3 rfl (get_pre rfl) .grow) ?_
  obtain ⟨hc,h⟩|⟨hc,h⟩:=of_if h
  refine tb 6 24 (et hc) ?_
  refine qo 7 25 (.bool true) ?_
  refine fj j19 s18 (ct (xn 1 fun _ j21=>?_))
  refine qo 0 7 (U1 6) ?_
  refine fin (j21 _ _ ?_)
  obtain rfl:=of_some h
  exact nj _ _ ⟨(hs.conv rfl),eg⟩
  refine tb 6 24 (ef hc) ?_
  refine qo 7 25 (.bool false) ?_
  refine fj j19 s18 (cf (xk ?_))
  obtain rfl:=of_some h
  exact nj _ _ ⟨(hs.conv rfl),eg⟩
  clear hj hs
  rintro a w ⟨hs,g16,rfl⟩
  refine T s17 (xs fun _ s22=>(xn 12 fun _ j23=>?_))
  refine qo 0 26 (.pointer (some ⟨b1,1,none⟩)) ?_
  refine tkt 1 27 (ag .u64 a0_1) (yN hs 1 1 25 113 rfl (mid_of rfl) (enc_len _ _) .grow) ?_
  refine qo 2 28 (.pointer (some ⟨b1,26,none⟩)) ?_
  refine tkt 3 29 (I8 a0_2) (yv hs 1 26 3 rfl (get_post 0 rfl rfl) .grow) ?_
  refine qo 4 30 (U1 y5) ?_
  obtain ⟨r6,hg,h⟩:=ob h
  refine so 5 (oC 31 hs (ref08_put.ok hg _) fun w gw hs=>?_)
  refine nq 6 [(32,I8 r3),(33,I8 (isub .i64 r3 1))] ?_
  obtain ⟨r7,hg,h⟩:=ob h
  refine so 8 (oC 34 hs (ref08_put.ok hg _) fun w gw hs=>?_)
  obtain ⟨r8,hg,h⟩:=ob h
  refine so 9 (oC 35 hs (ref08_Permute.ok hg _) fun w gw hs=>?_)
  refine qo 10 36 (.pointer (some ⟨b1,1,none⟩)) ?_
  refine so 11 (oM 113 (ag .u64 r8) 1 25 (enc .u64 r8) hs 1 rfl (enc_len _ _) (by simp [enc_len]) (enc_one _ _) (splice_row rfl) fun w kp hs=>?_)
  refine fj j23 s22 (xs fun _ s24=>(xn 2 fun _ j25=>?_))
  refine qo 0 37 (.pointer (some ⟨b1,26,none⟩)) ?_
  refine wpS.only 1 (oQ 3 (I8 0) 26 hs 1 rfl rfl (by simp [enc_len]) (set_post 0 rfl) ?_)
  intro w kp hs
  try dsimp only [List.set] at hs
  refine ⟨fun _=>trivial,?_⟩
  refine fj j25 s24 (xn 2 fun _ j26=>?_)
  refine qo 0 38 (.pointer (some ⟨b1,27,none⟩)) ?_
  refine wpS.only 1 (oQ 4 (.bool true) 27 hs 1 rfl rfl (by simp [enc_len]) (set_post 1 rfl) ?_)
  intro w kp hs
  try dsimp only [List.set] at hs
  refine ⟨fun _=>trivial,?_⟩
  refine fin (j26 _ _ ?_)
  obtain ⟨rfl,rfl,rfl,rfl⟩:=os4 h
  exact nj _ _ ⟨(hs.conv rfl),eg⟩
 clear hj hs
 rintro a w ⟨hs,g10,rfl⟩
 refine T s11 (xs fun _ s27=>(xn 1 fun _ j28=>?_))
 refine qo 0 8 (.slice none 0 0) ?_
 refine fj j28 s27 (xs fun _ s29=>?_)
 have hs:=hs.addNilL CB 5
 obtain ⟨⟨y11,y12_0,y12_1,y12_2,y12_3⟩,hy,hk0⟩:=ob h
 refine wp_exq (N:=fun a w=>∃ y11_A y11_n y11_c,St w0 [] [.ownL CB y11_A y11_n y11_c y11 5,.blk b2 (vl [I8 0]++enc .u64 (zeroA 25)++vl [I8 0,.bool false]) 115,.blk b1 (vl [I8 y12_0]++enc .u64 y12_1++vl [I8 y12_2,.bool y12_3]) 115] [] w∧∃ g31,a=fr g31 73 [(2,[P0 b1]),(4,[P0 b2,.slice none 0 0]),(8,[.slice y11_A y11_n y11_c])]) (fun N0 nn0=>?_) ?_
 clear hk0
 refine xb ?_
 refine wp_loop_k (fun n a w=>∃ z9 z10_0 z10_1 z10_2 z10_3,∃ z9_A z9_n z9_c,ref08_Squeeze.l0 K n a1 r3 z9 z10_0 z10_1 z10_2 z10_3=some (y11,y12_0,y12_1,y12_2,y12_3)∧St w0 [] [.ownL CB z9_A z9_n z9_c z9 5,.blk b2 (vl [I8 0]++enc .u64 (zeroA 25)++vl [I8 0,.bool false]) 115,.blk b1 (vl [I8 z10_0]++enc .u64 z10_1++vl [I8 z10_2,.bool z10_3]) 115] [] w∧∃ g30,a=fr g30 73 [(1,[I8 a1,P0 b1]),(4,[P0 b2,.slice none 0 0,I8 r3]),(8,[.slice z9_A z9_n z9_c])]) K ⟨([]:List Int),y4_0,y4_1,y4_2,y4_3,none,0,0,hy,hs.conv rfl,eg⟩ ?_
 clear hs h hy
 rintro n a w ⟨z9,z10_0,z10_1,z10_2,z10_3,z9_A,z9_n,z9_c,h,hs,g30,rfl⟩ KL0 kl0
 cases n with
 | zero=>exact nomatch (show none=some _ from h)
 | succ n=>
  refine xs fun _ s32=>?_
  refine xs fun _ s33=>?_
  refine xn 4 fun _ j34=>?_
  refine qo 0 39 (.slice z9_A z9_n z9_c) ?_
  refine tkf 1 40 (I8 (z9.length:Int)) (yl (hs.rowL 0 rfl)) ?_
  refine qo 2 41 (I8 a1) ?_
  obtain ⟨hc,h⟩|⟨hc,h⟩:=of_if h
  refine tb 3 42 (dt hc) ?_
  refine fj j34 s33 (ct (xk (T s32 (xb ?_))))
  obtain ⟨⟨y13_0,y13_1,y13_2,y13_3⟩,hj,h⟩:=ob h
  refine xs fun _ s36=>wp_join (N:=fun a w=>St w0 [] [.ownL CB z9_A z9_n z9_c z9 5,.blk b2 (vl [I8 0]++enc .u64 (zeroA 25)++vl [I8 0,.bool false]) 115,.blk b1 (vl [I8 y13_0]++enc .u64 y13_1++vl [I8 y13_2,.bool y13_3]) 115] [] w∧∃ g35,a=fr g35 73 [(1,[I8 a1,P0 b1]),(4,[P0 b2,.slice none 0 0,I8 r3]),(8,[.slice z9_A z9_n z9_c])]) (fun N nj=>?_) ?_
  clear h
  have h:=hj
  refine xs fun _ s37=>?_
  refine xn 4 fun _ j38=>?_
  refine qo 0 43 (.pointer (some ⟨b1,26,none⟩)) ?_
  refine tkt 1 44 (I8 z10_2) (yv hs 2 26 3 rfl (get_post 0 rfl rfl) .grow) ?_
  refine qo 2 45 (I8 r3) ?_
  obtain ⟨hc,h⟩|⟨hc,h⟩:=of_if h
  refine tb 3 46 (et hc) ?_
  refine fj j38 s37 (ct (xs fun _ s39=>(xn 5 fun _ j40=>?_)))
  refine qo 0 47 (.pointer (some ⟨b1,1,none⟩)) ?_
  refine tkt 1 48 (ag .u64 z10_1) (yN hs 2 1 25 113 rfl (mid_of rfl) (enc_len _ _) .grow) ?_
  obtain ⟨r14,hg,h⟩:=ob h
  refine so 2 (oC 49 hs (ref08_Permute.ok hg _) fun w gw hs=>?_)
  refine qo 3 50 (.pointer (some ⟨b1,1,none⟩)) ?_
  refine so 4 (oM 113 (ag .u64 r14) 1 25 (enc .u64 r14) hs 2 rfl (enc_len _ _) (by simp [enc_len]) (enc_one _ _) (splice_row rfl) fun w kp hs=>?_)
  refine fj j40 s39 (xn 2 fun _ j41=>?_)
  refine qo 0 51 (.pointer (some ⟨b1,26,none⟩)) ?_
  refine wpS.only 1 (oQ 3 (I8 0) 26 hs 2 rfl rfl (by simp [enc_len]) (set_post 0 rfl) ?_)
  intro w kp hs
  try dsimp only [List.set] at hs
  refine ⟨fun _=>trivial,?_⟩
  refine fin (j41 _ _ ?_)
  obtain ⟨rfl,rfl,rfl,rfl⟩:=os4 h
  exact nj _ _ ⟨(hs.conv rfl),eg⟩
  refine tb 3 46 (ef hc) ?_
  refine fj j38 s37 (cf (xk ?_))
  obtain ⟨rfl,rfl,rfl,rfl⟩:=os4 h
  exact nj _ _ ⟨(hs.conv rfl),eg⟩
  clear hj hs
  rintro a w ⟨hs,g35,rfl⟩
  refine T s36 (xs fun _ s42=>?_)
  refine rg [14] (fun k=>True) 16 fun _ j43=>?_
  have hs:=hs.drawn1
  refine gq 0 52 (.slice z9_A z9_n z9_c) ?_
  refine gq 1 53 (.pointer (some ⟨b1,26,none⟩)) ?_
  refine wpG.take [2,3,5,6,11,12,13,14,15] 2 true (some 54) (I8 y13_2) (by kernel_rfl) (by kernel_rfl) (yv hs 2 26 3 rfl (get_post 0 rfl rfl) .grow) ?_
  refine gq 3 55 (I8 (iquo .i64 y13_2 8)) ?_
  refine gq 4 56 (.pointer (some ⟨b1,1,none⟩)) ?_
  obtain ⟨x15,hx,h⟩:=ob h
  have hx:=of_some hx
  subst hx
  obtain ⟨i0_44,i1_44,h⟩:=oc2 h
  refine tgf 5 57 (.pointer (some ⟨b1,1+((iquo .i64 y13_2 8):Int).toNat*1,none⟩)) (yi 113 112 25 1 .i64 (iquo .i64 y13_2 8) i0_44 i1_44) ?_
  refine wpG.take [6,11,12,13,14,15] 6 true (some 58) (U8 (rd y13_1 (iquo .i64 y13_2 8))) (by kernel_rfl) (by kernel_rfl) (yP 1 hs 2 112 (iquo .i64 y13_2 8) rfl i0_44 i1_44 (by simp [enc_len]) .grow) ?_
  refine gq 7 59 (.pointer (some ⟨b1,26,none⟩)) ?_
  refine wpG.take [8,9,10,11,12,13,14,15] 8 true (some 60) (I8 y13_2) (by kernel_rfl) (by kernel_rfl) (yv hs 2 26 3 rfl (get_post 0 rfl rfl) .grow) ?_
  refine gq 9 61 (I8 (irem .i64 y13_2 8)) ?_
  refine gq 10 62 (I8 (imul .i64 8 (irem .i64 y13_2 8))) ?_
  obtain ⟨h0,h⟩:=oc h
  refine tgf 11 63 (U8 (ishr .u64 (rd y13_1 (iquo .i64 y13_2 8)) (imul .i64 8 (irem .i64 y13_2 8)))) (ysr 112 .i64 h0) ?_
  refine gq 12 64 (U1 (iconv .u8 (ishr .u64 (rd y13_1 (iquo .i64 y13_2 8)) (imul .i64 8 (irem .i64 y13_2 8))))) ?_
  refine go 13 (oLt (C:=CB) 65 24 5 1 (U1 0) #[(0,U1 (iconv .u8 (ishr .u64 (rd y13_1 (iquo .i64 y13_2 8)) (imul .i64 8 (irem .i64 y13_2 8)))))] [(iconv .u8 (ishr .u64 (rd y13_1 (iquo .i64 y13_2 8)) (imul .i64 8 (irem .i64 y13_2 8))))] hs rfl (by decide) (by decide) fun s16_A s16_n s16_c w gw hs=>⟨.of gw,?_⟩)
  obtain ⟨h0,h⟩:=oc h
  refine go 14 (oAp (C:=CB) 66 24 24 5 1 140737488355328 hs 1 rfl (hs.rowL 0 rfl) h0 (by decide) (by decide) fun s17_A s17_n s17_c w hs=>⟨⟨fun hf=>absurd hf (by decide),.all _ _⟩,?_⟩)
  refine gq 15 8 (.slice s17_A s17_n s17_c) ?_
  refine gf (j43 _ _ ?_)
  refine T s42 (xn 5 fun _ j45=>?_)
  refine qo 0 67 (.pointer (some ⟨b1,26,none⟩)) ?_
  refine tkt 1 68 (I8 y13_2) (yv hs 3 26 3 rfl (get_post 0 rfl rfl) .grow) ?_
  refine nq 2 [(69,I8 (iadd .i64 y13_2 1)),(70,.pointer (some ⟨b1,26,none⟩))] ?_
  obtain ⟨x18,hx,h⟩:=ob h
  refine wpS.only 4 (oQ (he:=by cases hx; kernel_rfl) 3 (I8 x18) 26 hs 3 rfl rfl (by simp [enc_len]) (set_post 0 rfl) ?_)
  intro w kp hs
  try dsimp only [List.set] at hs
  refine ⟨fun _=>trivial,?_⟩
  refine fin (j45 _ _ (iN ?_))
  exact tn (kl0 _ _ ⟨n,ls n,(z9++([(iconv .u8 (ishr .u64 (rd y13_1 (iquo .i64 y13_2 8)) (imul .i64 8 (irem .i64 y13_2 8))))]:List Int)),y13_0,y13_1,x18,y13_3,s17_A,s17_n,s17_c,h,(dr [0,1,1,1] hs),eg⟩)
  refine tb 3 42 (df hc) ?_
  refine fj j34 s33 (cf (xexit (tx (tx (iH ?_)))))
  obtain ⟨rfl,rfl,rfl,rfl,rfl⟩:=os5 h
  exact exq_n (nn0 _ _ ⟨z9_A,z9_n,z9_c,(hs.conv rfl),eg⟩)
 clear hs h hy
 rintro a w ⟨y11_A,y11_n,y11_c,hs,g31,rfl⟩
 have h:=hk0
 refine T s29 (xs fun _ s46=>(xn 4 fun _ j47=>?_))
 refine tkt 0 71 (.agg (vl [I8 y12_0]++enc .u64 y12_1++vl [I8 y12_2,.bool y12_3]).toArray) (yW hs 2 28 115 rfl (by simp [enc_len]) .grow) ?_
 refine qo 1 72 (.slice y11_A y11_n y11_c) ?_
 refine so 2 (oW 28 115 (.agg (vl [I8 y12_0]++enc .u64 y12_1++vl [I8 y12_2,.bool y12_3]).toArray) (vl [I8 y12_0]++enc .u64 y12_1++vl [I8 y12_2,.bool y12_3]) hs 1 rfl (by simp [enc_len]) (by simp [enc_len]) (one_app (one_app (by simp [Value.oneCell']) (fun u hu=>enc_one _ _ u hu)) (by simp [Value.oneCell'])) fun w kp hs=>?_)
 refine qo 3 5 (.slice y11_A y11_n y11_c) ?_
 refine fj j47 s46 (xret ?_)
 obtain ⟨rfl,rfl,rfl,rfl,rfl⟩:=os5 h
 exact qq _ _ (pr (rr [.cell 4 115,.tmp 5] [.agg (vl [I8 y12_0]++enc .u64 y12_1++vl [I8 y12_2,.bool y12_3]).toArray,.slice y11_A y11_n y11_c] (.cons (rcN 28 hs 1 rfl (by simp [enc_len])) (.cons rt .nil))) ⟨⟨y11_A,y11_n,y11_c⟩,cr,(dr [1,0,0] hs)⟩)
theorem ref08_Absorb.ok {K:Nat}{a0_0:Int}{a0_1:Arr 25}{a0_2:Int}{a0_3:Bool}{a1:List Int}{r0_0:Int}{r0_1:Arr 25}{r0_2:Int}{r0_3:Bool}{a1_A:Option Addr}{a1_n a1_c:Nat}(h:ref08_Absorb.f K a0_0 a0_1 a0_2 a0_3 a1=some (r0_0,r0_1,r0_2,r0_3)) (w0:World) (hp1:RowL CB w0 a1_A a1_n a1_c a1):Ret Tryd.prog 86 #[.agg (vl [I8 a0_0]++enc .u64 a0_1++vl [I8 a0_2,.bool a0_3]).toArray,.slice a1_A a1_n a1_c] w0 (.agg (vl [I8 r0_0]++enc .u64 r0_1++vl [I8 r0_2,.bool r0_3]).toArray):=by
 refine calls_k Tryd.func86 rfl fun Q qq=>?_
 have hs:=St.startR (all_cons (RowP.ent hp1) all_nil)
 refine wc (a':=(fu 39 [.agg (vl [I8 a0_0]++enc .u64 a0_1++vl [I8 a0_2,.bool a0_3]).toArray,.slice a1_A a1_n a1_c])) ?_
 refine xs fun _ s1=>?_
 refine xn 2 fun _ j2=>?_
 refine so 0 (oB 2 115 (.agg (vl [I8 a0_0]++enc .u64 a0_1++vl [I8 a0_2,.bool a0_3]).toArray) hs (vl [I8 a0_0]++enc .u64 a0_1++vl [I8 a0_2,.bool a0_3]) fun b1 w gw hs=>?_)
 refine so 1 (oN 4 115 hs (vl [I8 0]++enc .u64 (zeroA 25)++vl [I8 0,.bool false]) (.agg (vl [I8 0]++enc .u64 (zeroA 25)++vl [I8 0,.bool false]).toArray) fun b2 w gw hs=>?_)
 refine fj j2 s1 (xs fun _ s3=>(xs fun _ s4=>(xn 2 fun _ j5=>?_)))
 refine qo 0 6 (.pointer (some ⟨b1,27,none⟩)) ?_
 cases a0_3 with
 | true=>
  have h:=of_if_t h
  refine tkt 1 7 (.bool true) (yv hs 1 27 4 rfl (get_post 1 rfl rfl) .grow) ?_
  refine fj j5 s4 (ct (xs fun _ s6=>(xn 2 fun _ j7=>?_)))
  refine tkt 0 8 (.agg (vl [I8 a0_0]++enc .u64 a0_1++vl [I8 a0_2,.bool true]).toArray) (yW hs 1 28 115 rfl (by simp [enc_len]) .grow) ?_
  refine so 1 (oW 28 115 (.agg (vl [I8 a0_0]++enc .u64 a0_1++vl [I8 a0_2,.bool true]).toArray) (vl [I8 a0_0]++enc .u64 a0_1++vl [I8 a0_2,.bool true]) hs 0 rfl (by simp [enc_len]) (by simp [enc_len]) (one_app (one_app (by simp [Value.oneCell']) (fun u hu=>enc_one _ _ u hu)) (by simp [Value.oneCell'])) fun w kp hs=>?_)
  refine fj j7 s6 (xret (tr ?_))
  obtain ⟨rfl,rfl,rfl,rfl⟩:=os4 h
  exact qq _ _ (pr (rr [.cell 4 115] [.agg (vl [I8 a0_0]++enc .u64 a0_1++vl [I8 a0_2,.bool true]).toArray] (.cons (rcN 28 hs 0 rfl (by simp [enc_len])) .nil)) ⟨cr,hs.none⟩)
 | false=>
  have h:=of_if_f h
  refine tkt 1 7 (.bool false) (yv hs 1 27 4 rfl (get_post 1 rfl rfl) .grow) ?_
  refine fj j5 s4 (cf (xk (T s3 (xs fun _ s8=>(xs fun _ s9=>(xn 1 fun _ j10=>?_))))))
  refine qo 0 5 (I8 0) ?_
  refine fj j10 s9 (?_)
  obtain ⟨⟨y5_0,y5_1,y5_2,y5_3⟩,hy,hk0⟩:=ob h
  refine wp_exq (N:=fun a w=>St w0 [] [.blk b2 (vl [I8 0]++enc .u64 (zeroA 25)++vl [I8 0,.bool false]) 115,.blk b1 (vl [I8 y5_0]++enc .u64 y5_1++vl [I8 y5_2,.bool y5_3]) 115] [.rowL CB a1_A a1_n a1_c a1] w∧∃ g12,a=fr g12 41 [(2,[P0 b1]),(4,[P0 b2])]) (fun N0 nn0=>?_) ?_
  clear hk0
  refine xb ?_
  refine wp_loop_k (fun n a w=>∃ z3 z4_0 z4_1 z4_2 z4_3,ref08_Absorb.l0 K n a1 z3 z4_0 z4_1 z4_2 z4_3=some (y5_0,y5_1,y5_2,y5_3)∧St w0 [] [.blk b2 (vl [I8 0]++enc .u64 (zeroA 25)++vl [I8 0,.bool false]) 115,.blk b1 (vl [I8 z4_0]++enc .u64 z4_1++vl [I8 z4_2,.bool z4_3]) 115] [.rowL CB a1_A a1_n a1_c a1] w∧∃ g11,a=fr g11 41 [(1,[.slice a1_A a1_n a1_c,P0 b1]),(4,[P0 b2,I8 z3])]) K ⟨0,a0_0,a0_1,a0_2,false,hy,hs.conv rfl,eg⟩ ?_
  clear hs h hy
  rintro n a w ⟨z3,z4_0,z4_1,z4_2,z4_3,h,hs,g11,rfl⟩ KL0 kl0
  cases n with
  | zero=>exact nomatch (show none=some _ from h)
  | succ n=>
   refine xs fun _ s13=>?_
   refine xs fun _ s14=>?_
   refine xn 4 fun _ j15=>?_
   refine nq 0 [(9,I8 z3),(10,.slice a1_A a1_n a1_c)] ?_
   refine tkf 2 11 (I8 (a1.length:Int)) (yl (hs.rowR 0 rfl)) ?_
   obtain ⟨hc,h⟩|⟨hc,h⟩:=of_if h
   refine tb 3 12 (dt hc) ?_
   refine fj j15 s14 (ct (xk (T s13 (?_))))
   obtain ⟨⟨y6_0,y6_1,y6_2,y6_3⟩,hj,h⟩:=ob h
   refine xs fun _ s17=>wp_join (N:=fun a w=>St w0 [] [.blk b2 (vl [I8 0]++enc .u64 (zeroA 25)++vl [I8 0,.bool false]) 115,.blk b1 (vl [I8 y6_0]++enc .u64 y6_1++vl [I8 y6_2,.bool y6_3]) 115] [.rowL CB a1_A a1_n a1_c a1] w∧∃ g16,a=fr g16 41 [(1,[.slice a1_A a1_n a1_c,P0 b1]),(4,[P0 b2,I8 z3])]) (fun N nj=>?_) ?_
   clear h
   have h:=hj
   refine xb (xs fun _ s18=>?_)
   refine rg [10] (fun k=>True) 11 fun _ j19=>?_
   have hs:=hs.drawn1
   refine gq 0 15 (.pointer (some ⟨b1,1,none⟩)) ?_
   refine tgt 1 16 (ag .u64 z4_1) (yN hs 1 1 25 113 rfl (mid_of rfl) (enc_len _ _) .grow) ?_
   refine gq 2 17 (.pointer (some ⟨b1,26,none⟩)) ?_
   refine tgt 3 18 (I8 z4_2) (yv hs 1 26 3 rfl (get_post 0 rfl rfl) .grow) ?_
   refine gq 4 19 (.slice a1_A a1_n a1_c) ?_
   refine gq 5 20 (I8 z3) ?_
   obtain ⟨h0,h1,h⟩:=oc2 h
   have i0_20:=h0
   have i1_20:=h1
   refine tgf 6 21 (PA CB a1_A z3) (yiL (C:=CB) 24 5 .i64 z3 (hs.rowR 0 rfl) h0 h1) ?_
   refine tgt 7 22 (U1 (rdL CB a1 z3)) (yL (C:=CB) 5 z3 (hs.rowR 0 rfl) rfl i0_20 i1_20) ?_
   obtain ⟨r7,hg,h⟩:=ob h
   refine go 8 (oC 23 hs (ref08_put.ok hg _) fun w gw hs=>⟨.of gw,?_⟩)
   refine gq 9 24 (.pointer (some ⟨b1,1,none⟩)) ?_
   refine go 10 (oM 113 (ag .u64 r7) 1 25 (enc .u64 r7) hs 1 rfl (enc_len _ _) (by simp [enc_len]) (enc_one _ _) (splice_row rfl) fun w kp hs=>⟨⟨fun hf=>absurd hf (by decide),.all _ _⟩,?_⟩)
   refine gf (j19 _ _ ?_)
   refine T s18 (xs fun _ s21=>(xn 5 fun _ j22=>?_))
   refine qo 0 25 (.pointer (some ⟨b1,26,none⟩)) ?_
   refine tkt 1 26 (I8 z4_2) (yv hs 1 26 3 rfl (get_post 0 rfl rfl) .grow) ?_
   refine nq 2 [(27,I8 (iadd .i64 z4_2 1)),(28,.pointer (some ⟨b1,26,none⟩))] ?_
   obtain ⟨x8,hx,h⟩:=ob h
   refine wpS.only 4 (oQ (he:=by cases hx; kernel_rfl) 3 (I8 x8) 26 hs 1 rfl rfl (by simp [enc_len]) (set_post 0 rfl) ?_)
   intro w kp hs
   try dsimp only [List.set] at hs
   refine ⟨fun _=>trivial,?_⟩
   refine fj j22 s21 (xs fun _ s23=>?_)
   refine rg [] (fun k=>True) 6 fun _ j24=>?_
   have hs:=hs.drawn1
   refine gq 0 29 (.pointer (some ⟨b1,26,none⟩)) ?_
   refine tgt 1 30 (I8 x8) (yv hs 1 26 3 rfl (get_post 0 rfl rfl) .grow) ?_
   refine gq 2 31 (P0 b1) ?_
   refine tgt 3 32 (I8 z4_0) (yv hs 1 0 3 rfl (get_pre rfl) .grow) ?_
   obtain ⟨r9,hg,h⟩:=ob h
   refine go 4 (oC 33 hs (ref08_Rate.ok hg _) fun w gw hs=>⟨.of gw,?_⟩)
   obtain ⟨hc,h⟩|⟨hc,h⟩:=of_if h
   refine gb 5 34 (et hc) ?_
   refine gf (j24 _ _ ?_)
   refine T s23 (ct (xs fun _ s25=>(xn 5 fun _ j26=>?_)))
   refine qo 0 35 (.pointer (some ⟨b1,1,none⟩)) ?_
   refine tkt 1 36 (ag .u64 r7) (yN hs 1 1 25 113 rfl (mid_of rfl) (enc_len _ _) .grow) ?_
   obtain ⟨r10,hg,h⟩:=ob h
   refine so 2 (oC 37 hs (ref08_Permute.ok hg _) fun w gw hs=>?_)
   refine qo 3 38 (.pointer (some ⟨b1,1,none⟩)) ?_
   refine so 4 (oM 113 (ag .u64 r10) 1 25 (enc .u64 r10) hs 1 rfl (enc_len _ _) (by simp [enc_len]) (enc_one _ _) (splice_row rfl) fun w kp hs=>?_)
   refine fj j26 s25 (xn 2 fun _ j27=>?_)
   refine qo 0 39 (.pointer (some ⟨b1,26,none⟩)) ?_
   refine wpS.only 1 (oQ 3 (I8 0) 26 hs 1 rfl rfl (by simp [enc_len]) (set_post 0 rfl) ?_)
   intro w kp hs
   try dsimp only [List.set] at hs
   refine ⟨fun _=>trivial,?_⟩
   refine fin (j27 _ _ (iN ?_))
   obtain ⟨rfl,rfl,rfl,rfl⟩:=os4 h
   exact nj _ _ ⟨(hs.conv rfl),eg⟩
   refine gb 5 34 (ef hc) ?_
   refine gf (j24 _ _ ?_)
   refine T s23 (cf (xk (iN ?_)))
   obtain ⟨rfl,rfl,rfl,rfl⟩:=os4 h
   exact nj _ _ ⟨(hs.conv rfl),eg⟩
   clear hj hs
   rintro a w ⟨hs,g16,rfl⟩
   refine T s17 (xn 3 fun _ j28=>?_)
   refine nq 0 [(13,I8 z3),(14,I8 (iadd .i64 z3 1))] ?_
   obtain ⟨x11,hx,h⟩:=ob h
   refine tkf 2 5 (I8 x11) (yn hx) ?_
   refine fin (j28 _ _ ?_)
   exact tn (kl0 _ _ ⟨n,ls n,x11,y6_0,y6_1,y6_2,y6_3,h,(hs.conv rfl),eg⟩)
   refine tb 3 12 (df hc) ?_
   refine fj j15 s14 (cf (xexit (tx (tx (iH ?_)))))
   obtain ⟨rfl,rfl,rfl,rfl⟩:=os4 h
   exact exq_n (nn0 _ _ ⟨(hs.conv rfl),eg⟩)
  clear hs h hy
  rintro a w ⟨hs,g12,rfl⟩
  have h:=hk0
  refine T s8 (xs fun _ s29=>(xn 2 fun _ j30=>?_))
  refine tkt 0 40 (.agg (vl [I8 y5_0]++enc .u64 y5_1++vl [I8 y5_2,.bool y5_3]).toArray) (yW hs 1 28 115 rfl (by simp [enc_len]) .grow) ?_
  refine so 1 (oW 28 115 (.agg (vl [I8 y5_0]++enc .u64 y5_1++vl [I8 y5_2,.bool y5_3]).toArray) (vl [I8 y5_0]++enc .u64 y5_1++vl [I8 y5_2,.bool y5_3]) hs 0 rfl (by simp [enc_len]) (by simp [enc_len]) (one_app (one_app (by simp [Value.oneCell']) (fun u hu=>enc_one _ _ u hu)) (by simp [Value.oneCell'])) fun w kp hs=>?_)
  refine fj j30 s29 (xret ?_)
  obtain ⟨rfl,rfl,rfl,rfl⟩:=os4 h
  exact qq _ _ (pr (rr [.cell 4 115] [.agg (vl [I8 y5_0]++enc .u64 y5_1++vl [I8 y5_2,.bool y5_3]).toArray] (.cons (rcN 28 hs 0 rfl (by simp [enc_len])) .nil)) ⟨cr,hs.none⟩)
theorem ref08_Sum.ok {K:Nat}{a0:Int}{a1:List Int}{a2:Int}{r0:List Int}{r1:Int}{a1_A:Option Addr}{a1_n a1_c:Nat}(h:ref08_Sum.f K a0 a1 a2=some (r0,r1)) (w0:World) (hp1:RowL CB w0 a1_A a1_n a1_c a1):Calls Tryd.prog 41 #[I8 a0,.slice a1_A a1_n a1_c,I8 a2] w0 fun e w'=>∃ h:(Option Addr × Nat × Nat),e = .returned (.tuple #[.slice h.1 h.2.1 h.2.2,I8 r1])∧St w0 [] [.ownL CB h.1 h.2.1 h.2.2 r0 5] [] w':=by
 refine calls_k Tryd.func41 rfl fun Q qq=>?_
 have hs:=St.startR (all_cons (RowP.ent hp1) all_nil)
 refine wc (a':=(fu 32 [I8 a0,.slice a1_A a1_n a1_c,I8 a2])) ?_
 refine xs fun _ s1=>?_
 refine xn 2 fun _ j2=>?_
 refine nq 0 [(6,.slice none 0 0),(7,I8 0)] ?_
 refine fj j2 s1 (xs fun _ s3=>(xn 8 fun _ j4=>?_))
 refine qo 0 13 (I8 a0) ?_
 obtain ⟨⟨r1_0,r1_1,r1_2,r1_3,r2⟩,hg,h⟩:=ob h
 refine so 1 (oC 14 hs (ref08_New.ok hg _) fun w gw hs=>?_)
 refine nq 2 [(12,.tuple #[.agg (vl [I8 r1_0]++enc .u64 r1_1++vl [I8 r1_2,.bool r1_3]).toArray,I8 r2]),(15,.agg (vl [I8 r1_0]++enc .u64 r1_1++vl [I8 r1_2,.bool r1_3]).toArray),(16,I8 r2)] ?_
 refine so 5 (oN 8 115 hs (vl [I8 0]++enc .u64 (zeroA 25)++vl [I8 0,.bool false]) (.agg (vl [I8 0]++enc .u64 (zeroA 25)++vl [I8 0,.bool false]).toArray) fun b3 w gw hs=>?_)
 refine so 6 (oW 28 115 (.agg (vl [I8 r1_0]++enc .u64 r1_1++vl [I8 r1_2,.bool r1_3]).toArray) (vl [I8 r1_0]++enc .u64 r1_1++vl [I8 r1_2,.bool r1_3]) hs 0 rfl (by simp [enc_len]) (by simp [enc_len]) (one_app (one_app (by simp [Value.oneCell']) (fun u hu=>enc_one _ _ u hu)) (by simp [Value.oneCell'])) fun w kp hs=>?_)
 refine qo 7 9 (I8 r2) ?_
 refine fj j4 s3 (xs fun _ s5=>(xs fun _ s6=>(xn 2 fun _ j7=>?_)))
 refine qo 0 17 (I8 r2) ?_
 obtain ⟨hc,h⟩|⟨hc,h⟩:=of_if h
 refine tb 1 18 (nf hc) ?_
 refine fj j7 s6 (cf (xk (T s5 (xs fun _ s8=>(xs fun _ s9=>(xn 6 fun _ j10=>?_))))))
 refine qo 0 20 (I8 a2) ?_
 obtain ⟨hc,h⟩|⟨hc,h⟩:=of_if h
 refine tb 1 21 (dt hc) ?_
 refine nq 2 [(22,.bool true),(23,undef),(24,undef),(25,.bool true)] ?_
 refine fj j10 s9 (ct (xs fun _ s11=>(xn 2 fun _ j12=>?_)))
 refine nq 0 [(6,.slice none 0 0),(7,I8 8)] ?_
 refine fj j12 s11 (xret (tr ?_))
 obtain ⟨rfl,rfl⟩:=os2 h
 have hs:=hs.addNilL CB 5
 exact qq _ _ (pt [6,7] [.slice none 0 0,I8 8] ⟨⟨none,0,0⟩,cr,(pz (dr [1,0] hs))⟩)
 refine tb 1 21 (df hc) ?_
 refine nq 2 [(22,.bool false),(23,I8 a2)] ?_
 obtain ⟨hc,h⟩|⟨hc,h⟩:=of_if h
 refine tb 4 24 (dt hc) ?_
 refine qo 5 25 (.bool true) ?_
 refine fj j10 s9 (ct (xs fun _ s13=>(xn 2 fun _ j14=>?_)))
 refine nq 0 [(6,.slice none 0 0),(7,I8 8)] ?_
 refine fj j14 s13 (xret (tr ?_))
 obtain ⟨rfl,rfl⟩:=os2 h
 have hs:=hs.addNilL CB 5
 exact qq _ _ (pt [6,7] [.slice none 0 0,I8 8] ⟨⟨none,0,0⟩,cr,(pz (dr [1,0] hs))⟩)
 refine tb 4 24 (df hc) ?_
 refine qo 5 25 (.bool false) ?_
 refine fj j10 s9 (cf (xk (T s8 (xs fun _ s15=>(xn 11 fun _ j16=>?_)))))
 refine tkt 0 27 (.agg (vl [I8 r1_0]++enc .u64 r1_1++vl [I8 r1_2,.bool r1_3]).toArray) (yW hs 0 28 115 rfl (by simp [enc_len]) .grow) ?_
 refine qo 1 28 (.slice a1_A a1_n a1_c) ?_
 obtain ⟨⟨r4_0,r4_1,r4_2,r4_3⟩,hg,h⟩:=ob h
 refine so 2 (oC 29 hs (ref08_Absorb.ok hg _ (hs.rowR 0 rfl)) fun w gw hs=>?_)
 refine qo 3 30 (I8 a2) ?_
 obtain ⟨⟨r5_0,r5_1,r5_2,r5_3,r6⟩,hg,h⟩:=ob h
 refine wpS.only 4 (oH 31 hs (ref08_Squeeze.ok hg _) ?_)
 rintro ⟨r6_A,r6_n,r6_c⟩ w gw hs
 have hs:=hs.conv (L':=[.ownL CB r6_A r6_n r6_c r6 5,.blk b3 (vl [I8 r1_0]++enc .u64 r1_1++vl [I8 r1_2,.bool r1_3]) 115]) rfl
 refine ⟨fun _=>trivial,?_⟩
 refine nq 5 [(26,.tuple #[.agg (vl [I8 r5_0]++enc .u64 r5_1++vl [I8 r5_2,.bool r5_3]).toArray,.slice r6_A r6_n r6_c]),(32,.agg (vl [I8 r5_0]++enc .u64 r5_1++vl [I8 r5_2,.bool r5_3]).toArray),(33,.slice r6_A r6_n r6_c)] ?_
 refine so 8 (oN 10 115 hs (vl [I8 0]++enc .u64 (zeroA 25)++vl [I8 0,.bool false]) (.agg (vl [I8 0]++enc .u64 (zeroA 25)++vl [I8 0,.bool false]).toArray) fun b7 w gw hs=>?_)
 refine so 9 (oW 28 115 (.agg (vl [I8 r5_0]++enc .u64 r5_1++vl [I8 r5_2,.bool r5_3]).toArray) (vl [I8 r5_0]++enc .u64 r5_1++vl [I8 r5_2,.bool r5_3]) hs 0 rfl (by simp [enc_len]) (by simp [enc_len]) (one_app (one_app (by simp [Value.oneCell']) (fun u hu=>enc_one _ _ u hu)) (by simp [Value.oneCell'])) fun w kp hs=>?_)
 refine qo 10 11 (.slice r6_A r6_n r6_c) ?_
 refine fj j16 s15 (xs fun _ s17=>(xn 3 fun _ j18=>?_))
 refine nq 0 [(34,.slice r6_A r6_n r6_c),(6,.slice r6_A r6_n r6_c),(7,I8 0)] ?_
 refine fj j18 s17 (xret ?_)
 obtain ⟨rfl,rfl⟩:=os2 h
 exact qq _ _ (pt [6,7] [.slice r6_A r6_n r6_c,I8 0] ⟨⟨r6_A,r6_n,r6_c⟩,cr,(pz (dr [0,1,0] hs))⟩)
 refine tb 1 18 (nt hc) ?_
 refine fj j7 s6 (ct (xs fun _ s19=>(xn 3 fun _ j20=>?_)))
 refine nq 0 [(19,I8 r2),(6,.slice none 0 0),(7,I8 r2)] ?_
 refine fj j20 s19 (xret (tr ?_))
 obtain ⟨rfl,rfl⟩:=os2 h
 have hs:=hs.addNilL CB 5
 exact qq _ _ (pt [6,7] [.slice none 0 0,I8 r2] ⟨⟨none,0,0⟩,cr,(pz (dr [1,0] hs))⟩)
theorem ref01_such.ok {K:Nat}{a0:List Int}{a1 a2:Int}{r0:Bool}{a0_A:Option Addr}{a0_n a0_c:Nat}(h:ref01_such.f K a0 a1 a2=some r0) (w0:World) (hp0:RowL CB w0 a0_A a0_n a0_c a0):Ret Tryd.prog 105 #[.slice a0_A a0_n a0_c,I8 a1,I8 a2] w0 (.bool r0):=by
 refine calls_k Tryd.func105 rfl fun Q qq=>?_
 have hs:=St.startR (all_cons (RowP.ent hp0) all_nil)
 refine wc (a':=(fu 23 [.slice a0_A a0_n a0_c,I8 a1,I8 a2])) ?_
 refine xs fun _ s1=>?_
 refine xn 1 fun _ j2=>?_
 refine qo 0 6 (.bool false) ?_
 refine fj j2 s1 (xs fun _ s3=>(xn 20 fun _ j4=>?_))
 refine qo 0 7 (I8 a1) ?_
 obtain ⟨hc,h⟩|⟨hc,h⟩:=of_if h
 refine tb 1 8 (dt hc) ?_
 refine nq 2 [(9,.bool true),(10,I8 a1)] ?_
 obtain ⟨hc,h⟩|⟨hc,h⟩:=of_if h
 refine tb 4 11 (dt hc) ?_
 refine nq 5 [(12,.bool true),(13,.bool true),(14,I8 a2)] ?_
 obtain ⟨hc,h⟩|⟨hc,h⟩:=of_if h
 refine tb 8 15 (dt hc) ?_
 refine nq 9 [(16,.bool true),(17,.bool true),(18,I8 a2),(19,.slice a0_A a0_n a0_c)] ?_
 refine tkf 13 20 (I8 (a0.length:Int)) (yl (hs.rowR 0 rfl)) ?_
 refine nq 14 [(21,I8 (imul .i64 (a0.length:Int) 8)),(22,I8 a1)] ?_
 obtain ⟨h0,h⟩:=oc h
 refine tkf 16 23 (I8 (iquo .i64 (imul .i64 (a0.length:Int) 8) a1)) (yq 3 h0) ?_
 refine nq 17 [(24,.bool (decide (a2≤(iquo .i64 (imul .i64 (a0.length:Int) 8) a1)))),(25,.bool (decide (a2≤(iquo .i64 (imul .i64 (a0.length:Int) 8) a1)))),(6,.bool (decide (a2≤(iquo .i64 (imul .i64 (a0.length:Int) 8) a1))))] ?_
 refine fj j4 s3 (xret ?_)
 obtain rfl:=of_some h
 exact qq _ _ (pt [6] [.bool (decide (a2≤(iquo .i64 (imul .i64 (a0.length:Int) 8) a1)))] ⟨cr,hs.none⟩)
 refine tb 8 15 (df hc) ?_
 refine nq 9 [(16,.bool false),(17,.bool false),(18,undef),(19,undef),(20,undef),(21,undef),(22,undef),(23,undef),(24,undef),(25,.bool false),(6,.bool false)] ?_
 refine fj j4 s3 (xret ?_)
 obtain rfl:=of_some h
 exact qq _ _ (pt [6] [.bool false] ⟨cr,hs.none⟩)
 refine tb 4 11 (df hc) ?_
 refine nq 5 [(12,.bool false),(13,.bool false),(14,undef),(15,undef),(16,.bool false),(17,.bool false),(18,undef),(19,undef),(20,undef),(21,undef),(22,undef),(23,undef),(24,undef),(25,.bool false),(6,.bool false)] ?_
 refine fj j4 s3 (xret ?_)
 obtain rfl:=of_some h
 exact qq _ _ (pt [6] [.bool false] ⟨cr,hs.none⟩)
 refine tb 1 8 (df hc) ?_
 refine nq 2 [(9,.bool false),(10,undef),(11,undef),(12,.bool false),(13,.bool false),(14,undef),(15,undef),(16,.bool false),(17,.bool false),(18,undef),(19,undef),(20,undef),(21,undef),(22,undef),(23,undef),(24,undef),(25,.bool false),(6,.bool false)] ?_
 refine fj j4 s3 (xret ?_)
 obtain rfl:=of_some h
 exact qq _ _ (pt [6] [.bool false] ⟨cr,hs.none⟩)
theorem ref01_Unpack.ok {K:Nat}{a0:List Int}{a1 a2:Int}{r0:List Int}{a0_A:Option Addr}{a0_n a0_c:Nat}(h:ref01_Unpack.f K a0 a1 a2=some r0) (w0:World) (hp0:RowL CB w0 a0_A a0_n a0_c a0):Calls Tryd.prog 82 #[.slice a0_A a0_n a0_c,I8 a1,I8 a2] w0 fun e w'=>∃ h:(Option Addr × Nat × Nat),e = .returned (.slice h.1 h.2.1 h.2.2)∧St w0 [] [.ownL (CI .u32) h.1 h.2.1 h.2.2 r0 70] [] w':=by
 refine calls_k Tryd.func82 rfl fun Q qq=>?_
 have hs:=St.startR (all_cons (RowP.ent hp0) all_nil)
 refine wc (a':=(fu 48 [.slice a0_A a0_n a0_c,I8 a1,I8 a2])) ?_
 refine xs fun _ s1=>?_
 refine xn 1 fun _ j2=>?_
 refine qo 0 6 (.slice none 0 0) ?_
 refine fj j2 s1 (xs fun _ s3=>(xs fun _ s4=>(xn 5 fun _ j5=>?_)))
 refine nq 0 [(12,.slice a0_A a0_n a0_c),(13,I8 a1),(14,I8 a2)] ?_
 obtain ⟨r1,hg,h⟩:=ob h
 cases r1 with
 | true=>
  have h:=of_if_t h
  refine so 3 (oC 15 hs (ref01_such.ok hg _ (hs.rowR 0 rfl)) fun w gw hs=>?_)
  refine qo 4 16 (.bool false) ?_
  refine fj j5 s4 (cf (xk (T s3 (xs fun _ s6=>(xn 1 fun _ j7=>?_)))))
  refine qo 0 7 (.slice none 0 0) ?_
  refine fj j7 s6 (xs fun _ s8=>(xs fun _ s9=>(xn 1 fun _ j10=>?_)))
  refine qo 0 8 (I8 0) ?_
  refine fj j10 s9 (?_)
  have hs:=hs.addNilL (CI .u32) 70
  obtain ⟨y4,hy,hk0⟩:=ob h
  refine wp_exq (N:=fun a w=>∃ y4_A y4_n y4_c,St w0 [] [.ownL (CI .u32) y4_A y4_n y4_c y4 70] [.rowL CB a0_A a0_n a0_c a0] w∧∃ g12,a=fr g12 51 [(6,[.slice none 0 0,.slice y4_A y4_n y4_c])]) (fun N0 nn0=>?_) ?_
  clear hk0
  refine xb ?_
  refine wp_loop_k (fun n a w=>∃ z2 z3,∃ z3_A z3_n z3_c,ref01_Unpack.l0 K n a0 a1 a2 z2 z3=some y4∧St w0 [] [.ownL (CI .u32) z3_A z3_n z3_c z3 70] [.rowL CB a0_A a0_n a0_c a0] w∧∃ g11,a=fr g11 51 [(0,[.slice a0_A a0_n a0_c,I8 a1,I8 a2]),(6,[.slice none 0 0,.slice z3_A z3_n z3_c,I8 z2])]) K ⟨0,([]:List Int),none,0,0,hy,hs.conv rfl,eg⟩ ?_
  clear hs h hy
  rintro n a w ⟨z2,z3,z3_A,z3_n,z3_c,h,hs,g11,rfl⟩ KL0 kl0
  cases n with
  | zero=>exact nomatch (show none=some _ from h)
  | succ n=>
   refine xs fun _ s13=>?_
   refine xs fun _ s14=>?_
   refine xn 3 fun _ j15=>?_
   refine nq 0 [(17,I8 z2),(18,I8 a2)] ?_
   obtain ⟨hc,h⟩|⟨hc,h⟩:=of_if h
   refine tb 2 19 (dt hc) ?_
   refine fj j15 s14 (ct (xk (T s13 (xs fun _ s16=>(xb (xs fun _ s17=>(xn 1 fun _ j18=>?_)))))))
   refine qo 0 9 (U4 0) ?_
   refine fj j18 s17 (xs fun _ s19=>(xs fun _ s20=>(xn 3 fun _ j21=>?_)))
   refine nq 0 [(22,I8 a1),(23,I8 (isub .i64 a1 1))] ?_
   obtain ⟨x5,hx,h⟩:=ob h
   refine tkf 2 10 (I8 x5) (yn hx) ?_
   refine fj j21 s20 (?_)
   obtain ⟨y8,hy,hk1⟩:=ob h
   refine wp_exq (N:=fun a w=>St w0 [] [.ownL (CI .u32) z3_A z3_n z3_c z3 70] [.rowL CB a0_A a0_n a0_c a0] w∧∃ g23,a=fr g23 51 [(0,[.slice a0_A a0_n a0_c,I8 a1,I8 a2]),(6,[.slice none 0 0,.slice z3_A z3_n z3_c,I8 z2,U4 y8])]) (fun N1 nn1=>?_) ?_
   clear hk1
   refine xb ?_
   refine wp_loop_k (fun n a w=>∃ z6 z7,ref01_Unpack.l1 K n a0 a1 z2 z6 z7=some y8∧St w0 [] [.ownL (CI .u32) z3_A z3_n z3_c z3 70] [.rowL CB a0_A a0_n a0_c a0] w∧∃ g22,a=fr g22 51 [(0,[.slice a0_A a0_n a0_c,I8 a1,I8 a2]),(6,[.slice none 0 0,.slice z3_A z3_n z3_c,I8 z2,U4 z6,I8 z7])]) K ⟨0,x5,hy,hs.conv rfl,eg⟩ ?_
   clear hs h hy
   rintro n a w ⟨z6,z7,h,hs,g22,rfl⟩ KL1 kl1
   cases n with
   | zero=>exact nomatch (show none=some _ from h)
   | succ n=>
    refine xs fun _ s24=>?_
    refine xs fun _ s25=>?_
    refine xn 2 fun _ j26=>?_
    refine qo 0 24 (I8 z7) ?_
    obtain ⟨hc,h⟩|⟨hc,h⟩:=of_if h
    refine tb 1 25 (dt hc) ?_
    refine fj j26 s25 (ct (xk (T s24 (xs fun _ s27=>(xb (xs fun _ s28=>(xn 6 fun _ j29=>?_)))))))
    refine nq 0 [(28,I8 z2),(29,I8 a1),(30,I8 (imul .i64 z2 a1)),(31,I8 z7),(32,I8 (iadd .i64 (imul .i64 z2 a1) z7))] ?_
    obtain ⟨x9,hx,h⟩:=ob h
    refine tkf 5 11 (I8 x9) (yn hx) ?_
    refine fj j29 s28 (xn 14 fun _ j30=>?_)
    refine nq 0 [(33,U4 z6),(34,U4 (imul .u32 z6 2)),(35,.slice a0_A a0_n a0_c),(36,I8 x9),(37,I8 (iquo .i64 x9 8))] ?_
    obtain ⟨x10,hx,h⟩:=ob h
    have hx:=of_some hx
    subst hx
    obtain ⟨h0,h1,h⟩:=oc2 h
    have i0_31:=h0
    have i1_31:=h1
    refine tkf 5 38 (PA CB a0_A (iquo .i64 x9 8)) (yiL (C:=CB) 24 5 .i64 (iquo .i64 x9 8) (hs.rowR 0 rfl) h0 h1) ?_
    refine tkt 6 39 (U1 (rdL CB a0 (iquo .i64 x9 8))) (yL (C:=CB) 5 (iquo .i64 x9 8) (hs.rowR 0 rfl) rfl i0_31 i1_31) ?_
    refine nq 7 [(40,I8 x9),(41,I8 (irem .i64 x9 8))] ?_
    obtain ⟨h0,h⟩:=oc h
    refine tkf 9 42 (U1 (ishr .u8 (rdL CB a0 (iquo .i64 x9 8)) (irem .i64 x9 8))) (ysr 5 .i64 h0) ?_
    refine nq 10 [(43,U1 (iand .u8 (ishr .u8 (rdL CB a0 (iquo .i64 x9 8)) (irem .i64 x9 8)) 1)),(44,U4 (iconv .u32 (iand .u8 (ishr .u8 (rdL CB a0 (iquo .i64 x9 8)) (irem .i64 x9 8)) 1))),(45,U4 (iadd .u32 (imul .u32 z6 2) (iconv .u32 (iand .u8 (ishr .u8 (rdL CB a0 (iquo .i64 x9 8)) (irem .i64 x9 8)) 1))))] ?_
    obtain ⟨x11,hx,h⟩:=ob h
    refine tkf 13 9 (U4 x11) (yn hx) ?_
    refine fin (j30 _ _ (iN (T s27 (xn 3 fun _ j32=>?_))))
    refine nq 0 [(26,I8 z7),(27,I8 (isub .i64 z7 1))] ?_
    obtain ⟨x12,hx,h⟩:=ob h
    refine tkf 2 10 (I8 x12) (yn hx) ?_
    refine fin (j32 _ _ ?_)
    exact tn (kl1 _ _ ⟨n,ls n,x11,x12,h,(hs.conv rfl),eg⟩)
    refine tb 1 25 (df hc) ?_
    refine fj j26 s25 (cf (xexit (tx (tx (iH ?_)))))
    obtain rfl:=of_some h
    exact exq_n (nn1 _ _ ⟨(hs.conv rfl),eg⟩)
   clear hs h hy
   rintro a w ⟨hs,g23,rfl⟩
   have h:=hk1
   refine T s19 (xn 5 fun _ j33=>?_)
   refine nq 0 [(46,.slice z3_A z3_n z3_c),(47,U4 y8)] ?_
   refine so 2 (oLt (C:=(CI .u32)) 48 68 70 1 (U4 0) #[(0,U4 y8)] [y8] hs rfl (by decide) (by decide) fun s13_A s13_n s13_c w gw hs=>?_)
   obtain ⟨h0,h⟩:=oc h
   refine so 3 (oAp (C:=(CI .u32)) 49 68 68 70 4 35184372088832 hs 1 rfl (hs.rowL 0 rfl) h0 (by decide) (by decide) fun s14_A s14_n s14_c w hs=>?_)
   refine qo 4 7 (.slice s14_A s14_n s14_c) ?_
   refine fin (j33 _ _ (iN (T s16 (xn 3 fun _ j34=>?_))))
   refine nq 0 [(20,I8 z2),(21,I8 (iadd .i64 z2 1))] ?_
   obtain ⟨x15,hx,h⟩:=ob h
   refine tkf 2 8 (I8 x15) (yn hx) ?_
   refine fin (j34 _ _ ?_)
   exact tn (kl0 _ _ ⟨n,ls n,x15,(z3++([y8]:List Int)),s14_A,s14_n,s14_c,h,(dr [0,1] hs),eg⟩)
   refine tb 2 19 (df hc) ?_
   refine fj j15 s14 (cf (xexit (tx (tx (iH ?_)))))
   obtain rfl:=of_some h
   exact exq_n (nn0 _ _ ⟨z3_A,z3_n,z3_c,(hs.conv rfl),eg⟩)
  clear hs h hy
  rintro a w ⟨y4_A,y4_n,y4_c,hs,g12,rfl⟩
  have h:=hk0
  refine T s8 (xs fun _ s35=>(xn 2 fun _ j36=>?_))
  refine nq 0 [(50,.slice y4_A y4_n y4_c),(6,.slice y4_A y4_n y4_c)] ?_
  refine fj j36 s35 (xret ?_)
  obtain rfl:=of_some h
  exact qq _ _ (pt [6] [.slice y4_A y4_n y4_c] ⟨⟨y4_A,y4_n,y4_c⟩,cr,(pz hs)⟩)
 | false=>
  have h:=of_if_f h
  refine so 3 (oC 15 hs (ref01_such.ok hg _ (hs.rowR 0 rfl)) fun w gw hs=>?_)
  refine qo 4 16 (.bool true) ?_
  refine fj j5 s4 (ct (xs fun _ s37=>(xn 1 fun _ j38=>?_)))
  refine qo 0 6 (.slice none 0 0) ?_
  refine fj j38 s37 (xret (tr ?_))
  obtain rfl:=of_some h
  have hs:=hs.addNilL (CI .u32) 70
  exact qq _ _ (pt [6] [.slice none 0 0] ⟨⟨none,0,0⟩,cr,(pz hs)⟩)
theorem ref26_drawn.ok {K:Nat}{a0:List Int}{a1:Int}{r0:Arr 256}{r1:Int}{a0_A:Option Addr}{a0_n a0_c:Nat}(h:ref26_drawn.f K a0 a1=some (r0,r1)) (w0:World) (hp0:RowL CB w0 a0_A a0_n a0_c a0):Ret Tryd.prog 38 #[.slice a0_A a0_n a0_c,I8 a1] w0 (.tuple #[ag .i32 r0,I8 r1]):=by
 refine calls_k Tryd.func38 rfl fun Q qq=>?_
 have hs:=St.startR (all_cons (RowP.ent hp0) all_nil)
 refine wc (a':=(fu 47 [.slice a0_A a0_n a0_c,I8 a1])) ?_
 refine xs fun _ s1=>?_
 refine xn 2 fun _ j2=>?_
 refine so 0 (oN 4 32 hs (enc .i32 (zeroA 256)) (ag .i32 (zeroA 256)) fun b1 w gw hs=>?_)
 refine qo 1 5 (I8 0) ?_
 refine fj j2 s1 (xs fun _ s3=>(xn 8 fun _ j4=>?_))
 refine nq 0 [(13,.slice a0_A a0_n a0_c),(14,I8 a1)] ?_
 obtain ⟨⟨r2,r3⟩,hg,h⟩:=ob h
 refine wpS.only 2 (oH 15 hs (ref08_Sum.ok hg _ (hs.rowR 0 rfl)) ?_)
 rintro ⟨r2_A,r2_n,r2_c⟩ w gw hs
 have hs:=hs.conv (L':=[.ownL CB r2_A r2_n r2_c r2 5,.blk b1 (enc .i32 (zeroA 256)) 32]) rfl
 refine ⟨fun _=>trivial,?_⟩
 refine nq 3 [(12,.tuple #[.slice r2_A r2_n r2_c,I8 r3]),(16,.slice r2_A r2_n r2_c),(17,I8 r3),(6,.slice r2_A r2_n r2_c),(7,I8 r3)] ?_
 refine fj j4 s3 (xs fun _ s5=>(xn 6 fun _ j6=>?_))
 refine nq 0 [(18,.slice r2_A r2_n r2_c),(19,I8 a1),(20,I8 (imul .i64 a1 2)),(21,I8 (iquo .i64 (imul .i64 a1 2) 3))] ?_
 obtain ⟨r4,hg,h⟩:=ob h
 refine wpS.only 4 (oH 22 hs (ref01_Unpack.ok hg _ (hs.rowL 0 rfl)) ?_)
 rintro ⟨r4_A,r4_n,r4_c⟩ w gw hs
 have hs:=hs.conv (L':=[.ownL (CI .u32) r4_A r4_n r4_c r4 70,.ownL CB r2_A r2_n r2_c r2 5,.blk b1 (enc .i32 (zeroA 256)) 32]) rfl
 refine ⟨fun _=>trivial,?_⟩
 refine qo 5 8 (.slice r4_A r4_n r4_c) ?_
 refine fj j6 s5 (xs fun _ s7=>(xn 1 fun _ j8=>?_))
 refine so 0 (oN 9 32 hs (enc .i32 (zeroA 256)) (ag .i32 (zeroA 256)) fun b5 w gw hs=>?_)
 refine fj j8 s7 (xs fun _ s9=>(xn 1 fun _ j10=>?_))
 refine qo 0 10 (I8 0) ?_
 refine fj j10 s9 (xs fun _ s11=>(xs fun _ s12=>(xn 1 fun _ j13=>?_)))
 refine qo 0 11 (I8 0) ?_
 refine fj j13 s12 (?_)
 obtain ⟨⟨y9,y10⟩,hy,hk0⟩:=ob h
 refine wp_exq (N:=fun a w=>St w0 [] [.blk b5 (enc .i32 y10) 32,.ownL (CI .u32) r4_A r4_n r4_c r4 70,.ownL CB r2_A r2_n r2_c r2 5,.blk b1 (enc .i32 (zeroA 256)) 32] [.rowL CB a0_A a0_n a0_c a0] w∧∃ g15,a=fr g15 49 [(4,[P0 b1,I8 0]),(9,[P0 b5,I8 y9])]) (fun N0 nn0=>?_) ?_
 clear hk0
 refine xb ?_
 refine wp_loop_k (fun n a w=>∃ z6 z7 z8,ref26_drawn.l0 K n r4 z6 z7 z8=some (y9,y10)∧St w0 [] [.blk b5 (enc .i32 z8) 32,.ownL (CI .u32) r4_A r4_n r4_c r4 70,.ownL CB r2_A r2_n r2_c r2 5,.blk b1 (enc .i32 (zeroA 256)) 32] [.rowL CB a0_A a0_n a0_c a0] w∧∃ g14,a=fr g14 49 [(4,[P0 b1,I8 0]),(8,[.slice r4_A r4_n r4_c,P0 b5,I8 z6,I8 z7])]) K ⟨0,0,(zeroA 256),hy,hs.conv rfl,eg⟩ ?_
 clear hs h hy
 rintro n a w ⟨z6,z7,z8,h,hs,g14,rfl⟩ KL0 kl0
 cases n with
 | zero=>exact nomatch (show none=some _ from h)
 | succ n=>
  refine xs fun _ s16=>?_
  refine xs fun _ s17=>?_
  refine xn 8 fun _ j18=>?_
  refine nq 0 [(23,I8 z7),(24,.slice r4_A r4_n r4_c)] ?_
  refine tkf 2 25 (I8 (r4.length:Int)) (yl (hs.rowL 1 rfl)) ?_
  obtain ⟨hc,h⟩|⟨hc,h⟩:=of_if h
  refine tb 3 26 (dt hc) ?_
  refine nq 4 [(27,.bool true),(28,I8 z6)] ?_
  obtain ⟨hc,h⟩|⟨hc,h⟩:=of_if h
  refine tb 6 29 (dt hc) ?_
  refine qo 7 30 (.bool true) ?_
  refine fj j18 s17 (ct (xk (T s16 (?_))))
  obtain ⟨⟨y11,y12⟩,hj,h⟩:=ob h
  refine xs fun _ s20=>wp_join (N:=fun a w=>St w0 [] [.blk b5 (enc .i32 y12) 32,.ownL (CI .u32) r4_A r4_n r4_c r4 70,.ownL CB r2_A r2_n r2_c r2 5,.blk b1 (enc .i32 (zeroA 256)) 32] [.rowL CB a0_A a0_n a0_c a0] w∧∃ g19,a=fr g19 49 [(4,[P0 b1,I8 0]),(8,[.slice r4_A r4_n r4_c,P0 b5,I8 y11,I8 z7]),(28,[I8 z6,.bool true])]) (fun N nj=>?_) ?_
  clear h
  have h:=hj
  refine xb (xs fun _ s21=>(xn 5 fun _ j22=>?_))
  refine nq 0 [(33,.slice r4_A r4_n r4_c),(34,I8 z7)] ?_
  obtain ⟨h0,h1,h⟩:=oc2 h
  have i0_23:=h0
  have i1_23:=h1
  refine tkf 2 35 (PA (CI .u32) r4_A z7) (yiL (C:=(CI .u32)) 68 70 .i64 z7 (hs.rowL 1 rfl) h0 h1) ?_
  refine tkt 3 36 (U4 (rdL (CI .u32) r4 z7)) (yL (C:=(CI .u32)) 70 z7 (hs.rowL 1 rfl) rfl i0_23 i1_23) ?_
  obtain ⟨hc,h⟩|⟨hc,h⟩:=of_if h
  refine tb 4 37 (dt hc) ?_
  refine fj j22 s21 (ct (xs fun _ s24=>(xn 8 fun _ j25=>?_)))
  refine nq 0 [(38,I8 z6),(39,.slice r4_A r4_n r4_c),(40,I8 z7)] ?_
  obtain ⟨h0,h1,h⟩:=oc2 h
  have i0_26:=h0
  have i1_26:=h1
  refine tkf 3 41 (PA (CI .u32) r4_A z7) (yiL (C:=(CI .u32)) 68 70 .i64 z7 (hs.rowL 1 rfl) h0 h1) ?_
  refine tkt 4 42 (U4 (rdL (CI .u32) r4 z7)) (yL (C:=(CI .u32)) 70 z7 (hs.rowL 1 rfl) rfl i0_26 i1_26) ?_
  refine qo 5 43 (I4 (iconv .i32 (rdL (CI .u32) r4 z7))) ?_
  obtain ⟨i0_27,i1_27,h⟩:=oc2 h
  refine tkf 6 44 (P1 b5 z6) (yi 32 21 256 1 .i64 z6 i0_27 i1_27) ?_
  obtain ⟨x13,hx,h⟩:=ob h
  refine so 7 (oA 21 x13 z6 hs 0 rfl (by cases hx; kernel_rfl) i0_27 i1_27 fun w kp hs=>?_)
  refine fj j25 s24 (xn 3 fun _ j28=>?_)
  refine nq 0 [(45,I8 z6),(46,I8 (iadd .i64 z6 1))] ?_
  obtain ⟨x14,hx,h⟩:=ob h
  refine tkf 2 10 (I8 x14) (yn hx) ?_
  refine fin (j28 _ _ (iN ?_))
  obtain ⟨rfl,rfl⟩:=os2 h
  exact nj _ _ ⟨(hs.conv rfl),eg⟩
  refine tb 4 37 (df hc) ?_
  refine fj j22 s21 (cf (xk (iN ?_)))
  obtain ⟨rfl,rfl⟩:=os2 h
  exact nj _ _ ⟨(hs.conv rfl),eg⟩
  clear hj hs
  rintro a w ⟨hs,g19,rfl⟩
  refine T s20 (xn 3 fun _ j29=>?_)
  refine nq 0 [(31,I8 z7),(32,I8 (iadd .i64 z7 1))] ?_
  obtain ⟨x15,hx,h⟩:=ob h
  refine tkf 2 11 (I8 x15) (yn hx) ?_
  refine fin (j29 _ _ ?_)
  exact tn (kl0 _ _ ⟨n,ls n,y11,x15,y12,h,(hs.conv rfl),eg⟩)
  refine tb 6 29 (df hc) ?_
  refine qo 7 30 (.bool false) ?_
  refine fj j18 s17 (cf (xexit (tx (tx (iH ?_)))))
  obtain ⟨rfl,rfl⟩:=os2 h
  exact exq_n (nn0 _ _ ⟨(hs.conv rfl),eg⟩)
  refine tb 3 26 (df hc) ?_
  refine nq 4 [(27,.bool false),(28,undef),(29,undef),(30,.bool false)] ?_
  refine fj j18 s17 (cf (xexit (tx (tx (iH ?_)))))
  obtain ⟨rfl,rfl⟩:=os2 h
  exact exq_n (nn0 _ _ ⟨(hs.conv rfl),eg⟩)
 clear hs h hy
 rintro a w ⟨hs,g15,rfl⟩
 have h:=hk0
 refine T s11 (xs fun _ s30=>(xn 4 fun _ j31=>?_))
 refine tkt 0 47 (ag .i32 y10) (yWe 32 hs 0 .grow) ?_
 refine qo 1 48 (I8 y9) ?_
 refine so 2 (oWe 32 .i32 y10 hs 3 fun w kp hs=>?_)
 refine qo 3 5 (I8 y9) ?_
 refine fj j31 s30 (xret ?_)
 obtain ⟨rfl,rfl⟩:=os2 h
 exact qq _ _ (pr (rr [.cell 4 32,.tmp 5] [ag .i32 y10,I8 y9] (.cons (rcN 256 hs 3 rfl (enc_len _ _)) (.cons rt .nil))) ⟨cr,hs.none⟩)
end Go.Proofs.YtemdbgmldljbpaaDoor
