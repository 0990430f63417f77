/- own -/
import Derived.Test.YtemdbgmldljbpaaDoorMh
import Derived.Test.YtemdbgmldljbpaaDoorProg
import Derived.Test.YtemdbgmldljbpaaDoorYF0
import Derived.Test.YtemdbgmldljbpaaDoorYX1
import Derived.Test.YtemdbgmldljbpaaDoorYX3
import Derived.Test.YtemdbgmldljbpaaDoorYX4
set_option linter.unusedVariables false
set_option linter.unusedSimpArgs false
set_option maxRecDepth 100000
set_option maxHeartbeats 4000000
namespace Go.Proofs.YtemdbgmldljbpaaDoor
open Go.Mx
attribute [local irreducible] wpOp
theorem keccak_Squeeze.ok {K:Nat}{a0_0:Int}{a0_1:Arr 25}{a0_2:Int}{a0_3:Bool}{a1 r0_0:Int}{r0_1:Arr 25}{r0_2:Int}{r0_3:Bool}{r1:List Int}(h:keccak_Squeeze.f K a0_0 a0_1 a0_2 a0_3 a1=some (r0_0,r0_1,r0_2,r0_3,r1)) (w0:World) (hg0:RowL CW w0 (some ⟨0,0,none⟩) 1 1 [tab_0]) (hg1:RowL CV w0 (some ⟨1,0,none⟩) 1 1 [tab_1]) (hg2:RowL CV w0 (some ⟨2,0,none⟩) 1 1 [tab_2]):Calls Tryd.prog 79 #[.agg (vl [I8 a0_0]++enc .u64 a0_1++vl [I8 a0_2,.bool a0_3]).toArray,I8 a1] w0 fun e w'=>∃ h:(Option Addr × Nat × Nat),e = .returned (.tuple #[.agg (vl [I8 r0_0]++enc .u64 r0_1++vl [I8 r0_2,.bool r0_3]).toArray,.slice h.1 h.2.1 h.2.2])∧St w0 [] [.ownL CB h.1 h.2.1 h.2.2 r1 5] [] w':=by
 refine calls_k Tryd.func79 rfl fun Q qq=>?_
 have hs:=St.startR (all_cons (RowP.ent hg0) (all_cons (RowP.ent hg1) (all_cons (RowP.ent hg2) all_nil)))
 refine wc (a':=(fu 54 [.agg (vl [I8 a0_0]++enc .u64 a0_1++vl [I8 a0_2,.bool a0_3]).toArray,I8 a1])) ?_
 refine xs fun _ s1=>?_
 refine xn 3 fun _ j2=>?_
 refine so 0 (oB 2 115 (.agg (vl [I8 a0_0]++enc .u64 a0_1++vl [I8 a0_2,.bool a0_3]).toArray) hs (vl [I8 a0_0]++enc .u64 a0_1++vl [I8 a0_2,.bool a0_3]) fun b1 w gw hs=>?_)
 refine so 1 (oN 4 115 hs (vl [I8 0]++enc .u64 (zeroA 25)++vl [I8 0,.bool false]) (.agg (vl [I8 0]++enc .u64 (zeroA 25)++vl [I8 0,.bool false]).toArray) fun b2 w gw hs=>?_)
 refine qo 2 5 (.slice none 0 0) ?_
 refine fj j2 s1 (xs fun _ s3=>(xs fun _ s4=>(xn 2 fun _ j5=>?_)))
 refine qo 0 8 (I8 a1) ?_
 obtain ⟨hc,h⟩|⟨hc,h⟩:=of_if h
 refine tb 1 9 (dt hc) ?_
 refine fj j5 s4 (ct (xs fun _ s6=>(xn 3 fun _ j7=>?_)))
 refine tkt 0 10 _ (yWs 28 115 hs 1 .grow) ?_
 refine so 1 (oW 28 115 (.agg (vl [I8 a0_0]++enc .u64 a0_1++vl [I8 a0_2,.bool a0_3]).toArray) (vl [I8 a0_0]++enc .u64 a0_1++vl [I8 a0_2,.bool a0_3]) hs 0 rfl (by simp [enc_len]) (by simp [enc_len]) (one_app (one_app (by simp [Value.oneCell']) (fun u hu=>enc_one _ _ u hu)) (by simp [Value.oneCell'])) fun w kp hs=>?_)
 refine qo 2 5 (.slice none 0 0) ?_
 refine fj j7 s6 (xret (tr ?_))
 obtain ⟨rfl,rfl,rfl,rfl,rfl⟩:=os5 h
 have hs:=hs.addNilL CB 5
 exact qq _ _ (pr (rr [.cell 4 115,.tmp 5] [.agg (vl [I8 a0_0]++enc .u64 a0_1++vl [I8 a0_2,.bool a0_3]).toArray,.slice none 0 0] (.cons (rcN 28 hs 1 rfl (by simp [enc_len])) (.cons rt .nil))) ⟨⟨none,0,0⟩,cr,(pz (dr [1,0,0] hs))⟩)
 refine tb 1 9 (df hc) ?_
 refine fj j5 s4 (cf (xk (T s3 (?_))))
 obtain ⟨⟨y3_0,y3_1,y3_2,y3_3⟩,hj,h⟩:=ob h
 refine xs fun _ s9=>wp_join (N:=fun a w=>St w0 [] [.blk b2 (vl [I8 0]++enc .u64 (zeroA 25)++vl [I8 0,.bool false]) 115,.blk b1 (vl [I8 y3_0]++enc .u64 y3_1++vl [I8 y3_2,.bool y3_3]) 115] [.rowL CW (some ⟨0,0,none⟩) 1 1 ([tab_0]),.rowL CV (some ⟨1,0,none⟩) 1 1 ([tab_1]),.rowL CV (some ⟨2,0,none⟩) 1 1 ([tab_2])] w∧∃ g8,a=fr g8 56 [(1,[I8 a1,P0 b1]),(4,[P0 b2,.slice none 0 0])]) (fun N nj=>?_) ?_
 clear h
 have h:=hj
 refine xs fun _ s10=>?_
 refine xn 3 fun _ j11=>?_
 refine qo 0 11 (.pointer (some ⟨b1,27,none⟩)) ?_
 cases a0_3 with
 | true=>
  have h:=of_if_t h
  refine tkt 1 12 _ (yv hs 1 27 4 rfl (get_post 1 rfl rfl) .grow) ?_
  refine qo 2 13 (.bool false) ?_
  refine fj j11 s10 (cf (xk ?_))
  obtain ⟨rfl,rfl,rfl,rfl⟩:=os4 h
  exact nj _ _ ⟨(hs.conv rfl),eg⟩
 | false=>
  have h:=of_if_f h
  refine tkt 1 12 _ (yv hs 1 27 4 rfl (get_post 1 rfl rfl) .grow) ?_
  refine qo 2 13 (.bool true) ?_
  refine fj j11 s10 (ct (xn 3 fun _ j12=>?_))
  refine tkt 0 14 _ (yWs 28 115 hs 1 .grow) ?_
  obtain ⟨⟨r4_0,r4_1,r4_2,r4_3⟩,hg,h⟩:=ob h
  refine so 1 (oC 15 hs (keccak_turned.ok hg _ (rR 0 hs) (rR 1 hs) (rR 2 hs)) fun w gw hs=>?_)
  refine so 2 (oW 28 115 (.agg (vl [I8 r4_0]++enc .u64 r4_1++vl [I8 r4_2,.bool r4_3]).toArray) (vl [I8 r4_0]++enc .u64 r4_1++vl [I8 r4_2,.bool r4_3]) hs 1 rfl (by simp [enc_len]) (by simp [enc_len]) (one_app (one_app (by simp [Value.oneCell']) (fun u hu=>enc_one _ _ u hu)) (by simp [Value.oneCell'])) fun w kp hs=>?_)
  refine fin (j12 _ _ ?_)
  obtain ⟨rfl,rfl,rfl,rfl⟩:=os4 h
  exact nj _ _ ⟨(hs.conv rfl),eg⟩
 clear hj hs
 rintro a w ⟨hs,g8,rfl⟩
 refine T s9 (xs fun _ s13=>(xn 3 fun _ j14=>?_))
 refine qo 0 16 (I8 a1) ?_
 obtain ⟨h0,h1,h⟩:=oc2 h
 refine so 1 (oMk (C:=CB) 17 24 5 1 140737488355328 .i64 .i64 a1 hs h0 h1 (by decide) (by decide) fun s5_A s5_n s5_c w gw hs=>?_)
 refine qo 2 6 (.slice s5_A s5_n s5_c) ?_
 refine fj j14 s13 (xs fun _ s15=>(xs fun _ s16=>(xn 3 fun _ j17=>?_)))
 refine qo 0 18 (.slice s5_A s5_n s5_c) ?_
 refine tkf 1 19 (I8 ((List.replicate (a1:Int).toNat (Cod.zero CB)).length:Int)) (yl (rL 0 hs)) ?_
 refine qo 2 20 (I8 0) ?_
 refine fj j17 s16 (?_)
 obtain ⟨⟨y9,y10_0,y10_1,y10_2,y10_3⟩,hy,hk0⟩:=ob h
 refine wp_exq (N:=fun a w=>St w0 [] [.ownL CB s5_A s5_n s5_c y9 5,.blk b2 (vl [I8 0]++enc .u64 (zeroA 25)++vl [I8 0,.bool false]) 115,.blk b1 (vl [I8 y10_0]++enc .u64 y10_1++vl [I8 y10_2,.bool y10_3]) 115] [.rowL CW (some ⟨0,0,none⟩) 1 1 ([tab_0]),.rowL CV (some ⟨1,0,none⟩) 1 1 ([tab_1]),.rowL CV (some ⟨2,0,none⟩) 1 1 ([tab_2])] w∧∃ g19,a=fr g19 56 [(2,[P0 b1]),(4,[P0 b2,.slice none 0 0,.slice s5_A s5_n s5_c])]) (fun N0 nn0=>?_) ?_
 clear hk0
 refine xb ?_
 refine wp_loop_k (fun n a w=>∃ z6 z7 z8_0 z8_1 z8_2 z8_3,keccak_Squeeze.l0 K n a1 z6 z7 z8_0 z8_1 z8_2 z8_3=some (y9,y10_0,y10_1,y10_2,y10_3)∧St w0 [] [.ownL CB s5_A s5_n s5_c z7 5,.blk b2 (vl [I8 0]++enc .u64 (zeroA 25)++vl [I8 0,.bool false]) 115,.blk b1 (vl [I8 z8_0]++enc .u64 z8_1++vl [I8 z8_2,.bool z8_3]) 115] [.rowL CW (some ⟨0,0,none⟩) 1 1 ([tab_0]),.rowL CV (some ⟨1,0,none⟩) 1 1 ([tab_1]),.rowL CV (some ⟨2,0,none⟩) 1 1 ([tab_2])] w∧∃ g18,a=fr g18 56 [(2,[P0 b1]),(4,[P0 b2,.slice none 0 0,.slice s5_A s5_n s5_c]),(19,[I8 ((List.replicate (a1:Int).toNat (Cod.zero CB)).length:Int),I8 z6])]) K ⟨0,(List.replicate (a1:Int).toNat (Cod.zero CB)),y3_0,y3_1,y3_2,y3_3,hy,hs.conv rfl,eg⟩ ?_
 clear hs h hy
 rintro n a w ⟨z6,z7,z8_0,z8_1,z8_2,z8_3,h,hs,g18,rfl⟩ KL0 kl0
 cases n with
 | zero=>exact nomatch (show none=some _ from h)
 | succ n=>
  refine xs fun _ s20=>?_
  refine xn 1 fun _ j21=>?_
  obtain ⟨hc,h⟩|⟨hc,h⟩:=of_if h
  refine tb 0 21 (dt hc) ?_
  refine fj j21 s20 (xs fun _ s22=>(ct (xk (T s22 (xs fun _ s23=>(xb (xs fun _ s24=>(xn 2 fun _ j25=>?_))))))))
  refine nq 0 [(22,I8 z6),(7,I8 z6)] ?_
  refine fj j25 s24 (?_)
  obtain ⟨⟨y11_0,y11_1,y11_2,y11_3⟩,hj,h⟩:=ob h
  refine xs fun _ s27=>wp_join (N:=fun a w=>St w0 [] [.ownL CB s5_A s5_n s5_c z7 5,.blk b2 (vl [I8 0]++enc .u64 (zeroA 25)++vl [I8 0,.bool false]) 115,.blk b1 (vl [I8 y11_0]++enc .u64 y11_1++vl [I8 y11_2,.bool y11_3]) 115] [.rowL CW (some ⟨0,0,none⟩) 1 1 ([tab_0]),.rowL CV (some ⟨1,0,none⟩) 1 1 ([tab_1]),.rowL CV (some ⟨2,0,none⟩) 1 1 ([tab_2])] w∧∃ g26,a=fr g26 56 [(2,[P0 b1]),(4,[P0 b2,.slice none 0 0,.slice s5_A s5_n s5_c,I8 z6]),(19,[I8 ((List.replicate (a1:Int).toNat (Cod.zero CB)).length:Int),I8 z6])]) (fun N nj=>?_) ?_
  clear h
  have h:=hj
  refine xs fun _ s28=>?_
  refine rg [] (fun k=>True) 6 fun _ j29=>?_
  have hs:=hs.drawn1
  refine gq 0 23 (.pointer (some ⟨b1,26,none⟩)) ?_
  refine tgt 1 24 _ (yv hs 2 26 3 rfl (get_post 0 rfl rfl) .grow) ?_
  refine gq 2 25 (P0 b1) ?_
  refine tgt 3 26 _ (yv hs 2 0 3 rfl (get_pre rfl) .grow) ?_
  obtain ⟨r12,hg,h⟩:=ob h
  refine go 4 (oC 27 hs (keccak_rate.ok hg _) fun w gw hs=>⟨.of gw,?_⟩)
  obtain ⟨hc,h⟩|⟨hc,h⟩:=of_if h
  refine gb 5 28 (et hc) ?_
  refine gf (j29 _ _ ?_)
  refine T s28 (ct (xn 7 fun _ j30=>?_))
  refine qo 0 29 (.pointer (some ⟨b1,1,none⟩)) ?_
  refine tkt 1 30 (ag .u64 z8_1) (yN hs 2 1 25 113 rfl (mid_of rfl) (enc_len _ _) .grow) ?_
  obtain ⟨r13,hg,h⟩:=ob h
  refine so 2 (oC 31 hs (keccak_Permute.ok hg _ (rR 0 hs) (rR 1 hs) (rR 2 hs)) fun w gw hs=>?_)
  refine qo 3 32 (.pointer (some ⟨b1,1,none⟩)) ?_
  refine so 4 (oM 113 (ag .u64 r13) 1 25 (enc .u64 r13) hs 2 rfl (enc_len _ _) (by simp [enc_len]) (enc_one _ _) (splice_row rfl) fun w kp hs=>?_)
  refine qo 5 33 (.pointer (some ⟨b1,26,none⟩)) ?_
  refine wpS.only 6 (oQ 3 (I8 0) 26 hs 2 rfl rfl (by simp [enc_len]) (set_post 0 rfl) ?_)
  intro w kp hs
  try dsimp only [List.set] at hs
  refine ⟨fun _=>trivial,?_⟩
  refine fin (j30 _ _ ?_)
  obtain ⟨rfl,rfl,rfl,rfl⟩:=os4 h
  exact nj _ _ ⟨(hs.conv rfl),eg⟩
  refine gb 5 28 (ef hc) ?_
  refine gf (j29 _ _ ?_)
  refine T s28 (cf (xk ?_))
  obtain ⟨rfl,rfl,rfl,rfl⟩:=os4 h
  exact nj _ _ ⟨(hs.conv rfl),eg⟩
  clear hj hs
  rintro a w ⟨hs,g26,rfl⟩
  refine T s27 (xs fun _ s31=>?_)
  refine rg [15] (fun k=>True) 16 fun _ j32=>?_
  have hs:=hs.drawn1
  refine gq 0 34 (.slice s5_A s5_n s5_c) ?_
  refine gq 1 35 (I8 z6) ?_
  refine gq 2 36 (.pointer (some ⟨b1,26,none⟩)) ?_
  refine tgt 3 37 _ (yv hs 2 26 3 rfl (get_post 0 rfl rfl) .grow) ?_
  refine gq 4 38 (I8 (iquo .i64 y11_2 8)) ?_
  refine gq 5 39 (.pointer (some ⟨b1,1,none⟩)) ?_
  obtain ⟨x14,hx,h⟩:=ob h
  have hx:=of_some hx
  subst hx
  obtain ⟨i0_33,i1_33,h⟩:=oc2 h
  refine tgf 6 40 (.pointer (some ⟨b1,1+((iquo .i64 y11_2 8):Int).toNat*1,none⟩)) (yi 113 112 25 1 .i64 (iquo .i64 y11_2 8) i0_33 i1_33) ?_
  refine tgt 7 41 (U8 (rd y11_1 (iquo .i64 y11_2 8))) (yP 1 hs 2 112 (iquo .i64 y11_2 8) rfl i0_33 i1_33 (by simp [enc_len]) .grow) ?_
  refine gq 8 42 (.pointer (some ⟨b1,26,none⟩)) ?_
  refine tgt 9 43 _ (yv hs 2 26 3 rfl (get_post 0 rfl rfl) .grow) ?_
  refine gq 10 44 (I8 (irem .i64 y11_2 8)) ?_
  refine gq 11 45 (I8 (imul .i64 8 (irem .i64 y11_2 8))) ?_
  obtain ⟨h0,h⟩:=oc h
  refine tgf 12 46 (U8 (ishr .u64 (rd y11_1 (iquo .i64 y11_2 8)) (imul .i64 8 (irem .i64 y11_2 8)))) (ysr 112 .i64 h0) ?_
  refine gq 13 47 (U1 (iconv .u8 (ishr .u64 (rd y11_1 (iquo .i64 y11_2 8)) (imul .i64 8 (irem .i64 y11_2 8))))) ?_
  obtain ⟨h0,h1,h⟩:=oc2 h
  have i0_34:=h0
  have i1_34:=h1
  refine tgf 14 48 (PA CB s5_A z6) (yiL (C:=CB) 24 5 .i64 z6 (rL 0 hs) h0 h1) ?_
  obtain ⟨x15,hx,h⟩:=ob h
  refine go 15 (oL (C:=CB) (he:=by cases hx; kernel_rfl) 5 z6 x15 hs 0 rfl i0_34 i1_34 fun w hs=>⟨⟨fun hf=>absurd hf (by decide),.all _ _⟩,?_⟩)
  refine gf (j32 _ _ ?_)
  refine T s31 (xn 5 fun _ j35=>?_)
  refine qo 0 49 (.pointer (some ⟨b1,26,none⟩)) ?_
  refine tkt 1 50 _ (yv hs 2 26 3 rfl (get_post 0 rfl rfl) .grow) ?_
  refine nq 2 [(51,I8 (iadd .i64 y11_2 1)),(52,.pointer (some ⟨b1,26,none⟩))] ?_
  obtain ⟨x16,hx,h⟩:=ob h
  refine wpS.only 4 (oQ (he:=by cases hx; kernel_rfl) 3 (I8 x16) 26 hs 2 rfl rfl (by simp [enc_len]) (set_post 0 rfl) ?_)
  intro w kp hs
  try dsimp only [List.set] at hs
  refine ⟨fun _=>trivial,?_⟩
  refine fin (j35 _ _ (iN (T s23 (xn 2 fun _ j36=>?_))))
  refine nq 0 [(53,I8 (iadd .i64 z6 1)),(20,I8 (iadd .i64 z6 1))] ?_
  refine fin (j36 _ _ ?_)
  exact tn (kl0 _ _ ⟨n,ls n,(iadd .i64 z6 1),(wrL z7 z6 x15),y11_0,y11_1,x16,y11_3,h,(hs.conv rfl),eg⟩)
  refine tb 0 21 (df hc) ?_
  refine fj j21 s20 (xs fun _ s37=>(cf (xexit (tx (tx (iH ?_))))))
  obtain ⟨rfl,rfl,rfl,rfl,rfl⟩:=os5 h
  exact exq_n (nn0 _ _ ⟨(hs.conv rfl),eg⟩)
 clear hs h hy
 rintro a w ⟨hs,g19,rfl⟩
 have h:=hk0
 refine T s15 (xs fun _ s38=>(xn 4 fun _ j39=>?_))
 refine tkt 0 54 _ (yWs 28 115 hs 2 .grow) ?_
 refine qo 1 55 (.slice s5_A s5_n s5_c) ?_
 refine so 2 (oW 28 115 (.agg (vl [I8 y10_0]++enc .u64 y10_1++vl [I8 y10_2,.bool y10_3]).toArray) (vl [I8 y10_0]++enc .u64 y10_1++vl [I8 y10_2,.bool y10_3]) hs 1 rfl (by simp [enc_len]) (by simp [enc_len]) (one_app (one_app (by simp [Value.oneCell']) (fun u hu=>enc_one _ _ u hu)) (by simp [Value.oneCell'])) fun w kp hs=>?_)
 refine qo 3 5 (.slice s5_A s5_n s5_c) ?_
 refine fj j39 s38 (xret ?_)
 obtain ⟨rfl,rfl,rfl,rfl,rfl⟩:=os5 h
 exact qq _ _ (pr (rr [.cell 4 115,.tmp 5] [.agg (vl [I8 y10_0]++enc .u64 y10_1++vl [I8 y10_2,.bool y10_3]).toArray,.slice s5_A s5_n s5_c] (.cons (rcN 28 hs 1 rfl (by simp [enc_len])) (.cons rt .nil))) ⟨⟨s5_A,s5_n,s5_c⟩,cr,(pz (dr [1,0,0] hs))⟩)
theorem keccak_Sum.ok {K:Nat}{a0:Int}{a1:List Int}{a2:Int}{r0:List Int}{r1:Int}{a1_A:Option Addr}{a1_n a1_c:Nat}(h:keccak_Sum.f K a0 a1 a2=some (r0,r1)) (w0:World) (hp1:RowL CB w0 a1_A a1_n a1_c a1) (hg0:RowL CW w0 (some ⟨0,0,none⟩) 1 1 [tab_0]) (hg1:RowL CV w0 (some ⟨1,0,none⟩) 1 1 [tab_1]) (hg2:RowL CV w0 (some ⟨2,0,none⟩) 1 1 [tab_2]):Calls Tryd.prog 39 #[I8 a0,.slice a1_A a1_n a1_c,I8 a2] w0 fun e w'=>∃ h:(Option Addr × Nat × Nat),e = .returned (.tuple #[.slice h.1 h.2.1 h.2.2,I8 r1])∧St w0 [] [.ownL CB h.1 h.2.1 h.2.2 r0 5] [] w':=by
 refine calls_k Tryd.func39 rfl fun Q qq=>?_
 have hs:=St.startR (all_cons (RowP.ent hp1) (all_cons (RowP.ent hg0) (all_cons (RowP.ent hg1) (all_cons (RowP.ent hg2) all_nil))))
 refine wc (a':=(fu 32 [I8 a0,.slice a1_A a1_n a1_c,I8 a2])) ?_
 refine xs fun _ s1=>?_
 refine xn 2 fun _ j2=>?_
 refine nq 0 [(6,.slice none 0 0),(7,I8 0)] ?_
 refine fj j2 s1 (xs fun _ s3=>(xn 8 fun _ j4=>?_))
 refine qo 0 13 (I8 a0) ?_
 obtain ⟨⟨r1_0,r1_1,r1_2,r1_3,r2⟩,hg,h⟩:=ob h
 refine so 1 (oC 14 hs (keccak_New.ok hg _) fun w gw hs=>?_)
 refine nq 2 [(12,.tuple #[.agg (vl [I8 r1_0]++enc .u64 r1_1++vl [I8 r1_2,.bool r1_3]).toArray,I8 r2]),(15,.agg (vl [I8 r1_0]++enc .u64 r1_1++vl [I8 r1_2,.bool r1_3]).toArray),(16,I8 r2)] ?_
 refine so 5 (oN 8 115 hs (vl [I8 0]++enc .u64 (zeroA 25)++vl [I8 0,.bool false]) (.agg (vl [I8 0]++enc .u64 (zeroA 25)++vl [I8 0,.bool false]).toArray) fun b3 w gw hs=>?_)
 refine so 6 (oW 28 115 (.agg (vl [I8 r1_0]++enc .u64 r1_1++vl [I8 r1_2,.bool r1_3]).toArray) (vl [I8 r1_0]++enc .u64 r1_1++vl [I8 r1_2,.bool r1_3]) hs 0 rfl (by simp [enc_len]) (by simp [enc_len]) (one_app (one_app (by simp [Value.oneCell']) (fun u hu=>enc_one _ _ u hu)) (by simp [Value.oneCell'])) fun w kp hs=>?_)
 refine qo 7 9 (I8 r2) ?_
 refine fj j4 s3 (xs fun _ s5=>(xs fun _ s6=>(xn 2 fun _ j7=>?_)))
 refine qo 0 17 (I8 r2) ?_
 obtain ⟨hc,h⟩|⟨hc,h⟩:=of_if h
 refine tb 1 18 (nf hc) ?_
 refine fj j7 s6 (cf (xk (T s5 (xs fun _ s8=>(xs fun _ s9=>(xn 6 fun _ j10=>?_))))))
 refine qo 0 20 (I8 a2) ?_
 obtain ⟨hc,h⟩|⟨hc,h⟩:=of_if h
 refine tb 1 21 (dt hc) ?_
 refine nq 2 [(22,.bool true),(23,undef),(24,undef),(25,.bool true)] ?_
 refine fj j10 s9 (ct (xs fun _ s11=>(xn 2 fun _ j12=>?_)))
 refine nq 0 [(6,.slice none 0 0),(7,I8 8)] ?_
 refine fj j12 s11 (xret (tr ?_))
 obtain ⟨rfl,rfl⟩:=os2 h
 have hs:=hs.addNilL CB 5
 exact qq _ _ (pt [6,7] [.slice none 0 0,I8 8] ⟨⟨none,0,0⟩,cr,(pz (dr [1,0] hs))⟩)
 refine tb 1 21 (df hc) ?_
 refine nq 2 [(22,.bool false),(23,I8 a2)] ?_
 obtain ⟨hc,h⟩|⟨hc,h⟩:=of_if h
 refine tb 4 24 (dt hc) ?_
 refine qo 5 25 (.bool true) ?_
 refine fj j10 s9 (ct (xs fun _ s13=>(xn 2 fun _ j14=>?_)))
 refine nq 0 [(6,.slice none 0 0),(7,I8 8)] ?_
 refine fj j14 s13 (xret (tr ?_))
 obtain ⟨rfl,rfl⟩:=os2 h
 have hs:=hs.addNilL CB 5
 exact qq _ _ (pt [6,7] [.slice none 0 0,I8 8] ⟨⟨none,0,0⟩,cr,(pz (dr [1,0] hs))⟩)
 refine tb 4 24 (df hc) ?_
 refine qo 5 25 (.bool false) ?_
 refine fj j10 s9 (cf (xk (T s8 (xs fun _ s15=>(xn 11 fun _ j16=>?_)))))
 refine tkt 0 27 _ (yWs 28 115 hs 0 .grow) ?_
 refine qo 1 28 (.slice a1_A a1_n a1_c) ?_
 obtain ⟨⟨r4_0,r4_1,r4_2,r4_3⟩,hg,h⟩:=ob h
 refine so 2 (oC 29 hs (keccak_Absorb.ok hg _ (rR 0 hs) (rR 1 hs) (rR 2 hs) (rR 3 hs)) fun w gw hs=>?_)
 refine qo 3 30 (I8 a2) ?_
 obtain ⟨⟨r5_0,r5_1,r5_2,r5_3,r6⟩,hg,h⟩:=ob h
 refine wpS.only 4 (oH 31 hs (keccak_Squeeze.ok hg _ (rR 1 hs) (rR 2 hs) (rR 3 hs)) ?_)
 rintro ⟨r6_A,r6_n,r6_c⟩ w gw hs
 have hs:=hs.conv (L':=[.ownL CB r6_A r6_n r6_c r6 5,.blk b3 (vl [I8 r1_0]++enc .u64 r1_1++vl [I8 r1_2,.bool r1_3]) 115]) rfl
 refine ⟨fun _=>trivial,?_⟩
 refine nq 5 [(26,.tuple #[.agg (vl [I8 r5_0]++enc .u64 r5_1++vl [I8 r5_2,.bool r5_3]).toArray,.slice r6_A r6_n r6_c]),(32,.agg (vl [I8 r5_0]++enc .u64 r5_1++vl [I8 r5_2,.bool r5_3]).toArray),(33,.slice r6_A r6_n r6_c)] ?_
 refine so 8 (oN 10 115 hs (vl [I8 0]++enc .u64 (zeroA 25)++vl [I8 0,.bool false]) (.agg (vl [I8 0]++enc .u64 (zeroA 25)++vl [I8 0,.bool false]).toArray) fun b7 w gw hs=>?_)
 refine so 9 (oW 28 115 (.agg (vl [I8 r5_0]++enc .u64 r5_1++vl [I8 r5_2,.bool r5_3]).toArray) (vl [I8 r5_0]++enc .u64 r5_1++vl [I8 r5_2,.bool r5_3]) hs 0 rfl (by simp [enc_len]) (by simp [enc_len]) (one_app (one_app (by simp [Value.oneCell']) (fun u hu=>enc_one _ _ u hu)) (by simp [Value.oneCell'])) fun w kp hs=>?_)
 refine qo 10 11 (.slice r6_A r6_n r6_c) ?_
 refine fj j16 s15 (xs fun _ s17=>(xn 3 fun _ j18=>?_))
 refine nq 0 [(34,.slice r6_A r6_n r6_c),(6,.slice r6_A r6_n r6_c),(7,I8 0)] ?_
 refine fj j18 s17 (xret ?_)
 obtain ⟨rfl,rfl⟩:=os2 h
 exact qq _ _ (pt [6,7] [.slice r6_A r6_n r6_c,I8 0] ⟨⟨r6_A,r6_n,r6_c⟩,cr,(pz (dr [0,1,0] hs))⟩)
 refine tb 1 18 (nt hc) ?_
 refine fj j7 s6 (ct (xs fun _ s19=>(xn 3 fun _ j20=>?_)))
 refine nq 0 [(19,I8 r2),(6,.slice none 0 0),(7,I8 r2)] ?_
 refine fj j20 s19 (xret (tr ?_))
 obtain ⟨rfl,rfl⟩:=os2 h
 have hs:=hs.addNilL CB 5
 exact qq _ _ (pt [6,7] [.slice none 0 0,I8 r2] ⟨⟨none,0,0⟩,cr,(pz (dr [1,0] hs))⟩)
theorem kem_digest.ok {K:Nat}{a0 r0:List Int}{a0_A:Option Addr}{a0_n a0_c:Nat}(h:kem_digest.f K a0=some r0) (w0:World) (hp0:RowL CB w0 a0_A a0_n a0_c a0) (hg0:RowL CW w0 (some ⟨0,0,none⟩) 1 1 [tab_0]) (hg1:RowL CV w0 (some ⟨1,0,none⟩) 1 1 [tab_1]) (hg2:RowL CV w0 (some ⟨2,0,none⟩) 1 1 [tab_2]):Calls Tryd.prog 71 #[.slice a0_A a0_n a0_c] w0 fun e w'=>∃ h:(Option Addr × Nat × Nat),e = .returned (.slice h.1 h.2.1 h.2.2)∧St w0 [] [.ownL CB h.1 h.2.1 h.2.2 r0 5] [] w':=by
 refine calls_k Tryd.func71 rfl fun Q qq=>?_
 have hs:=St.startR (all_cons (RowP.ent hp0) (all_cons (RowP.ent hg0) (all_cons (RowP.ent hg1) (all_cons (RowP.ent hg2) all_nil))))
 refine wc (a':=(fu 10 [.slice a0_A a0_n a0_c])) ?_
 refine xs fun _ s1=>?_
 refine xn 1 fun _ j2=>?_
 refine qo 0 2 (.slice none 0 0) ?_
 refine fj j2 s1 (xs fun _ s3=>(xn 7 fun _ j4=>?_))
 refine qo 0 6 (.slice a0_A a0_n a0_c) ?_
 obtain ⟨⟨r1,r2⟩,hg,h⟩:=ob h
 refine wpS.only 1 (oH 7 hs (keccak_Sum.ok hg _ (rR 0 hs) (rR 1 hs) (rR 2 hs) (rR 3 hs)) ?_)
 rintro ⟨r1_A,r1_n,r1_c⟩ w gw hs
 have hs:=hs.conv (L':=[.ownL CB r1_A r1_n r1_c r1 5]) rfl
 refine ⟨fun _=>trivial,?_⟩
 refine nq 2 [(5,.tuple #[.slice r1_A r1_n r1_c,I8 r2]),(8,.slice r1_A r1_n r1_c),(9,I8 r2),(3,.slice r1_A r1_n r1_c),(4,I8 r2)] ?_
 refine fj j4 s3 (xs fun _ s5=>(xn 2 fun _ j6=>?_))
 refine nq 0 [(10,.slice r1_A r1_n r1_c),(2,.slice r1_A r1_n r1_c)] ?_
 refine fj j6 s5 (xret ?_)
 obtain rfl:=of_some h
 exact qq _ _ (pt [2] [.slice r1_A r1_n r1_c] ⟨⟨r1_A,r1_n,r1_c⟩,cr,(pz hs)⟩)
theorem slices_Concat_byte_byte.ok {K:Nat}{a0:List (List Int)}{r0:List Int}{a0_A:Option Addr}{a0_n a0_c:Nat}{a0_H:List HS}(h:slices_Concat_byte_byte.f K a0=some r0) (w0:World) (hp0:LLP CB w0 a0_A a0_n a0_c a0_H a0):Calls Tryd.prog 81 #[.slice a0_A a0_n a0_c] w0 fun e w'=>∃ h:(Option Addr × Nat × Nat),e = .returned (.slice h.1 h.2.1 h.2.2)∧St w0 [] [.ownL CB h.1 h.2.1 h.2.2 r0 5] [] w':=by
 refine calls_k Tryd.func81 rfl fun Q qq=>?_
 have hs:=St.startR (all_cons (LLP.ent hp0) all_nil)
 refine wc (a':=(fu 35 [.slice a0_A a0_n a0_c])) ?_
 refine xs fun _ s1=>?_
 refine xn 1 fun _ j2=>?_
 refine qo 0 2 (.slice none 0 0) ?_
 refine fj j2 s1 (xs fun _ s3=>(xn 1 fun _ j4=>?_))
 refine qo 0 3 (I8 0) ?_
 refine fj j4 s3 (xs fun _ s5=>(xs fun _ s6=>(xn 3 fun _ j7=>?_)))
 refine qo 0 9 (.slice a0_A a0_n a0_c) ?_
 refine tkf 1 10 (I8 (a0.length:Int)) (ylLL (hs.rowLL 0 rfl)) ?_
 refine qo 2 11 (I8 0) ?_
 refine fj j7 s6 (?_)
 obtain ⟨y3,hy,hk0⟩:=ob h
 refine wp_exq (N:=fun a w=>St w0 [] [] [.rowLL CB a0_A a0_n a0_c a0_H a0] w∧∃ g9,a=fr g9 36 [(0,[.slice a0_A a0_n a0_c]),(2,[.slice none 0 0,I8 y3])]) (fun N0 nn0=>?_) ?_
 clear hk0
 refine xb ?_
 refine wp_loop_k (fun n a w=>∃ z1 z2,slices_Concat_byte_byte.l0 K n a0 z1 z2=some y3∧St w0 [] [] [.rowLL CB a0_A a0_n a0_c a0_H a0] w∧∃ g8,a=fr g8 36 [(0,[.slice a0_A a0_n a0_c]),(2,[.slice none 0 0,I8 z1]),(9,[.slice a0_A a0_n a0_c,I8 (a0.length:Int),I8 z2])]) K ⟨0,0,hy,hs.conv rfl,eg⟩ ?_
 clear hs h hy
 rintro n a w ⟨z1,z2,h,hs,g8,rfl⟩ KL0 kl0
 cases n with
 | zero=>exact nomatch (show none=some _ from h)
 | succ n=>
  refine xs fun _ s10=>?_
  refine xn 1 fun _ j11=>?_
  obtain ⟨hc,h⟩|⟨hc,h⟩:=of_if h
  refine tb 0 12 (dt hc) ?_
  refine fj j11 s10 (xs fun _ s12=>(ct (xk (T s12 (xs fun _ s13=>(xb (xs fun _ s14=>(xn 3 fun _ j15=>?_))))))))
  obtain ⟨h0,h1,h⟩:=oc2 h
  have i0_16:=h0
  have i1_16:=h1
  refine tkf 0 13 (PA CS a0_A z2) (yiLL (C:=CB) 59 24 .i64 z2 (hs.rowLL 0 rfl) h0 h1) ?_
  obtain ⟨s4_A,hA⟩ : ∃ A,A=(rdL CS a0_H z2).1:=⟨_,rfl⟩
  obtain ⟨s4_n,hn⟩ : ∃ n,n=(rdL CS a0_H z2).2.1:=⟨_,rfl⟩
  obtain ⟨s4_c,hc⟩ : ∃ c,c=(rdL CS a0_H z2).2.2:=⟨_,rfl⟩
  refine tkt 1 14 (.slice s4_A s4_n s4_c) (by subst hA hn hc; exact yLL (C:=CB) 24 z2 (hs.rowLL 0 rfl) i0_16 i1_16) ?_
  have hs:=hs.addInn (C:=CB) 0 rfl i0_16 i1_16 hA hn hc
  refine qo 2 5 (.slice s4_A s4_n s4_c) ?_
  refine fj j15 s14 (xs fun _ s17=>(xn 5 fun _ j18=>?_))
  refine nq 0 [(15,I8 z1),(16,.slice s4_A s4_n s4_c)] ?_
  refine tkf 2 17 (I8 ((rdLL a0 z2).length:Int)) (yl (rR 0 hs)) ?_
  refine qo 3 18 (I8 (iadd .i64 z1 ((rdLL a0 z2).length:Int))) ?_
  obtain ⟨x5,hx,h⟩:=ob h
  refine tkf 4 3 (I8 x5) (yn hx) ?_
  refine fj j18 s17 (xs fun _ s19=>(xn 2 fun _ j20=>?_))
  refine qo 0 19 (I8 x5) ?_
  obtain ⟨hc,h⟩|⟨hc,h⟩:=of_if h
  refine tb 1 20 (dt hc) ?_
  refine fj j20 s19 (ct (xn 2 fun _ j21=>?_))
  exact nomatch (show none=some _ from h)
  refine tb 1 20 (df hc) ?_
  refine fj j20 s19 (cf (xk (iN (T s13 (xn 2 fun _ j22=>?_)))))
  refine nq 0 [(22,I8 (iadd .i64 z2 1)),(11,I8 (iadd .i64 z2 1))] ?_
  refine fin (j22 _ _ ?_)
  exact tn (kl0 _ _ ⟨n,ls n,x5,(iadd .i64 z2 1),h,(pk [1] hs),eg⟩)
  refine tb 0 12 (df hc) ?_
  refine fj j11 s10 (xs fun _ s23=>(cf (xexit (tx (tx (iH ?_))))))
  obtain rfl:=of_some h
  exact exq_n (nn0 _ _ ⟨(hs.conv rfl),eg⟩)
 clear hs h hy
 rintro a w ⟨hs,g9,rfl⟩
 have h:=hk0
 refine T s5 (xs fun _ s24=>(xn 3 fun _ j25=>?_))
 refine qo 0 23 (I8 y3) ?_
 refine wpS.only 1 (op_inline (d:=(some 24)) (f:=104) (args:=#[.slice none 0 0,I8 y3]) (by kernel_rfl) (fun _=>by kernel_rfl) fun R26 kI26=>?_)
 refine calls_k Tryd.func104 rfl fun Q26 qq26=>?_
 refine wc (a':=(fu 25 [.slice none 0 0,I8 y3])) ?_
 refine xs fun _ s27=>?_
 refine xn 1 fun _ j28=>?_
 refine qo 0 4 (.slice none 0 0) ?_
 refine fj j28 s27 (xs fun _ s29=>(xs fun _ s30=>(xn 2 fun _ j31=>?_)))
 refine qo 0 5 (I8 y3) ?_
 obtain ⟨hc,h⟩|⟨hc,h⟩:=of_if h
 refine tb 1 6 (dt hc) ?_
 refine fj j31 s30 (ct (xn 2 fun _ j32=>?_))
 exact nomatch (show none=some _ from h)
 refine tb 1 6 (df hc) ?_
 refine fj j31 s30 (cf (xk (T s29 (?_))))
 obtain ⟨y6,hj,h⟩:=ob h
 refine xs fun _ s34=>wp_join (N:=fun a w=>∃ y6_A y6_n y6_c,St w0 [] [.ownL CB y6_A y6_n y6_c y6 5] [.rowLL CB a0_A a0_n a0_c a0_H a0] w∧∃ g33,a=fr g33 27 [(0,[.slice y6_A y6_n y6_c]),(4,[.slice none 0 0])]) (fun N nj=>?_) ?_
 clear h
 have h:=hj
 refine xs fun _ s35=>?_
 refine xn 8 fun _ j36=>?_
 refine nq 0 [(8,I8 y3),(9,.slice none 0 0),(10,I8 0),(11,.slice none 0 0),(12,I8 0),(13,I8 0),(14,I8 (isub .i64 y3 0))] ?_
 obtain ⟨x7,hx,h⟩:=ob h
 refine tkf 7 1 (I8 x7) (yn hx) ?_
 refine fj j36 s35 (xs fun _ s37=>(xn 2 fun _ j38=>?_))
 refine qo 0 15 (I8 x7) ?_
 obtain ⟨hc,h⟩|⟨hc,h⟩:=of_if h
 refine tb 1 16 (dt hc) ?_
 refine fj j38 s37 (ct (xn 10 fun _ j39=>?_))
 refine nq 0 [(17,.slice none 0 0),(18,.slice none 0 0),(19,I8 0),(20,.slice none 0 0),(21,I8 x7)] ?_
 obtain ⟨h0,h1,h⟩:=oc2 h
 refine so 5 (op_appendZ0 (C:=CB) (t:=24) (tn:=3) (ty:=24) (e:=5) (bytes:=1) (B:=140737488355328) (kn:=.i64) (kq:=.i64) (x:=x7) (d:=(some 22)) (by kernel_rfl) hs (by kernel_rfl) (by kernel_rfl) (by kernel_rfl) (by kernel_rfl) (by kernel_rfl) (by kernel_rfl) h0 h1 (by decide) (by decide) fun s8_A s8_n s8_c w gw hs=>?_)
 refine nq 6 [(23,.slice none 0 0),(24,I8 0)] ?_
 obtain ⟨h0,h1,h⟩:=oc2 h
 refine tkf 8 25 (.slice s8_A (0:Int).toNat s8_c) (yld_pre (C:=CB) (t:=24) (e:=5) (k:=.i64) (hi:=0) (rL 0 hs) (by kernel_rfl) (by kernel_rfl) (by kernel_rfl) h0 h1) ?_
 have hs:=hs.preOwn 0 rfl h0 h1
 refine qo 9 0 (.slice s8_A (0:Int).toNat s8_c) ?_
 refine fin (j39 _ _ ?_)
 obtain rfl:=of_some h
 exact nj _ _ ⟨s8_A,(0:Int).toNat,s8_c,(hs.conv rfl),eg⟩
 refine tb 1 16 (df hc) ?_
 refine fj j38 s37 (cf (xk ?_))
 obtain rfl:=of_some h
 have hs:=hs.addNilL CB 5
 exact nj _ _ ⟨none,0,0,(hs.conv rfl),eg⟩
 clear hj hs
 rintro a w ⟨y6_A,y6_n,y6_c,hs,g33,rfl⟩
 refine T s34 (xs fun _ s40=>(xn 2 fun _ j41=>?_))
 refine nq 0 [(26,.slice y6_A y6_n y6_c),(4,.slice y6_A y6_n y6_c)] ?_
 refine fj j41 s40 (xret ?_)
 refine qq26 _ _ (pt [4] [.slice y6_A y6_n y6_c] ?_)
 refine kI26 _ _ ?_
 refine ⟨fun _=>trivial,?_⟩
 refine qo 2 6 (.slice y6_A y6_n y6_c) ?_
 refine fj j25 s24 (xs fun _ s42=>(xs fun _ s43=>(xn 3 fun _ j44=>?_)))
 refine qo 0 25 (.slice a0_A a0_n a0_c) ?_
 refine tkf 1 26 (I8 (a0.length:Int)) (ylLL (hs.rowLL 0 rfl)) ?_
 refine qo 2 27 (I8 0) ?_
 refine fj j44 s43 (?_)
 obtain ⟨y11,hy,hk1⟩:=ob h
 refine wp_exq (N:=fun a w=>∃ y11_A y11_n y11_c,St w0 [] [.ownL CB y11_A y11_n y11_c y11 5] [.rowLL CB a0_A a0_n a0_c a0_H a0] w∧∃ g46,a=fr g46 36 [(2,[.slice none 0 0]),(6,[.slice y11_A y11_n y11_c])]) (fun N1 nn1=>?_) ?_
 clear hk1
 refine xb ?_
 refine wp_loop_k (fun n a w=>∃ z9 z10,∃ z10_A z10_n z10_c,slices_Concat_byte_byte.l1 K n a0 z9 z10=some y11∧St w0 [] [.ownL CB z10_A z10_n z10_c z10 5] [.rowLL CB a0_A a0_n a0_c a0_H a0] w∧∃ g45,a=fr g45 36 [(2,[.slice none 0 0]),(6,[.slice z10_A z10_n z10_c]),(25,[.slice a0_A a0_n a0_c,I8 (a0.length:Int),I8 z9])]) K ⟨0,y6,y6_A,y6_n,y6_c,hy,hs.conv rfl,eg⟩ ?_
 clear hs h hy
 rintro n a w ⟨z9,z10,z10_A,z10_n,z10_c,h,hs,g45,rfl⟩ KL1 kl1
 cases n with
 | zero=>exact nomatch (show none=some _ from h)
 | succ n=>
  refine xs fun _ s47=>?_
  refine xn 1 fun _ j48=>?_
  obtain ⟨hc,h⟩|⟨hc,h⟩:=of_if h
  refine tb 0 28 (dt hc) ?_
  refine fj j48 s47 (xs fun _ s49=>(ct (xk (T s49 (xs fun _ s50=>(xb (xs fun _ s51=>(xn 3 fun _ j52=>?_))))))))
  obtain ⟨h0,h1,h⟩:=oc2 h
  have i0_53:=h0
  have i1_53:=h1
  refine tkf 0 29 (PA CS a0_A z9) (yiLL (C:=CB) 59 24 .i64 z9 (hs.rowLL 0 rfl) h0 h1) ?_
  obtain ⟨s12_A,hA⟩ : ∃ A,A=(rdL CS a0_H z9).1:=⟨_,rfl⟩
  obtain ⟨s12_n,hn⟩ : ∃ n,n=(rdL CS a0_H z9).2.1:=⟨_,rfl⟩
  obtain ⟨s12_c,hc⟩ : ∃ c,c=(rdL CS a0_H z9).2.2:=⟨_,rfl⟩
  refine tkt 1 30 (.slice s12_A s12_n s12_c) (by subst hA hn hc; exact yLL (C:=CB) 24 z9 (hs.rowLL 0 rfl) i0_53 i1_53) ?_
  have hs:=hs.addInn (C:=CB) 0 rfl i0_53 i1_53 hA hn hc
  refine qo 2 8 (.slice s12_A s12_n s12_c) ?_
  refine fj j52 s51 (xn 4 fun _ j54=>?_)
  refine nq 0 [(31,.slice z10_A z10_n z10_c),(32,.slice s12_A s12_n s12_c)] ?_
  obtain ⟨h0,h⟩:=oc h
  refine so 2 (oAp (C:=CB) 33 24 24 5 1 140737488355328 hs 0 rfl (rR 0 hs) h0 (by decide) (by decide) fun s13_A s13_n s13_c w hs=>?_)
  refine qo 3 6 (.slice s13_A s13_n s13_c) ?_
  refine fin (j54 _ _ (iN (T s50 (xn 2 fun _ j55=>?_))))
  refine nq 0 [(34,I8 (iadd .i64 z9 1)),(27,I8 (iadd .i64 z9 1))] ?_
  refine fin (j55 _ _ ?_)
  exact tn (kl1 _ _ ⟨n,ls n,(iadd .i64 z9 1),(z10++(rdLL a0 z9)),s13_A,s13_n,s13_c,h,(pk [1] hs),eg⟩)
  refine tb 0 28 (df hc) ?_
  refine fj j48 s47 (xs fun _ s56=>(cf (xexit (tx (tx (iH ?_))))))
  obtain rfl:=of_some h
  exact exq_n (nn1 _ _ ⟨z10_A,z10_n,z10_c,(hs.conv rfl),eg⟩)
 clear hs h hy
 rintro a w ⟨y11_A,y11_n,y11_c,hs,g46,rfl⟩
 have h:=hk1
 refine T s42 (xs fun _ s57=>(xn 2 fun _ j58=>?_))
 refine nq 0 [(35,.slice y11_A y11_n y11_c),(2,.slice y11_A y11_n y11_c)] ?_
 refine fj j58 s57 (xret ?_)
 obtain rfl:=of_some h
 exact qq _ _ (pt [2] [.slice y11_A y11_n y11_c] ⟨⟨y11_A,y11_n,y11_c⟩,cr,(pz hs)⟩)
theorem bits_Join.ok {K:Nat}{a0:List (List Int)}{r0:List Int}{a0_A:Option Addr}{a0_n a0_c:Nat}{a0_H:List HS}(h:bits_Join.f K a0=some r0) (w0:World) (hp0:LLP CB w0 a0_A a0_n a0_c a0_H a0):Calls Tryd.prog 36 #[.slice a0_A a0_n a0_c] w0 fun e w'=>∃ h:(Option Addr × Nat × Nat),e = .returned (.slice h.1 h.2.1 h.2.2)∧St w0 [] [.ownL CB h.1 h.2.1 h.2.2 r0 5] [] w':=by
 refine calls_k Tryd.func36 rfl fun Q qq=>?_
 have hs:=St.startR (all_cons (LLP.ent hp0) all_nil)
 refine wc (a':=(fu 4 [.slice a0_A a0_n a0_c])) ?_
 refine xs fun _ s1=>?_
 refine xn 1 fun _ j2=>?_
 refine qo 0 2 (.slice none 0 0) ?_
 refine fj j2 s1 (xs fun _ s3=>(xn 3 fun _ j4=>?_))
 refine qo 0 3 (.slice a0_A a0_n a0_c) ?_
 obtain ⟨r1,hg,h⟩:=ob h
 refine wpS.only 1 (oH 4 hs (slices_Concat_byte_byte.ok hg _ (hs.rowLL 0 rfl)) ?_)
 rintro ⟨r1_A,r1_n,r1_c⟩ w gw hs
 have hs:=hs.conv (L':=[.ownL CB r1_A r1_n r1_c r1 5]) rfl
 refine ⟨fun _=>trivial,?_⟩
 refine qo 2 2 (.slice r1_A r1_n r1_c) ?_
 refine fj j4 s3 (xret ?_)
 obtain rfl:=of_some h
 exact qq _ _ (pt [2] [.slice r1_A r1_n r1_c] ⟨⟨r1_A,r1_n,r1_c⟩,cr,(pz hs)⟩)
theorem kpke_Noise.ok {K:Nat}{a0:Int}{a1:List Int}{a2:Int}{r0:Arr 256}{a1_A:Option Addr}{a1_n a1_c:Nat}(h:kpke_Noise.f K a0 a1 a2=some r0) (w0:World) (hp1:RowL CB w0 a1_A a1_n a1_c a1) (hg0:RowL CW w0 (some ⟨0,0,none⟩) 1 1 [tab_0]) (hg1:RowL CV w0 (some ⟨1,0,none⟩) 1 1 [tab_1]) (hg2:RowL CV w0 (some ⟨2,0,none⟩) 1 1 [tab_2]):Ret Tryd.prog 16 #[I8 a0,.slice a1_A a1_n a1_c,U1 a2] w0 (ag .i32 r0):=by
 refine calls_k Tryd.func16 rfl fun Q qq=>?_
 have hs:=St.startR (all_cons (RowP.ent hp1) (all_cons (RowP.ent hg0) (all_cons (RowP.ent hg1) (all_cons (RowP.ent hg2) all_nil))))
 refine wc (a':=(fu 71 [I8 a0,.slice a1_A a1_n a1_c,U1 a2])) ?_
 refine xs fun _ s1=>?_
 refine xn 1 fun _ j2=>?_
 refine so 0 (oNe 6 32 .i32 (zeroA 256) hs fun b1 w gw hs=>?_)
 refine fj j2 s1 (xs fun _ s3=>(xn 1 fun _ j4=>?_))
 refine so 0 (oNe 7 32 .i32 (zeroA 256) hs fun b2 w gw hs=>?_)
 refine fj j4 s3 (?_)
 obtain ⟨tv6,hj,hk_6⟩:=ob h
 refine xs fun _ s6=>wp_exj (N:=fun a w=>∃ y3,tv6 = .inl y3∧St w0 [] [.blk b2 (enc .i32 (zeroA 256)) 32,.blk b1 (enc .i32 y3) 32] [.rowL CB a1_A a1_n a1_c a1,.rowL CW (some ⟨0,0,none⟩) 1 1 ([tab_0]),.rowL CV (some ⟨1,0,none⟩) 1 1 ([tab_1]),.rowL CV (some ⟨2,0,none⟩) 1 1 ([tab_2])] w∧∃ g5,a=fr g5 74 [(0,[I8 a0,.slice a1_A a1_n a1_c,U1 a2]),(6,[P0 b1,P0 b2])]) (fun N nj=>?_) ?_
 clear h
 have h:=hj
 refine xs fun _ s7=>?_
 refine xn 6 fun _ j8=>?_
 refine qo 0 14 (I8 a0) ?_
 obtain ⟨hc,h⟩|⟨hc,h⟩:=of_if h
 refine tb 1 15 (nf hc) ?_
 refine nq 2 [(16,.bool false),(17,undef),(18,undef),(19,.bool false)] ?_
 refine fj j8 s7 (cf (xk ?_))
 obtain rfl:=of_some h
 exact exj_n (nj _ _ ⟨(zeroA 256),rfl,(hs.conv rfl),eg⟩)
 refine tb 1 15 (nt hc) ?_
 refine nq 2 [(16,.bool true),(17,I8 a0)] ?_
 obtain ⟨hc,h⟩|⟨hc,h⟩:=of_if h
 refine tb 4 18 (nf hc) ?_
 refine qo 5 19 (.bool false) ?_
 refine fj j8 s7 (cf (xk ?_))
 obtain rfl:=of_some h
 exact exj_n (nj _ _ ⟨(zeroA 256),rfl,(hs.conv rfl),eg⟩)
 refine tb 4 18 (nt hc) ?_
 refine qo 5 19 (.bool true) ?_
 refine fj j8 s7 (ct (xs fun _ s9=>(xn 2 fun _ j10=>?_)))
 refine tkt 0 20 _ (yWe 32 hs 0 .grow) ?_
 refine so 1 (oWe 32 .i32 (zeroA 256) hs 1 fun w kp hs=>?_)
 refine fj j10 s9 (xret ?_)
 obtain rfl:=of_some h
 have h:=hk_6
 refine exj_r ?_
 refine tr ?_
 obtain rfl:=of_some h
 exact qq _ _ (pr (rr [.cell 6 32] [ag .i32 (zeroA 256)] (.cons (rcN 256 hs 1 rfl (enc_len _ _)) .nil)) ⟨cr,hs.none⟩)
 clear hj hs
 rintro a w ⟨y3,rfl,hs,g5,rfl⟩
 have h:=hk_6
 refine T s6 (xs fun _ s11=>(xn 13 fun _ j12=>?_))
 refine nq 0 [(22,.slice a1_A a1_n a1_c),(23,U1 a2)] ?_
 refine so 2 (oLt (C:=CB) 24 24 5 1 (U1 0) #[(0,U1 a2)] [a2] hs rfl (by decide) (by decide) fun s4_A s4_n s4_c w gw hs=>?_)
 refine so 3 (oLt (C:=CS) 25 59 24 2 (.slice none 0 0) #[(0,.slice a1_A a1_n a1_c),(1,.slice s4_A s4_n s4_c)] ([(a1_A,a1_n,a1_c),(s4_A,s4_n,s4_c)]:List HS) hs rfl (by decide) (by decide) fun s5_A s5_n s5_c w gw hs=>?_)
 obtain ⟨r6,hg,h⟩:=ob h
 refine wpS.only 4 (oH 26 hs (bits_Join.ok hg _ (LLP.mk (rL 0 hs) (inn_cons (rR 0 hs) (inn_cons (rL 1 hs) inn_nil)))) ?_)
 rintro ⟨r6_A,r6_n,r6_c⟩ w gw hs
 have hs:=hs.conv (L':=[.ownL CB r6_A r6_n r6_c r6 5,.ownL CS s5_A s5_n s5_c ([(a1_A,a1_n,a1_c),(s4_A,s4_n,s4_c)]:List HS) 24,.ownL CB s4_A s4_n s4_c ([a2]:List Int) 5,.blk b2 (enc .i32 (zeroA 256)) 32,.blk b1 (enc .i32 y3) 32]) rfl
 refine ⟨fun _=>trivial,?_⟩
 refine nq 5 [(27,I8 a0),(28,I8 (imul .i64 64 a0))] ?_
 obtain ⟨⟨r7,r8⟩,hg,h⟩:=ob h
 refine wpS.only 7 (oH 29 hs (keccak_Sum.ok hg _ (rL 0 hs) (rR 1 hs) (rR 2 hs) (rR 3 hs)) ?_)
 rintro ⟨r7_A,r7_n,r7_c⟩ w gw hs
 have hs:=hs.conv (L':=[.ownL CB r7_A r7_n r7_c r7 5,.ownL CB r6_A r6_n r6_c r6 5,.ownL CS s5_A s5_n s5_c ([(a1_A,a1_n,a1_c),(s4_A,s4_n,s4_c)]:List HS) 24,.ownL CB s4_A s4_n s4_c ([a2]:List Int) 5,.blk b2 (enc .i32 (zeroA 256)) 32,.blk b1 (enc .i32 y3) 32]) rfl
 refine ⟨fun _=>trivial,?_⟩
 refine nq 8 [(21,.tuple #[.slice r7_A r7_n r7_c,I8 r8]),(30,.slice r7_A r7_n r7_c),(31,I8 r8),(8,.slice r7_A r7_n r7_c),(9,I8 r8)] ?_
 refine fj j12 s11 (xs fun _ s13=>(xn 5 fun _ j14=>?_))
 refine nq 0 [(32,.slice r7_A r7_n r7_c),(33,I8 a0),(34,I8 (imul .i64 512 a0))] ?_
 obtain ⟨r9,hg,h⟩:=ob h
 refine wpS.only 3 (oH 35 hs (bits_Unpack.ok hg _ (rL 0 hs)) ?_)
 rintro ⟨r9_A,r9_n,r9_c⟩ w gw hs
 have hs:=hs.conv (L':=[.ownL (CI .u32) r9_A r9_n r9_c r9 70,.ownL CB r7_A r7_n r7_c r7 5,.ownL CB r6_A r6_n r6_c r6 5,.ownL CS s5_A s5_n s5_c ([(a1_A,a1_n,a1_c),(s4_A,s4_n,s4_c)]:List HS) 24,.ownL CB s4_A s4_n s4_c ([a2]:List Int) 5,.blk b2 (enc .i32 (zeroA 256)) 32,.blk b1 (enc .i32 y3) 32]) rfl
 refine ⟨fun _=>trivial,?_⟩
 refine qo 4 10 (.slice r9_A r9_n r9_c) ?_
 refine fj j14 s13 (xs fun _ s15=>(xs fun _ s16=>(xn 1 fun _ j17=>?_)))
 refine qo 0 36 (I8 0) ?_
 refine fj j17 s16 (?_)
 obtain ⟨y12,hy,hk0⟩:=ob h
 refine wp_exq (N:=fun a w=>St w0 [] [.ownL (CI .u32) r9_A r9_n r9_c r9 70,.ownL CB r7_A r7_n r7_c r7 5,.ownL CB r6_A r6_n r6_c r6 5,.ownL CS s5_A s5_n s5_c ([(a1_A,a1_n,a1_c),(s4_A,s4_n,s4_c)]:List HS) 24,.ownL CB s4_A s4_n s4_c ([a2]:List Int) 5,.blk b2 (enc .i32 y12) 32,.blk b1 (enc .i32 y3) 32] [.rowL CB a1_A a1_n a1_c a1,.rowL CW (some ⟨0,0,none⟩) 1 1 ([tab_0]),.rowL CV (some ⟨1,0,none⟩) 1 1 ([tab_1]),.rowL CV (some ⟨2,0,none⟩) 1 1 ([tab_2])] w∧∃ g19,a=fr g19 74 [(6,[P0 b1,P0 b2])]) (fun N0 nn0=>?_) ?_
 clear hk0
 refine xb ?_
 refine wp_loop_k (fun n a w=>∃ z10 z11,kpke_Noise.l0 K n a0 r9 z10 z11=some y12∧St w0 [] [.ownL (CI .u32) r9_A r9_n r9_c r9 70,.ownL CB r7_A r7_n r7_c r7 5,.ownL CB r6_A r6_n r6_c r6 5,.ownL CS s5_A s5_n s5_c ([(a1_A,a1_n,a1_c),(s4_A,s4_n,s4_c)]:List HS) 24,.ownL CB s4_A s4_n s4_c ([a2]:List Int) 5,.blk b2 (enc .i32 z11) 32,.blk b1 (enc .i32 y3) 32] [.rowL CB a1_A a1_n a1_c a1,.rowL CW (some ⟨0,0,none⟩) 1 1 ([tab_0]),.rowL CV (some ⟨1,0,none⟩) 1 1 ([tab_1]),.rowL CV (some ⟨2,0,none⟩) 1 1 ([tab_2])] w∧∃ g18,a=fr g18 74 [(0,[I8 a0]),(6,[P0 b1,P0 b2]),(10,[.slice r9_A r9_n r9_c]),(36,[I8 z10])]) K ⟨0,(zeroA 256),hy,hs.conv rfl,eg⟩ ?_
 clear hs h hy
 rintro n a w ⟨z10,z11,h,hs,g18,rfl⟩ KL0 kl0
 cases n with
 | zero=>exact nomatch (show none=some _ from h)
 | succ n=>
  refine xs fun _ s20=>?_
  refine xn 1 fun _ j21=>?_
  obtain ⟨hc,h⟩|⟨hc,h⟩:=of_if h
  refine tb 0 37 (dt hc) ?_
  refine fj j21 s20 (xs fun _ s22=>(ct (xk (T s22 (xs fun _ s23=>(xb (xs fun _ s24=>(xn 2 fun _ j25=>?_))))))))
  refine nq 0 [(38,I8 z10),(11,I8 z10)] ?_
  refine fj j25 s24 (xs fun _ s26=>(xn 1 fun _ j27=>?_))
  refine qo 0 12 (I4 3329) ?_
  refine fj j27 s26 (xs fun _ s28=>(xs fun _ s29=>(xn 2 fun _ j30=>?_)))
  refine nq 0 [(39,I8 a0),(40,I8 0)] ?_
  refine fj j30 s29 (?_)
  obtain ⟨y15,hy,hk1⟩:=ob h
  refine wp_exq (N:=fun a w=>St w0 [] [.ownL (CI .u32) r9_A r9_n r9_c r9 70,.ownL CB r7_A r7_n r7_c r7 5,.ownL CB r6_A r6_n r6_c r6 5,.ownL CS s5_A s5_n s5_c ([(a1_A,a1_n,a1_c),(s4_A,s4_n,s4_c)]:List HS) 24,.ownL CB s4_A s4_n s4_c ([a2]:List Int) 5,.blk b2 (enc .i32 z11) 32,.blk b1 (enc .i32 y3) 32] [.rowL CB a1_A a1_n a1_c a1,.rowL CW (some ⟨0,0,none⟩) 1 1 ([tab_0]),.rowL CV (some ⟨1,0,none⟩) 1 1 ([tab_1]),.rowL CV (some ⟨2,0,none⟩) 1 1 ([tab_2])] w∧∃ g32,a=fr g32 74 [(0,[I8 a0]),(6,[P0 b1,P0 b2]),(10,[.slice r9_A r9_n r9_c,I8 z10,I4 y15]),(36,[I8 z10])]) (fun N1 nn1=>?_) ?_
  clear hk1
  refine xb ?_
  refine wp_loop_k (fun n a w=>∃ z13 z14,kpke_Noise.l1 K n a0 r9 z10 z13 z14=some y15∧St w0 [] [.ownL (CI .u32) r9_A r9_n r9_c r9 70,.ownL CB r7_A r7_n r7_c r7 5,.ownL CB r6_A r6_n r6_c r6 5,.ownL CS s5_A s5_n s5_c ([(a1_A,a1_n,a1_c),(s4_A,s4_n,s4_c)]:List HS) 24,.ownL CB s4_A s4_n s4_c ([a2]:List Int) 5,.blk b2 (enc .i32 z11) 32,.blk b1 (enc .i32 y3) 32] [.rowL CB a1_A a1_n a1_c a1,.rowL CW (some ⟨0,0,none⟩) 1 1 ([tab_0]),.rowL CV (some ⟨1,0,none⟩) 1 1 ([tab_1]),.rowL CV (some ⟨2,0,none⟩) 1 1 ([tab_2])] w∧∃ g31,a=fr g31 74 [(0,[I8 a0]),(6,[P0 b1,P0 b2]),(10,[.slice r9_A r9_n r9_c,I8 z10,I4 z13]),(36,[I8 z10]),(39,[I8 a0,I8 z14])]) K ⟨3329,0,hy,hs.conv rfl,eg⟩ ?_
  clear hs h hy
  rintro n a w ⟨z13,z14,h,hs,g31,rfl⟩ KL1 kl1
  cases n with
  | zero=>exact nomatch (show none=some _ from h)
  | succ n=>
   refine xs fun _ s33=>?_
   refine xn 1 fun _ j34=>?_
   obtain ⟨hc,h⟩|⟨hc,h⟩:=of_if h
   refine tb 0 41 (dt hc) ?_
   refine fj j34 s33 (xs fun _ s35=>(ct (xk (T s35 (xs fun _ s36=>(xb (xs fun _ s37=>(xn 2 fun _ j38=>?_))))))))
   refine nq 0 [(42,I8 z14),(13,I8 z14)] ?_
   refine fj j38 s37 (?_)
   refine rg [] (fun k=>True) 25 fun _ j39=>?_
   have hs:=hs.drawn1
   refine gq 0 43 (I4 z13) ?_
   refine gq 1 44 (.slice r9_A r9_n r9_c) ?_
   refine gq 2 45 (I8 z10) ?_
   refine gq 3 46 (I8 (imul .i64 2 z10)) ?_
   refine gq 4 47 (I8 a0) ?_
   refine gq 5 48 (I8 (imul .i64 (imul .i64 2 z10) a0)) ?_
   refine gq 6 49 (I8 z14) ?_
   refine gq 7 50 (I8 (iadd .i64 (imul .i64 (imul .i64 2 z10) a0) z14)) ?_
   obtain ⟨x16,hx,h⟩:=ob h
   have hx:=of_some hx
   subst hx
   obtain ⟨h0,h1,h⟩:=oc2 h
   have i0_40:=h0
   have i1_40:=h1
   refine tgf 8 51 (.pointer (adr r9_A (((iadd .i64 (imul .i64 (imul .i64 2 z10) a0) z14):Int).toNat*Cod.size (CI .u32)))) (yiL (C:=(CI .u32)) 68 70 .i64 (iadd .i64 (imul .i64 (imul .i64 2 z10) a0) z14) (rL 0 hs) h0 h1) ?_
   refine tgt 9 52 _ (yL (C:=(CI .u32)) 70 (iadd .i64 (imul .i64 (imul .i64 2 z10) a0) z14) (rL 0 hs) rfl i0_40 i1_40) ?_
   refine gq 10 53 (I4 (iconv .i32 (rdL (CI .u32) r9 (iadd .i64 (imul .i64 (imul .i64 2 z10) a0) z14)))) ?_
   refine gq 11 54 (.slice r9_A r9_n r9_c) ?_
   refine gq 12 55 (I8 z10) ?_
   refine gq 13 56 (I8 (imul .i64 2 z10)) ?_
   refine gq 14 57 (I8 (iadd .i64 (imul .i64 2 z10) 1)) ?_
   refine gq 15 58 (I8 a0) ?_
   refine gq 16 59 (I8 (imul .i64 (iadd .i64 (imul .i64 2 z10) 1) a0)) ?_
   refine gq 17 60 (I8 z14) ?_
   refine gq 18 61 (I8 (iadd .i64 (imul .i64 (iadd .i64 (imul .i64 2 z10) 1) a0) z14)) ?_
   obtain ⟨x17,hx,h⟩:=ob h
   have hx:=of_some hx
   subst hx
   obtain ⟨h0,h1,h⟩:=oc2 h
   have i0_41:=h0
   have i1_41:=h1
   refine tgf 19 62 (.pointer (adr r9_A (((iadd .i64 (imul .i64 (iadd .i64 (imul .i64 2 z10) 1) a0) z14):Int).toNat*Cod.size (CI .u32)))) (yiL (C:=(CI .u32)) 68 70 .i64 (iadd .i64 (imul .i64 (iadd .i64 (imul .i64 2 z10) 1) a0) z14) (rL 0 hs) h0 h1) ?_
   refine tgt 20 63 _ (yL (C:=(CI .u32)) 70 (iadd .i64 (imul .i64 (iadd .i64 (imul .i64 2 z10) 1) a0) z14) (rL 0 hs) rfl i0_41 i1_41) ?_
   refine gq 21 64 (I4 (iconv .i32 (rdL (CI .u32) r9 (iadd .i64 (imul .i64 (iadd .i64 (imul .i64 2 z10) 1) a0) z14)))) ?_
   refine gq 22 65 (I4 (isub .i32 (iconv .i32 (rdL (CI .u32) r9 (iadd .i64 (imul .i64 (imul .i64 2 z10) a0) z14))) (iconv .i32 (rdL (CI .u32) r9 (iadd .i64 (imul .i64 (iadd .i64 (imul .i64 2 z10) 1) a0) z14))))) ?_
   refine gq 23 66 (I4 (iadd .i32 z13 (isub .i32 (iconv .i32 (rdL (CI .u32) r9 (iadd .i64 (imul .i64 (imul .i64 2 z10) a0) z14))) (iconv .i32 (rdL (CI .u32) r9 (iadd .i64 (imul .i64 (iadd .i64 (imul .i64 2 z10) 1) a0) z14)))))) ?_
   obtain ⟨x18,hx,h⟩:=ob h
   refine tgf 24 12 (I4 x18) (yn hx) ?_
   refine gf (j39 _ _ ?_)
   refine iN (T s36 (xn 2 fun _ j42=>?_))
   refine nq 0 [(67,I8 (iadd .i64 z14 1)),(40,I8 (iadd .i64 z14 1))] ?_
   refine fin (j42 _ _ ?_)
   exact tn (kl1 _ _ ⟨n,ls n,x18,(iadd .i64 z14 1),h,(hs.conv rfl),eg⟩)
   refine tb 0 41 (df hc) ?_
   refine fj j34 s33 (xs fun _ s43=>(cf (xexit (tx (tx (iH ?_))))))
   obtain rfl:=of_some h
   exact exq_n (nn1 _ _ ⟨(hs.conv rfl),eg⟩)
  clear hs h hy
  rintro a w ⟨hs,g32,rfl⟩
  have h:=hk1
  refine T s28 (xn 5 fun _ j44=>?_)
  refine nq 0 [(68,I8 z10),(69,I4 y15),(70,I4 (irem .i32 y15 3329))] ?_
  obtain ⟨i0_45,i1_45,h⟩:=oc2 h
  refine tkf 3 71 (P1 b2 z10) (yi 32 21 256 1 .i64 z10 i0_45 i1_45) ?_
  obtain ⟨x19,hx,h⟩:=ob h
  refine so 4 (oA 21 x19 z10 hs 5 rfl (by cases hx; kernel_rfl) i0_45 i1_45 fun w kp hs=>?_)
  refine fin (j44 _ _ (iN (T s23 (xn 2 fun _ j46=>?_))))
  refine nq 0 [(72,I8 (iadd .i64 z10 1)),(36,I8 (iadd .i64 z10 1))] ?_
  refine fin (j46 _ _ ?_)
  exact tn (kl0 _ _ ⟨n,ls n,(iadd .i64 z10 1),(wr z11 z10 x19),h,(hs.conv rfl),eg⟩)
  refine tb 0 37 (df hc) ?_
  refine fj j21 s20 (xs fun _ s47=>(cf (xexit (tx (tx (iH ?_))))))
  obtain rfl:=of_some h
  exact exq_n (nn0 _ _ ⟨(hs.conv rfl),eg⟩)
 clear hs h hy
 rintro a w ⟨hs,g19,rfl⟩
 have h:=hk0
 refine T s15 (xs fun _ s48=>(xn 2 fun _ j49=>?_))
 refine tkt 0 73 _ (yWe 32 hs 5 .grow) ?_
 refine so 1 (oWe 32 .i32 y12 hs 6 fun w kp hs=>?_)
 refine fj j49 s48 (xret ?_)
 obtain rfl:=of_some h
 exact qq _ _ (pr (rr [.cell 6 32] [ag .i32 y12] (.cons (rcN 256 hs 6 rfl (enc_len _ _)) .nil)) ⟨cr,hs.none⟩)
theorem bits_NumLe.ok {K:Nat}{a0:List Int}{r0:Int}{a0_A:Option Addr}{a0_n a0_c:Nat}(h:bits_NumLe.f K a0=some r0) (w0:World) (hp0:RowL CB w0 a0_A a0_n a0_c a0):Ret Tryd.prog 80 #[.slice a0_A a0_n a0_c] w0 (U8 r0):=by
 refine calls_k Tryd.func80 rfl fun Q qq=>?_
 have hs:=St.startR (all_cons (RowP.ent hp0) all_nil)
 refine wc (a':=(fu 22 [.slice a0_A a0_n a0_c])) ?_
 refine xs fun _ s1=>?_
 refine xn 1 fun _ j2=>?_
 refine qo 0 2 (U8 0) ?_
 refine fj j2 s1 (xs fun _ s3=>(xn 1 fun _ j4=>?_))
 refine qo 0 3 (U8 0) ?_
 refine fj j4 s3 (xs fun _ s5=>(xs fun _ s6=>(xn 4 fun _ j7=>?_)))
 refine qo 0 5 (.slice a0_A a0_n a0_c) ?_
 refine tkf 1 6 (I8 (a0.length:Int)) (yl (rR 0 hs)) ?_
 refine nq 2 [(7,I8 (imin (a0.length:Int) 8)),(8,I8 0)] ?_
 refine fj j7 s6 (?_)
 obtain ⟨y3,hy,hk0⟩:=ob h
 refine wp_exq (N:=fun a w=>St w0 [] [] [.rowL CB a0_A a0_n a0_c a0] w∧∃ g9,a=fr g9 23 [(2,[U8 0,U8 y3])]) (fun N0 nn0=>?_) ?_
 clear hk0
 refine xb ?_
 refine wp_loop_k (fun n a w=>∃ z1 z2,bits_NumLe.l0 K n a0 z1 z2=some y3∧St w0 [] [] [.rowL CB a0_A a0_n a0_c a0] w∧∃ g8,a=fr g8 23 [(0,[.slice a0_A a0_n a0_c]),(2,[U8 0,U8 z1]),(7,[I8 (imin (a0.length:Int) 8),I8 z2])]) K ⟨0,0,hy,hs.conv rfl,eg⟩ ?_
 clear hs h hy
 rintro n a w ⟨z1,z2,h,hs,g8,rfl⟩ KL0 kl0
 cases n with
 | zero=>exact nomatch (show none=some _ from h)
 | succ n=>
  refine xs fun _ s10=>?_
  refine xn 1 fun _ j11=>?_
  obtain ⟨hc,h⟩|⟨hc,h⟩:=of_if h
  refine tb 0 9 (dt hc) ?_
  refine fj j11 s10 (xs fun _ s12=>(ct (xk (T s12 (xs fun _ s13=>(xb (xs fun _ s14=>(xn 2 fun _ j15=>?_))))))))
  refine nq 0 [(10,I8 z2),(4,I8 z2)] ?_
  refine fj j15 s14 (xn 11 fun _ j16=>?_)
  refine nq 0 [(11,U8 z1),(12,.slice a0_A a0_n a0_c),(13,I8 z2)] ?_
  obtain ⟨h0,h1,h⟩:=oc2 h
  have i0_17:=h0
  have i1_17:=h1
  refine tkf 3 14 (PA CB a0_A z2) (yiL (C:=CB) 24 5 .i64 z2 (rR 0 hs) h0 h1) ?_
  refine tkt 4 15 _ (yL (C:=CB) 5 z2 (rR 0 hs) rfl i0_17 i1_17) ?_
  refine nq 5 [(16,U8 (iconv .u64 (rdL CB a0 z2))),(17,I8 z2),(18,I8 (imul .i64 8 z2))] ?_
  obtain ⟨h0,h⟩:=oc h
  refine tkf 8 19 (U8 (ishl .u64 (iconv .u64 (rdL CB a0 z2)) (imul .i64 8 z2))) (ysl 112 .i64 h0) ?_
  refine qo 9 20 (U8 (ior .u64 z1 (ishl .u64 (iconv .u64 (rdL CB a0 z2)) (imul .i64 8 z2)))) ?_
  obtain ⟨x4,hx,h⟩:=ob h
  refine tkf 10 3 (U8 x4) (yn hx) ?_
  refine fin (j16 _ _ (iN (T s13 (xn 2 fun _ j18=>?_))))
  refine nq 0 [(21,I8 (iadd .i64 z2 1)),(8,I8 (iadd .i64 z2 1))] ?_
  refine fin (j18 _ _ ?_)
  exact tn (kl0 _ _ ⟨n,ls n,x4,(iadd .i64 z2 1),h,(hs.conv rfl),eg⟩)
  refine tb 0 9 (df hc) ?_
  refine fj j11 s10 (xs fun _ s19=>(cf (xexit (tx (tx (iH ?_))))))
  obtain rfl:=of_some h
  exact exq_n (nn0 _ _ ⟨(hs.conv rfl),eg⟩)
 clear hs h hy
 rintro a w ⟨hs,g9,rfl⟩
 have h:=hk0
 refine T s5 (xs fun _ s20=>(xn 2 fun _ j21=>?_))
 refine nq 0 [(22,U8 y3),(2,U8 y3)] ?_
 refine fj j21 s20 (xret ?_)
 obtain rfl:=of_some h
 exact qq _ _ (pt [2] [U8 y3] ⟨cr,hs.none⟩)
end Go.Proofs.YtemdbgmldljbpaaDoor
