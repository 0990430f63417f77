/- own -/
import Derived.Test.YtemdbgmldljbpaaGreatDoorMh
import Derived.Test.YtemdbgmldljbpaaGreatDoorProg
import Derived.Test.YtemdbgmldljbpaaGreatDoorBF0
import Derived.Test.YtemdbgmldljbpaaGreatDoorBX1
set_option linter.unusedVariables false
set_option linter.unusedSimpArgs false
set_option maxRecDepth 100000
set_option maxHeartbeats 4000000
namespace Go.Proofs.YtemdbgmldljbpaaGreatDoor
open Go.Mx
attribute [local irreducible] wpOp
theorem keccak_Absorb.ok {K:Nat}{a0_0:Int}{a0_1:Arr 25}{a0_2:Int}{a0_3:Bool}{a1:List Int}{r0_0:Int}{r0_1:Arr 25}{r0_2:Int}{r0_3:Bool}{a1_A:Option Addr}{a1_n a1_c:Nat}(h:keccak_Absorb.f K a0_0 a0_1 a0_2 a0_3 a1=some (r0_0,r0_1,r0_2,r0_3)) (w0:World) (hp1:RowL CB w0 a1_A a1_n a1_c a1) (hg0:RowL CW w0 (some ⟨0,0,none⟩) 1 1 [tab_0]) (hg1:RowL CV w0 (some ⟨1,0,none⟩) 1 1 [tab_1]) (hg2:RowL CV w0 (some ⟨2,0,none⟩) 1 1 [tab_2]):Ret Tryz.prog 78 #[.agg (vl [I8 a0_0]++enc .u64 a0_1++vl [I8 a0_2,.bool a0_3]).toArray,.slice a1_A a1_n a1_c] w0 (.agg (vl [I8 r0_0]++enc .u64 r0_1++vl [I8 r0_2,.bool r0_3]).toArray):=by
 refine calls_k Tryz.func78 rfl fun Q qq=>?_
 have hs:=St.startR (all_cons (RowP.ent hp1) (all_cons (RowP.ent hg0) (all_cons (RowP.ent hg1) (all_cons (RowP.ent hg2) all_nil))))
 refine wc (a':=(fu 38 [.agg (vl [I8 a0_0]++enc .u64 a0_1++vl [I8 a0_2,.bool a0_3]).toArray,.slice a1_A a1_n a1_c])) (xs fun _ s1=>(xn 2 fun _ j2=>(so 0 (oB 2 88 (.agg (vl [I8 a0_0]++enc .u64 a0_1++vl [I8 a0_2,.bool a0_3]).toArray) hs (vl [I8 a0_0]++enc .u64 a0_1++vl [I8 a0_2,.bool a0_3]) fun b1 w gw hs=>(so 1 (oN 4 88 hs (vl [I8 0]++enc .u64 (zeroA 25)++vl [I8 0,.bool false]) (.agg (vl [I8 0]++enc .u64 (zeroA 25)++vl [I8 0,.bool false]).toArray) fun b2 w gw hs=>?_))))))
 refine fj j2 s1 (xs fun _ s3=>(xs fun _ s4=>(xn 2 fun _ j5=>(qo 0 7 (.pointer (some ⟨b1,27,none⟩)) ?_))))
 cases a0_3 with
 | true=>
  have h:=of_if_t h
  refine tkt 1 8 _ (yv hs 1 27 4 rfl (get_post 1 rfl rfl) .grow) (fj j5 s4 (ct (xs fun _ s6=>(xn 2 fun _ j7=>(tkt 0 9 _ (yWs 28 88 hs 1 .grow) (so 1 (oW 28 88 (.agg (vl [I8 a0_0]++enc .u64 a0_1++vl [I8 a0_2,.bool true]).toArray) (vl [I8 a0_0]++enc .u64 a0_1++vl [I8 a0_2,.bool true]) hs 0 rfl (by simp [enc_len]) (by simp [enc_len]) (one_app (one_app (by simp [Value.oneCell']) (fun u hu=>enc_one _ _ u hu)) (by simp [Value.oneCell'])) fun w kp hs=>(fj j7 s6 (xret (tr ?_))))))))))
  obtain ⟨rfl,rfl,rfl,rfl⟩:=os4 h
  exact qq _ _ (pr (rr [.cell 4 88] [.agg (vl [I8 a0_0]++enc .u64 a0_1++vl [I8 a0_2,.bool true]).toArray] (.cons (rcN 28 hs 0 rfl (by simp [enc_len])) .nil)) ⟨cr,hs.none⟩)
 | false=>
  have h:=of_if_f h
  refine tkt 1 8 _ (yv hs 1 27 4 rfl (get_post 1 rfl rfl) .grow) (fj j5 s4 (cf (xk (T s3 (xs fun _ s8=>(xn 4 fun _ j9=>(qo 0 10 (P0 b1) (tkt 1 11 _ (yv hs 1 0 3 rfl (get_pre rfl) .grow) ?_))))))))
  obtain ⟨r3,hg,h⟩:=ob h
  refine so 2 (oC 12 hs (keccak_rate.ok hg _) fun w gw hs=>?_)
  refine qo 3 5 (I8 r3) (fj j9 s8 (xs fun _ s10=>(xs fun _ s11=>(xn 3 fun _ j12=>(qo 0 13 (.slice a1_A a1_n a1_c) (tkf 1 14 (I8 (a1.length:Int)) (yl (rR 0 hs)) (qo 2 15 (I8 0) ?_)))))))
  refine fj j12 s11 (?_)
  obtain ⟨⟨y6_0,y6_1,y6_2,y6_3⟩,hy,hk0⟩:=ob h
  refine wp_exq (N:=fun a w=>St w0 [] [.blk b2 (vl [I8 0]++enc .u64 (zeroA 25)++vl [I8 0,.bool false]) 88,.blk b1 (vl [I8 y6_0]++enc .u64 y6_1++vl [I8 y6_2,.bool y6_3]) 88] [.rowL CB a1_A a1_n a1_c a1,.rowL CW (some ⟨0,0,none⟩) 1 1 ([tab_0]),.rowL CV (some ⟨1,0,none⟩) 1 1 ([tab_1]),.rowL CV (some ⟨2,0,none⟩) 1 1 ([tab_2])] w∧∃ g14,a=fr g14 40 [(2,[P0 b1]),(4,[P0 b2])]) (fun N0 nn0=>?_) ?_
  clear hk0
  refine xb ?_
  refine wp_loop_k (fun n a w=>∃ z4 z5_0 z5_1 z5_2 z5_3,keccak_Absorb.l0 K n a1 r3 z4 z5_0 z5_1 z5_2 z5_3=some (y6_0,y6_1,y6_2,y6_3)∧St w0 [] [.blk b2 (vl [I8 0]++enc .u64 (zeroA 25)++vl [I8 0,.bool false]) 88,.blk b1 (vl [I8 z5_0]++enc .u64 z5_1++vl [I8 z5_2,.bool z5_3]) 88] [.rowL CB a1_A a1_n a1_c a1,.rowL CW (some ⟨0,0,none⟩) 1 1 ([tab_0]),.rowL CV (some ⟨1,0,none⟩) 1 1 ([tab_1]),.rowL CV (some ⟨2,0,none⟩) 1 1 ([tab_2])] w∧∃ g13,a=fr g13 40 [(1,[.slice a1_A a1_n a1_c,P0 b1]),(4,[P0 b2,I8 r3]),(14,[I8 (a1.length:Int),I8 z4])]) K ⟨0,a0_0,a0_1,a0_2,false,hy,hs.conv rfl,eg⟩ ?_
  clear hs h hy
  rintro n a w ⟨z4,z5_0,z5_1,z5_2,z5_3,h,hs,g13,rfl⟩ KL0 kl0
  cases n with
  | zero=>exact nomatch (show none=some _ from h)
  | succ n=>
   refine xs fun _ s15=>(xn 1 fun _ j16=>?_)
   obtain ⟨hc,h⟩|⟨hc,h⟩:=of_if h
   refine tb 0 16 (dt hc) ?_
   refine fj j16 s15 (xs fun _ s17=>(ct (xk (T s17 (?_)))))
   obtain ⟨⟨y7_0,y7_1,y7_2,y7_3⟩,hj,h⟩:=ob h
   refine xs fun _ s19=>wp_join (N:=fun a w=>St w0 [] [.blk b2 (vl [I8 0]++enc .u64 (zeroA 25)++vl [I8 0,.bool false]) 88,.blk b1 (vl [I8 y7_0]++enc .u64 y7_1++vl [I8 y7_2,.bool y7_3]) 88] [.rowL CB a1_A a1_n a1_c a1,.rowL CW (some ⟨0,0,none⟩) 1 1 ([tab_0]),.rowL CV (some ⟨1,0,none⟩) 1 1 ([tab_1]),.rowL CV (some ⟨2,0,none⟩) 1 1 ([tab_2])] w∧∃ g18,a=fr g18 40 [(1,[.slice a1_A a1_n a1_c,P0 b1]),(4,[P0 b2,I8 r3]),(14,[I8 (a1.length:Int),I8 z4])]) (fun N nj=>?_) ?_
   clear h
   have h:=hj
   refine xb (xs fun _ s20=>(xn 2 fun _ j21=>(nq 0 [(17,I8 z4),(6,I8 z4)] (fj j21 s20 (xs fun _ s22=>?_)))))
   refine rg [6] (fun k=>True) 7 fun _ j23=>?_
   have hs:=hs.drawn1
   refine gq 0 18 (.pointer (some ⟨b1,26,none⟩)) (tgt 1 19 _ (yv hs 1 26 3 rfl (get_post 0 rfl rfl) .grow) (gq 2 20 (.slice a1_A a1_n a1_c) (gq 3 21 (I8 z4) ?_)))
   obtain ⟨h0,h1,h⟩:=oc2 h
   have i0_24:=h0
   have i1_24:=h1
   refine tgf 4 22 (PA CB a1_A z4) (yiL (C:=CB) 24 5 .i64 z4 (rR 0 hs) h0 h1) (tgt 5 23 _ (yL (C:=CB) 5 z4 (rR 0 hs) rfl i0_24 i1_24) ?_)
   obtain ⟨⟨r8_0,r8_1,r8_2,r8_3⟩,hg,h⟩:=ob h
   refine wpG.only 6 (by kernel_rfl) (oX 24 hs 1 rfl (keccak_xor.ok hg _ (hs.blkAt 1 rfl)) ?_)
   intro w kp hs
   have hs:=hs.conv (L':=[.blk b2 (vl [I8 0]++enc .u64 (zeroA 25)++vl [I8 0,.bool false]) 88,.blk b1 (vl [I8 r8_0]++enc .u64 r8_1++vl [I8 r8_2,.bool r8_3]) 88]) rfl
   refine ⟨⟨fun hf=>absurd hf (by decide),.all _ _⟩,?_⟩
   refine gf (j23 _ _ (T s22 (xs fun _ s25=>(xn 5 fun _ j26=>(qo 0 25 (.pointer (some ⟨b1,26,none⟩)) (tkt 1 26 _ (yv hs 1 26 3 rfl (get_post 0 rfl rfl) .grow) (nq 2 [(27,I8 (iadd .i64 r8_2 1)),(28,.pointer (some ⟨b1,26,none⟩))] ?_)))))))
   obtain ⟨x9,hx,h⟩:=ob h
   refine wpS.only 4 (oQ (he:=by cases hx; kernel_rfl) 3 (I8 x9) 26 hs 1 rfl rfl (by simp [enc_len]) (set_post 0 rfl) ?_)
   intro w kp hs
   try dsimp only [List.set] at hs
   refine ⟨fun _=>trivial,?_⟩
   refine fj j26 s25 (xs fun _ s27=>(xn 4 fun _ j28=>(qo 0 29 (.pointer (some ⟨b1,26,none⟩)) (tkt 1 30 _ (yv hs 1 26 3 rfl (get_post 0 rfl rfl) .grow) (qo 2 31 (I8 r3) ?_)))))
   obtain ⟨hc,h⟩|⟨hc,h⟩:=of_if h
   refine tb 3 32 (et hc) ?_
   refine fj j28 s27 (ct (xn 7 fun _ j29=>(qo 0 33 (.pointer (some ⟨b1,1,none⟩)) (tkt 1 34 (ag .u64 r8_1) (yN hs 1 1 25 86 rfl (mid_of rfl) (enc_len _ _) .grow) ?_))))
   obtain ⟨r10,hg,h⟩:=ob h
   refine so 2 (oC 35 hs (keccak_Permute.ok hg _ (rR 1 hs) (rR 2 hs) (rR 3 hs)) fun w gw hs=>?_)
   refine qo 3 36 (.pointer (some ⟨b1,1,none⟩)) (so 4 (oM 86 (ag .u64 r10) 1 25 (enc .u64 r10) hs 1 rfl (enc_len _ _) (by simp [enc_len]) (enc_one _ _) (splice_row rfl) fun w kp hs=>(qo 5 37 (.pointer (some ⟨b1,26,none⟩)) ?_)))
   refine wpS.only 6 (oQ 3 (I8 0) 26 hs 1 rfl rfl (by simp [enc_len]) (set_post 0 rfl) ?_)
   intro w kp hs
   try dsimp only [List.set] at hs
   refine ⟨fun _=>trivial,?_⟩
   refine fin (j29 _ _ (iN ?_))
   obtain ⟨rfl,rfl,rfl,rfl⟩:=os4 h
   exact nj _ _ ⟨(hs.conv rfl),eg⟩
   refine tb 3 32 (ef hc) (fj j28 s27 (cf (xk (iN ?_))))
   obtain ⟨rfl,rfl,rfl,rfl⟩:=os4 h
   exact nj _ _ ⟨(hs.conv rfl),eg⟩
   clear hj hs
   rintro a w ⟨hs,g18,rfl⟩
   refine T s19 (xn 2 fun _ j30=>(nq 0 [(38,I8 (iadd .i64 z4 1)),(15,I8 (iadd .i64 z4 1))] (fin (j30 _ _ ?_))))
   exact tn (kl0 _ _ ⟨n,ls n,(iadd .i64 z4 1),y7_0,y7_1,y7_2,y7_3,h,(hs.conv rfl),eg⟩)
   refine tb 0 16 (df hc) (fj j16 s15 (xs fun _ s31=>(cf (xexit (tx (tx (iH ?_)))))))
   obtain ⟨rfl,rfl,rfl,rfl⟩:=os4 h
   exact exq_n (nn0 _ _ ⟨(hs.conv rfl),eg⟩)
  clear hs h hy
  rintro a w ⟨hs,g14,rfl⟩
  have h:=hk0
  refine T s10 (xs fun _ s32=>(xn 2 fun _ j33=>(tkt 0 39 _ (yWs 28 88 hs 1 .grow) (so 1 (oW 28 88 (.agg (vl [I8 y6_0]++enc .u64 y6_1++vl [I8 y6_2,.bool y6_3]).toArray) (vl [I8 y6_0]++enc .u64 y6_1++vl [I8 y6_2,.bool y6_3]) hs 0 rfl (by simp [enc_len]) (by simp [enc_len]) (one_app (one_app (by simp [Value.oneCell']) (fun u hu=>enc_one _ _ u hu)) (by simp [Value.oneCell'])) fun w kp hs=>(fj j33 s32 (xret ?_)))))))
  obtain ⟨rfl,rfl,rfl,rfl⟩:=os4 h
  exact qq _ _ (pr (rr [.cell 4 88] [.agg (vl [I8 y6_0]++enc .u64 y6_1++vl [I8 y6_2,.bool y6_3]).toArray] (.cons (rcN 28 hs 0 rfl (by simp [enc_len])) .nil)) ⟨cr,hs.none⟩)
theorem keccak_Sum.ok {K:Nat}{a0:Int}{a1:List Int}{a2:Int}{r0:List Int}{r1:Int}{a1_A:Option Addr}{a1_n a1_c:Nat}(h:keccak_Sum.f K a0 a1 a2=some (r0,r1)) (w0:World) (hp1:RowL CB w0 a1_A a1_n a1_c a1) (hg0:RowL CW w0 (some ⟨0,0,none⟩) 1 1 [tab_0]) (hg1:RowL CV w0 (some ⟨1,0,none⟩) 1 1 [tab_1]) (hg2:RowL CV w0 (some ⟨2,0,none⟩) 1 1 [tab_2]):Calls Tryz.prog 40 #[I8 a0,.slice a1_A a1_n a1_c,I8 a2] w0 fun e w'=>∃ h:(Option Addr × Nat × Nat),e = .returned (.tuple #[.slice h.1 h.2.1 h.2.2,I8 r1])∧St w0 [] [.ownL CB h.1 h.2.1 h.2.2 r0 5] [] w':=by
 refine calls_k Tryz.func40 rfl fun Q qq=>?_
 have hs:=St.startR (all_cons (RowP.ent hp1) (all_cons (RowP.ent hg0) (all_cons (RowP.ent hg1) (all_cons (RowP.ent hg2) all_nil))))
 refine wc (a':=(fu 32 [I8 a0,.slice a1_A a1_n a1_c,I8 a2])) (xs fun _ s1=>(xn 2 fun _ j2=>(nq 0 [(6,.slice none 0 0),(7,I8 0)] (fj j2 s1 (xs fun _ s3=>(xn 8 fun _ j4=>?_))))))
 refine qo 0 13 (I8 a0) ?_
 obtain ⟨⟨r1_0,r1_1,r1_2,r1_3,r2⟩,hg,h⟩:=ob h
 refine so 1 (oC 14 hs (keccak_New.ok hg _) fun w gw hs=>?_)
 refine nq 2 [(12,.tuple #[.agg (vl [I8 r1_0]++enc .u64 r1_1++vl [I8 r1_2,.bool r1_3]).toArray,I8 r2]),(15,.agg (vl [I8 r1_0]++enc .u64 r1_1++vl [I8 r1_2,.bool r1_3]).toArray),(16,I8 r2)] (so 5 (oN 8 88 hs (vl [I8 0]++enc .u64 (zeroA 25)++vl [I8 0,.bool false]) (.agg (vl [I8 0]++enc .u64 (zeroA 25)++vl [I8 0,.bool false]).toArray) fun b3 w gw hs=>(so 6 (oW 28 88 (.agg (vl [I8 r1_0]++enc .u64 r1_1++vl [I8 r1_2,.bool r1_3]).toArray) (vl [I8 r1_0]++enc .u64 r1_1++vl [I8 r1_2,.bool r1_3]) hs 0 rfl (by simp [enc_len]) (by simp [enc_len]) (one_app (one_app (by simp [Value.oneCell']) (fun u hu=>enc_one _ _ u hu)) (by simp [Value.oneCell'])) fun w kp hs=>(qo 7 9 (I8 r2) (fj j4 s3 (xs fun _ s5=>(xs fun _ s6=>(xn 2 fun _ j7=>?_)))))))))
 refine qo 0 17 (I8 r2) ?_
 obtain ⟨hc,h⟩|⟨hc,h⟩:=of_if h
 refine tb 1 18 (nf hc) ?_
 refine fj j7 s6 (cf (xk (T s5 (xs fun _ s8=>(xs fun _ s9=>(xn 6 fun _ j10=>(qo 0 20 (I8 a2) ?_)))))))
 obtain ⟨hc,h⟩|⟨hc,h⟩:=of_if h
 refine tb 1 21 (dt hc) ?_
 refine nq 2 [(22,.bool true),(23,undef),(24,undef),(25,.bool true)] (fj j10 s9 (ct (xs fun _ s11=>(xn 2 fun _ j12=>(nq 0 [(6,.slice none 0 0),(7,I8 8)] (fj j12 s11 (xret (tr ?_))))))))
 obtain ⟨rfl,rfl⟩:=os2 h
 have hs:=hs.addNilL CB 5
 exact qq _ _ (pt [6,7] [.slice none 0 0,I8 8] ⟨⟨none,0,0⟩,cr,(pz (dr [1,0] hs))⟩)
 refine tb 1 21 (df hc) (nq 2 [(22,.bool false),(23,I8 a2)] ?_)
 obtain ⟨hc,h⟩|⟨hc,h⟩:=of_if h
 refine tb 4 24 (dt hc) ?_
 refine qo 5 25 (.bool true) (fj j10 s9 (ct (xs fun _ s13=>(xn 2 fun _ j14=>(nq 0 [(6,.slice none 0 0),(7,I8 8)] (fj j14 s13 (xret (tr ?_))))))))
 obtain ⟨rfl,rfl⟩:=os2 h
 have hs:=hs.addNilL CB 5
 exact qq _ _ (pt [6,7] [.slice none 0 0,I8 8] ⟨⟨none,0,0⟩,cr,(pz (dr [1,0] hs))⟩)
 refine tb 4 24 (df hc) (qo 5 25 (.bool false) (fj j10 s9 (cf (xk (T s8 (xs fun _ s15=>(xn 11 fun _ j16=>(tkt 0 27 _ (yWs 28 88 hs 0 .grow) (qo 1 28 (.slice a1_A a1_n a1_c) ?_)))))))))
 obtain ⟨⟨r4_0,r4_1,r4_2,r4_3⟩,hg,h⟩:=ob h
 refine so 2 (oC 29 hs (keccak_Absorb.ok hg _ (rR 0 hs) (rR 1 hs) (rR 2 hs) (rR 3 hs)) fun w gw hs=>?_)
 refine qo 3 30 (I8 a2) ?_
 obtain ⟨⟨r5_0,r5_1,r5_2,r5_3,r6⟩,hg,h⟩:=ob h
 refine wpS.only 4 (oH 31 hs (keccak_Squeeze.ok hg _ (rR 1 hs) (rR 2 hs) (rR 3 hs)) ?_)
 rintro ⟨r6_A,r6_n,r6_c⟩ w gw hs
 have hs:=hs.conv (L':=[.ownL CB r6_A r6_n r6_c r6 5,.blk b3 (vl [I8 r1_0]++enc .u64 r1_1++vl [I8 r1_2,.bool r1_3]) 88]) rfl
 refine ⟨fun _=>trivial,?_⟩
 refine nq 5 [(26,.tuple #[.agg (vl [I8 r5_0]++enc .u64 r5_1++vl [I8 r5_2,.bool r5_3]).toArray,.slice r6_A r6_n r6_c]),(32,.agg (vl [I8 r5_0]++enc .u64 r5_1++vl [I8 r5_2,.bool r5_3]).toArray),(33,.slice r6_A r6_n r6_c)] (so 8 (oN 10 88 hs (vl [I8 0]++enc .u64 (zeroA 25)++vl [I8 0,.bool false]) (.agg (vl [I8 0]++enc .u64 (zeroA 25)++vl [I8 0,.bool false]).toArray) fun b7 w gw hs=>(so 9 (oW 28 88 (.agg (vl [I8 r5_0]++enc .u64 r5_1++vl [I8 r5_2,.bool r5_3]).toArray) (vl [I8 r5_0]++enc .u64 r5_1++vl [I8 r5_2,.bool r5_3]) hs 0 rfl (by simp [enc_len]) (by simp [enc_len]) (one_app (one_app (by simp [Value.oneCell']) (fun u hu=>enc_one _ _ u hu)) (by simp [Value.oneCell'])) fun w kp hs=>(qo 10 11 (.slice r6_A r6_n r6_c) (fj j16 s15 (xs fun _ s17=>(xn 3 fun _ j18=>?_))))))))
 refine nq 0 [(34,.slice r6_A r6_n r6_c),(6,.slice r6_A r6_n r6_c),(7,I8 0)] (fj j18 s17 (xret ?_))
 obtain ⟨rfl,rfl⟩:=os2 h
 exact qq _ _ (pt [6,7] [.slice r6_A r6_n r6_c,I8 0] ⟨⟨r6_A,r6_n,r6_c⟩,cr,(pz (dr [0,1,0] hs))⟩)
 refine tb 1 18 (nt hc) (fj j7 s6 (ct (xs fun _ s19=>(xn 3 fun _ j20=>(nq 0 [(19,I8 r2),(6,.slice none 0 0),(7,I8 r2)] (fj j20 s19 (xret (tr ?_))))))))
 obtain ⟨rfl,rfl⟩:=os2 h
 have hs:=hs.addNilL CB 5
 exact qq _ _ (pt [6,7] [.slice none 0 0,I8 r2] ⟨⟨none,0,0⟩,cr,(pz (dr [1,0] hs))⟩)
theorem kem_digest.ok {K:Nat}{a0 r0:List Int}{a0_A:Option Addr}{a0_n a0_c:Nat}(h:kem_digest.f K a0=some r0) (w0:World) (hp0:RowL CB w0 a0_A a0_n a0_c a0) (hg0:RowL CW w0 (some ⟨0,0,none⟩) 1 1 [tab_0]) (hg1:RowL CV w0 (some ⟨1,0,none⟩) 1 1 [tab_1]) (hg2:RowL CV w0 (some ⟨2,0,none⟩) 1 1 [tab_2]):Calls Tryz.prog 31 #[.slice a0_A a0_n a0_c] w0 fun e w'=>∃ h:(Option Addr × Nat × Nat),e = .returned (.slice h.1 h.2.1 h.2.2)∧St w0 [] [.ownL CB h.1 h.2.1 h.2.2 r0 5] [] w':=by
 refine calls_k Tryz.func31 rfl fun Q qq=>?_
 have hs:=St.startR (all_cons (RowP.ent hp0) (all_cons (RowP.ent hg0) (all_cons (RowP.ent hg1) (all_cons (RowP.ent hg2) all_nil))))
 refine wc (a':=(fu 10 [.slice a0_A a0_n a0_c])) (xs fun _ s1=>(xn 1 fun _ j2=>(qo 0 2 (.slice none 0 0) (fj j2 s1 (xs fun _ s3=>(xn 7 fun _ j4=>?_))))))
 refine qo 0 6 (.slice a0_A a0_n a0_c) ?_
 obtain ⟨⟨r1,r2⟩,hg,h⟩:=ob h
 refine wpS.only 1 (oH 7 hs (keccak_Sum.ok hg _ (rR 0 hs) (rR 1 hs) (rR 2 hs) (rR 3 hs)) ?_)
 rintro ⟨r1_A,r1_n,r1_c⟩ w gw hs
 have hs:=hs.conv (L':=[.ownL CB r1_A r1_n r1_c r1 5]) rfl
 refine ⟨fun _=>trivial,?_⟩
 refine nq 2 [(5,.tuple #[.slice r1_A r1_n r1_c,I8 r2]),(8,.slice r1_A r1_n r1_c),(9,I8 r2),(3,.slice r1_A r1_n r1_c),(4,I8 r2)] (fj j4 s3 (xs fun _ s5=>(xn 2 fun _ j6=>(nq 0 [(10,.slice r1_A r1_n r1_c),(2,.slice r1_A r1_n r1_c)] (fj j6 s5 (xret ?_))))))
 obtain rfl:=of_some h
 exact qq _ _ (pt [2] [.slice r1_A r1_n r1_c] ⟨⟨r1_A,r1_n,r1_c⟩,cr,(pz hs)⟩)
theorem slices_Concat_byte_byte.ok {K:Nat}{a0:List (List Int)}{r0:List Int}{a0_A:Option Addr}{a0_n a0_c:Nat}{a0_H:List HS}(h:slices_Concat_byte_byte.f K a0=some r0) (w0:World) (hp0:LLP CB w0 a0_A a0_n a0_c a0_H a0):Calls Tryz.prog 66 #[.slice a0_A a0_n a0_c] w0 fun e w'=>∃ h:(Option Addr × Nat × Nat),e = .returned (.slice h.1 h.2.1 h.2.2)∧St w0 [] [.ownL CB h.1 h.2.1 h.2.2 r0 5] [] w':=by
 refine calls_k Tryz.func66 rfl fun Q qq=>?_
 have hs:=St.startR (all_cons (LLP.ent hp0) all_nil)
 refine wc (a':=(fu 35 [.slice a0_A a0_n a0_c])) (xs fun _ s1=>(xn 1 fun _ j2=>(qo 0 2 (.slice none 0 0) (fj j2 s1 (xs fun _ s3=>(xn 1 fun _ j4=>?_))))))
 refine qo 0 3 (I8 0) (fj j4 s3 (xs fun _ s5=>(xs fun _ s6=>(xn 3 fun _ j7=>(qo 0 9 (.slice a0_A a0_n a0_c) (tkf 1 10 (I8 (a0.length:Int)) (ylLL (hs.rowLL 0 rfl)) (qo 2 11 (I8 0) ?_)))))))
 refine fj j7 s6 (?_)
 obtain ⟨y3,hy,hk0⟩:=ob h
 refine wp_exq (N:=fun a w=>St w0 [] [] [.rowLL CB a0_A a0_n a0_c a0_H a0] w∧∃ g9,a=fr g9 36 [(0,[.slice a0_A a0_n a0_c]),(2,[.slice none 0 0,I8 y3])]) (fun N0 nn0=>?_) ?_
 clear hk0
 refine xb ?_
 refine wp_loop_k (fun n a w=>∃ z1 z2,slices_Concat_byte_byte.l0 K n a0 z1 z2=some y3∧St w0 [] [] [.rowLL CB a0_A a0_n a0_c a0_H a0] w∧∃ g8,a=fr g8 36 [(0,[.slice a0_A a0_n a0_c]),(2,[.slice none 0 0,I8 z1]),(9,[.slice a0_A a0_n a0_c,I8 (a0.length:Int),I8 z2])]) K ⟨0,0,hy,hs.conv rfl,eg⟩ ?_
 clear hs h hy
 rintro n a w ⟨z1,z2,h,hs,g8,rfl⟩ KL0 kl0
 cases n with
 | zero=>exact nomatch (show none=some _ from h)
 | succ n=>
  refine xs fun _ s10=>(xn 1 fun _ j11=>?_)
  obtain ⟨hc,h⟩|⟨hc,h⟩:=of_if h
  refine tb 0 12 (dt hc) ?_
  refine fj j11 s10 (xs fun _ s12=>(ct (xk (T s12 (xs fun _ s13=>(xb (xs fun _ s14=>(xn 3 fun _ j15=>?_))))))))
  obtain ⟨h0,h1,h⟩:=oc2 h
  have i0_16:=h0
  have i1_16:=h1
  refine tkf 0 13 (PA CS a0_A z2) (yiLL (C:=CB) 57 24 .i64 z2 (hs.rowLL 0 rfl) h0 h1) ?_
  obtain ⟨s4_A,hA⟩ : ∃ A,A=(rdL CS a0_H z2).1:=⟨_,rfl⟩
  obtain ⟨s4_n,hn⟩ : ∃ n,n=(rdL CS a0_H z2).2.1:=⟨_,rfl⟩
  obtain ⟨s4_c,hc⟩ : ∃ c,c=(rdL CS a0_H z2).2.2:=⟨_,rfl⟩
  refine tkt 1 14 (.slice s4_A s4_n s4_c) (by subst hA hn hc; exact yLL (C:=CB) 24 z2 (hs.rowLL 0 rfl) i0_16 i1_16) ?_
  have hs:=hs.addInn (C:=CB) 0 rfl i0_16 i1_16 hA hn hc
  refine qo 2 5 (.slice s4_A s4_n s4_c) (fj j15 s14 (xs fun _ s17=>(xn 5 fun _ j18=>(nq 0 [(15,I8 z1),(16,.slice s4_A s4_n s4_c)] (tkf 2 17 (I8 ((rdLL a0 z2).length:Int)) (yl (rR 0 hs)) (qo 3 18 (I8 (iadd .i64 z1 ((rdLL a0 z2).length:Int))) ?_))))))
  obtain ⟨x5,hx,h⟩:=ob h
  refine tkf 4 3 (I8 x5) (yn hx) (fj j18 s17 (xs fun _ s19=>(xn 2 fun _ j20=>(qo 0 19 (I8 x5) ?_))))
  obtain ⟨hc,h⟩|⟨hc,h⟩:=of_if h
  refine tb 1 20 (dt hc) ?_
  refine fj j20 s19 (ct (xn 2 fun _ j21=>?_))
  exact nomatch (show none=some _ from h)
  refine tb 1 20 (df hc) (fj j20 s19 (cf (xk (iN (T s13 (xn 2 fun _ j22=>(nq 0 [(22,I8 (iadd .i64 z2 1)),(11,I8 (iadd .i64 z2 1))] (fin (j22 _ _ ?_)))))))))
  exact tn (kl0 _ _ ⟨n,ls n,x5,(iadd .i64 z2 1),h,(pk [1] hs),eg⟩)
  refine tb 0 12 (df hc) (fj j11 s10 (xs fun _ s23=>(cf (xexit (tx (tx (iH ?_)))))))
  obtain rfl:=of_some h
  exact exq_n (nn0 _ _ ⟨(hs.conv rfl),eg⟩)
 clear hs h hy
 rintro a w ⟨hs,g9,rfl⟩
 have h:=hk0
 refine T s5 (xs fun _ s24=>(xn 3 fun _ j25=>(qo 0 23 (I8 y3) ?_)))
 refine wpS.only 1 (op_inline (d:=(some 24)) (f:=94) (args:=#[.slice none 0 0,I8 y3]) (by kernel_rfl) (fun _=>by kernel_rfl) fun R26 kI26=>?_)
 refine calls_k Tryz.func94 rfl fun Q26 qq26=>?_
 refine wc (a':=(fu 25 [.slice none 0 0,I8 y3])) (xs fun _ s27=>(xn 1 fun _ j28=>(qo 0 4 (.slice none 0 0) (fj j28 s27 (xs fun _ s29=>(xs fun _ s30=>(xn 2 fun _ j31=>?_)))))))
 refine qo 0 5 (I8 y3) ?_
 obtain ⟨hc,h⟩|⟨hc,h⟩:=of_if h
 refine tb 1 6 (dt hc) ?_
 refine fj j31 s30 (ct (xn 2 fun _ j32=>?_))
 exact nomatch (show none=some _ from h)
 refine tb 1 6 (df hc) (fj j31 s30 (cf (xk (T s29 (?_)))))
 obtain ⟨y6,hj,h⟩:=ob h
 refine xs fun _ s34=>wp_join (N:=fun a w=>∃ y6_A y6_n y6_c,St w0 [] [.ownL CB y6_A y6_n y6_c y6 5] [.rowLL CB a0_A a0_n a0_c a0_H a0] w∧∃ g33,a=fr g33 27 [(0,[.slice y6_A y6_n y6_c]),(4,[.slice none 0 0])]) (fun N nj=>?_) ?_
 clear h
 have h:=hj
 refine xs fun _ s35=>(xn 8 fun _ j36=>(nq 0 [(8,I8 y3),(9,.slice none 0 0),(10,I8 0),(11,.slice none 0 0),(12,I8 0),(13,I8 0),(14,I8 (isub .i64 y3 0))] ?_))
 obtain ⟨x7,hx,h⟩:=ob h
 refine tkf 7 1 (I8 x7) (yn hx) (fj j36 s35 (xs fun _ s37=>(xn 2 fun _ j38=>(qo 0 15 (I8 x7) ?_))))
 obtain ⟨hc,h⟩|⟨hc,h⟩:=of_if h
 refine tb 1 16 (dt hc) ?_
 refine fj j38 s37 (ct (xn 10 fun _ j39=>(nq 0 [(17,.slice none 0 0),(18,.slice none 0 0),(19,I8 0),(20,.slice none 0 0),(21,I8 x7)] ?_)))
 obtain ⟨h0,h1,h⟩:=oc2 h
 refine so 5 (op_appendZ0 (C:=CB) (t:=24) (tn:=3) (ty:=24) (e:=5) (bytes:=1) (B:=140737488355328) (kn:=.i64) (kq:=.i64) (x:=x7) (d:=(some 22)) (by kernel_rfl) hs (by kernel_rfl) (by kernel_rfl) (by kernel_rfl) (by kernel_rfl) (by kernel_rfl) (by kernel_rfl) h0 h1 (by decide) (by decide) fun s8_A s8_n s8_c w gw hs=>?_)
 refine nq 6 [(23,.slice none 0 0),(24,I8 0)] ?_
 obtain ⟨h0,h1,h⟩:=oc2 h
 refine tkf 8 25 (.slice s8_A (0:Int).toNat s8_c) (yld_pre (C:=CB) (t:=24) (e:=5) (k:=.i64) (hi:=0) (rL 0 hs) (by kernel_rfl) (by kernel_rfl) (by kernel_rfl) h0 h1) ?_
 have hs:=hs.preOwn 0 rfl h0 h1
 refine qo 9 0 (.slice s8_A (0:Int).toNat s8_c) (fin (j39 _ _ ?_))
 obtain rfl:=of_some h
 exact nj _ _ ⟨s8_A,(0:Int).toNat,s8_c,(hs.conv rfl),eg⟩
 refine tb 1 16 (df hc) (fj j38 s37 (cf (xk ?_)))
 obtain rfl:=of_some h
 have hs:=hs.addNilL CB 5
 exact nj _ _ ⟨none,0,0,(hs.conv rfl),eg⟩
 clear hj hs
 rintro a w ⟨y6_A,y6_n,y6_c,hs,g33,rfl⟩
 refine T s34 (xs fun _ s40=>(xn 2 fun _ j41=>(nq 0 [(26,.slice y6_A y6_n y6_c),(4,.slice y6_A y6_n y6_c)] (fj j41 s40 (xret ?_)))))
 refine qq26 _ _ (pt [4] [.slice y6_A y6_n y6_c] ?_)
 refine kI26 _ _ ?_
 refine ⟨fun _=>trivial,?_⟩
 refine qo 2 6 (.slice y6_A y6_n y6_c) (fj j25 s24 (xs fun _ s42=>(xs fun _ s43=>(xn 3 fun _ j44=>(qo 0 25 (.slice a0_A a0_n a0_c) (tkf 1 26 (I8 (a0.length:Int)) (ylLL (hs.rowLL 0 rfl)) (qo 2 27 (I8 0) ?_)))))))
 refine fj j44 s43 (?_)
 obtain ⟨y11,hy,hk1⟩:=ob h
 refine wp_exq (N:=fun a w=>∃ y11_A y11_n y11_c,St w0 [] [.ownL CB y11_A y11_n y11_c y11 5] [.rowLL CB a0_A a0_n a0_c a0_H a0] w∧∃ g46,a=fr g46 36 [(2,[.slice none 0 0]),(6,[.slice y11_A y11_n y11_c])]) (fun N1 nn1=>?_) ?_
 clear hk1
 refine xb ?_
 refine wp_loop_k (fun n a w=>∃ z9 z10,∃ z10_A z10_n z10_c,slices_Concat_byte_byte.l1 K n a0 z9 z10=some y11∧St w0 [] [.ownL CB z10_A z10_n z10_c z10 5] [.rowLL CB a0_A a0_n a0_c a0_H a0] w∧∃ g45,a=fr g45 36 [(2,[.slice none 0 0]),(6,[.slice z10_A z10_n z10_c]),(25,[.slice a0_A a0_n a0_c,I8 (a0.length:Int),I8 z9])]) K ⟨0,y6,y6_A,y6_n,y6_c,hy,hs.conv rfl,eg⟩ ?_
 clear hs h hy
 rintro n a w ⟨z9,z10,z10_A,z10_n,z10_c,h,hs,g45,rfl⟩ KL1 kl1
 cases n with
 | zero=>exact nomatch (show none=some _ from h)
 | succ n=>
  refine xs fun _ s47=>(xn 1 fun _ j48=>?_)
  obtain ⟨hc,h⟩|⟨hc,h⟩:=of_if h
  refine tb 0 28 (dt hc) ?_
  refine fj j48 s47 (xs fun _ s49=>(ct (xk (T s49 (xs fun _ s50=>(xb (xs fun _ s51=>(xn 3 fun _ j52=>?_))))))))
  obtain ⟨h0,h1,h⟩:=oc2 h
  have i0_53:=h0
  have i1_53:=h1
  refine tkf 0 29 (PA CS a0_A z9) (yiLL (C:=CB) 57 24 .i64 z9 (hs.rowLL 0 rfl) h0 h1) ?_
  obtain ⟨s12_A,hA⟩ : ∃ A,A=(rdL CS a0_H z9).1:=⟨_,rfl⟩
  obtain ⟨s12_n,hn⟩ : ∃ n,n=(rdL CS a0_H z9).2.1:=⟨_,rfl⟩
  obtain ⟨s12_c,hc⟩ : ∃ c,c=(rdL CS a0_H z9).2.2:=⟨_,rfl⟩
  refine tkt 1 30 (.slice s12_A s12_n s12_c) (by subst hA hn hc; exact yLL (C:=CB) 24 z9 (hs.rowLL 0 rfl) i0_53 i1_53) ?_
  have hs:=hs.addInn (C:=CB) 0 rfl i0_53 i1_53 hA hn hc
  refine qo 2 8 (.slice s12_A s12_n s12_c) (fj j52 s51 (xn 4 fun _ j54=>(nq 0 [(31,.slice z10_A z10_n z10_c),(32,.slice s12_A s12_n s12_c)] ?_)))
  obtain ⟨h0,h⟩:=oc h
  refine so 2 (oAp (C:=CB) 33 24 24 5 1 140737488355328 hs 0 rfl (rR 0 hs) h0 (by decide) (by decide) fun s13_A s13_n s13_c w hs=>?_)
  refine qo 3 6 (.slice s13_A s13_n s13_c) (fin (j54 _ _ (iN (T s50 (xn 2 fun _ j55=>(nq 0 [(34,I8 (iadd .i64 z9 1)),(27,I8 (iadd .i64 z9 1))] (fin (j55 _ _ ?_))))))))
  exact tn (kl1 _ _ ⟨n,ls n,(iadd .i64 z9 1),(z10++(rdLL a0 z9)),s13_A,s13_n,s13_c,h,(pk [1] hs),eg⟩)
  refine tb 0 28 (df hc) (fj j48 s47 (xs fun _ s56=>(cf (xexit (tx (tx (iH ?_)))))))
  obtain rfl:=of_some h
  exact exq_n (nn1 _ _ ⟨z10_A,z10_n,z10_c,(hs.conv rfl),eg⟩)
 clear hs h hy
 rintro a w ⟨y11_A,y11_n,y11_c,hs,g46,rfl⟩
 have h:=hk1
 refine T s42 (xs fun _ s57=>(xn 2 fun _ j58=>(nq 0 [(35,.slice y11_A y11_n y11_c),(2,.slice y11_A y11_n y11_c)] (fj j58 s57 (xret ?_)))))
 obtain rfl:=of_some h
 exact qq _ _ (pt [2] [.slice y11_A y11_n y11_c] ⟨⟨y11_A,y11_n,y11_c⟩,cr,(pz hs)⟩)
theorem bits_Join.ok {K:Nat}{a0:List (List Int)}{r0:List Int}{a0_A:Option Addr}{a0_n a0_c:Nat}{a0_H:List HS}(h:bits_Join.f K a0=some r0) (w0:World) (hp0:LLP CB w0 a0_A a0_n a0_c a0_H a0):Calls Tryz.prog 30 #[.slice a0_A a0_n a0_c] w0 fun e w'=>∃ h:(Option Addr × Nat × Nat),e = .returned (.slice h.1 h.2.1 h.2.2)∧St w0 [] [.ownL CB h.1 h.2.1 h.2.2 r0 5] [] w':=by
 refine calls_k Tryz.func30 rfl fun Q qq=>?_
 have hs:=St.startR (all_cons (LLP.ent hp0) all_nil)
 refine wc (a':=(fu 4 [.slice a0_A a0_n a0_c])) (xs fun _ s1=>(xn 1 fun _ j2=>(qo 0 2 (.slice none 0 0) (fj j2 s1 (xs fun _ s3=>(xn 3 fun _ j4=>?_))))))
 refine qo 0 3 (.slice a0_A a0_n a0_c) ?_
 obtain ⟨r1,hg,h⟩:=ob h
 refine wpS.only 1 (oH 4 hs (slices_Concat_byte_byte.ok hg _ (hs.rowLL 0 rfl)) ?_)
 rintro ⟨r1_A,r1_n,r1_c⟩ w gw hs
 have hs:=hs.conv (L':=[.ownL CB r1_A r1_n r1_c r1 5]) rfl
 refine ⟨fun _=>trivial,?_⟩
 refine qo 2 2 (.slice r1_A r1_n r1_c) (fj j4 s3 (xret ?_))
 obtain rfl:=of_some h
 exact qq _ _ (pt [2] [.slice r1_A r1_n r1_c] ⟨⟨r1_A,r1_n,r1_c⟩,cr,(pz hs)⟩)
theorem bits_NumLe.ok {K:Nat}{a0:List Int}{r0:Int}{a0_A:Option Addr}{a0_n a0_c:Nat}(h:bits_NumLe.f K a0=some r0) (w0:World) (hp0:RowL CB w0 a0_A a0_n a0_c a0):Ret Tryz.prog 116 #[.slice a0_A a0_n a0_c] w0 (U8 r0):=by
 refine calls_k Tryz.func116 rfl fun Q qq=>?_
 have hs:=St.startR (all_cons (RowP.ent hp0) all_nil)
 refine wc (a':=(fu 22 [.slice a0_A a0_n a0_c])) (xs fun _ s1=>(xn 1 fun _ j2=>(qo 0 2 (U8 0) (fj j2 s1 (xs fun _ s3=>(xn 1 fun _ j4=>?_))))))
 refine qo 0 3 (U8 0) (fj j4 s3 (xs fun _ s5=>(xs fun _ s6=>(xn 4 fun _ j7=>(qo 0 5 (.slice a0_A a0_n a0_c) (tkf 1 6 (I8 (a0.length:Int)) (yl (rR 0 hs)) (nq 2 [(7,I8 (imin (a0.length:Int) 8)),(8,I8 0)] ?_)))))))
 refine fj j7 s6 (?_)
 obtain ⟨y3,hy,hk0⟩:=ob h
 refine wp_exq (N:=fun a w=>St w0 [] [] [.rowL CB a0_A a0_n a0_c a0] w∧∃ g9,a=fr g9 23 [(2,[U8 0,U8 y3])]) (fun N0 nn0=>?_) ?_
 clear hk0
 refine xb ?_
 refine wp_loop_k (fun n a w=>∃ z1 z2,bits_NumLe.l0 K n a0 z1 z2=some y3∧St w0 [] [] [.rowL CB a0_A a0_n a0_c a0] w∧∃ g8,a=fr g8 23 [(0,[.slice a0_A a0_n a0_c]),(2,[U8 0,U8 z1]),(7,[I8 (imin (a0.length:Int) 8),I8 z2])]) K ⟨0,0,hy,hs.conv rfl,eg⟩ ?_
 clear hs h hy
 rintro n a w ⟨z1,z2,h,hs,g8,rfl⟩ KL0 kl0
 cases n with
 | zero=>exact nomatch (show none=some _ from h)
 | succ n=>
  refine xs fun _ s10=>(xn 1 fun _ j11=>?_)
  obtain ⟨hc,h⟩|⟨hc,h⟩:=of_if h
  refine tb 0 9 (dt hc) ?_
  refine fj j11 s10 (xs fun _ s12=>(ct (xk (T s12 (xs fun _ s13=>(xb (xs fun _ s14=>(xn 2 fun _ j15=>(nq 0 [(10,I8 z2),(4,I8 z2)] (fj j15 s14 (xn 11 fun _ j16=>(nq 0 [(11,U8 z1),(12,.slice a0_A a0_n a0_c),(13,I8 z2)] ?_))))))))))))
  obtain ⟨h0,h1,h⟩:=oc2 h
  have i0_17:=h0
  have i1_17:=h1
  refine tkf 3 14 (PA CB a0_A z2) (yiL (C:=CB) 24 5 .i64 z2 (rR 0 hs) h0 h1) (tkt 4 15 _ (yL (C:=CB) 5 z2 (rR 0 hs) rfl i0_17 i1_17) (nq 5 [(16,U8 (iconv .u64 (rdL CB a0 z2))),(17,I8 z2),(18,I8 (imul .i64 8 z2))] ?_))
  obtain ⟨h0,h⟩:=oc h
  refine tkf 8 19 (U8 (ishl .u64 (iconv .u64 (rdL CB a0 z2)) (imul .i64 8 z2))) (ysl 85 .i64 h0) (qo 9 20 (U8 (ior .u64 z1 (ishl .u64 (iconv .u64 (rdL CB a0 z2)) (imul .i64 8 z2)))) ?_)
  obtain ⟨x4,hx,h⟩:=ob h
  refine tkf 10 3 (U8 x4) (yn hx) (fin (j16 _ _ (iN (T s13 (xn 2 fun _ j18=>(nq 0 [(21,I8 (iadd .i64 z2 1)),(8,I8 (iadd .i64 z2 1))] (fin (j18 _ _ ?_))))))))
  exact tn (kl0 _ _ ⟨n,ls n,x4,(iadd .i64 z2 1),h,(hs.conv rfl),eg⟩)
  refine tb 0 9 (df hc) (fj j11 s10 (xs fun _ s19=>(cf (xexit (tx (tx (iH ?_)))))))
  obtain rfl:=of_some h
  exact exq_n (nn0 _ _ ⟨(hs.conv rfl),eg⟩)
 clear hs h hy
 rintro a w ⟨hs,g9,rfl⟩
 have h:=hk0
 refine T s5 (xs fun _ s20=>(xn 2 fun _ j21=>(nq 0 [(22,U8 y3),(2,U8 y3)] (fj j21 s20 (xret ?_)))))
 obtain rfl:=of_some h
 exact qq _ _ (pt [2] [U8 y3] ⟨cr,hs.none⟩)
end Go.Proofs.YtemdbgmldljbpaaGreatDoor

/- own -/
set_option linter.unusedVariables false
set_option linter.unusedSimpArgs false
set_option maxRecDepth 100000
set_option maxHeartbeats 4000000
namespace Go.Proofs.YtemdbgmldljbpaaGreatDoor
open Go.Mx
attribute [local irreducible] wpOp
theorem kpke_Parts.ok {K:Nat}{a0:List Int}{a1 a2:Int}{r0:Arr 256}{r1:Int}{a0_A:Option Addr}{a0_n a0_c:Nat}(h:kpke_Parts.f K a0 a1 a2=some (r0,r1)) (w0:World) (hp0:RowL CB w0 a0_A a0_n a0_c a0) (hg0:RowL CW w0 (some ⟨0,0,none⟩) 1 1 [tab_0]) (hg1:RowL CV w0 (some ⟨1,0,none⟩) 1 1 [tab_1]) (hg2:RowL CV w0 (some ⟨2,0,none⟩) 1 1 [tab_2]):Ret Tryz.prog 91 #[.slice a0_A a0_n a0_c,U1 a1,U1 a2] w0 (.tuple #[ag .i32 r0,I8 r1]):=by
 refine calls_m Tryz.func91 rfl fun Q qq qn=>?_
 have hs:=St.startR (all_cons (RowP.ent hp0) (all_cons (RowP.ent hg0) (all_cons (RowP.ent hg1) (all_cons (RowP.ent hg2) all_nil))))
 refine wc (a':=(fu 27 [.slice a0_A a0_n a0_c,U1 a1,U1 a2])) (xs fun _ s1=>(xn 2 fun _ j2=>(so 0 (oNe 6 70 .i32 (zeroA 256) hs fun b1 w gw hs=>(so 1 (oN 7 27 hs ([I8 0]) (I8 0) fun b2 w gw hs=>?_))))))
 refine fj j2 s1 (xs fun _ s3=>(xn 1 fun _ j4=>(so 0 (oNe 8 70 .i32 (zeroA 256) hs fun b3 w gw hs=>(fj j4 s3 (xs fun _ s5=>(xn 2 fun _ j6=>(so 0 (oN 9 3 hs ([I8 0]) (I8 0) fun b4 w gw hs=>(so 1 (oS1 3 (I8 0) 0 hs 0 rfl rfl (by simp) fun w kp hs=>?_)))))))))))
 refine fj j6 s5 (xs fun _ s7=>(xs fun _ s8=>(xn 7 fun _ j9=>(nq 0 [(11,.slice a0_A a0_n a0_c),(12,U1 a2),(13,U1 a1)] (so 3 (oLt (C:=CB) 14 24 5 2 (U1 0) #[(0,U1 a2),(1,U1 a1)] [a2,a1] hs rfl (by decide) (by decide) fun s5_A s5_n s5_c w gw hs=>(so 4 (oLt (C:=CS) 15 57 24 2 (.slice none 0 0) #[(0,.slice a0_A a0_n a0_c),(1,.slice s5_A s5_n s5_c)] ([(a0_A,a0_n,a0_c),(s5_A,s5_n,s5_c)]:List HS) hs rfl (by decide) (by decide) fun s6_A s6_n s6_c w gw hs=>?_))))))))
 obtain ⟨r7,hg,h⟩:=ob h
 refine wpS.only 5 (oH 16 hs (bits_Join.ok hg _ (LLP.mk (rL 0 hs) (inn_cons (rR 0 hs) (inn_cons (rL 1 hs) inn_nil)))) ?_)
 rintro ⟨r7_A,r7_n,r7_c⟩ w gw hs
 have hs:=hs.conv (L':=[.ownL CB r7_A r7_n r7_c r7 5,.ownL CS s6_A s6_n s6_c ([(a0_A,a0_n,a0_c),(s5_A,s5_n,s5_c)]:List HS) 24,.ownL CB s5_A s5_n s5_c ([a2,a1]:List Int) 5,.blk b4 ([I8 0]) 3,.blk b3 (enc .i32 (zeroA 256)) 70,.blk b2 ([I8 0]) 27,.blk b1 (enc .i32 (zeroA 256)) 70]) rfl
 refine ⟨fun _=>trivial,?_⟩
 refine wpS.only 6 (op_inline (d:=(some 17)) (f:=109) (args:=#[.slice r7_A r7_n r7_c]) (by kernel_rfl) (fun _=>by kernel_rfl) fun R10 kI10=>?_)
 refine calls_k Tryz.func109 rfl fun Q10 qq10=>?_
 refine wc (a':=(fu 3 [.slice r7_A r7_n r7_c])) (xs fun _ s11=>(xn 2 fun _ j12=>(so 0 (oB 1 24 (.slice r7_A r7_n r7_c) hs ([.slice r7_A r7_n r7_c]) fun b8 w gw hs=>(qo 1 2 (.nilFunc) ?_)))))
 refine fj j12 s11 (xs fun _ s13=>(xn 2 fun _ j14=>(nq 0 [(3,.func (.func 115) #[] #[P0 b8]),(2,.func (.func 115) #[] #[P0 b8])] (fj j14 s13 (xret ?_)))))
 refine qq10 _ _ (pt [2] [.func (.func 115) #[] #[P0 b8]] ?_)
 refine kI10 _ _ ?_
 refine ⟨fun _=>trivial,?_⟩
 refine fj j9 s8 (xb ?_)
 refine wp_range (gf:=115) (lb:=#[P0 b8]) hs (by kernel_rfl) (fun _ _=>by kernel_rfl) fun l15 D15 rec15 w hok15 hs R15 kR15=>?_
 refine calls_kn Tryz.func115 rfl fun Q15 qq15 qn15=>?_
 refine wc (a':=(fu 35 [.func (.yield l15) #[] #[],P0 b8])) (xs fun _ s16=>(xn 7 fun _ j17=>?_))
 obtain ⟨⟨r9_0,r9_1,r9_2,r9_3,r10⟩,hg,h⟩:=ob h
 refine so 0 (oC 8 hs (keccak_New.ok hg _) fun w gw hs=>?_)
 refine nq 1 [(7,.tuple #[.agg (vl [I8 r9_0]++enc .u64 r9_1++vl [I8 r9_2,.bool r9_3]).toArray,I8 r10]),(9,.agg (vl [I8 r9_0]++enc .u64 r9_1++vl [I8 r9_2,.bool r9_3]).toArray),(10,I8 r10)] (so 4 (oN 3 88 hs (vl [I8 0]++enc .u64 (zeroA 25)++vl [I8 0,.bool false]) (.agg (vl [I8 0]++enc .u64 (zeroA 25)++vl [I8 0,.bool false]).toArray) fun b11 w gw hs=>(so 5 (oW 28 88 (.agg (vl [I8 r9_0]++enc .u64 r9_1++vl [I8 r9_2,.bool r9_3]).toArray) (vl [I8 r9_0]++enc .u64 r9_1++vl [I8 r9_2,.bool r9_3]) hs 0 rfl (by simp [enc_len]) (by simp [enc_len]) (one_app (one_app (by simp [Value.oneCell']) (fun u hu=>enc_one _ _ u hu)) (by simp [Value.oneCell'])) fun w kp hs=>(qo 6 4 (I8 r10) (fj j17 s16 (xs fun _ s18=>(xn 4 fun _ j19=>?_))))))))
 refine tkt 0 11 _ (yWs 28 88 hs 0 .grow) (tkt 1 12 _ (yv hs 3 0 24 rfl (by rfl) .grow) ?_)
 obtain ⟨⟨r12_0,r12_1,r12_2,r12_3⟩,hg,h⟩:=ob h
 refine so 2 (oC 13 hs (keccak_Absorb.ok hg _ (rL 4 hs) (rR 1 hs) (rR 2 hs) (rR 3 hs)) fun w gw hs=>?_)
 refine so 3 (oW 28 88 (.agg (vl [I8 r12_0]++enc .u64 r12_1++vl [I8 r12_2,.bool r12_3]).toArray) (vl [I8 r12_0]++enc .u64 r12_1++vl [I8 r12_2,.bool r12_3]) hs 0 rfl (by simp [enc_len]) (by simp [enc_len]) (one_app (one_app (by simp [Value.oneCell']) (fun u hu=>enc_one _ _ u hu)) (by simp [Value.oneCell'])) fun w kp hs=>?_)
 refine fj j19 s18 (xs fun _ s20=>(xn 1 fun _ j21=>(qo 0 14 (I8 0) (fj j21 s20 (?_)))))
 obtain ⟨t0,hy,hk0⟩:=ob h
 refine wp_exq (N:=fun a w=>∃ y19_0 y19_1 y19_2 y19_3 y20 y21 y22 y23,t0 = .inl (y19_0,y19_1,y19_2,y19_3,y20,y21,y22,y23)∧St w0 [] [.blk b11 (vl [I8 y19_0]++enc .u64 y19_1++vl [I8 y19_2,.bool y19_3]) 88,.obj l15 (.loop (rec15 .ready none)),.obj D15 (.deferred (some [])),.blk b8 ([.slice r7_A r7_n r7_c]) 24,.ownL CB r7_A r7_n r7_c r7 5,.ownL CS s6_A s6_n s6_c ([(a0_A,a0_n,a0_c),(s5_A,s5_n,s5_c)]:List HS) 24,.ownL CB s5_A s5_n s5_c ([a2,a1]:List Int) 5,.blk b4 ([I8 y20]) 3,.blk b3 (enc .i32 y21) 70,.blk b2 ([I8 y22]) 27,.blk b1 (enc .i32 y23) 70] [.rowL CB a0_A a0_n a0_c a0,.rowL CW (some ⟨0,0,none⟩) 1 1 ([tab_0]),.rowL CV (some ⟨1,0,none⟩) 1 1 ([tab_1]),.rowL CV (some ⟨2,0,none⟩) 1 1 ([tab_2])] w∧∃ g23,a=fr g23 37 []) (fun N0 nn0=>?_) ?_
 refine xb ?_
 refine wp_loop_k (fun n a w=>∃ z13 z14_0 z14_1 z14_2 z14_3 z15 z16 z17 z18,kpke_Parts.l0 K n z13 z14_0 z14_1 z14_2 z14_3 z15 z16 z17 z18=some t0∧St w0 [] [.blk b11 (vl [I8 z14_0]++enc .u64 z14_1++vl [I8 z14_2,.bool z14_3]) 88,.obj l15 (.loop (rec15 .ready none)),.obj D15 (.deferred (some [])),.blk b8 ([.slice r7_A r7_n r7_c]) 24,.ownL CB r7_A r7_n r7_c r7 5,.ownL CS s6_A s6_n s6_c ([(a0_A,a0_n,a0_c),(s5_A,s5_n,s5_c)]:List HS) 24,.ownL CB s5_A s5_n s5_c ([a2,a1]:List Int) 5,.blk b4 ([I8 z15]) 3,.blk b3 (enc .i32 z16) 70,.blk b2 ([I8 z17]) 27,.blk b1 (enc .i32 z18) 70] [.rowL CB a0_A a0_n a0_c a0,.rowL CW (some ⟨0,0,none⟩) 1 1 ([tab_0]),.rowL CV (some ⟨1,0,none⟩) 1 1 ([tab_1]),.rowL CV (some ⟨2,0,none⟩) 1 1 ([tab_2])] w∧∃ g22,a=fr g22 37 [(0,[.func (.yield l15) #[] #[]]),(3,[P0 b11]),(14,[I8 z13])]) K ⟨0,r12_0,r12_1,r12_2,r12_3,0,(zeroA 256),0,(zeroA 256),hy,hs.conv rfl,eg⟩ ?_
 clear hs h hy
 rintro n a w ⟨z13,z14_0,z14_1,z14_2,z14_3,z15,z16,z17,z18,h,hs,g22,rfl⟩ KL0 kl0
 cases n with
 | zero=>exact nomatch (show none=some _ from h)
 | succ n=>
  refine xs fun _ s24=>(xn 1 fun _ j25=>?_)
  obtain ⟨hc,h⟩|⟨hc,h⟩:=of_if h
  refine tb 0 15 (dt hc) ?_
  refine fj j25 s24 (xs fun _ s26=>(ct (xk (T s26 (xs fun _ s27=>(xb (xs fun _ s28=>(xn 1 fun _ j29=>(qo 0 5 (.slice none 0 0) (fj j29 s28 (xs fun _ s30=>(xn 7 fun _ j31=>(tkt 0 17 _ (yWs 28 88 hs 0 .grow) ?_)))))))))))))
  obtain ⟨⟨r24_0,r24_1,r24_2,r24_3,r25⟩,hg,h⟩:=ob h
  refine wpS.only 1 (oH 18 hs (keccak_Squeeze.ok hg _ (rR 1 hs) (rR 2 hs) (rR 3 hs)) ?_)
  rintro ⟨r25_A,r25_n,r25_c⟩ w gw hs
  have hs:=hs.conv (L':=[.ownL CB r25_A r25_n r25_c r25 5,.blk b11 (vl [I8 z14_0]++enc .u64 z14_1++vl [I8 z14_2,.bool z14_3]) 88,.obj l15 (.loop (rec15 .ready none)),.obj D15 (.deferred (some [])),.blk b8 ([.slice r7_A r7_n r7_c]) 24,.ownL CB r7_A r7_n r7_c r7 5,.ownL CS s6_A s6_n s6_c ([(a0_A,a0_n,a0_c),(s5_A,s5_n,s5_c)]:List HS) 24,.ownL CB s5_A s5_n s5_c ([a2,a1]:List Int) 5,.blk b4 ([I8 z15]) 3,.blk b3 (enc .i32 z16) 70,.blk b2 ([I8 z17]) 27,.blk b1 (enc .i32 z18) 70]) rfl
  refine ⟨fun _=>trivial,?_⟩
  refine nq 2 [(16,.tuple #[.agg (vl [I8 r24_0]++enc .u64 r24_1++vl [I8 r24_2,.bool r24_3]).toArray,.slice r25_A r25_n r25_c]),(19,.agg (vl [I8 r24_0]++enc .u64 r24_1++vl [I8 r24_2,.bool r24_3]).toArray),(20,.slice r25_A r25_n r25_c)] (so 5 (oW 28 88 (.agg (vl [I8 r24_0]++enc .u64 r24_1++vl [I8 r24_2,.bool r24_3]).toArray) (vl [I8 r24_0]++enc .u64 r24_1++vl [I8 r24_2,.bool r24_3]) hs 1 rfl (by simp [enc_len]) (by simp [enc_len]) (one_app (one_app (by simp [Value.oneCell']) (fun u hu=>enc_one _ _ u hu)) (by simp [Value.oneCell'])) fun w kp hs=>(qo 6 5 (.slice r25_A r25_n r25_c) (fj j31 s30 (xs fun _ s32=>(xn 4 fun _ j33=>(qo 0 21 (.slice r25_A r25_n r25_c) ?_)))))))
  obtain ⟨r26,hg,h⟩:=ob h
  refine so 1 (oC 22 hs (bits_NumLe.ok hg _ (rL 0 hs)) fun w gw hs=>?_)
  refine qo 2 23 (I4 (iconv .i32 r26)) ?_
  obtain ⟨x27,hx,h⟩:=ob h
  refine tkf 3 6 (I4 x27) (yn hx) (fj j33 s32 (xs fun _ s34=>(xn 12 fun _ j35=>(nq 0 [(24,.func (.yield l15) #[] #[]),(25,I4 x27),(26,I4 (iand .i32 x27 4095))] ?_))))
  refine wpS.onlyR 3 (oY 27 hs 2 #[.slice a0_A a0_n a0_c,U1 a1,U1 a2,undef,undef,undef,P0 b1,P0 b2,P0 b3,P0 b4,undef,.slice a0_A a0_n a0_c,U1 a2,U1 a1,.slice s5_A s5_n s5_c,.slice s6_A s6_n s6_c,.slice r7_A r7_n r7_c,.func (.func 115) #[] #[P0 b8],I4 (iand .i32 x27 4095),undef,undef,undef,undef,undef,undef,undef,undef,undef,undef,undef] rfl hok15 #[I4 (iand .i32 x27 4095)] rfl fun K36 k36=>?_)
  refine xn 1 fun _ j37=>?_
  obtain ⟨x28,hx,h⟩:=ob h
  refine tkf 0 10 (I4 x28) (yn hx) (fin (j37 _ _ (tn (k36 _ _ 2 _ _ hs rfl fun w Qr36 hs qr36=>?_))))
  try dsimp only [List.set] at hs
  refine xb (xs fun _ s38=>(xs fun _ s39=>(xn 2 fun _ j40=>(qo 0 19 (I4 x28) ?_))))
  obtain ⟨hc,h⟩|⟨hc,h⟩:=of_if h
  refine tb 1 20 (dt hc) ?_
  refine fj j40 s39 (ct (xexit (tx (iH ?_))))
  refine round_n qr36 hs 2 rfl fun w hs=>?_
  try dsimp only [List.set] at hs
  refine ⟨fun _=>trivial,?_⟩
  refine nq 4 [(28,.bool false),(29,.bool false),(30,.func (.yield l15) #[] #[]),(31,I4 x27),(32,I4 (ishr .i32 x27 12))] ?_
  refine wpS.onlyR 9 (oY 33 hs 2 #[.slice a0_A a0_n a0_c,U1 a1,U1 a2,undef,undef,undef,P0 b1,P0 b2,P0 b3,P0 b4,undef,.slice a0_A a0_n a0_c,U1 a2,U1 a1,.slice s5_A s5_n s5_c,.slice s6_A s6_n s6_c,.slice r7_A r7_n r7_c,.func (.func 115) #[] #[P0 b8],I4 (ishr .i32 x27 12),undef,undef,undef,undef,undef,undef,undef,undef,undef,undef,undef] rfl hok15 #[I4 (ishr .i32 x27 12)] rfl fun K41 k41=>?_)
  refine xn 1 fun _ j42=>?_
  obtain ⟨x29,hx,h⟩:=ob h
  refine tkf 0 10 (I4 x29) (yn hx) (fin (j42 _ _ (tn (k41 _ _ 2 _ _ hs rfl fun w Qr41 hs qr41=>?_))))
  try dsimp only [List.set] at hs
  refine xb (xs fun _ s43=>(xs fun _ s44=>(xn 2 fun _ j45=>(qo 0 19 (I4 x29) ?_))))
  obtain ⟨hc,h⟩|⟨hc,h⟩:=of_if h
  refine tb 1 20 (dt hc) ?_
  refine fj j45 s44 (ct (xexit (tx (iH ?_))))
  refine round_n qr41 hs 2 rfl fun w hs=>?_
  try dsimp only [List.set] at hs
  refine ⟨fun _=>trivial,?_⟩
  refine nq 10 [(34,.bool false),(35,.bool false)] (fj j35 s34 (cf (xk (iN (T s27 (xn 2 fun _ j46=>(nq 0 [(36,I8 (iadd .i64 z13 1)),(14,I8 (iadd .i64 z13 1))] (fin (j46 _ _ ?_)))))))))
  exact tn (kl0 _ _ ⟨n,ls n,(iadd .i64 z13 1),r24_0,r24_1,r24_2,r24_3,z15,z16,z17,z18,h,(dr [0,1,1,1,1,1,1,1,1,1,1,1] hs),eg⟩)
  refine tb 1 20 (df hc) (fj j45 s44 (cf (xk (T s43 (xs fun _ s47=>(xn 4 fun _ j48=>(tkt 0 21 _ (yv hs 8 0 3 rfl (by rfl) .grow) (qo 1 22 (I4 x29) ?_))))))))
  obtain ⟨i0_49,i1_49,h⟩:=oc2 h
  refine tkf 2 23 (P1 b3 z15) (yi 70 21 256 1 .i64 z15 i0_49 i1_49) (so 3 (oA 21 x29 z15 hs 9 rfl (by kernel_rfl) i0_49 i1_49 fun w kp hs=>(fj j48 s47 (xs fun _ s50=>(xn 3 fun _ j51=>(tkt 0 24 _ (yv hs 8 0 3 rfl (by rfl) .grow) (qo 1 25 (I8 (iadd .i64 z15 1)) ?_)))))))
  obtain ⟨x30,hx,h⟩:=ob h
  refine so 2 (oS1 (he:=by cases hx; kernel_rfl) 3 (I8 x30) 0 hs 8 rfl rfl (by simp) fun w kp hs=>?_)
  refine fj j51 s50 (xs fun _ s52=>(xn 2 fun _ j53=>(tkt 0 26 _ (yv hs 8 0 3 rfl (by rfl) .grow) ?_)))
  obtain ⟨hc,h⟩|⟨hc,h⟩:=of_if h
  refine tb 1 27 (et hc) ?_
  refine fj j53 s52 (ct (xs fun _ s54=>(xn 3 fun _ j55=>(tkt 0 28 _ (yWe 70 hs 9 .grow) (so 1 (oWe 70 .i32 (wr z16 z15 x29) hs 11 fun w kp hs=>(so 2 (oS1 27 (I8 0) 0 hs 10 rfl rfl (by simp) fun w kp hs=>(fj j55 s54 (xret (iR ?_)))))))))))
  refine round_r qr41 hs 2 rfl fun w hs=>?_
  try dsimp only [List.set] at hs
  refine ⟨fun _=>trivial,?_⟩
  refine nq 10 [(34,.bool true),(35,.bool true)] (fj j35 s34 (ct (xret (iR (tr (tr (iR (exq_r ?_))))))))
  refine qq15 _ _ (pr (rr [] [] .nil) ?_)
  refine range_j (a1:=⟨#[.slice a0_A a0_n a0_c,U1 a1,U1 a2,undef,undef,undef,P0 b1,P0 b2,P0 b3,P0 b4,undef,.slice a0_A a0_n a0_c,U1 a2,U1 a1,.slice s5_A s5_n s5_c,.slice s6_A s6_n s6_c,.slice r7_A r7_n r7_c,.func (.func 115) #[] #[P0 b8],undef,undef,undef,undef,undef,undef,undef,undef,undef,undef,undef,undef],[lmark D15]⟩) .ret kR15 (by kernel_rfl) hs 2 rfl fun w hs=>?_
  try dsimp only [List.set] at hs
  refine xret (iR (tr ?_))
  obtain rfl:=of_some h
  obtain ⟨q0,qr0⟩:=Prod.mk.inj (of_some hk0)
  have q1:=qr0
  subst q0
  subst q1
  refine qq _ _ ?_
  refine leaves_mark hs 3 rfl fun w hs=>?_
  try dsimp only [List.set] at hs
  exact leaves_end (rr [.cell 6 70,.cell 7 27] [ag .i32 (wr z16 z15 x29),I8 0] (.cons (rcN 256 hs 11 rfl (enc_len _ _)) (.cons (rc1 hs 10 rfl rfl) .nil))) ⟨cr,hs.none⟩
  refine tb 1 27 (ef hc) (fj j53 s52 (cf (xk (iN ?_))))
  refine round_n qr41 hs 2 rfl fun w hs=>?_
  try dsimp only [List.set] at hs
  refine ⟨fun _=>trivial,?_⟩
  refine nq 10 [(34,.bool false),(35,.bool false)] (fj j35 s34 (cf (xk (iN (T s27 (xn 2 fun _ j56=>(nq 0 [(36,I8 (iadd .i64 z13 1)),(14,I8 (iadd .i64 z13 1))] (fin (j56 _ _ ?_)))))))))
  exact tn (kl0 _ _ ⟨n,ls n,(iadd .i64 z13 1),r24_0,r24_1,r24_2,r24_3,x30,(wr z16 z15 x29),z17,z18,h,(dr [0,1,1,1,1,1,1,1,1,1,1,1] hs),eg⟩)
  refine tb 1 20 (df hc) (fj j40 s39 (cf (xk (T s38 (xs fun _ s57=>(xn 4 fun _ j58=>(tkt 0 21 _ (yv hs 8 0 3 rfl (by rfl) .grow) (qo 1 22 (I4 x28) ?_))))))))
  obtain ⟨i0_59,i1_59,h⟩:=oc2 h
  refine tkf 2 23 (P1 b3 z15) (yi 70 21 256 1 .i64 z15 i0_59 i1_59) (so 3 (oA 21 x28 z15 hs 9 rfl (by kernel_rfl) i0_59 i1_59 fun w kp hs=>(fj j58 s57 (xs fun _ s60=>(xn 3 fun _ j61=>(tkt 0 24 _ (yv hs 8 0 3 rfl (by rfl) .grow) (qo 1 25 (I8 (iadd .i64 z15 1)) ?_)))))))
  obtain ⟨x31,hx,h⟩:=ob h
  refine so 2 (oS1 (he:=by cases hx; kernel_rfl) 3 (I8 x31) 0 hs 8 rfl rfl (by simp) fun w kp hs=>?_)
  refine fj j61 s60 (xs fun _ s62=>(xn 2 fun _ j63=>(tkt 0 26 _ (yv hs 8 0 3 rfl (by rfl) .grow) ?_)))
  obtain ⟨hc,h⟩|⟨hc,h⟩:=of_if h
  refine tb 1 27 (et hc) ?_
  refine fj j63 s62 (ct (xs fun _ s64=>(xn 3 fun _ j65=>(tkt 0 28 _ (yWe 70 hs 9 .grow) (so 1 (oWe 70 .i32 (wr z16 z15 x28) hs 11 fun w kp hs=>(so 2 (oS1 27 (I8 0) 0 hs 10 rfl rfl (by simp) fun w kp hs=>(fj j65 s64 (xret (iR ?_)))))))))))
  refine round_r qr36 hs 2 rfl fun w hs=>?_
  try dsimp only [List.set] at hs
  refine ⟨fun _=>trivial,?_⟩
  refine nq 4 [(28,.bool true),(29,.bool true),(30,undef),(31,undef),(32,undef),(33,undef),(34,undef),(35,.bool true)] (fj j35 s34 (ct (xret (iR (tr (tr (iR (exq_r ?_))))))))
  refine qq15 _ _ (pr (rr [] [] .nil) ?_)
  refine range_j (a1:=⟨#[.slice a0_A a0_n a0_c,U1 a1,U1 a2,undef,undef,undef,P0 b1,P0 b2,P0 b3,P0 b4,undef,.slice a0_A a0_n a0_c,U1 a2,U1 a1,.slice s5_A s5_n s5_c,.slice s6_A s6_n s6_c,.slice r7_A r7_n r7_c,.func (.func 115) #[] #[P0 b8],undef,undef,undef,undef,undef,undef,undef,undef,undef,undef,undef,undef],[lmark D15]⟩) .ret kR15 (by kernel_rfl) hs 2 rfl fun w hs=>?_
  try dsimp only [List.set] at hs
  refine xret (iR (tr ?_))
  obtain rfl:=of_some h
  obtain ⟨q0,qr0⟩:=Prod.mk.inj (of_some hk0)
  have q1:=qr0
  subst q0
  subst q1
  refine qq _ _ ?_
  refine leaves_mark hs 3 rfl fun w hs=>?_
  try dsimp only [List.set] at hs
  exact leaves_end (rr [.cell 6 70,.cell 7 27] [ag .i32 (wr z16 z15 x28),I8 0] (.cons (rcN 256 hs 11 rfl (enc_len _ _)) (.cons (rc1 hs 10 rfl rfl) .nil))) ⟨cr,hs.none⟩
  refine tb 1 27 (ef hc) (fj j63 s62 (cf (xk (iN ?_))))
  refine round_n qr36 hs 2 rfl fun w hs=>?_
  try dsimp only [List.set] at hs
  refine ⟨fun _=>trivial,?_⟩
  refine nq 4 [(28,.bool false),(29,.bool false),(30,.func (.yield l15) #[] #[]),(31,I4 x27),(32,I4 (ishr .i32 x27 12))] ?_
  refine wpS.onlyR 9 (oY 33 hs 2 #[.slice a0_A a0_n a0_c,U1 a1,U1 a2,undef,undef,undef,P0 b1,P0 b2,P0 b3,P0 b4,undef,.slice a0_A a0_n a0_c,U1 a2,U1 a1,.slice s5_A s5_n s5_c,.slice s6_A s6_n s6_c,.slice r7_A r7_n r7_c,.func (.func 115) #[] #[P0 b8],I4 (ishr .i32 x27 12),undef,undef,undef,undef,undef,undef,undef,undef,undef,undef,undef] rfl hok15 #[I4 (ishr .i32 x27 12)] rfl fun K66 k66=>?_)
  refine xn 1 fun _ j67=>?_
  obtain ⟨x32,hx,h⟩:=ob h
  refine tkf 0 10 (I4 x32) (yn hx) (fin (j67 _ _ (tn (k66 _ _ 2 _ _ hs rfl fun w Qr66 hs qr66=>?_))))
  try dsimp only [List.set] at hs
  refine xb (xs fun _ s68=>(xs fun _ s69=>(xn 2 fun _ j70=>(qo 0 19 (I4 x32) ?_))))
  obtain ⟨hc,h⟩|⟨hc,h⟩:=of_if h
  refine tb 1 20 (dt hc) ?_
  refine fj j70 s69 (ct (xexit (tx (iH ?_))))
  refine round_n qr66 hs 2 rfl fun w hs=>?_
  try dsimp only [List.set] at hs
  refine ⟨fun _=>trivial,?_⟩
  refine nq 10 [(34,.bool false),(35,.bool false)] (fj j35 s34 (cf (xk (iN (T s27 (xn 2 fun _ j71=>(nq 0 [(36,I8 (iadd .i64 z13 1)),(14,I8 (iadd .i64 z13 1))] (fin (j71 _ _ ?_)))))))))
  exact tn (kl0 _ _ ⟨n,ls n,(iadd .i64 z13 1),r24_0,r24_1,r24_2,r24_3,x31,(wr z16 z15 x28),z17,z18,h,(dr [0,1,1,1,1,1,1,1,1,1,1,1] hs),eg⟩)
  refine tb 1 20 (df hc) (fj j70 s69 (cf (xk (T s68 (xs fun _ s72=>(xn 4 fun _ j73=>(tkt 0 21 _ (yv hs 8 0 3 rfl (by rfl) .grow) (qo 1 22 (I4 x32) ?_))))))))
  obtain ⟨i0_74,i1_74,h⟩:=oc2 h
  refine tkf 2 23 (P1 b3 x31) (yi 70 21 256 1 .i64 x31 i0_74 i1_74) (so 3 (oA 21 x32 x31 hs 9 rfl (by kernel_rfl) i0_74 i1_74 fun w kp hs=>(fj j73 s72 (xs fun _ s75=>(xn 3 fun _ j76=>(tkt 0 24 _ (yv hs 8 0 3 rfl (by rfl) .grow) (qo 1 25 (I8 (iadd .i64 x31 1)) ?_)))))))
  obtain ⟨x33,hx,h⟩:=ob h
  refine so 2 (oS1 (he:=by cases hx; kernel_rfl) 3 (I8 x33) 0 hs 8 rfl rfl (by simp) fun w kp hs=>?_)
  refine fj j76 s75 (xs fun _ s77=>(xn 2 fun _ j78=>(tkt 0 26 _ (yv hs 8 0 3 rfl (by rfl) .grow) ?_)))
  obtain ⟨hc,h⟩|⟨hc,h⟩:=of_if h
  refine tb 1 27 (et hc) ?_
  refine fj j78 s77 (ct (xs fun _ s79=>(xn 3 fun _ j80=>(tkt 0 28 _ (yWe 70 hs 9 .grow) (so 1 (oWe 70 .i32 (wr (wr z16 z15 x28) x31 x32) hs 11 fun w kp hs=>(so 2 (oS1 27 (I8 0) 0 hs 10 rfl rfl (by simp) fun w kp hs=>(fj j80 s79 (xret (iR ?_)))))))))))
  refine round_r qr66 hs 2 rfl fun w hs=>?_
  try dsimp only [List.set] at hs
  refine ⟨fun _=>trivial,?_⟩
  refine nq 10 [(34,.bool true),(35,.bool true)] (fj j35 s34 (ct (xret (iR (tr (tr (iR (exq_r ?_))))))))
  refine qq15 _ _ (pr (rr [] [] .nil) ?_)
  refine range_j (a1:=⟨#[.slice a0_A a0_n a0_c,U1 a1,U1 a2,undef,undef,undef,P0 b1,P0 b2,P0 b3,P0 b4,undef,.slice a0_A a0_n a0_c,U1 a2,U1 a1,.slice s5_A s5_n s5_c,.slice s6_A s6_n s6_c,.slice r7_A r7_n r7_c,.func (.func 115) #[] #[P0 b8],undef,undef,undef,undef,undef,undef,undef,undef,undef,undef,undef,undef],[lmark D15]⟩) .ret kR15 (by kernel_rfl) hs 2 rfl fun w hs=>?_
  try dsimp only [List.set] at hs
  refine xret (iR (tr ?_))
  obtain rfl:=of_some h
  obtain ⟨q0,qr0⟩:=Prod.mk.inj (of_some hk0)
  have q1:=qr0
  subst q0
  subst q1
  refine qq _ _ ?_
  refine leaves_mark hs 3 rfl fun w hs=>?_
  try dsimp only [List.set] at hs
  exact leaves_end (rr [.cell 6 70,.cell 7 27] [ag .i32 (wr (wr z16 z15 x28) x31 x32),I8 0] (.cons (rcN 256 hs 11 rfl (enc_len _ _)) (.cons (rc1 hs 10 rfl rfl) .nil))) ⟨cr,hs.none⟩
  refine tb 1 27 (ef hc) (fj j78 s77 (cf (xk (iN ?_))))
  refine round_n qr66 hs 2 rfl fun w hs=>?_
  try dsimp only [List.set] at hs
  refine ⟨fun _=>trivial,?_⟩
  refine nq 10 [(34,.bool false),(35,.bool false)] (fj j35 s34 (cf (xk (iN (T s27 (xn 2 fun _ j81=>(nq 0 [(36,I8 (iadd .i64 z13 1)),(14,I8 (iadd .i64 z13 1))] (fin (j81 _ _ ?_)))))))))
  exact tn (kl0 _ _ ⟨n,ls n,(iadd .i64 z13 1),r24_0,r24_1,r24_2,r24_3,x33,(wr (wr z16 z15 x28) x31 x32),z17,z18,h,(dr [0,1,1,1,1,1,1,1,1,1,1,1] hs),eg⟩)
  refine tb 0 15 (df hc) (fj j25 s24 (xs fun _ s82=>(cf (xexit (tx (tx (iH ?_)))))))
  obtain rfl:=of_some h
  exact exq_n (nn0 _ _ ⟨z14_0,z14_1,z14_2,z14_3,z15,z16,z17,z18,rfl,(hs.conv rfl),eg⟩)
 clear hs h hy
 rintro a w ⟨y19_0,y19_1,y19_2,y19_3,y20,y21,y22,y23,rfl,hs,g23,rfl⟩
 have h:=hk0
 refine qn15 _ _ (pn (rr [] [] .nil) ?_)
 refine range_n (a1:=⟨#[.slice a0_A a0_n a0_c,U1 a1,U1 a2,undef,undef,undef,P0 b1,P0 b2,P0 b3,P0 b4,undef,.slice a0_A a0_n a0_c,U1 a2,U1 a1,.slice s5_A s5_n s5_c,.slice s6_A s6_n s6_c,.slice r7_A r7_n r7_c,.func (.func 115) #[] #[P0 b8],undef,undef,undef,undef,undef,undef,undef,undef,undef,undef,undef,undef],[lmark D15]⟩) kR15 (by kernel_rfl) hs 1 rfl fun w hs=>?_
 try dsimp only [List.set] at hs
 refine iN (T s7 (xs fun _ s83=>(xn 3 fun _ j84=>?_)))
 refine qo 0 29 (ag .i32 (zeroA 256)) (so 1 (oWe 70 .i32 (zeroA 256) hs 10 fun w kp hs=>(so 2 (oS1 27 (I8 12) 0 hs 9 rfl rfl (by simp) fun w kp hs=>(fj j84 s83 (xret ?_))))))
 obtain ⟨rfl,rfl⟩:=os2 h
 refine qq _ _ ?_
 refine leaves_mark hs 2 rfl fun w hs=>?_
 try dsimp only [List.set] at hs
 exact leaves_end (rr [.cell 6 70,.cell 7 27] [ag .i32 (zeroA 256),I8 12] (.cons (rcN 256 hs 10 rfl (enc_len _ _)) (.cons (rc1 hs 9 rfl rfl) .nil))) ⟨cr,hs.none⟩
theorem bits_such.ok {K:Nat}{a0:List Int}{a1 a2:Int}{r0:Bool}{a0_A:Option Addr}{a0_n a0_c:Nat}(h:bits_such.f K a0 a1 a2=some r0) (w0:World) (hp0:RowL CB w0 a0_A a0_n a0_c a0):Ret Tryz.prog 112 #[.slice a0_A a0_n a0_c,I8 a1,I8 a2] w0 (.bool r0):=by
 refine calls_k Tryz.func112 rfl fun Q qq=>?_
 have hs:=St.startR (all_cons (RowP.ent hp0) all_nil)
 refine wc (a':=(fu 23 [.slice a0_A a0_n a0_c,I8 a1,I8 a2])) (xs fun _ s1=>(xn 1 fun _ j2=>(qo 0 6 (.bool false) (fj j2 s1 (xs fun _ s3=>(xn 20 fun _ j4=>?_))))))
 refine qo 0 7 (I8 a1) ?_
 obtain ⟨hc,h⟩|⟨hc,h⟩:=of_if h
 refine tb 1 8 (dt hc) ?_
 refine nq 2 [(9,.bool true),(10,I8 a1)] ?_
 obtain ⟨hc,h⟩|⟨hc,h⟩:=of_if h
 refine tb 4 11 (dt hc) ?_
 refine nq 5 [(12,.bool true),(13,.bool true),(14,I8 a2)] ?_
 obtain ⟨hc,h⟩|⟨hc,h⟩:=of_if h
 refine tb 8 15 (dt hc) ?_
 refine nq 9 [(16,.bool true),(17,.bool true),(18,I8 a2),(19,.slice a0_A a0_n a0_c)] (tkf 13 20 (I8 (a0.length:Int)) (yl (rR 0 hs)) (nq 14 [(21,I8 (imul .i64 (a0.length:Int) 8)),(22,I8 a1)] ?_))
 obtain ⟨h0,h⟩:=oc h
 refine tkf 16 23 (I8 (iquo .i64 (imul .i64 (a0.length:Int) 8) a1)) (yq 3 h0) (nq 17 [(24,.bool (decide (a2≤(iquo .i64 (imul .i64 (a0.length:Int) 8) a1)))),(25,.bool (decide (a2≤(iquo .i64 (imul .i64 (a0.length:Int) 8) a1)))),(6,.bool (decide (a2≤(iquo .i64 (imul .i64 (a0.length:Int) 8) a1))))] (fj j4 s3 (xret ?_)))
 obtain rfl:=of_some h
 exact qq _ _ (pt [6] [.bool (decide (a2≤(iquo .i64 (imul .i64 (a0.length:Int) 8) a1)))] ⟨cr,hs.none⟩)
 refine tb 8 15 (df hc) (nq 9 [(16,.bool false),(17,.bool false),(18,undef),(19,undef),(20,undef),(21,undef),(22,undef),(23,undef),(24,undef),(25,.bool false),(6,.bool false)] (fj j4 s3 (xret ?_)))
 obtain rfl:=of_some h
 exact qq _ _ (pt [6] [.bool false] ⟨cr,hs.none⟩)
 refine tb 4 11 (df hc) (nq 5 [(12,.bool false),(13,.bool false),(14,undef),(15,undef),(16,.bool false),(17,.bool false),(18,undef),(19,undef),(20,undef),(21,undef),(22,undef),(23,undef),(24,undef),(25,.bool false),(6,.bool false)] (fj j4 s3 (xret ?_)))
 obtain rfl:=of_some h
 exact qq _ _ (pt [6] [.bool false] ⟨cr,hs.none⟩)
 refine tb 1 8 (df hc) (nq 2 [(9,.bool false),(10,undef),(11,undef),(12,.bool false),(13,.bool false),(14,undef),(15,undef),(16,.bool false),(17,.bool false),(18,undef),(19,undef),(20,undef),(21,undef),(22,undef),(23,undef),(24,undef),(25,.bool false),(6,.bool false)] (fj j4 s3 (xret ?_)))
 obtain rfl:=of_some h
 exact qq _ _ (pt [6] [.bool false] ⟨cr,hs.none⟩)
theorem bits_Unpack.ok {K:Nat}{a0:List Int}{a1 a2:Int}{r0:List Int}{a0_A:Option Addr}{a0_n a0_c:Nat}(h:bits_Unpack.f K a0 a1 a2=some r0) (w0:World) (hp0:RowL CB w0 a0_A a0_n a0_c a0):Calls Tryz.prog 96 #[.slice a0_A a0_n a0_c,I8 a1,I8 a2] w0 fun e w'=>∃ h:(Option Addr × Nat × Nat),e = .returned (.slice h.1 h.2.1 h.2.2)∧St w0 [] [.ownL (CI .u32) h.1 h.2.1 h.2.2 r0 112] [] w':=by
 refine calls_k Tryz.func96 rfl fun Q qq=>?_
 have hs:=St.startR (all_cons (RowP.ent hp0) all_nil)
 refine wc (a':=(fu 52 [.slice a0_A a0_n a0_c,I8 a1,I8 a2])) (xs fun _ s1=>(xn 1 fun _ j2=>(qo 0 6 (.slice none 0 0) (fj j2 s1 (xs fun _ s3=>(xs fun _ s4=>(xn 5 fun _ j5=>?_)))))))
 refine nq 0 [(11,.slice a0_A a0_n a0_c),(12,I8 a1),(13,I8 a2)] ?_
 obtain ⟨r1,hg,h⟩:=ob h
 cases r1 with
 | true=>
  have h:=of_if_t h
  refine so 3 (oC 14 hs (bits_such.ok hg _ (rR 0 hs)) fun w gw hs=>?_)
  refine qo 4 15 (.bool false) (fj j5 s4 (cf (xk (T s3 (xs fun _ s6=>(xn 3 fun _ j7=>(qo 0 16 (I8 a2) ?_)))))))
  obtain ⟨h0,h1,h⟩:=oc2 h
  refine so 1 (oMk (C:=(CI .u32)) 17 110 112 4 35184372088832 .i64 .i64 a2 hs h0 h1 (by decide) (by decide) fun s2_A s2_n s2_c w gw hs=>?_)
  refine qo 2 7 (.slice s2_A s2_n s2_c) (fj j7 s6 (xs fun _ s8=>(xn 2 fun _ j9=>(nq 0 [(8,U8 0),(9,I8 0)] (fj j9 s8 (xs fun _ s10=>(xs fun _ s11=>(xn 3 fun _ j12=>(qo 0 18 (.slice s2_A s2_n s2_c) ?_)))))))))
  refine tkf 1 19 (I8 ((List.replicate (a2:Int).toNat (Cod.zero (CI .u32))).length:Int)) (yl (rL 0 hs)) (qo 2 20 (I8 0) (fj j12 s11 (?_)))
  obtain ⟨y8,hy,hk0⟩:=ob h
  refine wp_exq (N:=fun a w=>St w0 [] [.ownL (CI .u32) s2_A s2_n s2_c y8 112] [.rowL CB a0_A a0_n a0_c a0] w∧∃ g14,a=fr g14 55 [(6,[.slice none 0 0,.slice s2_A s2_n s2_c])]) (fun N0 nn0=>?_) ?_
  clear hk0
  refine xb ?_
  refine wp_loop_k (fun n a w=>∃ z3 z4 z5 z6 z7,∃ z7_A z7_n z7_c,bits_Unpack.l0 K n a1 a2 z3 z4 z5 z6 z7=some y8∧St w0 [] [.ownL (CI .u32) s2_A s2_n s2_c z6 112] [.rowL CB z7_A z7_n z7_c z7,.rowL CB a0_A a0_n a0_c a0] w∧∃ g13,a=fr g13 55 [(0,[.slice z7_A z7_n z7_c,I8 a1]),(6,[.slice none 0 0,.slice s2_A s2_n s2_c,U8 z3,I8 z4]),(19,[I8 ((List.replicate (a2:Int).toNat (Cod.zero (CI .u32))).length:Int),I8 z5])]) K ⟨0,0,0,(List.replicate (a2:Int).toNat (Cod.zero (CI .u32))),a0,a0_A,a0_n,a0_c,hy,(pk [0,0] (hs.conv (L':=[.ownL (CI .u32) s2_A s2_n s2_c (List.replicate (a2:Int).toNat (Cod.zero (CI .u32))) 112]) rfl)),eg⟩ ?_
  clear hs h hy
  rintro n a w ⟨z3,z4,z5,z6,z7,z7_A,z7_n,z7_c,h,hs,g13,rfl⟩ KL0 kl0
  cases n with
  | zero=>exact nomatch (show none=some _ from h)
  | succ n=>
   refine xs fun _ s15=>(xn 1 fun _ j16=>?_)
   obtain ⟨hc,h⟩|⟨hc,h⟩:=of_if h
   refine tb 0 21 (dt hc) ?_
   refine fj j16 s15 (xs fun _ s17=>(ct (xk (T s17 (xs fun _ s18=>(xb (xs fun _ s19=>(xn 2 fun _ j20=>(nq 0 [(22,I8 z5),(10,I8 z5)] (fj j20 s19 (xs fun _ s21=>?_)))))))))))
   obtain ⟨⟨y12,y13,y14⟩,hy,hk1⟩:=ob h
   refine wp_exq (N:=fun a w=>∃ y14_A y14_n y14_c,St w0 [] [.ownL (CI .u32) s2_A s2_n s2_c z6 112] [.rowL CB y14_A y14_n y14_c y14,.rowL CB z7_A z7_n z7_c z7,.rowL CB a0_A a0_n a0_c a0] w∧∃ g23,a=fr g23 55 [(0,[.slice y14_A y14_n y14_c,I8 a1]),(6,[.slice none 0 0,.slice s2_A s2_n s2_c,U8 y12,I8 y13,I8 z5]),(19,[I8 ((List.replicate (a2:Int).toNat (Cod.zero (CI .u32))).length:Int),I8 z5])]) (fun N1 nn1=>?_) ?_
   clear hk1
   refine xb ?_
   refine wp_loop_k (fun n a w=>∃ z9 z10 z11,∃ z11_A z11_n z11_c,bits_Unpack.l1 K n a1 z9 z10 z11=some (y12,y13,y14)∧St w0 [] [.ownL (CI .u32) s2_A s2_n s2_c z6 112] [.rowL CB z11_A z11_n z11_c z11,.rowL CB z7_A z7_n z7_c z7,.rowL CB a0_A a0_n a0_c a0] w∧∃ g22,a=fr g22 55 [(0,[.slice z11_A z11_n z11_c,I8 a1]),(6,[.slice none 0 0,.slice s2_A s2_n s2_c,U8 z9,I8 z10,I8 z5]),(19,[I8 ((List.replicate (a2:Int).toNat (Cod.zero (CI .u32))).length:Int),I8 z5])]) K ⟨z3,z4,z7,z7_A,z7_n,z7_c,hy,(pk [0,0,1] (hs.conv (L':=[.ownL (CI .u32) s2_A s2_n s2_c z6 112]) rfl)),eg⟩ ?_
   clear hs h hy
   rintro n a w ⟨z9,z10,z11,z11_A,z11_n,z11_c,h,hs,g22,rfl⟩ KL1 kl1
   cases n with
   | zero=>exact nomatch (show none=some _ from h)
   | succ n=>
    refine xs fun _ s24=>(xs fun _ s25=>(xn 3 fun _ j26=>(nq 0 [(23,I8 z10),(24,I8 a1)] ?_)))
    obtain ⟨hc,h⟩|⟨hc,h⟩:=of_if h
    refine tb 2 25 (dt hc) ?_
    refine fj j26 s25 (ct (xk (T s24 (xb ?_))))
    refine rg [] (fun k=>True) 15 fun _ j27=>?_
    have hs:=hs.drawn1
    refine gq 0 26 (U8 z9) (gq 1 27 (.slice z11_A z11_n z11_c) ?_)
    obtain ⟨h0,h1,h⟩:=oc2 h
    have i0_28:=h0
    have i1_28:=h1
    refine tgf 2 28 (PA CB z11_A 0) (yiL (C:=CB) 24 5 .i64 0 (rR 0 hs) h0 h1) (tgt 3 29 _ (yL (C:=CB) 5 0 (rR 0 hs) rfl i0_28 i1_28) (gq 4 30 (U8 (iconv .u64 (rdL CB z11 0))) (gq 5 31 (I8 z10) ?_)))
    obtain ⟨h0,h⟩:=oc h
    refine tgf 6 32 (U8 (ishl .u64 (iconv .u64 (rdL CB z11 0)) z10)) (ysl 85 .i64 h0) (gq 7 33 (U8 (ior .u64 z9 (ishl .u64 (iconv .u64 (rdL CB z11 0)) z10))) (gq 8 34 (I8 z10) (gq 9 35 (I8 (iadd .i64 z10 8)) (gq 10 36 (.slice z11_A z11_n z11_c) ?_))))
    obtain ⟨h0,h1,h⟩:=oc2 h
    obtain ⟨h2,h⟩:=oc h
    obtain ⟨s15_A,hA⟩ : ∃ A,A=if z11_c=(1:Int).toNat then z11_A else adr z11_A ((1:Int).toNat*Cod.size CB):=⟨_,rfl⟩
    obtain ⟨s15_n,hn⟩ : ∃ n,n=((z11.length:Int):Int).toNat-(1:Int).toNat:=⟨_,rfl⟩
    obtain ⟨s15_c,hc⟩ : ∃ c,c=z11_c-(1:Int).toNat:=⟨_,rfl⟩
    refine tgf 11 37 (.slice s15_A s15_n s15_c) (ysb (C:=CB) 24 5 (some (I8 1)) none 1 (z11.length:Int) (rR 0 hs) (.inr ⟨_,rfl⟩) (.inl ⟨rfl,rfl⟩) h0 h1 h2 hA hn hc) ?_
    have hs:=hs.addSub (C:=CB) 0 rfl h0 h1 h2 hA hn hc
    obtain ⟨x16,hx,h⟩:=ob h
    refine tgf 12 8 (U8 x16) (yn hx) ?_
    obtain ⟨x17,hx,h⟩:=ob h
    refine tgf 13 9 (I8 x17) (yn hx) (gq 14 0 (.slice s15_A s15_n s15_c) (gf (j27 _ _ ?_)))
    refine iN ?_
    exact tn (kl1 _ _ ⟨n,ls n,x16,x17,(subL z11 1 (z11.length:Int)),s15_A,s15_n,s15_c,h,(pk [0,2,3] hs),eg⟩)
    refine tb 2 25 (df hc) (fj j26 s25 (cf (xexit (tx (tx (iH ?_))))))
    obtain ⟨rfl,rfl,rfl⟩:=os3 h
    exact exq_n (nn1 _ _ ⟨z11_A,z11_n,z11_c,(hs.conv rfl),eg⟩)
   clear hs h hy
   rintro a w ⟨y14_A,y14_n,y14_c,hs,g23,rfl⟩
   have h:=hk1
   refine T s21 (xs fun _ s29=>(xn 10 fun _ j30=>(nq 0 [(38,.slice s2_A s2_n s2_c),(39,I8 z5),(40,U8 y12),(41,I8 a1)] ?_)))
   obtain ⟨h0,h⟩:=oc h
   refine tkf 4 42 (U8 (ishl .u64 1 a1)) (ysl 85 .i64 h0) (nq 5 [(43,U8 (isub .u64 (ishl .u64 1 a1) 1)),(44,U8 (iand .u64 y12 (isub .u64 (ishl .u64 1 a1) 1))),(45,U4 (iconv .u32 (iand .u64 y12 (isub .u64 (ishl .u64 1 a1) 1))))] ?_)
   obtain ⟨h0,h1,h⟩:=oc2 h
   have i0_31:=h0
   have i1_31:=h1
   refine tkf 8 46 (PA (CI .u32) s2_A z5) (yiL (C:=(CI .u32)) 110 112 .i64 z5 (rL 0 hs) h0 h1) ?_
   obtain ⟨x18,hx,h⟩:=ob h
   refine so 9 (oL (C:=(CI .u32)) (he:=by cases hx; kernel_rfl) 112 z5 x18 hs 0 rfl i0_31 i1_31 fun w hs=>?_)
   refine fj j30 s29 (xs fun _ s32=>(xn 4 fun _ j33=>(nq 0 [(47,U8 y12),(48,I8 a1)] ?_)))
   obtain ⟨h0,h⟩:=oc h
   refine tkf 2 49 (U8 (ishr .u64 y12 a1)) (ysr 85 .i64 h0) ?_
   obtain ⟨x19,hx,h⟩:=ob h
   refine tkf 3 8 (U8 x19) (yn hx) (fj j33 s32 (xn 4 fun _ j34=>(nq 0 [(50,I8 y13),(51,I8 a1),(52,I8 (isub .i64 y13 a1))] ?_)))
   obtain ⟨x20,hx,h⟩:=ob h
   refine tkf 3 9 (I8 x20) (yn hx) (fin (j34 _ _ (iN (T s18 (xn 2 fun _ j35=>(nq 0 [(53,I8 (iadd .i64 z5 1)),(20,I8 (iadd .i64 z5 1))] (fin (j35 _ _ ?_))))))))
   exact tn (kl0 _ _ ⟨n,ls n,x19,x20,(iadd .i64 z5 1),(wrL z6 z5 x18),y14,y14_A,y14_n,y14_c,h,(pk [0,2] hs),eg⟩)
   refine tb 0 21 (df hc) (fj j16 s15 (xs fun _ s36=>(cf (xexit (tx (tx (iH ?_)))))))
   obtain rfl:=of_some h
   exact exq_n (nn0 _ _ ⟨(pk [1] hs),eg⟩)
  clear hs h hy
  rintro a w ⟨hs,g14,rfl⟩
  have h:=hk0
  refine T s10 (xs fun _ s37=>(xn 2 fun _ j38=>(nq 0 [(54,.slice s2_A s2_n s2_c),(6,.slice s2_A s2_n s2_c)] (fj j38 s37 (xret ?_)))))
  obtain rfl:=of_some h
  exact qq _ _ (pt [6] [.slice s2_A s2_n s2_c] ⟨⟨s2_A,s2_n,s2_c⟩,cr,(pz hs)⟩)
 | false=>
  have h:=of_if_f h
  refine so 3 (oC 14 hs (bits_such.ok hg _ (rR 0 hs)) fun w gw hs=>?_)
  refine qo 4 15 (.bool true) (fj j5 s4 (ct (xs fun _ s39=>(xn 1 fun _ j40=>(qo 0 6 (.slice none 0 0) (fj j40 s39 (xret (tr ?_))))))))
  obtain rfl:=of_some h
  have hs:=hs.addNilL (CI .u32) 112
  exact qq _ _ (pt [6] [.slice none 0 0] ⟨⟨none,0,0⟩,cr,(pz hs)⟩)
theorem kpke_Noise.ok {K:Nat}{a0:Int}{a1:List Int}{a2:Int}{r0:Arr 256}{a1_A:Option Addr}{a1_n a1_c:Nat}(h:kpke_Noise.f K a0 a1 a2=some r0) (w0:World) (hp1:RowL CB w0 a1_A a1_n a1_c a1) (hg0:RowL CW w0 (some ⟨0,0,none⟩) 1 1 [tab_0]) (hg1:RowL CV w0 (some ⟨1,0,none⟩) 1 1 [tab_1]) (hg2:RowL CV w0 (some ⟨2,0,none⟩) 1 1 [tab_2]):Ret Tryz.prog 70 #[I8 a0,.slice a1_A a1_n a1_c,U1 a2] w0 (ag .i32 r0):=by
 refine calls_k Tryz.func70 rfl fun Q qq=>?_
 have hs:=St.startR (all_cons (RowP.ent hp1) (all_cons (RowP.ent hg0) (all_cons (RowP.ent hg1) (all_cons (RowP.ent hg2) all_nil))))
 refine wc (a':=(fu 71 [I8 a0,.slice a1_A a1_n a1_c,U1 a2])) (xs fun _ s1=>(xn 1 fun _ j2=>(so 0 (oNe 6 70 .i32 (zeroA 256) hs fun b1 w gw hs=>(fj j2 s1 (xs fun _ s3=>(xn 1 fun _ j4=>?_)))))))
 refine so 0 (oNe 7 70 .i32 (zeroA 256) hs fun b2 w gw hs=>?_)
 refine fj j4 s3 (?_)
 obtain ⟨tv6,hj,hk_6⟩:=ob h
 refine xs fun _ s6=>wp_exj (N:=fun a w=>∃ y3,tv6 = .inl y3∧St w0 [] [.blk b2 (enc .i32 (zeroA 256)) 70,.blk b1 (enc .i32 y3) 70] [.rowL CB a1_A a1_n a1_c a1,.rowL CW (some ⟨0,0,none⟩) 1 1 ([tab_0]),.rowL CV (some ⟨1,0,none⟩) 1 1 ([tab_1]),.rowL CV (some ⟨2,0,none⟩) 1 1 ([tab_2])] w∧∃ g5,a=fr g5 74 [(0,[I8 a0,.slice a1_A a1_n a1_c,U1 a2]),(6,[P0 b1,P0 b2])]) (fun N nj=>?_) ?_
 clear h
 have h:=hj
 refine xs fun _ s7=>(xn 6 fun _ j8=>(qo 0 14 (I8 a0) ?_))
 obtain ⟨hc,h⟩|⟨hc,h⟩:=of_if h
 refine tb 1 15 (nf hc) ?_
 refine nq 2 [(16,.bool false),(17,undef),(18,undef),(19,.bool false)] (fj j8 s7 (cf (xk ?_)))
 obtain rfl:=of_some h
 exact exj_n (nj _ _ ⟨(zeroA 256),rfl,(hs.conv rfl),eg⟩)
 refine tb 1 15 (nt hc) (nq 2 [(16,.bool true),(17,I8 a0)] ?_)
 obtain ⟨hc,h⟩|⟨hc,h⟩:=of_if h
 refine tb 4 18 (nf hc) ?_
 refine qo 5 19 (.bool false) (fj j8 s7 (cf (xk ?_)))
 obtain rfl:=of_some h
 exact exj_n (nj _ _ ⟨(zeroA 256),rfl,(hs.conv rfl),eg⟩)
 refine tb 4 18 (nt hc) (qo 5 19 (.bool true) (fj j8 s7 (ct (xs fun _ s9=>(xn 2 fun _ j10=>(tkt 0 20 _ (yWe 70 hs 0 .grow) (so 1 (oWe 70 .i32 (zeroA 256) hs 1 fun w kp hs=>?_))))))))
 refine fj j10 s9 (xret ?_)
 obtain rfl:=of_some h
 have h:=hk_6
 refine exj_r ?_
 refine tr ?_
 obtain rfl:=of_some h
 exact qq _ _ (pr (rr [.cell 6 70] [ag .i32 (zeroA 256)] (.cons (rcN 256 hs 1 rfl (enc_len _ _)) .nil)) ⟨cr,hs.none⟩)
 clear hj hs
 rintro a w ⟨y3,rfl,hs,g5,rfl⟩
 have h:=hk_6
 refine T s6 (xs fun _ s11=>(xn 13 fun _ j12=>(nq 0 [(22,.slice a1_A a1_n a1_c),(23,U1 a2)] (so 2 (oLt (C:=CB) 24 24 5 1 (U1 0) #[(0,U1 a2)] [a2] hs rfl (by decide) (by decide) fun s4_A s4_n s4_c w gw hs=>(so 3 (oLt (C:=CS) 25 57 24 2 (.slice none 0 0) #[(0,.slice a1_A a1_n a1_c),(1,.slice s4_A s4_n s4_c)] ([(a1_A,a1_n,a1_c),(s4_A,s4_n,s4_c)]:List HS) hs rfl (by decide) (by decide) fun s5_A s5_n s5_c w gw hs=>?_)))))))
 obtain ⟨r6,hg,h⟩:=ob h
 refine wpS.only 4 (oH 26 hs (bits_Join.ok hg _ (LLP.mk (rL 0 hs) (inn_cons (rR 0 hs) (inn_cons (rL 1 hs) inn_nil)))) ?_)
 rintro ⟨r6_A,r6_n,r6_c⟩ w gw hs
 have hs:=hs.conv (L':=[.ownL CB r6_A r6_n r6_c r6 5,.ownL CS s5_A s5_n s5_c ([(a1_A,a1_n,a1_c),(s4_A,s4_n,s4_c)]:List HS) 24,.ownL CB s4_A s4_n s4_c ([a2]:List Int) 5,.blk b2 (enc .i32 (zeroA 256)) 70,.blk b1 (enc .i32 y3) 70]) rfl
 refine ⟨fun _=>trivial,?_⟩
 refine nq 5 [(27,I8 a0),(28,I8 (imul .i64 64 a0))] ?_
 obtain ⟨⟨r7,r8⟩,hg,h⟩:=ob h
 refine wpS.only 7 (oH 29 hs (keccak_Sum.ok hg _ (rL 0 hs) (rR 1 hs) (rR 2 hs) (rR 3 hs)) ?_)
 rintro ⟨r7_A,r7_n,r7_c⟩ w gw hs
 have hs:=hs.conv (L':=[.ownL CB r7_A r7_n r7_c r7 5,.ownL CB r6_A r6_n r6_c r6 5,.ownL CS s5_A s5_n s5_c ([(a1_A,a1_n,a1_c),(s4_A,s4_n,s4_c)]:List HS) 24,.ownL CB s4_A s4_n s4_c ([a2]:List Int) 5,.blk b2 (enc .i32 (zeroA 256)) 70,.blk b1 (enc .i32 y3) 70]) rfl
 refine ⟨fun _=>trivial,?_⟩
 refine nq 8 [(21,.tuple #[.slice r7_A r7_n r7_c,I8 r8]),(30,.slice r7_A r7_n r7_c),(31,I8 r8),(8,.slice r7_A r7_n r7_c),(9,I8 r8)] (fj j12 s11 (xs fun _ s13=>(xn 5 fun _ j14=>(nq 0 [(32,.slice r7_A r7_n r7_c),(33,I8 a0),(34,I8 (imul .i64 512 a0))] ?_))))
 obtain ⟨r9,hg,h⟩:=ob h
 refine wpS.only 3 (oH 35 hs (bits_Unpack.ok hg _ (rL 0 hs)) ?_)
 rintro ⟨r9_A,r9_n,r9_c⟩ w gw hs
 have hs:=hs.conv (L':=[.ownL (CI .u32) r9_A r9_n r9_c r9 112,.ownL CB r7_A r7_n r7_c r7 5,.ownL CB r6_A r6_n r6_c r6 5,.ownL CS s5_A s5_n s5_c ([(a1_A,a1_n,a1_c),(s4_A,s4_n,s4_c)]:List HS) 24,.ownL CB s4_A s4_n s4_c ([a2]:List Int) 5,.blk b2 (enc .i32 (zeroA 256)) 70,.blk b1 (enc .i32 y3) 70]) rfl
 refine ⟨fun _=>trivial,?_⟩
 refine qo 4 10 (.slice r9_A r9_n r9_c) (fj j14 s13 (xs fun _ s15=>(xs fun _ s16=>(xn 1 fun _ j17=>(qo 0 36 (I8 0) (fj j17 s16 (?_)))))))
 obtain ⟨y12,hy,hk0⟩:=ob h
 refine wp_exq (N:=fun a w=>St w0 [] [.ownL (CI .u32) r9_A r9_n r9_c r9 112,.ownL CB r7_A r7_n r7_c r7 5,.ownL CB r6_A r6_n r6_c r6 5,.ownL CS s5_A s5_n s5_c ([(a1_A,a1_n,a1_c),(s4_A,s4_n,s4_c)]:List HS) 24,.ownL CB s4_A s4_n s4_c ([a2]:List Int) 5,.blk b2 (enc .i32 y12) 70,.blk b1 (enc .i32 y3) 70] [.rowL CB a1_A a1_n a1_c a1,.rowL CW (some ⟨0,0,none⟩) 1 1 ([tab_0]),.rowL CV (some ⟨1,0,none⟩) 1 1 ([tab_1]),.rowL CV (some ⟨2,0,none⟩) 1 1 ([tab_2])] w∧∃ g19,a=fr g19 74 [(6,[P0 b1,P0 b2])]) (fun N0 nn0=>?_) ?_
 clear hk0
 refine xb ?_
 refine wp_loop_k (fun n a w=>∃ z10 z11,kpke_Noise.l0 K n a0 r9 z10 z11=some y12∧St w0 [] [.ownL (CI .u32) r9_A r9_n r9_c r9 112,.ownL CB r7_A r7_n r7_c r7 5,.ownL CB r6_A r6_n r6_c r6 5,.ownL CS s5_A s5_n s5_c ([(a1_A,a1_n,a1_c),(s4_A,s4_n,s4_c)]:List HS) 24,.ownL CB s4_A s4_n s4_c ([a2]:List Int) 5,.blk b2 (enc .i32 z11) 70,.blk b1 (enc .i32 y3) 70] [.rowL CB a1_A a1_n a1_c a1,.rowL CW (some ⟨0,0,none⟩) 1 1 ([tab_0]),.rowL CV (some ⟨1,0,none⟩) 1 1 ([tab_1]),.rowL CV (some ⟨2,0,none⟩) 1 1 ([tab_2])] w∧∃ g18,a=fr g18 74 [(0,[I8 a0]),(6,[P0 b1,P0 b2]),(10,[.slice r9_A r9_n r9_c]),(36,[I8 z10])]) K ⟨0,(zeroA 256),hy,hs.conv rfl,eg⟩ ?_
 clear hs h hy
 rintro n a w ⟨z10,z11,h,hs,g18,rfl⟩ KL0 kl0
 cases n with
 | zero=>exact nomatch (show none=some _ from h)
 | succ n=>
  refine xs fun _ s20=>(xn 1 fun _ j21=>?_)
  obtain ⟨hc,h⟩|⟨hc,h⟩:=of_if h
  refine tb 0 37 (dt hc) ?_
  refine fj j21 s20 (xs fun _ s22=>(ct (xk (T s22 (xs fun _ s23=>(xb (xs fun _ s24=>(xn 2 fun _ j25=>(nq 0 [(38,I8 z10),(11,I8 z10)] (fj j25 s24 (xs fun _ s26=>(xn 1 fun _ j27=>(qo 0 12 (I4 3329) (fj j27 s26 (xs fun _ s28=>(xs fun _ s29=>(xn 2 fun _ j30=>?_)))))))))))))))))
  refine nq 0 [(39,I8 a0),(40,I8 0)] (fj j30 s29 (?_))
  obtain ⟨y15,hy,hk1⟩:=ob h
  refine wp_exq (N:=fun a w=>St w0 [] [.ownL (CI .u32) r9_A r9_n r9_c r9 112,.ownL CB r7_A r7_n r7_c r7 5,.ownL CB r6_A r6_n r6_c r6 5,.ownL CS s5_A s5_n s5_c ([(a1_A,a1_n,a1_c),(s4_A,s4_n,s4_c)]:List HS) 24,.ownL CB s4_A s4_n s4_c ([a2]:List Int) 5,.blk b2 (enc .i32 z11) 70,.blk b1 (enc .i32 y3) 70] [.rowL CB a1_A a1_n a1_c a1,.rowL CW (some ⟨0,0,none⟩) 1 1 ([tab_0]),.rowL CV (some ⟨1,0,none⟩) 1 1 ([tab_1]),.rowL CV (some ⟨2,0,none⟩) 1 1 ([tab_2])] w∧∃ g32,a=fr g32 74 [(0,[I8 a0]),(6,[P0 b1,P0 b2]),(10,[.slice r9_A r9_n r9_c,I8 z10,I4 y15]),(36,[I8 z10])]) (fun N1 nn1=>?_) ?_
  clear hk1
  refine xb ?_
  refine wp_loop_k (fun n a w=>∃ z13 z14,kpke_Noise.l1 K n a0 r9 z10 z13 z14=some y15∧St w0 [] [.ownL (CI .u32) r9_A r9_n r9_c r9 112,.ownL CB r7_A r7_n r7_c r7 5,.ownL CB r6_A r6_n r6_c r6 5,.ownL CS s5_A s5_n s5_c ([(a1_A,a1_n,a1_c),(s4_A,s4_n,s4_c)]:List HS) 24,.ownL CB s4_A s4_n s4_c ([a2]:List Int) 5,.blk b2 (enc .i32 z11) 70,.blk b1 (enc .i32 y3) 70] [.rowL CB a1_A a1_n a1_c a1,.rowL CW (some ⟨0,0,none⟩) 1 1 ([tab_0]),.rowL CV (some ⟨1,0,none⟩) 1 1 ([tab_1]),.rowL CV (some ⟨2,0,none⟩) 1 1 ([tab_2])] w∧∃ g31,a=fr g31 74 [(0,[I8 a0]),(6,[P0 b1,P0 b2]),(10,[.slice r9_A r9_n r9_c,I8 z10,I4 z13]),(36,[I8 z10]),(39,[I8 a0,I8 z14])]) K ⟨3329,0,hy,hs.conv rfl,eg⟩ ?_
  clear hs h hy
  rintro n a w ⟨z13,z14,h,hs,g31,rfl⟩ KL1 kl1
  cases n with
  | zero=>exact nomatch (show none=some _ from h)
  | succ n=>
   refine xs fun _ s33=>(xn 1 fun _ j34=>?_)
   obtain ⟨hc,h⟩|⟨hc,h⟩:=of_if h
   refine tb 0 41 (dt hc) ?_
   refine fj j34 s33 (xs fun _ s35=>(ct (xk (T s35 (xs fun _ s36=>(xb (xs fun _ s37=>(xn 2 fun _ j38=>(nq 0 [(42,I8 z14),(13,I8 z14)] (fj j38 s37 (?_)))))))))))
   refine rg [] (fun k=>True) 25 fun _ j39=>?_
   have hs:=hs.drawn1
   refine gq 0 43 (I4 z13) (gq 1 44 (.slice r9_A r9_n r9_c) (gq 2 45 (I8 z10) (gq 3 46 (I8 (imul .i64 2 z10)) (gq 4 47 (I8 a0) ?_))))
   refine gq 5 48 (I8 (imul .i64 (imul .i64 2 z10) a0)) (gq 6 49 (I8 z14) (gq 7 50 (I8 (iadd .i64 (imul .i64 (imul .i64 2 z10) a0) z14)) ?_))
   obtain ⟨x16,hx,h⟩:=ob h
   have hx:=of_some hx
   subst hx
   obtain ⟨h0,h1,h⟩:=oc2 h
   have i0_40:=h0
   have i1_40:=h1
   refine tgf 8 51 (.pointer (adr r9_A (((iadd .i64 (imul .i64 (imul .i64 2 z10) a0) z14):Int).toNat*Cod.size (CI .u32)))) (yiL (C:=(CI .u32)) 110 112 .i64 (iadd .i64 (imul .i64 (imul .i64 2 z10) a0) z14) (rL 0 hs) h0 h1) (tgt 9 52 _ (yL (C:=(CI .u32)) 112 (iadd .i64 (imul .i64 (imul .i64 2 z10) a0) z14) (rL 0 hs) rfl i0_40 i1_40) (gq 10 53 (I4 (iconv .i32 (rdL (CI .u32) r9 (iadd .i64 (imul .i64 (imul .i64 2 z10) a0) z14)))) (gq 11 54 (.slice r9_A r9_n r9_c) (gq 12 55 (I8 z10) ?_))))
   refine gq 13 56 (I8 (imul .i64 2 z10)) (gq 14 57 (I8 (iadd .i64 (imul .i64 2 z10) 1)) (gq 15 58 (I8 a0) (gq 16 59 (I8 (imul .i64 (iadd .i64 (imul .i64 2 z10) 1) a0)) (gq 17 60 (I8 z14) ?_))))
   refine gq 18 61 (I8 (iadd .i64 (imul .i64 (iadd .i64 (imul .i64 2 z10) 1) a0) z14)) ?_
   obtain ⟨x17,hx,h⟩:=ob h
   have hx:=of_some hx
   subst hx
   obtain ⟨h0,h1,h⟩:=oc2 h
   have i0_41:=h0
   have i1_41:=h1
   refine tgf 19 62 (.pointer (adr r9_A (((iadd .i64 (imul .i64 (iadd .i64 (imul .i64 2 z10) 1) a0) z14):Int).toNat*Cod.size (CI .u32)))) (yiL (C:=(CI .u32)) 110 112 .i64 (iadd .i64 (imul .i64 (iadd .i64 (imul .i64 2 z10) 1) a0) z14) (rL 0 hs) h0 h1) (tgt 20 63 _ (yL (C:=(CI .u32)) 112 (iadd .i64 (imul .i64 (iadd .i64 (imul .i64 2 z10) 1) a0) z14) (rL 0 hs) rfl i0_41 i1_41) (gq 21 64 (I4 (iconv .i32 (rdL (CI .u32) r9 (iadd .i64 (imul .i64 (iadd .i64 (imul .i64 2 z10) 1) a0) z14)))) (gq 22 65 (I4 (isub .i32 (iconv .i32 (rdL (CI .u32) r9 (iadd .i64 (imul .i64 (imul .i64 2 z10) a0) z14))) (iconv .i32 (rdL (CI .u32) r9 (iadd .i64 (imul .i64 (iadd .i64 (imul .i64 2 z10) 1) a0) z14))))) (gq 23 66 (I4 (iadd .i32 z13 (isub .i32 (iconv .i32 (rdL (CI .u32) r9 (iadd .i64 (imul .i64 (imul .i64 2 z10) a0) z14))) (iconv .i32 (rdL (CI .u32) r9 (iadd .i64 (imul .i64 (iadd .i64 (imul .i64 2 z10) 1) a0) z14)))))) ?_))))
   obtain ⟨x18,hx,h⟩:=ob h
   refine tgf 24 12 (I4 x18) (yn hx) (gf (j39 _ _ ?_))
   refine iN (T s36 (xn 2 fun _ j42=>?_))
   refine nq 0 [(67,I8 (iadd .i64 z14 1)),(40,I8 (iadd .i64 z14 1))] (fin (j42 _ _ ?_))
   exact tn (kl1 _ _ ⟨n,ls n,x18,(iadd .i64 z14 1),h,(hs.conv rfl),eg⟩)
   refine tb 0 41 (df hc) (fj j34 s33 (xs fun _ s43=>(cf (xexit (tx (tx (iH ?_)))))))
   obtain rfl:=of_some h
   exact exq_n (nn1 _ _ ⟨(hs.conv rfl),eg⟩)
  clear hs h hy
  rintro a w ⟨hs,g32,rfl⟩
  have h:=hk1
  refine T s28 (xn 5 fun _ j44=>(nq 0 [(68,I8 z10),(69,I4 y15),(70,I4 (irem .i32 y15 3329))] ?_))
  obtain ⟨i0_45,i1_45,h⟩:=oc2 h
  refine tkf 3 71 (P1 b2 z10) (yi 70 21 256 1 .i64 z10 i0_45 i1_45) ?_
  obtain ⟨x19,hx,h⟩:=ob h
  refine so 4 (oA 21 x19 z10 hs 5 rfl (by cases hx; kernel_rfl) i0_45 i1_45 fun w kp hs=>?_)
  refine fin (j44 _ _ (iN (T s23 (xn 2 fun _ j46=>(nq 0 [(72,I8 (iadd .i64 z10 1)),(36,I8 (iadd .i64 z10 1))] (fin (j46 _ _ ?_)))))))
  exact tn (kl0 _ _ ⟨n,ls n,(iadd .i64 z10 1),(wr z11 z10 x19),h,(hs.conv rfl),eg⟩)
  refine tb 0 37 (df hc) (fj j21 s20 (xs fun _ s47=>(cf (xexit (tx (tx (iH ?_)))))))
  obtain rfl:=of_some h
  exact exq_n (nn0 _ _ ⟨(hs.conv rfl),eg⟩)
 clear hs h hy
 rintro a w ⟨hs,g19,rfl⟩
 have h:=hk0
 refine T s15 (xs fun _ s48=>(xn 2 fun _ j49=>(tkt 0 73 _ (yWe 70 hs 5 .grow) (so 1 (oWe 70 .i32 y12 hs 6 fun w kp hs=>(fj j49 s48 (xret ?_)))))))
 obtain rfl:=of_some h
 exact qq _ _ (pr (rr [.cell 6 70] [ag .i32 y12] (.cons (rcN 256 hs 6 rfl (enc_len _ _)) .nil)) ⟨cr,hs.none⟩)
end Go.Proofs.YtemdbgmldljbpaaGreatDoor
