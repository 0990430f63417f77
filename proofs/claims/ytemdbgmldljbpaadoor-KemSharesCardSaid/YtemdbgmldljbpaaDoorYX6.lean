/- own -/
import Derived.Test.YtemdbgmldljbpaaDoorMh
import Derived.Test.YtemdbgmldljbpaaDoorProg
import Derived.Test.YtemdbgmldljbpaaDoorYF0
import Derived.Test.YtemdbgmldljbpaaDoorYX1
import Derived.Test.YtemdbgmldljbpaaDoorYX2
import Derived.Test.YtemdbgmldljbpaaDoorYX3
import Derived.Test.YtemdbgmldljbpaaDoorYX4
import Derived.Test.YtemdbgmldljbpaaDoorYX5
set_option linter.unusedVariables false
set_option linter.unusedSimpArgs false
set_option maxRecDepth 100000
set_option maxHeartbeats 4000000
namespace Go.Proofs.YtemdbgmldljbpaaDoor
open Go.Mx
attribute [local irreducible] wpOp
theorem kpke_Parts.ok {K:Nat}{a0:List Int}{a1 a2:Int}{r0:Arr 256}{r1:Int}{a0_A:Option Addr}{a0_n a0_c:Nat}(h:kpke_Parts.f K a0 a1 a2=some (r0,r1)) (w0:World) (hp0:RowL CB w0 a0_A a0_n a0_c a0) (hg0:RowL CW w0 (some ⟨0,0,none⟩) 1 1 [tab_0]) (hg1:RowL CV w0 (some ⟨1,0,none⟩) 1 1 [tab_1]) (hg2:RowL CV w0 (some ⟨2,0,none⟩) 1 1 [tab_2]):Ret Tryd.prog 14 #[.slice a0_A a0_n a0_c,U1 a1,U1 a2] w0 (.tuple #[ag .i32 r0,I8 r1]):=by
 refine calls_m Tryd.func14 rfl fun Q qq qn=>?_
 have hs:=St.startR (all_cons (RowP.ent hp0) (all_cons (RowP.ent hg0) (all_cons (RowP.ent hg1) (all_cons (RowP.ent hg2) all_nil))))
 refine wc (a':=(fu 27 [.slice a0_A a0_n a0_c,U1 a1,U1 a2])) ?_
 refine xs fun _ s1=>?_
 refine xn 2 fun _ j2=>?_
 refine so 0 (oNe 6 32 .i32 (zeroA 256) hs fun b1 w gw hs=>?_)
 refine so 1 (oN 7 33 hs ([I8 0]) (I8 0) fun b2 w gw hs=>?_)
 refine fj j2 s1 (xs fun _ s3=>(xn 1 fun _ j4=>?_))
 refine so 0 (oNe 8 32 .i32 (zeroA 256) hs fun b3 w gw hs=>?_)
 refine fj j4 s3 (xs fun _ s5=>(xn 2 fun _ j6=>?_))
 refine so 0 (oN 9 3 hs ([I8 0]) (I8 0) fun b4 w gw hs=>?_)
 refine so 1 (oS1 3 (I8 0) 0 hs 0 rfl rfl (by simp) fun w kp hs=>?_)
 refine fj j6 s5 (xs fun _ s7=>(xs fun _ s8=>(xn 7 fun _ j9=>?_)))
 refine nq 0 [(11,.slice a0_A a0_n a0_c),(12,U1 a2),(13,U1 a1)] ?_
 refine so 3 (oLt (C:=CB) 14 24 5 2 (U1 0) #[(0,U1 a2),(1,U1 a1)] [a2,a1] hs rfl (by decide) (by decide) fun s5_A s5_n s5_c w gw hs=>?_)
 refine so 4 (oLt (C:=CS) 15 59 24 2 (.slice none 0 0) #[(0,.slice a0_A a0_n a0_c),(1,.slice s5_A s5_n s5_c)] ([(a0_A,a0_n,a0_c),(s5_A,s5_n,s5_c)]:List HS) hs rfl (by decide) (by decide) fun s6_A s6_n s6_c w gw hs=>?_)
 obtain ⟨r7,hg,h⟩:=ob h
 refine wpS.only 5 (oH 16 hs (bits_Join.ok hg _ (LLP.mk (rL 0 hs) (inn_cons (rR 0 hs) (inn_cons (rL 1 hs) inn_nil)))) ?_)
 rintro ⟨r7_A,r7_n,r7_c⟩ w gw hs
 have hs:=hs.conv (L':=[.ownL CB r7_A r7_n r7_c r7 5,.ownL CS s6_A s6_n s6_c ([(a0_A,a0_n,a0_c),(s5_A,s5_n,s5_c)]:List HS) 24,.ownL CB s5_A s5_n s5_c ([a2,a1]:List Int) 5,.blk b4 ([I8 0]) 3,.blk b3 (enc .i32 (zeroA 256)) 32,.blk b2 ([I8 0]) 33,.blk b1 (enc .i32 (zeroA 256)) 32]) rfl
 refine ⟨fun _=>trivial,?_⟩
 refine wpS.only 6 (op_inline (d:=(some 17)) (f:=35) (args:=#[.slice r7_A r7_n r7_c]) (by kernel_rfl) (fun _=>by kernel_rfl) fun R10 kI10=>?_)
 refine calls_k Tryd.func35 rfl fun Q10 qq10=>?_
 refine wc (a':=(fu 3 [.slice r7_A r7_n r7_c])) ?_
 refine xs fun _ s11=>?_
 refine xn 2 fun _ j12=>?_
 refine so 0 (oB 1 24 (.slice r7_A r7_n r7_c) hs ([.slice r7_A r7_n r7_c]) fun b8 w gw hs=>?_)
 refine qo 1 2 (.nilFunc) ?_
 refine fj j12 s11 (xs fun _ s13=>(xn 2 fun _ j14=>?_))
 refine nq 0 [(3,.func (.func 76) #[] #[P0 b8]),(2,.func (.func 76) #[] #[P0 b8])] ?_
 refine fj j14 s13 (xret ?_)
 refine qq10 _ _ (pt [2] [.func (.func 76) #[] #[P0 b8]] ?_)
 refine kI10 _ _ ?_
 refine ⟨fun _=>trivial,?_⟩
 refine fj j9 s8 (xb ?_)
 refine wp_range (gf:=76) (lb:=#[P0 b8]) hs (by kernel_rfl) (fun _ _=>by kernel_rfl) fun l15 D15 rec15 w hok15 hs R15 kR15=>?_
 refine calls_kn Tryd.func76 rfl fun Q15 qq15 qn15=>?_
 refine wc (a':=(fu 35 [.func (.yield l15) #[] #[],P0 b8])) ?_
 refine xs fun _ s16=>?_
 refine xn 7 fun _ j17=>?_
 obtain ⟨⟨r9_0,r9_1,r9_2,r9_3,r10⟩,hg,h⟩:=ob h
 refine so 0 (oC 8 hs (keccak_New.ok hg _) fun w gw hs=>?_)
 refine nq 1 [(7,.tuple #[.agg (vl [I8 r9_0]++enc .u64 r9_1++vl [I8 r9_2,.bool r9_3]).toArray,I8 r10]),(9,.agg (vl [I8 r9_0]++enc .u64 r9_1++vl [I8 r9_2,.bool r9_3]).toArray),(10,I8 r10)] ?_
 refine so 4 (oN 3 115 hs (vl [I8 0]++enc .u64 (zeroA 25)++vl [I8 0,.bool false]) (.agg (vl [I8 0]++enc .u64 (zeroA 25)++vl [I8 0,.bool false]).toArray) fun b11 w gw hs=>?_)
 refine so 5 (oW 28 115 (.agg (vl [I8 r9_0]++enc .u64 r9_1++vl [I8 r9_2,.bool r9_3]).toArray) (vl [I8 r9_0]++enc .u64 r9_1++vl [I8 r9_2,.bool r9_3]) hs 0 rfl (by simp [enc_len]) (by simp [enc_len]) (one_app (one_app (by simp [Value.oneCell']) (fun u hu=>enc_one _ _ u hu)) (by simp [Value.oneCell'])) fun w kp hs=>?_)
 refine qo 6 4 (I8 r10) ?_
 refine fj j17 s16 (xs fun _ s18=>(xn 4 fun _ j19=>?_))
 refine tkt 0 11 _ (yWs 28 115 hs 0 .grow) ?_
 refine tkt 1 12 _ (yv hs 3 0 24 rfl (by rfl) .grow) ?_
 obtain ⟨⟨r12_0,r12_1,r12_2,r12_3⟩,hg,h⟩:=ob h
 refine so 2 (oC 13 hs (keccak_Absorb.ok hg _ (rL 4 hs) (rR 1 hs) (rR 2 hs) (rR 3 hs)) fun w gw hs=>?_)
 refine so 3 (oW 28 115 (.agg (vl [I8 r12_0]++enc .u64 r12_1++vl [I8 r12_2,.bool r12_3]).toArray) (vl [I8 r12_0]++enc .u64 r12_1++vl [I8 r12_2,.bool r12_3]) hs 0 rfl (by simp [enc_len]) (by simp [enc_len]) (one_app (one_app (by simp [Value.oneCell']) (fun u hu=>enc_one _ _ u hu)) (by simp [Value.oneCell'])) fun w kp hs=>?_)
 refine fj j19 s18 (xs fun _ s20=>(xn 1 fun _ j21=>?_))
 refine qo 0 14 (I8 0) ?_
 refine fj j21 s20 (?_)
 obtain ⟨t0,hy,hk0⟩:=ob h
 refine wp_exq (N:=fun a w=>∃ y19_0 y19_1 y19_2 y19_3 y20 y21 y22 y23,t0 = .inl (y19_0,y19_1,y19_2,y19_3,y20,y21,y22,y23)∧St w0 [] [.blk b11 (vl [I8 y19_0]++enc .u64 y19_1++vl [I8 y19_2,.bool y19_3]) 115,.obj l15 (.loop (rec15 .ready none)),.obj D15 (.deferred (some [])),.blk b8 ([.slice r7_A r7_n r7_c]) 24,.ownL CB r7_A r7_n r7_c r7 5,.ownL CS s6_A s6_n s6_c ([(a0_A,a0_n,a0_c),(s5_A,s5_n,s5_c)]:List HS) 24,.ownL CB s5_A s5_n s5_c ([a2,a1]:List Int) 5,.blk b4 ([I8 y20]) 3,.blk b3 (enc .i32 y21) 32,.blk b2 ([I8 y22]) 33,.blk b1 (enc .i32 y23) 32] [.rowL CB a0_A a0_n a0_c a0,.rowL CW (some ⟨0,0,none⟩) 1 1 ([tab_0]),.rowL CV (some ⟨1,0,none⟩) 1 1 ([tab_1]),.rowL CV (some ⟨2,0,none⟩) 1 1 ([tab_2])] w∧∃ g23,a=fr g23 37 []) (fun N0 nn0=>?_) ?_
 refine xb ?_
 refine wp_loop_k (fun n a w=>∃ z13 z14_0 z14_1 z14_2 z14_3 z15 z16 z17 z18,kpke_Parts.l0 K n z13 z14_0 z14_1 z14_2 z14_3 z15 z16 z17 z18=some t0∧St w0 [] [.blk b11 (vl [I8 z14_0]++enc .u64 z14_1++vl [I8 z14_2,.bool z14_3]) 115,.obj l15 (.loop (rec15 .ready none)),.obj D15 (.deferred (some [])),.blk b8 ([.slice r7_A r7_n r7_c]) 24,.ownL CB r7_A r7_n r7_c r7 5,.ownL CS s6_A s6_n s6_c ([(a0_A,a0_n,a0_c),(s5_A,s5_n,s5_c)]:List HS) 24,.ownL CB s5_A s5_n s5_c ([a2,a1]:List Int) 5,.blk b4 ([I8 z15]) 3,.blk b3 (enc .i32 z16) 32,.blk b2 ([I8 z17]) 33,.blk b1 (enc .i32 z18) 32] [.rowL CB a0_A a0_n a0_c a0,.rowL CW (some ⟨0,0,none⟩) 1 1 ([tab_0]),.rowL CV (some ⟨1,0,none⟩) 1 1 ([tab_1]),.rowL CV (some ⟨2,0,none⟩) 1 1 ([tab_2])] w∧∃ g22,a=fr g22 37 [(0,[.func (.yield l15) #[] #[]]),(3,[P0 b11]),(14,[I8 z13])]) K ⟨0,r12_0,r12_1,r12_2,r12_3,0,(zeroA 256),0,(zeroA 256),hy,hs.conv rfl,eg⟩ ?_
 clear hs h hy
 rintro n a w ⟨z13,z14_0,z14_1,z14_2,z14_3,z15,z16,z17,z18,h,hs,g22,rfl⟩ KL0 kl0
 cases n with
 | zero=>exact nomatch (show none=some _ from h)
 | succ n=>
  refine xs fun _ s24=>?_
  refine xn 1 fun _ j25=>?_
  obtain ⟨hc,h⟩|⟨hc,h⟩:=of_if h
  refine tb 0 15 (dt hc) ?_
  refine fj j25 s24 (xs fun _ s26=>(ct (xk (T s26 (xs fun _ s27=>(xb (xs fun _ s28=>(xn 1 fun _ j29=>?_))))))))
  refine qo 0 5 (.slice none 0 0) ?_
  refine fj j29 s28 (xs fun _ s30=>(xn 7 fun _ j31=>?_))
  refine tkt 0 17 _ (yWs 28 115 hs 0 .grow) ?_
  obtain ⟨⟨r24_0,r24_1,r24_2,r24_3,r25⟩,hg,h⟩:=ob h
  refine wpS.only 1 (oH 18 hs (keccak_Squeeze.ok hg _ (rR 1 hs) (rR 2 hs) (rR 3 hs)) ?_)
  rintro ⟨r25_A,r25_n,r25_c⟩ w gw hs
  have hs:=hs.conv (L':=[.ownL CB r25_A r25_n r25_c r25 5,.blk b11 (vl [I8 z14_0]++enc .u64 z14_1++vl [I8 z14_2,.bool z14_3]) 115,.obj l15 (.loop (rec15 .ready none)),.obj D15 (.deferred (some [])),.blk b8 ([.slice r7_A r7_n r7_c]) 24,.ownL CB r7_A r7_n r7_c r7 5,.ownL CS s6_A s6_n s6_c ([(a0_A,a0_n,a0_c),(s5_A,s5_n,s5_c)]:List HS) 24,.ownL CB s5_A s5_n s5_c ([a2,a1]:List Int) 5,.blk b4 ([I8 z15]) 3,.blk b3 (enc .i32 z16) 32,.blk b2 ([I8 z17]) 33,.blk b1 (enc .i32 z18) 32]) rfl
  refine ⟨fun _=>trivial,?_⟩
  refine nq 2 [(16,.tuple #[.agg (vl [I8 r24_0]++enc .u64 r24_1++vl [I8 r24_2,.bool r24_3]).toArray,.slice r25_A r25_n r25_c]),(19,.agg (vl [I8 r24_0]++enc .u64 r24_1++vl [I8 r24_2,.bool r24_3]).toArray),(20,.slice r25_A r25_n r25_c)] ?_
  refine so 5 (oW 28 115 (.agg (vl [I8 r24_0]++enc .u64 r24_1++vl [I8 r24_2,.bool r24_3]).toArray) (vl [I8 r24_0]++enc .u64 r24_1++vl [I8 r24_2,.bool r24_3]) hs 1 rfl (by simp [enc_len]) (by simp [enc_len]) (one_app (one_app (by simp [Value.oneCell']) (fun u hu=>enc_one _ _ u hu)) (by simp [Value.oneCell'])) fun w kp hs=>?_)
  refine qo 6 5 (.slice r25_A r25_n r25_c) ?_
  refine fj j31 s30 (xs fun _ s32=>(xn 4 fun _ j33=>?_))
  refine qo 0 21 (.slice r25_A r25_n r25_c) ?_
  obtain ⟨r26,hg,h⟩:=ob h
  refine so 1 (oC 22 hs (bits_NumLe.ok hg _ (rL 0 hs)) fun w gw hs=>?_)
  refine qo 2 23 (I4 (iconv .i32 r26)) ?_
  obtain ⟨x27,hx,h⟩:=ob h
  refine tkf 3 6 (I4 x27) (yn hx) ?_
  refine fj j33 s32 (xs fun _ s34=>(xn 12 fun _ j35=>?_))
  refine nq 0 [(24,.func (.yield l15) #[] #[]),(25,I4 x27),(26,I4 (iand .i32 x27 4095))] ?_
  refine wpS.onlyR 3 (oY 27 hs 2 #[.slice a0_A a0_n a0_c,U1 a1,U1 a2,undef,undef,undef,P0 b1,P0 b2,P0 b3,P0 b4,undef,.slice a0_A a0_n a0_c,U1 a2,U1 a1,.slice s5_A s5_n s5_c,.slice s6_A s6_n s6_c,.slice r7_A r7_n r7_c,.func (.func 76) #[] #[P0 b8],I4 (iand .i32 x27 4095),undef,undef,undef,undef,undef,undef,undef,undef,undef,undef,undef] rfl hok15 #[I4 (iand .i32 x27 4095)] rfl fun K36 k36=>?_)
  refine xn 1 fun _ j37=>?_
  obtain ⟨x28,hx,h⟩:=ob h
  refine tkf 0 10 (I4 x28) (yn hx) ?_
  refine fin (j37 _ _ (tn (k36 _ _ 2 _ _ hs rfl fun w Qr36 hs qr36=>?_)))
  try dsimp only [List.set] at hs
  refine xb (xs fun _ s38=>(xs fun _ s39=>(xn 2 fun _ j40=>?_)))
  refine qo 0 19 (I4 x28) ?_
  obtain ⟨hc,h⟩|⟨hc,h⟩:=of_if h
  refine tb 1 20 (dt hc) ?_
  refine fj j40 s39 (ct (xexit (tx (iH ?_))))
  refine round_n qr36 hs 2 rfl fun w hs=>?_
  try dsimp only [List.set] at hs
  refine ⟨fun _=>trivial,?_⟩
  refine nq 4 [(28,.bool false),(29,.bool false),(30,.func (.yield l15) #[] #[]),(31,I4 x27),(32,I4 (ishr .i32 x27 12))] ?_
  refine wpS.onlyR 9 (oY 33 hs 2 #[.slice a0_A a0_n a0_c,U1 a1,U1 a2,undef,undef,undef,P0 b1,P0 b2,P0 b3,P0 b4,undef,.slice a0_A a0_n a0_c,U1 a2,U1 a1,.slice s5_A s5_n s5_c,.slice s6_A s6_n s6_c,.slice r7_A r7_n r7_c,.func (.func 76) #[] #[P0 b8],I4 (ishr .i32 x27 12),undef,undef,undef,undef,undef,undef,undef,undef,undef,undef,undef] rfl hok15 #[I4 (ishr .i32 x27 12)] rfl fun K41 k41=>?_)
  refine xn 1 fun _ j42=>?_
  obtain ⟨x29,hx,h⟩:=ob h
  refine tkf 0 10 (I4 x29) (yn hx) ?_
  refine fin (j42 _ _ (tn (k41 _ _ 2 _ _ hs rfl fun w Qr41 hs qr41=>?_)))
  try dsimp only [List.set] at hs
  refine xb (xs fun _ s43=>(xs fun _ s44=>(xn 2 fun _ j45=>?_)))
  refine qo 0 19 (I4 x29) ?_
  obtain ⟨hc,h⟩|⟨hc,h⟩:=of_if h
  refine tb 1 20 (dt hc) ?_
  refine fj j45 s44 (ct (xexit (tx (iH ?_))))
  refine round_n qr41 hs 2 rfl fun w hs=>?_
  try dsimp only [List.set] at hs
  refine ⟨fun _=>trivial,?_⟩
  refine nq 10 [(34,.bool false),(35,.bool false)] ?_
  refine fj j35 s34 (cf (xk (iN (T s27 (xn 2 fun _ j46=>?_)))))
  refine nq 0 [(36,I8 (iadd .i64 z13 1)),(14,I8 (iadd .i64 z13 1))] ?_
  refine fin (j46 _ _ ?_)
  exact tn (kl0 _ _ ⟨n,ls n,(iadd .i64 z13 1),r24_0,r24_1,r24_2,r24_3,z15,z16,z17,z18,h,(dr [0,1,1,1,1,1,1,1,1,1,1,1] hs),eg⟩)
  refine tb 1 20 (df hc) ?_
  refine fj j45 s44 (cf (xk (T s43 (xs fun _ s47=>(xn 4 fun _ j48=>?_)))))
  refine tkt 0 21 _ (yv hs 8 0 3 rfl (by rfl) .grow) ?_
  refine qo 1 22 (I4 x29) ?_
  obtain ⟨i0_49,i1_49,h⟩:=oc2 h
  refine tkf 2 23 (P1 b3 z15) (yi 32 21 256 1 .i64 z15 i0_49 i1_49) ?_
  refine so 3 (oA 21 x29 z15 hs 9 rfl (by kernel_rfl) i0_49 i1_49 fun w kp hs=>?_)
  refine fj j48 s47 (xs fun _ s50=>(xn 3 fun _ j51=>?_))
  refine tkt 0 24 _ (yv hs 8 0 3 rfl (by rfl) .grow) ?_
  refine qo 1 25 (I8 (iadd .i64 z15 1)) ?_
  obtain ⟨x30,hx,h⟩:=ob h
  refine so 2 (oS1 (he:=by cases hx; kernel_rfl) 3 (I8 x30) 0 hs 8 rfl rfl (by simp) fun w kp hs=>?_)
  refine fj j51 s50 (xs fun _ s52=>(xn 2 fun _ j53=>?_))
  refine tkt 0 26 _ (yv hs 8 0 3 rfl (by rfl) .grow) ?_
  obtain ⟨hc,h⟩|⟨hc,h⟩:=of_if h
  refine tb 1 27 (et hc) ?_
  refine fj j53 s52 (ct (xs fun _ s54=>(xn 3 fun _ j55=>?_)))
  refine tkt 0 28 _ (yWe 32 hs 9 .grow) ?_
  refine so 1 (oWe 32 .i32 (wr z16 z15 x29) hs 11 fun w kp hs=>?_)
  refine so 2 (oS1 33 (I8 0) 0 hs 10 rfl rfl (by simp) fun w kp hs=>?_)
  refine fj j55 s54 (xret (iR ?_))
  refine round_r qr41 hs 2 rfl fun w hs=>?_
  try dsimp only [List.set] at hs
  refine ⟨fun _=>trivial,?_⟩
  refine nq 10 [(34,.bool true),(35,.bool true)] ?_
  refine fj j35 s34 (ct (xret (iR (tr (tr (iR (exq_r ?_)))))))
  refine qq15 _ _ (pr (rr [] [] .nil) ?_)
  refine range_j (a1:=⟨#[.slice a0_A a0_n a0_c,U1 a1,U1 a2,undef,undef,undef,P0 b1,P0 b2,P0 b3,P0 b4,undef,.slice a0_A a0_n a0_c,U1 a2,U1 a1,.slice s5_A s5_n s5_c,.slice s6_A s6_n s6_c,.slice r7_A r7_n r7_c,.func (.func 76) #[] #[P0 b8],undef,undef,undef,undef,undef,undef,undef,undef,undef,undef,undef,undef],[lmark D15]⟩) .ret kR15 (by kernel_rfl) hs 2 rfl fun w hs=>?_
  try dsimp only [List.set] at hs
  refine xret (iR (tr ?_))
  obtain rfl:=of_some h
  obtain ⟨q0,qr0⟩:=Prod.mk.inj (of_some hk0)
  have q1:=qr0
  subst q0
  subst q1
  refine qq _ _ ?_
  refine leaves_mark hs 3 rfl fun w hs=>?_
  try dsimp only [List.set] at hs
  exact leaves_end (rr [.cell 6 32,.cell 7 33] [ag .i32 (wr z16 z15 x29),I8 0] (.cons (rcN 256 hs 11 rfl (enc_len _ _)) (.cons (rc1 hs 10 rfl rfl) .nil))) ⟨cr,hs.none⟩
  refine tb 1 27 (ef hc) ?_
  refine fj j53 s52 (cf (xk (iN ?_)))
  refine round_n qr41 hs 2 rfl fun w hs=>?_
  try dsimp only [List.set] at hs
  refine ⟨fun _=>trivial,?_⟩
  refine nq 10 [(34,.bool false),(35,.bool false)] ?_
  refine fj j35 s34 (cf (xk (iN (T s27 (xn 2 fun _ j56=>?_)))))
  refine nq 0 [(36,I8 (iadd .i64 z13 1)),(14,I8 (iadd .i64 z13 1))] ?_
  refine fin (j56 _ _ ?_)
  exact tn (kl0 _ _ ⟨n,ls n,(iadd .i64 z13 1),r24_0,r24_1,r24_2,r24_3,x30,(wr z16 z15 x29),z17,z18,h,(dr [0,1,1,1,1,1,1,1,1,1,1,1] hs),eg⟩)
  refine tb 1 20 (df hc) ?_
  refine fj j40 s39 (cf (xk (T s38 (xs fun _ s57=>(xn 4 fun _ j58=>?_)))))
  refine tkt 0 21 _ (yv hs 8 0 3 rfl (by rfl) .grow) ?_
  refine qo 1 22 (I4 x28) ?_
  obtain ⟨i0_59,i1_59,h⟩:=oc2 h
  refine tkf 2 23 (P1 b3 z15) (yi 32 21 256 1 .i64 z15 i0_59 i1_59) ?_
  refine so 3 (oA 21 x28 z15 hs 9 rfl (by kernel_rfl) i0_59 i1_59 fun w kp hs=>?_)
  refine fj j58 s57 (xs fun _ s60=>(xn 3 fun _ j61=>?_))
  refine tkt 0 24 _ (yv hs 8 0 3 rfl (by rfl) .grow) ?_
  refine qo 1 25 (I8 (iadd .i64 z15 1)) ?_
  obtain ⟨x31,hx,h⟩:=ob h
  refine so 2 (oS1 (he:=by cases hx; kernel_rfl) 3 (I8 x31) 0 hs 8 rfl rfl (by simp) fun w kp hs=>?_)
  refine fj j61 s60 (xs fun _ s62=>(xn 2 fun _ j63=>?_))
  refine tkt 0 26 _ (yv hs 8 0 3 rfl (by rfl) .grow) ?_
  obtain ⟨hc,h⟩|⟨hc,h⟩:=of_if h
  refine tb 1 27 (et hc) ?_
  refine fj j63 s62 (ct (xs fun _ s64=>(xn 3 fun _ j65=>?_)))
  refine tkt 0 28 _ (yWe 32 hs 9 .grow) ?_
  refine so 1 (oWe 32 .i32 (wr z16 z15 x28) hs 11 fun w kp hs=>?_)
  refine so 2 (oS1 33 (I8 0) 0 hs 10 rfl rfl (by simp) fun w kp hs=>?_)
  refine fj j65 s64 (xret (iR ?_))
  refine round_r qr36 hs 2 rfl fun w hs=>?_
  try dsimp only [List.set] at hs
  refine ⟨fun _=>trivial,?_⟩
  refine nq 4 [(28,.bool true),(29,.bool true),(30,undef),(31,undef),(32,undef),(33,undef),(34,undef),(35,.bool true)] ?_
  refine fj j35 s34 (ct (xret (iR (tr (tr (iR (exq_r ?_)))))))
  refine qq15 _ _ (pr (rr [] [] .nil) ?_)
  refine range_j (a1:=⟨#[.slice a0_A a0_n a0_c,U1 a1,U1 a2,undef,undef,undef,P0 b1,P0 b2,P0 b3,P0 b4,undef,.slice a0_A a0_n a0_c,U1 a2,U1 a1,.slice s5_A s5_n s5_c,.slice s6_A s6_n s6_c,.slice r7_A r7_n r7_c,.func (.func 76) #[] #[P0 b8],undef,undef,undef,undef,undef,undef,undef,undef,undef,undef,undef,undef],[lmark D15]⟩) .ret kR15 (by kernel_rfl) hs 2 rfl fun w hs=>?_
  try dsimp only [List.set] at hs
  refine xret (iR (tr ?_))
  obtain rfl:=of_some h
  obtain ⟨q0,qr0⟩:=Prod.mk.inj (of_some hk0)
  have q1:=qr0
  subst q0
  subst q1
  refine qq _ _ ?_
  refine leaves_mark hs 3 rfl fun w hs=>?_
  try dsimp only [List.set] at hs
  exact leaves_end (rr [.cell 6 32,.cell 7 33] [ag .i32 (wr z16 z15 x28),I8 0] (.cons (rcN 256 hs 11 rfl (enc_len _ _)) (.cons (rc1 hs 10 rfl rfl) .nil))) ⟨cr,hs.none⟩
  refine tb 1 27 (ef hc) ?_
  refine fj j63 s62 (cf (xk (iN ?_)))
  refine round_n qr36 hs 2 rfl fun w hs=>?_
  try dsimp only [List.set] at hs
  refine ⟨fun _=>trivial,?_⟩
  refine nq 4 [(28,.bool false),(29,.bool false),(30,.func (.yield l15) #[] #[]),(31,I4 x27),(32,I4 (ishr .i32 x27 12))] ?_
  refine wpS.onlyR 9 (oY 33 hs 2 #[.slice a0_A a0_n a0_c,U1 a1,U1 a2,undef,undef,undef,P0 b1,P0 b2,P0 b3,P0 b4,undef,.slice a0_A a0_n a0_c,U1 a2,U1 a1,.slice s5_A s5_n s5_c,.slice s6_A s6_n s6_c,.slice r7_A r7_n r7_c,.func (.func 76) #[] #[P0 b8],I4 (ishr .i32 x27 12),undef,undef,undef,undef,undef,undef,undef,undef,undef,undef,undef] rfl hok15 #[I4 (ishr .i32 x27 12)] rfl fun K66 k66=>?_)
  refine xn 1 fun _ j67=>?_
  obtain ⟨x32,hx,h⟩:=ob h
  refine tkf 0 10 (I4 x32) (yn hx) ?_
  refine fin (j67 _ _ (tn (k66 _ _ 2 _ _ hs rfl fun w Qr66 hs qr66=>?_)))
  try dsimp only [List.set] at hs
  refine xb (xs fun _ s68=>(xs fun _ s69=>(xn 2 fun _ j70=>?_)))
  refine qo 0 19 (I4 x32) ?_
  obtain ⟨hc,h⟩|⟨hc,h⟩:=of_if h
  refine tb 1 20 (dt hc) ?_
  refine fj j70 s69 (ct (xexit (tx (iH ?_))))
  refine round_n qr66 hs 2 rfl fun w hs=>?_
  try dsimp only [List.set] at hs
  refine ⟨fun _=>trivial,?_⟩
  refine nq 10 [(34,.bool false),(35,.bool false)] ?_
  refine fj j35 s34 (cf (xk (iN (T s27 (xn 2 fun _ j71=>?_)))))
  refine nq 0 [(36,I8 (iadd .i64 z13 1)),(14,I8 (iadd .i64 z13 1))] ?_
  refine fin (j71 _ _ ?_)
  exact tn (kl0 _ _ ⟨n,ls n,(iadd .i64 z13 1),r24_0,r24_1,r24_2,r24_3,x31,(wr z16 z15 x28),z17,z18,h,(dr [0,1,1,1,1,1,1,1,1,1,1,1] hs),eg⟩)
  refine tb 1 20 (df hc) ?_
  refine fj j70 s69 (cf (xk (T s68 (xs fun _ s72=>(xn 4 fun _ j73=>?_)))))
  refine tkt 0 21 _ (yv hs 8 0 3 rfl (by rfl) .grow) ?_
  refine qo 1 22 (I4 x32) ?_
  obtain ⟨i0_74,i1_74,h⟩:=oc2 h
  refine tkf 2 23 (P1 b3 x31) (yi 32 21 256 1 .i64 x31 i0_74 i1_74) ?_
  refine so 3 (oA 21 x32 x31 hs 9 rfl (by kernel_rfl) i0_74 i1_74 fun w kp hs=>?_)
  refine fj j73 s72 (xs fun _ s75=>(xn 3 fun _ j76=>?_))
  refine tkt 0 24 _ (yv hs 8 0 3 rfl (by rfl) .grow) ?_
  refine qo 1 25 (I8 (iadd .i64 x31 1)) ?_
  obtain ⟨x33,hx,h⟩:=ob h
  refine so 2 (oS1 (he:=by cases hx; kernel_rfl) 3 (I8 x33) 0 hs 8 rfl rfl (by simp) fun w kp hs=>?_)
  refine fj j76 s75 (xs fun _ s77=>(xn 2 fun _ j78=>?_))
  refine tkt 0 26 _ (yv hs 8 0 3 rfl (by rfl) .grow) ?_
  obtain ⟨hc,h⟩|⟨hc,h⟩:=of_if h
  refine tb 1 27 (et hc) ?_
  refine fj j78 s77 (ct (xs fun _ s79=>(xn 3 fun _ j80=>?_)))
  refine tkt 0 28 _ (yWe 32 hs 9 .grow) ?_
  refine so 1 (oWe 32 .i32 (wr (wr z16 z15 x28) x31 x32) hs 11 fun w kp hs=>?_)
  refine so 2 (oS1 33 (I8 0) 0 hs 10 rfl rfl (by simp) fun w kp hs=>?_)
  refine fj j80 s79 (xret (iR ?_))
  refine round_r qr66 hs 2 rfl fun w hs=>?_
  try dsimp only [List.set] at hs
  refine ⟨fun _=>trivial,?_⟩
  refine nq 10 [(34,.bool true),(35,.bool true)] ?_
  refine fj j35 s34 (ct (xret (iR (tr (tr (iR (exq_r ?_)))))))
  refine qq15 _ _ (pr (rr [] [] .nil) ?_)
  refine range_j (a1:=⟨#[.slice a0_A a0_n a0_c,U1 a1,U1 a2,undef,undef,undef,P0 b1,P0 b2,P0 b3,P0 b4,undef,.slice a0_A a0_n a0_c,U1 a2,U1 a1,.slice s5_A s5_n s5_c,.slice s6_A s6_n s6_c,.slice r7_A r7_n r7_c,.func (.func 76) #[] #[P0 b8],undef,undef,undef,undef,undef,undef,undef,undef,undef,undef,undef,undef],[lmark D15]⟩) .ret kR15 (by kernel_rfl) hs 2 rfl fun w hs=>?_
  try dsimp only [List.set] at hs
  refine xret (iR (tr ?_))
  obtain rfl:=of_some h
  obtain ⟨q0,qr0⟩:=Prod.mk.inj (of_some hk0)
  have q1:=qr0
  subst q0
  subst q1
  refine qq _ _ ?_
  refine leaves_mark hs 3 rfl fun w hs=>?_
  try dsimp only [List.set] at hs
  exact leaves_end (rr [.cell 6 32,.cell 7 33] [ag .i32 (wr (wr z16 z15 x28) x31 x32),I8 0] (.cons (rcN 256 hs 11 rfl (enc_len _ _)) (.cons (rc1 hs 10 rfl rfl) .nil))) ⟨cr,hs.none⟩
  refine tb 1 27 (ef hc) ?_
  refine fj j78 s77 (cf (xk (iN ?_)))
  refine round_n qr66 hs 2 rfl fun w hs=>?_
  try dsimp only [List.set] at hs
  refine ⟨fun _=>trivial,?_⟩
  refine nq 10 [(34,.bool false),(35,.bool false)] ?_
  refine fj j35 s34 (cf (xk (iN (T s27 (xn 2 fun _ j81=>?_)))))
  refine nq 0 [(36,I8 (iadd .i64 z13 1)),(14,I8 (iadd .i64 z13 1))] ?_
  refine fin (j81 _ _ ?_)
  exact tn (kl0 _ _ ⟨n,ls n,(iadd .i64 z13 1),r24_0,r24_1,r24_2,r24_3,x33,(wr (wr z16 z15 x28) x31 x32),z17,z18,h,(dr [0,1,1,1,1,1,1,1,1,1,1,1] hs),eg⟩)
  refine tb 0 15 (df hc) ?_
  refine fj j25 s24 (xs fun _ s82=>(cf (xexit (tx (tx (iH ?_))))))
  obtain rfl:=of_some h
  exact exq_n (nn0 _ _ ⟨z14_0,z14_1,z14_2,z14_3,z15,z16,z17,z18,rfl,(hs.conv rfl),eg⟩)
 clear hs h hy
 rintro a w ⟨y19_0,y19_1,y19_2,y19_3,y20,y21,y22,y23,rfl,hs,g23,rfl⟩
 have h:=hk0
 refine qn15 _ _ (pn (rr [] [] .nil) ?_)
 refine range_n (a1:=⟨#[.slice a0_A a0_n a0_c,U1 a1,U1 a2,undef,undef,undef,P0 b1,P0 b2,P0 b3,P0 b4,undef,.slice a0_A a0_n a0_c,U1 a2,U1 a1,.slice s5_A s5_n s5_c,.slice s6_A s6_n s6_c,.slice r7_A r7_n r7_c,.func (.func 76) #[] #[P0 b8],undef,undef,undef,undef,undef,undef,undef,undef,undef,undef,undef,undef],[lmark D15]⟩) kR15 (by kernel_rfl) hs 1 rfl fun w hs=>?_
 try dsimp only [List.set] at hs
 refine iN (T s7 (xs fun _ s83=>(xn 3 fun _ j84=>?_)))
 refine qo 0 29 (ag .i32 (zeroA 256)) ?_
 refine so 1 (oWe 32 .i32 (zeroA 256) hs 10 fun w kp hs=>?_)
 refine so 2 (oS1 33 (I8 12) 0 hs 9 rfl rfl (by simp) fun w kp hs=>?_)
 refine fj j84 s83 (xret ?_)
 obtain ⟨rfl,rfl⟩:=os2 h
 refine qq _ _ ?_
 refine leaves_mark hs 2 rfl fun w hs=>?_
 try dsimp only [List.set] at hs
 exact leaves_end (rr [.cell 6 32,.cell 7 33] [ag .i32 (zeroA 256),I8 12] (.cons (rcN 256 hs 10 rfl (enc_len _ _)) (.cons (rc1 hs 9 rfl rfl) .nil))) ⟨cr,hs.none⟩
theorem kpke_noises.ok {K:Nat}{a0 a1:Int}{a2:List Int}{a3:Int}{r0:List (Arr 256)}{a2_A:Option Addr}{a2_n a2_c:Nat}(h:kpke_noises.f K a0 a1 a2 a3=some r0) (w0:World) (hp2:RowL CB w0 a2_A a2_n a2_c a2) (hg0:RowL CW w0 (some ⟨0,0,none⟩) 1 1 [tab_0]) (hg1:RowL CV w0 (some ⟨1,0,none⟩) 1 1 [tab_1]) (hg2:RowL CV w0 (some ⟨2,0,none⟩) 1 1 [tab_2]):Calls Tryd.prog 44 #[I8 a0,I8 a1,.slice a2_A a2_n a2_c,I8 a3] w0 fun e w'=>∃ h:(Option Addr × Nat × Nat),e = .returned (.slice h.1 h.2.1 h.2.2)∧St w0 [] [.ownL CZ h.1 h.2.1 h.2.2 r0 32] [] w':=by
 refine calls_k Tryd.func44 rfl fun Q qq=>?_
 have hs:=St.startR (all_cons (RowP.ent hp2) (all_cons (RowP.ent hg0) (all_cons (RowP.ent hg1) (all_cons (RowP.ent hg2) all_nil))))
 refine wc (a':=(fu 26 [I8 a0,I8 a1,.slice a2_A a2_n a2_c,I8 a3])) ?_
 refine xs fun _ s1=>?_
 refine xn 1 fun _ j2=>?_
 refine qo 0 8 (.slice none 0 0) ?_
 refine fj j2 s1 (xs fun _ s3=>(xn 3 fun _ j4=>?_))
 refine qo 0 11 (I8 a0) ?_
 obtain ⟨h0,h1,h⟩:=oc2 h
 refine so 1 (oMk (C:=CZ) 12 78 32 1024 137438953472 .i64 .i64 a0 hs h0 h1 (by decide) (by decide) fun s1_A s1_n s1_c w gw hs=>?_)
 refine qo 2 9 (.slice s1_A s1_n s1_c) ?_
 refine fj j4 s3 (xs fun _ s5=>(xs fun _ s6=>(xn 3 fun _ j7=>?_)))
 refine qo 0 13 (.slice s1_A s1_n s1_c) ?_
 refine tkf 1 14 (I8 ((List.replicate (a0:Int).toNat (Cod.zero CZ)).length:Int)) (yl (rL 0 hs)) ?_
 refine qo 2 15 (I8 0) ?_
 refine fj j7 s6 (?_)
 obtain ⟨y4,hy,hk0⟩:=ob h
 refine wp_exq (N:=fun a w=>St w0 [] [.ownL CZ s1_A s1_n s1_c y4 32] [.rowL CB a2_A a2_n a2_c a2,.rowL CW (some ⟨0,0,none⟩) 1 1 ([tab_0]),.rowL CV (some ⟨1,0,none⟩) 1 1 ([tab_1]),.rowL CV (some ⟨2,0,none⟩) 1 1 ([tab_2])] w∧∃ g9,a=fr g9 30 [(8,[.slice none 0 0,.slice s1_A s1_n s1_c])]) (fun N0 nn0=>?_) ?_
 clear hk0
 refine xb ?_
 refine wp_loop_k (fun n a w=>∃ z2 z3,kpke_noises.l0 K n a0 a1 a2 a3 z2 z3=some y4∧St w0 [] [.ownL CZ s1_A s1_n s1_c z3 32] [.rowL CB a2_A a2_n a2_c a2,.rowL CW (some ⟨0,0,none⟩) 1 1 ([tab_0]),.rowL CV (some ⟨1,0,none⟩) 1 1 ([tab_1]),.rowL CV (some ⟨2,0,none⟩) 1 1 ([tab_2])] w∧∃ g8,a=fr g8 30 [(1,[I8 a1,.slice a2_A a2_n a2_c,I8 a3]),(8,[.slice none 0 0,.slice s1_A s1_n s1_c]),(14,[I8 ((List.replicate (a0:Int).toNat (Cod.zero CZ)).length:Int),I8 z2])]) K ⟨0,(List.replicate (a0:Int).toNat (Cod.zero CZ)),hy,hs.conv rfl,eg⟩ ?_
 clear hs h hy
 rintro n a w ⟨z2,z3,h,hs,g8,rfl⟩ KL0 kl0
 cases n with
 | zero=>exact nomatch (show none=some _ from h)
 | succ n=>
  refine xs fun _ s10=>?_
  refine xn 1 fun _ j11=>?_
  obtain ⟨hc,h⟩|⟨hc,h⟩:=of_if h
  refine tb 0 16 (dt hc) ?_
  refine fj j11 s10 (xs fun _ s12=>(ct (xk (T s12 (xs fun _ s13=>(xb (xs fun _ s14=>(xn 2 fun _ j15=>?_))))))))
  refine nq 0 [(17,I8 z2),(10,I8 z2)] ?_
  refine fj j15 s14 (xn 11 fun _ j16=>?_)
  refine nq 0 [(18,.slice s1_A s1_n s1_c),(19,I8 z2),(20,I8 a1),(21,.slice a2_A a2_n a2_c),(22,I8 a3),(23,I8 z2),(24,I8 (iadd .i64 a3 z2)),(25,U1 (iconv .u8 (iadd .i64 a3 z2)))] ?_
  obtain ⟨r5,hg,h⟩:=ob h
  refine so 8 (oC 26 hs (kpke_Noise.ok hg _ (rR 0 hs) (rR 1 hs) (rR 2 hs) (rR 3 hs)) fun w gw hs=>?_)
  obtain ⟨h0,h1,h⟩:=oc2 h
  have i0_17:=h0
  have i1_17:=h1
  refine tkf 9 27 (PA CZ s1_A z2) (yiL (C:=CZ) 78 32 .i64 z2 (rL 0 hs) h0 h1) ?_
  refine so 10 (oL (C:=CZ) 32 z2 r5 hs 0 rfl i0_17 i1_17 fun w hs=>?_)
  refine fin (j16 _ _ (iN (T s13 (xn 2 fun _ j18=>?_))))
  refine nq 0 [(28,I8 (iadd .i64 z2 1)),(15,I8 (iadd .i64 z2 1))] ?_
  refine fin (j18 _ _ ?_)
  exact tn (kl0 _ _ ⟨n,ls n,(iadd .i64 z2 1),(wrL z3 z2 r5),h,(hs.conv rfl),eg⟩)
  refine tb 0 16 (df hc) ?_
  refine fj j11 s10 (xs fun _ s19=>(cf (xexit (tx (tx (iH ?_))))))
  obtain rfl:=of_some h
  exact exq_n (nn0 _ _ ⟨(hs.conv rfl),eg⟩)
 clear hs h hy
 rintro a w ⟨hs,g9,rfl⟩
 have h:=hk0
 refine T s5 (xs fun _ s20=>(xn 2 fun _ j21=>?_))
 refine nq 0 [(29,.slice s1_A s1_n s1_c),(8,.slice s1_A s1_n s1_c)] ?_
 refine fj j21 s20 (xret ?_)
 obtain rfl:=of_some h
 exact qq _ _ (pt [8] [.slice s1_A s1_n s1_c] ⟨⟨s1_A,s1_n,s1_c⟩,cr,(pz hs)⟩)
theorem kpke_vector_packed.ok {K:Nat}{a0:List (Arr 256)}{a1:Int}{r0:List Int}{a0_A:Option Addr}{a0_n a0_c:Nat}(h:kpke_vector_packed.f K a0 a1=some r0) (w0:World) (hp0:RowL CZ w0 a0_A a0_n a0_c a0):Calls Tryd.prog 48 #[.slice a0_A a0_n a0_c,I8 a1] w0 fun e w'=>∃ h:(Option Addr × Nat × Nat),e = .returned (.slice h.1 h.2.1 h.2.2)∧St w0 [] [.ownL CB h.1 h.2.1 h.2.2 r0 5] [] w':=by
 refine calls_k Tryd.func48 rfl fun Q qq=>?_
 have hs:=St.startR (all_cons (RowP.ent hp0) all_nil)
 refine wc (a':=(fu 19 [.slice a0_A a0_n a0_c,I8 a1])) ?_
 refine xs fun _ s1=>?_
 refine xn 1 fun _ j2=>?_
 refine qo 0 4 (.slice none 0 0) ?_
 refine fj j2 s1 (xs fun _ s3=>(xn 1 fun _ j4=>?_))
 refine qo 0 5 (.slice none 0 0) ?_
 refine fj j4 s3 (xs fun _ s5=>(xs fun _ s6=>(xn 3 fun _ j7=>?_)))
 refine qo 0 8 (.slice a0_A a0_n a0_c) ?_
 refine tkf 1 9 (I8 (a0.length:Int)) (yl (rR 0 hs)) ?_
 refine qo 2 10 (I8 0) ?_
 refine fj j7 s6 (?_)
 have hs:=hs.addNilL CB 5
 obtain ⟨y3,hy,hk0⟩:=ob h
 refine wp_exq (N:=fun a w=>∃ y3_A y3_n y3_c,St w0 [] [.ownL CB y3_A y3_n y3_c y3 5] [.rowL CZ a0_A a0_n a0_c a0] w∧∃ g9,a=fr g9 21 [(4,[.slice none 0 0,.slice y3_A y3_n y3_c])]) (fun N0 nn0=>?_) ?_
 clear hk0
 refine xb ?_
 refine wp_loop_k (fun n a w=>∃ z1 z2,∃ z2_A z2_n z2_c,kpke_vector_packed.l0 K n a0 a1 z1 z2=some y3∧St w0 [] [.ownL CB z2_A z2_n z2_c z2 5] [.rowL CZ a0_A a0_n a0_c a0] w∧∃ g8,a=fr g8 21 [(1,[I8 a1]),(4,[.slice none 0 0,.slice z2_A z2_n z2_c]),(8,[.slice a0_A a0_n a0_c,I8 (a0.length:Int),I8 z1])]) K ⟨0,([]:List Int),none,0,0,hy,hs.conv rfl,eg⟩ ?_
 clear hs h hy
 rintro n a w ⟨z1,z2,z2_A,z2_n,z2_c,h,hs,g8,rfl⟩ KL0 kl0
 cases n with
 | zero=>exact nomatch (show none=some _ from h)
 | succ n=>
  refine xs fun _ s10=>?_
  refine xn 1 fun _ j11=>?_
  obtain ⟨hc,h⟩|⟨hc,h⟩:=of_if h
  refine tb 0 11 (dt hc) ?_
  refine fj j11 s10 (xs fun _ s12=>(ct (xk (T s12 (xs fun _ s13=>(xb (xs fun _ s14=>(xn 4 fun _ j15=>?_))))))))
  obtain ⟨h0,h1,h⟩:=oc2 h
  have i0_16:=h0
  have i1_16:=h1
  refine tkf 0 12 (PA CZ a0_A z1) (yiL (C:=CZ) 78 32 .i64 z1 (rR 0 hs) h0 h1) ?_
  refine tkt 1 13 _ (yLA (C:=CZ) 32 z1 (rR 0 hs) rfl i0_16 i1_16) ?_
  refine so 2 (oNe 7 32 .i32 (zeroA 256) hs fun b4 w gw hs=>?_)
  refine so 3 (oWe 32 .i32 (rdL CZ a0 z1) hs 0 fun w kp hs=>?_)
  refine fj j15 s14 (xn 6 fun _ j17=>?_)
  refine qo 0 14 (.slice z2_A z2_n z2_c) ?_
  refine tkt 1 15 _ (yWe 32 hs 0 .grow) ?_
  refine qo 2 16 (I8 a1) ?_
  obtain ⟨r5,hg,h⟩:=ob h
  refine wpS.only 3 (oH 17 hs (kq_Pack.ok hg _) ?_)
  rintro ⟨r5_A,r5_n,r5_c⟩ w gw hs
  have hs:=hs.conv (L':=[.ownL CB r5_A r5_n r5_c r5 5,.blk b4 (enc .i32 (rdL CZ a0 z1)) 32,.ownL CB z2_A z2_n z2_c z2 5]) rfl
  refine ⟨fun _=>trivial,?_⟩
  obtain ⟨h0,h⟩:=oc h
  refine so 4 (oAp (C:=CB) 18 24 24 5 1 140737488355328 hs 2 rfl (rL 0 hs) h0 (by decide) (by decide) fun s6_A s6_n s6_c w hs=>?_)
  refine qo 5 5 (.slice s6_A s6_n s6_c) ?_
  refine fin (j17 _ _ (iN (T s13 (xn 2 fun _ j18=>?_))))
  refine nq 0 [(19,I8 (iadd .i64 z1 1)),(10,I8 (iadd .i64 z1 1))] ?_
  refine fin (j18 _ _ ?_)
  exact tn (kl0 _ _ ⟨n,ls n,(iadd .i64 z1 1),(z2++r5),s6_A,s6_n,s6_c,h,(dr [0,0,1] hs),eg⟩)
  refine tb 0 11 (df hc) ?_
  refine fj j11 s10 (xs fun _ s19=>(cf (xexit (tx (tx (iH ?_))))))
  obtain rfl:=of_some h
  exact exq_n (nn0 _ _ ⟨z2_A,z2_n,z2_c,(hs.conv rfl),eg⟩)
 clear hs h hy
 rintro a w ⟨y3_A,y3_n,y3_c,hs,g9,rfl⟩
 have h:=hk0
 refine T s5 (xs fun _ s20=>(xn 2 fun _ j21=>?_))
 refine nq 0 [(20,.slice y3_A y3_n y3_c),(4,.slice y3_A y3_n y3_c)] ?_
 refine fj j21 s20 (xret ?_)
 obtain rfl:=of_some h
 exact qq _ _ (pt [4] [.slice y3_A y3_n y3_c] ⟨⟨y3_A,y3_n,y3_c⟩,cr,(pz hs)⟩)
theorem kpke_spread.ok {K:Nat}{a0:List Int}{r0:Arr 256}{a0_A:Option Addr}{a0_n a0_c:Nat}(h:kpke_spread.f K a0=some r0) (w0:World) (hp0:RowL CB w0 a0_A a0_n a0_c a0):Ret Tryd.prog 58 #[.slice a0_A a0_n a0_c] w0 (ag .i32 r0):=by
 refine calls_k Tryd.func58 rfl fun Q qq=>?_
 have hs:=St.startR (all_cons (RowP.ent hp0) all_nil)
 refine wc (a':=(fu 11 [.slice a0_A a0_n a0_c])) ?_
 refine xs fun _ s1=>?_
 refine xn 1 fun _ j2=>?_
 refine so 0 (oNe 2 32 .i32 (zeroA 256) hs fun b1 w gw hs=>?_)
 refine fj j2 s1 (xs fun _ s3=>(xn 8 fun _ j4=>?_))
 refine qo 0 6 (.slice a0_A a0_n a0_c) ?_
 obtain ⟨⟨r2,r3⟩,hg,h⟩:=ob h
 refine so 1 (oC 7 hs (kq_Unpack.ok hg _ (rR 0 hs)) fun w gw hs=>?_)
 refine nq 2 [(5,.tuple #[ag .i32 r2,.bool r3]),(8,ag .i32 r2),(9,.bool r3)] ?_
 refine so 5 (oNe 3 32 .i32 (zeroA 256) hs fun b4 w gw hs=>?_)
 refine so 6 (oWe 32 .i32 r2 hs 0 fun w kp hs=>?_)
 refine qo 7 4 (.bool r3) ?_
 refine fj j4 s3 (xs fun _ s5=>(xn 3 fun _ j6=>?_))
 refine tkt 0 10 _ (yWe 32 hs 0 .grow) ?_
 obtain ⟨r5,hg,h⟩:=ob h
 refine so 1 (oC 11 hs (kq_Widen.ok hg _) fun w gw hs=>?_)
 refine so 2 (oWe 32 .i32 r5 hs 1 fun w kp hs=>?_)
 refine fj j6 s5 (xret ?_)
 obtain rfl:=of_some h
 exact qq _ _ (pr (rr [.cell 2 32] [ag .i32 r5] (.cons (rcN 256 hs 1 rfl (enc_len _ _)) .nil)) ⟨cr,hs.none⟩)
theorem kpke_expanded_s.ok {K:Nat}{ca0 ca1 ca2 ca3 ca4:Int}{ca5:List Int}{y1:List (List (Arr 256))}{y2:Int}{ca5_A:Option Addr}{ca5_n ca5_c:Nat}(h:kpke_expanded_s.f K ca0 ca1 ca2 ca3 ca4 ca5=some (y1,y2)){w0 w:World}{X:List Nat}{Lt Rt:List Ent}(hs:St w0 X Lt (.rowL CB ca5_A ca5_n ca5_c ca5::.rowL CW (some ⟨0,0,none⟩) 1 1 ([tab_0])::.rowL CV (some ⟨1,0,none⟩) 1 1 ([tab_1])::.rowL CV (some ⟨2,0,none⟩) 1 1 ([tab_2])::Rt) w):Calls Tryd.prog 43 #[.agg #[I8 ca0,I8 ca1,I8 ca2,I8 ca3,I8 ca4],.slice ca5_A ca5_n ca5_c,.bool true] w fun e w'=>∃ (y1_A:Option Addr) (y1_n:Nat) (y1_c:Nat) (y1_H:List HS),e = .returned (.tuple #[.slice y1_A y1_n y1_c,I8 y2])∧St w0 X (.ownL CS y1_A y1_n y1_c y1_H 78::Lt) (.inn CZ y1_H y1::.rowL CB ca5_A ca5_n ca5_c ca5::.rowL CW (some ⟨0,0,none⟩) 1 1 ([tab_0])::.rowL CV (some ⟨1,0,none⟩) 1 1 ([tab_1])::.rowL CV (some ⟨2,0,none⟩) 1 1 ([tab_2])::Rt) w':=by
 refine calls_k Tryd.func43 rfl fun Q qq=>?_
 refine wc (a':=(fu 55 [.agg #[I8 ca0,I8 ca1,I8 ca2,I8 ca3,I8 ca4],.slice ca5_A ca5_n ca5_c,.bool true])) ?_
 refine xs fun _ s1=>?_
 refine xn 3 fun _ j2=>?_
 refine so 0 (oBa 3 23 hs [I8 ca0,I8 ca1,I8 ca2,I8 ca3,I8 ca4] fun b3 w gw hs=>?_)
 refine nq 1 [(6,.slice none 0 0),(7,I8 0)] ?_
 refine fj j2 s1 (xs fun _ s3=>(xn 4 fun _ j4=>?_))
 refine qo 0 15 (P0 b3) ?_
 refine tkt 1 16 _ (yv hs 0 0 3 rfl (by rfl) .grow) ?_
 obtain ⟨h0,h1,h⟩:=oc2 h
 refine so 2 (oMk (C:=CS) 17 74 78 24 5864062014805 .i64 .i64 ca0 hs h0 h1 (by decide) (by decide) fun s4_A s4_n s4_c w gw hs=>?_)
 have hs:=hs.addInns0 CZ 32 (ca0:Int).toNat
 refine qo 3 8 (.slice s4_A s4_n s4_c) ?_
 refine fj j4 s3 (xs fun _ s5=>(xs fun _ s6=>(xn 3 fun _ j7=>?_)))
 refine qo 0 18 (.slice s4_A s4_n s4_c) ?_
 refine tkf 1 19 (I8 ((List.replicate (ca0:Int).toNat ([]:List (Arr 256))).length:Int)) (ylNN (⟨hs.rowL 1 rfl,hs.innsLen 0 rfl⟩ : NNP _ _ _ _ _ _)) ?_
 refine qo 2 20 (I8 0) ?_
 refine fj j7 s6 (?_)
 obtain ⟨t0,hy,hk0⟩:=ob h
 refine wp_exq (N:=fun a w=>∃ y7,∃ (y7_H:List HS),t0 = .inl y7∧St w0 X (.inns CZ 32 y7_H y7::.ownL CS s4_A s4_n s4_c y7_H 78::.blk b3 ([I8 ca0,I8 ca1,I8 ca2,I8 ca3,I8 ca4]) 23::Lt) (.rowL CB ca5_A ca5_n ca5_c ca5::.rowL CW (some ⟨0,0,none⟩) 1 1 ([tab_0])::.rowL CV (some ⟨1,0,none⟩) 1 1 ([tab_1])::.rowL CV (some ⟨2,0,none⟩) 1 1 ([tab_2])::Rt) w∧∃ g9,a=fr g9 58 [(8,[.slice s4_A s4_n s4_c])]) (fun N0 nn0=>?_) ?_
 refine xb ?_
 refine wp_loop_k (fun n a w=>∃ z5 z6,∃ (z6_H:List HS),kpke_expanded_s.l0 K n ca0 ca5 z5 z6=some t0∧St w0 X (.inns CZ 32 z6_H z6::.ownL CS s4_A s4_n s4_c z6_H 78::.blk b3 ([I8 ca0,I8 ca1,I8 ca2,I8 ca3,I8 ca4]) 23::Lt) (.rowL CB ca5_A ca5_n ca5_c ca5::.rowL CW (some ⟨0,0,none⟩) 1 1 ([tab_0])::.rowL CV (some ⟨1,0,none⟩) 1 1 ([tab_1])::.rowL CV (some ⟨2,0,none⟩) 1 1 ([tab_2])::Rt) w∧∃ g8,a=fr g8 58 [(1,[.slice ca5_A ca5_n ca5_c,.bool true,P0 b3]),(8,[.slice s4_A s4_n s4_c]),(19,[I8 ((List.replicate (ca0:Int).toNat ([]:List (Arr 256))).length:Int),I8 z5])]) K ⟨0,(List.replicate (ca0:Int).toNat ([]:List (Arr 256))),(List.replicate (ca0:Int).toNat (Cod.zero CS)),hy,hs.conv rfl,eg⟩ ?_
 clear hs h hy
 rintro n a w ⟨z5,z6,z6_H,h,hs,g8,rfl⟩ KL0 kl0
 cases n with
 | zero=>exact nomatch (show none=some _ from h)
 | succ n=>
  refine xs fun _ s10=>?_
  refine xn 1 fun _ j11=>?_
  obtain ⟨hc,h⟩|⟨hc,h⟩:=of_if h
  refine tb 0 21 (dt hc) ?_
  refine fj j11 s10 (xs fun _ s12=>(ct (xk (T s12 (xs fun _ s13=>(xb (xs fun _ s14=>(xn 2 fun _ j15=>?_))))))))
  refine nq 0 [(22,I8 z5),(9,I8 z5)] ?_
  refine fj j15 s14 (xs fun _ s16=>(xn 3 fun _ j17=>?_))
  refine qo 0 23 (P0 b3) ?_
  refine tkt 1 24 _ (yv hs 2 0 3 rfl (by rfl) .grow) ?_
  refine qo 2 25 (I8 0) ?_
  refine fj j17 s16 (?_)
  obtain ⟨t1,hy,hk1⟩:=ob h
  refine wp_exq (N:=fun a w=>∃ y10,∃ (y10_H:List HS),t1 = .inl y10∧St w0 X (.inns CZ 32 y10_H y10::.ownL CS s4_A s4_n s4_c y10_H 78::.blk b3 ([I8 ca0,I8 ca1,I8 ca2,I8 ca3,I8 ca4]) 23::Lt) (.rowL CB ca5_A ca5_n ca5_c ca5::.rowL CW (some ⟨0,0,none⟩) 1 1 ([tab_0])::.rowL CV (some ⟨1,0,none⟩) 1 1 ([tab_1])::.rowL CV (some ⟨2,0,none⟩) 1 1 ([tab_2])::Rt) w∧∃ g19,a=fr g19 58 [(1,[.slice ca5_A ca5_n ca5_c,.bool true,P0 b3]),(8,[.slice s4_A s4_n s4_c]),(19,[I8 ((List.replicate (ca0:Int).toNat ([]:List (Arr 256))).length:Int),I8 z5])]) (fun N1 nn1=>?_) ?_
  refine xb ?_
  refine wp_loop_k (fun n a w=>∃ z8 z9,∃ (z9_H:List HS),kpke_expanded_s.l1 K n ca0 ca5 z5 z8 z9=some t1∧St w0 X (.inns CZ 32 z9_H z9::.ownL CS s4_A s4_n s4_c z9_H 78::.blk b3 ([I8 ca0,I8 ca1,I8 ca2,I8 ca3,I8 ca4]) 23::Lt) (.rowL CB ca5_A ca5_n ca5_c ca5::.rowL CW (some ⟨0,0,none⟩) 1 1 ([tab_0])::.rowL CV (some ⟨1,0,none⟩) 1 1 ([tab_1])::.rowL CV (some ⟨2,0,none⟩) 1 1 ([tab_2])::Rt) w∧∃ g18,a=fr g18 58 [(1,[.slice ca5_A ca5_n ca5_c,.bool true,P0 b3]),(8,[.slice s4_A s4_n s4_c,I8 z5]),(19,[I8 ((List.replicate (ca0:Int).toNat ([]:List (Arr 256))).length:Int),I8 z5]),(24,[I8 ca0,I8 z8])]) K ⟨0,z6,z6_H,hy,hs.conv rfl,eg⟩ ?_
  clear hs h hy
  rintro n a w ⟨z8,z9,z9_H,h,hs,g18,rfl⟩ KL1 kl1
  cases n with
  | zero=>exact nomatch (show none=some _ from h)
  | succ n=>
   refine xs fun _ s20=>?_
   refine xn 1 fun _ j21=>?_
   obtain ⟨hc,h⟩|⟨hc,h⟩:=of_if h
   refine tb 0 26 (dt hc) ?_
   refine fj j21 s20 (xs fun _ s22=>(ct (xk (T s22 (xs fun _ s23=>(xb (xs fun _ s24=>(xn 2 fun _ j25=>?_))))))))
   refine nq 0 [(27,I8 z8),(10,I8 z8)] ?_
   refine fj j25 s24 (xs fun _ s26=>(xn 6 fun _ j27=>?_))
   refine nq 0 [(28,I8 z5),(29,U1 (iconv .u8 z5)),(30,I8 z8),(31,U1 (iconv .u8 z8))] ?_
   obtain ⟨x11,hx,h⟩:=ob h
   refine tkf 4 11 (U1 x11) (yn hx) ?_
   obtain ⟨x12,hx,h⟩:=ob h
   refine tkf 5 12 (U1 x12) (yn hx) ?_
   refine fj j27 s26 (xs fun _ s28=>(xs fun _ s29=>(xn 1 fun _ j30=>?_)))
   refine qo 0 32 (.bool true) ?_
   refine fj j30 s29 (ct (xn 4 fun _ j31=>?_))
   refine nq 0 [(33,U1 x12),(34,U1 x11),(11,U1 x12),(12,U1 x11)] ?_
   refine fj j31 s28 (xs fun _ s32=>(xn 10 fun _ j33=>?_))
   refine nq 0 [(36,.slice ca5_A ca5_n ca5_c),(37,U1 x12),(38,U1 x11)] ?_
   obtain ⟨⟨r13,r14⟩,hg,h⟩:=ob h
   refine so 3 (oC 39 hs (kpke_Parts.ok hg _ (rR 0 hs) (rR 1 hs) (rR 2 hs) (rR 3 hs)) fun w gw hs=>?_)
   refine nq 4 [(35,.tuple #[ag .i32 r13,I8 r14]),(40,ag .i32 r13),(41,I8 r14)] ?_
   refine so 7 (oNe 13 32 .i32 (zeroA 256) hs fun b15 w gw hs=>?_)
   refine so 8 (oWe 32 .i32 r13 hs 0 fun w kp hs=>?_)
   refine qo 9 14 (I8 r14) ?_
   refine fj j33 s32 (xs fun _ s34=>(xs fun _ s35=>(xn 2 fun _ j36=>?_)))
   refine qo 0 42 (I8 r14) ?_
   obtain ⟨hc,h⟩|⟨hc,h⟩:=of_if h
   refine tb 1 43 (nf hc) ?_
   refine fj j36 s35 (cf (xk (T s34 (?_))))
   refine rg [8,10] (fun k=>True) 11 fun _ j37=>?_
   have hs:=hs.drawn1
   refine gq 0 45 (.slice s4_A s4_n s4_c) ?_
   refine gq 1 46 (I8 z5) ?_
   refine gq 2 47 (.slice s4_A s4_n s4_c) ?_
   refine gq 3 48 (I8 z5) ?_
   obtain ⟨h0,h1,h⟩:=oc2 h
   have i0_38:=h0
   have i1_38:=h1
   refine tgf 4 49 (PA CS s4_A z5) (yiNN 74 78 .i64 z5 (⟨hs.rowL 2 rfl,hs.innsLen 1 rfl⟩ : NNP _ _ _ _ _ _) h0 h1) ?_
   obtain ⟨s16_A,hA⟩ : ∃ A,A=(rdL CS z9_H z5).1:=⟨_,rfl⟩
   obtain ⟨s16_n,hn⟩ : ∃ n,n=(rdL CS z9_H z5).2.1:=⟨_,rfl⟩
   obtain ⟨s16_c,hc⟩ : ∃ c,c=(rdL CS z9_H z5).2.2:=⟨_,rfl⟩
   refine tgt 5 50 (.slice s16_A s16_n s16_c) (by subst hA hn hc; exact yld_loadNN (e:=78) (x:=z5) (⟨hs.rowL 2 rfl,hs.innsLen 1 rfl⟩ : NNP _ _ _ _ _ _) (by kernel_rfl) (by kernel_rfl) i0_38 i1_38) ?_
   have hs:=hs.front 1 rfl
   try dsimp only [List.eraseIdx] at hs
   obtain ⟨hl39,hs⟩:=hs.openI i0_38 i1_38 hA hn hc
   refine wpG.take [6,7,8,9,10] 6 true (some 51) (ag .i32 r13) (by kernel_rfl) (by kernel_rfl) (yWe 32 hs 2 .grow) ?_
   refine go 7 (oLL (C:=CZ) 52 78 32 1 (ag .i32 (zeroA 256)) #[(0,ag .i32 r13)] [r13] hs rfl rfl (by decide) (by decide) fun s17_A s17_n s17_c w gw hs=>⟨.of gw,?_⟩)
   obtain ⟨h0,h⟩:=oc h
   refine go 8 (oAp (C:=CZ) 53 78 78 32 1024 137438953472 hs 1 rfl (rL 0 hs) h0 (by decide) (by decide) fun s18_A s18_n s18_c w hs=>⟨⟨fun hf=>absurd hf (by decide),.all _ _⟩,?_⟩)
   obtain ⟨h0,h1,h⟩:=oc2 h
   have i0_40:=h0
   have i1_40:=h1
   refine tgf 9 54 (PA CS s4_A z5) (yiNN 74 78 .i64 z5 (⟨hs.rowL 4 rfl,hl39⟩ : NNP _ _ _ _ _ _) h0 h1) ?_
   refine go 10 (oL (C:=CS) 78 z5 ((s18_A,s18_n,s18_c):HS) hs 4 rfl i0_40 (by rw [hl39]; exact i1_40) fun w hs=>⟨⟨fun hf=>absurd hf (by decide),.all _ _⟩,?_⟩)
   have hs:=hs.front 2 rfl
   have hs:=hs.front 2 rfl
   try dsimp only [List.eraseIdx] at hs
   have hs:=hs.closeI (x:=z5) hl39 i0_38 i1_38
   refine gf (j37 _ _ ?_)
   refine iN (T s23 (xn 2 fun _ j41=>?_))
   refine nq 0 [(55,I8 (iadd .i64 z8 1)),(25,I8 (iadd .i64 z8 1))] ?_
   refine fin (j41 _ _ ?_)
   exact tn (kl1 _ _ ⟨n,ls n,(iadd .i64 z8 1),(wrL z9 z5 ((rdLL z9 z5)++([r13]:List (Arr 256)))),(wrL z9_H z5 ((s18_A,s18_n,s18_c):HS)),h,(dr [1,0,0,1,1] hs),eg⟩)
   refine tb 1 43 (nt hc) ?_
   refine fj j36 s35 (ct (xs fun _ s42=>(xn 3 fun _ j43=>?_)))
   refine nq 0 [(44,I8 r14),(6,.slice none 0 0),(7,I8 r14)] ?_
   refine fj j43 s42 (xret (tr (iR (tr (tr (iR (exq_r (iR (tr (tr (iR (exq_r (tr ?_)))))))))))))
   obtain rfl:=of_some h
   have q0:=of_some hk1
   subst q0
   obtain ⟨q0,qr0⟩:=Prod.mk.inj (of_some hk0)
   have q1:=qr0
   subst q0
   subst q1
   have hs:=hs.front 1 rfl
   try dsimp only [List.eraseIdx] at hs
   have hs:=hs.innsInn
   have hs:=(hs.addNilL CS 78).addInn0 CZ
   exact qq _ _ (pt [6,7] [.slice none 0 0,I8 r14] ⟨none,0,0,[],rfl,((dr [1,0,0,0] hs).pickR (pick_cons 0 rfl (pick_cons 2 rfl (pick_cons 3 rfl (pick_cons 4 rfl (pick_cons 5 rfl (fun _ he=>.tail _ (.tail _ (.tail _ (.tail _ (.tail _ (.tail _ he))))))))))))⟩)
   refine tb 0 26 (df hc) ?_
   refine fj j21 s20 (xs fun _ s44=>(cf (xexit (tx (tx (iH ?_))))))
   obtain rfl:=of_some h
   exact exq_n (nn1 _ _ ⟨z9,z9_H,rfl,(hs.conv rfl),eg⟩)
  clear hs h hy
  rintro a w ⟨y10,y10_H,rfl,hs,g19,rfl⟩
  have h:=hk1
  refine iN (T s13 (xn 2 fun _ j45=>?_))
  refine nq 0 [(56,I8 (iadd .i64 z5 1)),(20,I8 (iadd .i64 z5 1))] ?_
  refine fin (j45 _ _ ?_)
  exact tn (kl0 _ _ ⟨n,ls n,(iadd .i64 z5 1),y10,y10_H,h,(hs.conv rfl),eg⟩)
  refine tb 0 21 (df hc) ?_
  refine fj j11 s10 (xs fun _ s46=>(cf (xexit (tx (tx (iH ?_))))))
  obtain rfl:=of_some h
  exact exq_n (nn0 _ _ ⟨z6,z6_H,rfl,(hs.conv rfl),eg⟩)
 clear hs h hy
 rintro a w ⟨y7,y7_H,rfl,hs,g9,rfl⟩
 have h:=hk0
 refine T s5 (xs fun _ s47=>(xn 3 fun _ j48=>?_))
 refine nq 0 [(57,.slice s4_A s4_n s4_c),(6,.slice s4_A s4_n s4_c),(7,I8 0)] ?_
 refine fj j48 s47 (xret ?_)
 obtain ⟨rfl,rfl⟩:=os2 h
 have hs:=hs.innsInn
 exact qq _ _ (pt [6,7] [.slice s4_A s4_n s4_c,I8 0] ⟨s4_A,s4_n,s4_c,y7_H,rfl,(dr [1,0] hs)⟩)
end Go.Proofs.YtemdbgmldljbpaaDoor
