/- own -/
import Derived.Test.YtemdbgmldljbpaaGreatDoorMh
import Derived.Test.YtemdbgmldljbpaaGreatDoorProg
import Derived.Test.YtemdbgmldljbpaaGreatDoorBF0
import Derived.Test.YtemdbgmldljbpaaGreatDoorBX1
import Derived.Test.YtemdbgmldljbpaaGreatDoorBX3
set_option linter.unusedVariables false
set_option linter.unusedSimpArgs false
set_option maxRecDepth 100000
set_option maxHeartbeats 4000000
namespace Go.Proofs.YtemdbgmldljbpaaGreatDoor
open Go.Mx
attribute [local irreducible] wpOp
theorem kpke_noises.ok {K:Nat}{a0 a1:Int}{a2:List Int}{a3:Int}{r0:List (Arr 256)}{a2_A:Option Addr}{a2_n a2_c:Nat}(h:kpke_noises.f K a0 a1 a2 a3=some r0) (w0:World) (hp2:RowL CB w0 a2_A a2_n a2_c a2) (hg0:RowL CW w0 (some ⟨0,0,none⟩) 1 1 [tab_0]) (hg1:RowL CV w0 (some ⟨1,0,none⟩) 1 1 [tab_1]) (hg2:RowL CV w0 (some ⟨2,0,none⟩) 1 1 [tab_2]):Calls Tryz.prog 61 #[I8 a0,I8 a1,.slice a2_A a2_n a2_c,I8 a3] w0 fun e w'=>∃ h:(Option Addr × Nat × Nat),e = .returned (.slice h.1 h.2.1 h.2.2)∧St w0 [] [.ownL CZ h.1 h.2.1 h.2.2 r0 70] [] w':=by
 refine calls_k Tryz.func61 rfl fun Q qq=>?_
 have hs:=St.startR (all_cons (RowP.ent hp2) (all_cons (RowP.ent hg0) (all_cons (RowP.ent hg1) (all_cons (RowP.ent hg2) all_nil))))
 refine wc (a':=(fu 26 [I8 a0,I8 a1,.slice a2_A a2_n a2_c,I8 a3])) (xs fun _ s1=>(xn 1 fun _ j2=>(qo 0 8 (.slice none 0 0) (fj j2 s1 (xs fun _ s3=>(xn 3 fun _ j4=>?_))))))
 refine qo 0 11 (I8 a0) ?_
 obtain ⟨h0,h1,h⟩:=oc2 h
 refine so 1 (oMk (C:=CZ) 12 97 70 1024 137438953472 .i64 .i64 a0 hs h0 h1 (by decide) (by decide) fun s1_A s1_n s1_c w gw hs=>?_)
 refine qo 2 9 (.slice s1_A s1_n s1_c) (fj j4 s3 (xs fun _ s5=>(xs fun _ s6=>(xn 3 fun _ j7=>(qo 0 13 (.slice s1_A s1_n s1_c) (tkf 1 14 (I8 ((List.replicate (a0:Int).toNat (Cod.zero CZ)).length:Int)) (yl (rL 0 hs)) (qo 2 15 (I8 0) ?_)))))))
 refine fj j7 s6 (?_)
 obtain ⟨y4,hy,hk0⟩:=ob h
 refine wp_exq (N:=fun a w=>St w0 [] [.ownL CZ s1_A s1_n s1_c y4 70] [.rowL CB a2_A a2_n a2_c a2,.rowL CW (some ⟨0,0,none⟩) 1 1 ([tab_0]),.rowL CV (some ⟨1,0,none⟩) 1 1 ([tab_1]),.rowL CV (some ⟨2,0,none⟩) 1 1 ([tab_2])] w∧∃ g9,a=fr g9 30 [(8,[.slice none 0 0,.slice s1_A s1_n s1_c])]) (fun N0 nn0=>?_) ?_
 clear hk0
 refine xb ?_
 refine wp_loop_k (fun n a w=>∃ z2 z3,kpke_noises.l0 K n a0 a1 a2 a3 z2 z3=some y4∧St w0 [] [.ownL CZ s1_A s1_n s1_c z3 70] [.rowL CB a2_A a2_n a2_c a2,.rowL CW (some ⟨0,0,none⟩) 1 1 ([tab_0]),.rowL CV (some ⟨1,0,none⟩) 1 1 ([tab_1]),.rowL CV (some ⟨2,0,none⟩) 1 1 ([tab_2])] w∧∃ g8,a=fr g8 30 [(1,[I8 a1,.slice a2_A a2_n a2_c,I8 a3]),(8,[.slice none 0 0,.slice s1_A s1_n s1_c]),(14,[I8 ((List.replicate (a0:Int).toNat (Cod.zero CZ)).length:Int),I8 z2])]) K ⟨0,(List.replicate (a0:Int).toNat (Cod.zero CZ)),hy,hs.conv rfl,eg⟩ ?_
 clear hs h hy
 rintro n a w ⟨z2,z3,h,hs,g8,rfl⟩ KL0 kl0
 cases n with
 | zero=>exact nomatch (show none=some _ from h)
 | succ n=>
  refine xs fun _ s10=>(xn 1 fun _ j11=>?_)
  obtain ⟨hc,h⟩|⟨hc,h⟩:=of_if h
  refine tb 0 16 (dt hc) ?_
  refine fj j11 s10 (xs fun _ s12=>(ct (xk (T s12 (xs fun _ s13=>(xb (xs fun _ s14=>(xn 2 fun _ j15=>(nq 0 [(17,I8 z2),(10,I8 z2)] (fj j15 s14 (xn 11 fun _ j16=>(nq 0 [(18,.slice s1_A s1_n s1_c),(19,I8 z2),(20,I8 a1),(21,.slice a2_A a2_n a2_c),(22,I8 a3),(23,I8 z2),(24,I8 (iadd .i64 a3 z2)),(25,U1 (iconv .u8 (iadd .i64 a3 z2)))] ?_))))))))))))
  obtain ⟨r5,hg,h⟩:=ob h
  refine so 8 (oC 26 hs (kpke_Noise.ok hg _ (rR 0 hs) (rR 1 hs) (rR 2 hs) (rR 3 hs)) fun w gw hs=>?_)
  obtain ⟨h0,h1,h⟩:=oc2 h
  have i0_17:=h0
  have i1_17:=h1
  refine tkf 9 27 (PA CZ s1_A z2) (yiL (C:=CZ) 97 70 .i64 z2 (rL 0 hs) h0 h1) (so 10 (oL (C:=CZ) 70 z2 r5 hs 0 rfl i0_17 i1_17 fun w hs=>(fin (j16 _ _ (iN (T s13 (xn 2 fun _ j18=>(nq 0 [(28,I8 (iadd .i64 z2 1)),(15,I8 (iadd .i64 z2 1))] (fin (j18 _ _ ?_))))))))))
  exact tn (kl0 _ _ ⟨n,ls n,(iadd .i64 z2 1),(wrL z3 z2 r5),h,(hs.conv rfl),eg⟩)
  refine tb 0 16 (df hc) (fj j11 s10 (xs fun _ s19=>(cf (xexit (tx (tx (iH ?_)))))))
  obtain rfl:=of_some h
  exact exq_n (nn0 _ _ ⟨(hs.conv rfl),eg⟩)
 clear hs h hy
 rintro a w ⟨hs,g9,rfl⟩
 have h:=hk0
 refine T s5 (xs fun _ s20=>(xn 2 fun _ j21=>(nq 0 [(29,.slice s1_A s1_n s1_c),(8,.slice s1_A s1_n s1_c)] (fj j21 s20 (xret ?_)))))
 obtain rfl:=of_some h
 exact qq _ _ (pt [8] [.slice s1_A s1_n s1_c] ⟨⟨s1_A,s1_n,s1_c⟩,cr,(pz hs)⟩)
theorem math_bits_Reverse8.ok {K:Nat}{a0 r0:Int}(h:math_bits_Reverse8.f K a0=some r0) (w0:World):Ret Tryz.prog 111 #[U1 a0] w0 (U1 r0):=by
 refine calls_k Tryz.func111 rfl fun Q qq=>?_
 have hs:=St.start w0
 refine wc (a':=(fu 4 [U1 a0])) (xs fun _ s1=>(xn 1 fun _ j2=>(qo 0 2 (U1 0) (fj j2 s1 (xs fun _ s3=>(xn 3 fun _ j4=>?_))))))
 refine qo 0 3 (U1 a0) ?_
 obtain ⟨h0,h1,h⟩:=oc2 h
 refine tkf 1 4 (U1 (strAt [0,128,64,192,32,160,96,224,16,144,80,208,48,176,112,240,8,136,72,200,40,168,104,232,24,152,88,216,56,184,120,248,4,132,68,196,36,164,100,228,20,148,84,212,52,180,116,244,12,140,76,204,44,172,108,236,28,156,92,220,60,188,124,252,2,130,66,194,34,162,98,226,18,146,82,210,50,178,114,242,10,138,74,202,42,170,106,234,26,154,90,218,58,186,122,250,6,134,70,198,38,166,102,230,22,150,86,214,54,182,118,246,14,142,78,206,46,174,110,238,30,158,94,222,62,190,126,254,1,129,65,193,33,161,97,225,17,145,81,209,49,177,113,241,9,137,73,201,41,169,105,233,25,153,89,217,57,185,121,249,5,133,69,197,37,165,101,229,21,149,85,213,53,181,117,245,13,141,77,205,45,173,109,237,29,157,93,221,61,189,125,253,3,131,67,195,35,163,99,227,19,147,83,211,51,179,115,243,11,139,75,203,43,171,107,235,27,155,91,219,59,187,123,251,7,135,71,199,39,167,103,231,23,151,87,215,55,183,119,247,15,143,79,207,47,175,111,239,31,159,95,223,63,191,127,255] a0)) (yld_str (t:=9) (k':=.u8) (by kernel_rfl) (by kernel_rfl) h0 h1) ?_
 obtain ⟨x1,hx,h⟩:=ob h
 refine tkf 2 2 (U1 x1) (yn hx) (fj j4 s3 (xret ?_))
 obtain rfl:=of_some h
 exact qq _ _ (pt [2] [U1 x1] ⟨cr,hs.none⟩)
theorem kq_roots.ok {K:Nat}{r0:Arr 128}(h:kq_roots.f K=some r0) (w0:World):Calls Tryz.prog 95 #[] w0 fun e w'=>∃ b,e = .returned (P0 b)∧St w0 [] [.blk b (enc .i32 r0) 138] [] w':=by
 refine calls_k Tryz.func95 rfl fun Q qq=>?_
 have hs:=St.start w0
 refine wc (a':=(fu 30 [])) (xs fun _ s1=>(xn 1 fun _ j2=>(qo 0 0 (.pointer none) (fj j2 s1 (xs fun _ s3=>(xn 2 fun _ j4=>?_))))))
 refine so 0 (oNe 1 138 .i32 (zeroA 128) hs fun b1 w gw hs=>?_)
 refine so 1 (oNe 2 138 .i32 (zeroA 128) hs fun b2 w gw hs=>?_)
 refine fj j4 s3 (xs fun _ s5=>(xn 2 fun _ j6=>(tkf 0 5 (P1 b1 0) (yi 138 21 128 1 .i64 0 (by decide) (by decide)) (so 1 (oA 21 1 0 hs 1 rfl (by kernel_rfl) (by decide) (by decide) fun w kp hs=>(fj j6 s5 (xs fun _ s8=>(xs fun _ s9=>(xn 1 fun _ j10=>(qo 0 3 (I8 1) ?_))))))))))
 refine fj j10 s9 (?_)
 obtain ⟨y5,hy,hk0⟩:=ob h
 refine wp_exq (N:=fun a w=>St w0 [] [.blk b2 (enc .i32 (zeroA 128)) 138,.blk b1 (enc .i32 y5) 138] [] w∧∃ g12,a=fr g12 30 [(0,[.pointer none,P0 b1,P0 b2])]) (fun N0 nn0=>?_) ?_
 clear hk0
 refine xb ?_
 refine wp_loop_k (fun n a w=>∃ z3 z4,kq_roots.l0 K n z3 z4=some y5∧St w0 [] [.blk b2 (enc .i32 (zeroA 128)) 138,.blk b1 (enc .i32 z4) 138] [] w∧∃ g11,a=fr g11 30 [(0,[.pointer none,P0 b1,P0 b2,I8 z3])]) K ⟨1,(wr (zeroA 128) 0 1),hy,hs.conv rfl,eg⟩ ?_
 clear hs h hy
 rintro n a w ⟨z3,z4,h,hs,g11,rfl⟩ KL0 kl0
 cases n with
 | zero=>exact nomatch (show none=some _ from h)
 | succ n=>
  refine xs fun _ s13=>(xs fun _ s14=>(xn 2 fun _ j15=>(qo 0 6 (I8 z3) ?_)))
  obtain ⟨hc,h⟩|⟨hc,h⟩:=of_if h
  refine tb 1 7 (dt hc) ?_
  refine fj j15 s14 (ct (xk (T s13 (xs fun _ s16=>(xb (xn 9 fun _ j17=>(nq 0 [(10,I8 z3),(11,I8 z3),(12,I8 (isub .i64 z3 1))] ?_)))))))
  obtain ⟨x6,hx,h⟩:=ob h
  have hx:=of_some hx
  subst hx
  obtain ⟨i0_18,i1_18,h⟩:=oc2 h
  refine tkf 3 13 (P1 b1 (isub .i64 z3 1)) (yi 138 21 128 1 .i64 (isub .i64 z3 1) i0_18 i1_18) (tkt 4 14 _ (yA hs 1 21 (isub .i64 z3 1) rfl i0_18 i1_18 .grow) (nq 5 [(15,I4 (imul .i32 (rd z4 (isub .i64 z3 1)) 17)),(16,I4 (irem .i32 (imul .i32 (rd z4 (isub .i64 z3 1)) 17) 3329))] ?_))
  obtain ⟨i0_19,i1_19,h⟩:=oc2 h
  refine tkf 7 17 (P1 b1 z3) (yi 138 21 128 1 .i64 z3 i0_19 i1_19) ?_
  obtain ⟨x7,hx,h⟩:=ob h
  refine so 8 (oA 21 x7 z3 hs 1 rfl (by cases hx; kernel_rfl) i0_19 i1_19 fun w kp hs=>?_)
  refine fin (j17 _ _ (iN (T s16 (xn 3 fun _ j20=>(nq 0 [(8,I8 z3),(9,I8 (iadd .i64 z3 1))] ?_)))))
  obtain ⟨x8,hx,h⟩:=ob h
  refine tkf 2 3 (I8 x8) (yn hx) (fin (j20 _ _ ?_))
  exact tn (kl0 _ _ ⟨n,ls n,x8,(wr z4 z3 x7),h,(hs.conv rfl),eg⟩)
  refine tb 1 7 (df hc) (fj j15 s14 (cf (xexit (tx (tx (iH ?_))))))
  obtain rfl:=of_some h
  exact exq_n (nn0 _ _ ⟨(hs.conv rfl),eg⟩)
 clear hs h hy
 rintro a w ⟨hs,g12,rfl⟩
 have h:=hk0
 refine T s8 (xs fun _ s21=>(xs fun _ s22=>(xn 1 fun _ j23=>(qo 0 18 (I8 0) (fj j23 s22 (?_))))))
 obtain ⟨y11,hy,hk1⟩:=ob h
 refine wp_exq (N:=fun a w=>St w0 [] [.blk b2 (enc .i32 y11) 138,.blk b1 (enc .i32 y5) 138] [] w∧∃ g25,a=fr g25 30 [(0,[.pointer none]),(2,[P0 b2])]) (fun N1 nn1=>?_) ?_
 clear hk1
 refine xb ?_
 refine wp_loop_k (fun n a w=>∃ z9 z10,kq_roots.l1 K n y5 z9 z10=some y11∧St w0 [] [.blk b2 (enc .i32 z10) 138,.blk b1 (enc .i32 y5) 138] [] w∧∃ g24,a=fr g24 30 [(0,[.pointer none,P0 b1,P0 b2]),(18,[I8 z9])]) K ⟨0,(zeroA 128),hy,hs.conv rfl,eg⟩ ?_
 clear hs h hy
 rintro n a w ⟨z9,z10,h,hs,g24,rfl⟩ KL1 kl1
 cases n with
 | zero=>exact nomatch (show none=some _ from h)
 | succ n=>
  refine xs fun _ s26=>(xn 1 fun _ j27=>?_)
  obtain ⟨hc,h⟩|⟨hc,h⟩:=of_if h
  refine tb 0 19 (dt hc) ?_
  refine fj j27 s26 (xs fun _ s28=>(ct (xk (T s28 (xs fun _ s29=>(xb (xs fun _ s30=>(xn 2 fun _ j31=>(nq 0 [(20,I8 z9),(4,I8 z9)] (fj j31 s30 (xn 9 fun _ j32=>(nq 0 [(21,I8 z9),(22,I8 z9),(23,U1 (iconv .u8 z9))] ?_))))))))))))
  obtain ⟨r12,hg,h⟩:=ob h
  refine so 3 (oC 24 hs (math_bits_Reverse8.ok hg _) fun w gw hs=>?_)
  refine qo 4 25 (U1 (ishr .u8 r12 1)) ?_
  obtain ⟨x13,hx,h⟩:=ob h
  have hx:=of_some hx
  subst hx
  obtain ⟨i0_33,i1_33,h⟩:=oc2 h
  refine tkf 5 26 (P1 b1 (ishr .u8 r12 1)) (yi 138 21 128 1 .u8 (ishr .u8 r12 1) i0_33 i1_33) (tkt 6 27 _ (yA hs 1 21 (ishr .u8 r12 1) rfl i0_33 i1_33 .grow) ?_)
  obtain ⟨i0_34,i1_34,h⟩:=oc2 h
  refine tkf 7 28 (P1 b2 z9) (yi 138 21 128 1 .i64 z9 i0_34 i1_34) ?_
  obtain ⟨x14,hx,h⟩:=ob h
  refine so 8 (oA 21 x14 z9 hs 0 rfl (by cases hx; kernel_rfl) i0_34 i1_34 fun w kp hs=>?_)
  refine fin (j32 _ _ (iN (T s29 (xn 2 fun _ j35=>(nq 0 [(29,I8 (iadd .i64 z9 1)),(18,I8 (iadd .i64 z9 1))] (fin (j35 _ _ ?_)))))))
  exact tn (kl1 _ _ ⟨n,ls n,(iadd .i64 z9 1),(wr z10 z9 x14),h,(hs.conv rfl),eg⟩)
  refine tb 0 19 (df hc) (fj j27 s26 (xs fun _ s36=>(cf (xexit (tx (tx (iH ?_)))))))
  obtain rfl:=of_some h
  exact exq_n (nn1 _ _ ⟨(hs.conv rfl),eg⟩)
 clear hs h hy
 rintro a w ⟨hs,g25,rfl⟩
 have h:=hk1
 refine T s21 (xs fun _ s37=>(xn 1 fun _ j38=>(qo 0 0 (P0 b2) (fj j38 s37 (xret ?_)))))
 obtain rfl:=of_some h
 exact qq _ _ (pt [0] [P0 b2] ⟨_,cr,(dr [1,0] hs)⟩)
theorem kq_Ntt.ok {K:Nat}{a0 r0:Arr 256}(h:kq_Ntt.f K a0=some r0) (w0:World):Ret Tryz.prog 92 #[ag .i32 a0] w0 (ag .i32 r0):=by
 refine calls_k Tryz.func92 rfl fun Q qq=>?_
 have hs:=St.start w0
 refine wc (a':=(fu 61 [ag .i32 a0])) (xs fun _ s1=>(xn 2 fun _ j2=>(so 0 (oBe 1 70 .i32 a0 hs fun b1 w gw hs=>(so 1 (oNe 2 70 .i32 (zeroA 256) hs fun b2 w gw hs=>?_))))))
 refine fj j2 s1 (xs fun _ s3=>(xn 2 fun _ j4=>?_))
 obtain ⟨r3,hg,h⟩:=ob h
 refine so 0 (oCB 9 hs (kq_roots.ok hg _) fun b4 w gw hs=>?_)
 refine qo 1 3 (P0 b4) (fj j4 s3 (xs fun _ s5=>(xn 1 fun _ j6=>(qo 0 4 (I8 0) (fj j6 s5 (xs fun _ s7=>(xs fun _ s8=>(xn 1 fun _ j9=>(qo 0 5 (I8 128) ?_)))))))))
 refine fj j9 s8 (?_)
 obtain ⟨y8,hy,hk0⟩:=ob h
 refine wp_exq (N:=fun a w=>St w0 [] [.blk b4 (enc .i32 r3) 138,.blk b2 (enc .i32 (zeroA 256)) 70,.blk b1 (enc .i32 y8) 70] [] w∧∃ g11,a=fr g11 62 [(1,[P0 b1,P0 b2])]) (fun N0 nn0=>?_) ?_
 clear hk0
 refine xb ?_
 refine wp_loop_k (fun n a w=>∃ z5 z6 z7,kq_Ntt.l0 K n r3 z5 z6 z7=some y8∧St w0 [] [.blk b4 (enc .i32 r3) 138,.blk b2 (enc .i32 (zeroA 256)) 70,.blk b1 (enc .i32 z7) 70] [] w∧∃ g10,a=fr g10 62 [(1,[P0 b1,P0 b2,P0 b4,I8 z5,I8 z6])]) K ⟨0,128,a0,hy,hs.conv rfl,eg⟩ ?_
 clear hs h hy
 rintro n a w ⟨z5,z6,z7,h,hs,g10,rfl⟩ KL0 kl0
 cases n with
 | zero=>exact nomatch (show none=some _ from h)
 | succ n=>
  refine xs fun _ s12=>(xs fun _ s13=>(xn 2 fun _ j14=>(qo 0 10 (I8 z6) ?_)))
  obtain ⟨hc,h⟩|⟨hc,h⟩:=of_if h
  refine tb 1 11 (dt hc) ?_
  refine fj j14 s13 (ct (xk (T s12 (xs fun _ s15=>(xb (xs fun _ s16=>(xn 1 fun _ j17=>(qo 0 6 (I8 0) (fj j17 s16 (?_))))))))))
  obtain ⟨⟨y12,y13⟩,hy,hk1⟩:=ob h
  refine wp_exq (N:=fun a w=>St w0 [] [.blk b4 (enc .i32 r3) 138,.blk b2 (enc .i32 (zeroA 256)) 70,.blk b1 (enc .i32 y13) 70] [] w∧∃ g19,a=fr g19 62 [(1,[P0 b1,P0 b2,P0 b4,I8 y12,I8 z6])]) (fun N1 nn1=>?_) ?_
  clear hk1
  refine xb ?_
  refine wp_loop_k (fun n a w=>∃ z9 z10 z11,kq_Ntt.l1 K n r3 z6 z9 z10 z11=some (y12,y13)∧St w0 [] [.blk b4 (enc .i32 r3) 138,.blk b2 (enc .i32 (zeroA 256)) 70,.blk b1 (enc .i32 z11) 70] [] w∧∃ g18,a=fr g18 62 [(1,[P0 b1,P0 b2,P0 b4,I8 z9,I8 z6,I8 z10])]) K ⟨z5,0,z7,hy,hs.conv rfl,eg⟩ ?_
  clear hs h hy
  rintro n a w ⟨z9,z10,z11,h,hs,g18,rfl⟩ KL1 kl1
  cases n with
  | zero=>exact nomatch (show none=some _ from h)
  | succ n=>
   refine xs fun _ s20=>(xs fun _ s21=>(xn 2 fun _ j22=>(qo 0 14 (I8 z10) ?_)))
   obtain ⟨hc,h⟩|⟨hc,h⟩:=of_if h
   refine tb 1 15 (dt hc) ?_
   refine fj j22 s21 (ct (xk (T s20 (xs fun _ s23=>(xb (xs fun _ s24=>(xn 3 fun _ j25=>(nq 0 [(20,I8 z9),(21,I8 (iadd .i64 z9 1))] ?_))))))))
   obtain ⟨x14,hx,h⟩:=ob h
   refine tkf 2 4 (I8 x14) (yn hx) (fj j25 s24 (xs fun _ s26=>(xn 2 fun _ j27=>(nq 0 [(22,I8 z10),(7,I8 z10)] (fj j27 s26 (?_))))))
   obtain ⟨y17,hy,hk2⟩:=ob h
   refine wp_exq (N:=fun a w=>St w0 [] [.blk b4 (enc .i32 r3) 138,.blk b2 (enc .i32 (zeroA 256)) 70,.blk b1 (enc .i32 y17) 70] [] w∧∃ g29,a=fr g29 62 [(1,[P0 b1,P0 b2,P0 b4,I8 x14,I8 z6,I8 z10])]) (fun N2 nn2=>?_) ?_
   clear hk2
   refine xb ?_
   refine wp_loop_k (fun n a w=>∃ z15 z16,kq_Ntt.l2 K n r3 z6 z10 x14 z15 z16=some y17∧St w0 [] [.blk b4 (enc .i32 r3) 138,.blk b2 (enc .i32 (zeroA 256)) 70,.blk b1 (enc .i32 z16) 70] [] w∧∃ g28,a=fr g28 62 [(1,[P0 b1,P0 b2,P0 b4,I8 x14,I8 z6,I8 z10,I8 z15])]) K ⟨z10,z11,hy,hs.conv rfl,eg⟩ ?_
   clear hs h hy
   rintro n a w ⟨z15,z16,h,hs,g28,rfl⟩ KL2 kl2
   cases n with
   | zero=>exact nomatch (show none=some _ from h)
   | succ n=>
    refine xs fun _ s30=>(xs fun _ s31=>(xn 5 fun _ j32=>(nq 0 [(23,I8 z15),(24,I8 z10),(25,I8 z6),(26,I8 (iadd .i64 z10 z6))] ?_)))
    obtain ⟨hc,h⟩|⟨hc,h⟩:=of_if h
    refine tb 4 27 (dt hc) ?_
    refine fj j32 s31 (ct (xk (T s30 (xs fun _ s33=>(xb (xs fun _ s34=>?_))))))
    refine rg [] (fun k=>True) 13 fun _ j35=>?_
    have hs:=hs.drawn1
    refine gq 0 30 (P0 b4) (gq 1 31 (I8 x14) (gq 2 32 (P0 b4) ?_))
    obtain ⟨i0_36,i1_36,h⟩:=oc2 h
    refine tgf 3 33 (P1 b4 x14) (yi 138 21 128 1 .i64 x14 i0_36 i1_36) (tgt 4 34 _ (yA hs 0 21 x14 rfl i0_36 i1_36 .grow) (gq 5 35 (I8 z15) (gq 6 36 (I8 z6) (gq 7 37 (I8 (iadd .i64 z15 z6)) ?_))))
    obtain ⟨x18,hx,h⟩:=ob h
    have hx:=of_some hx
    subst hx
    obtain ⟨i0_37,i1_37,h⟩:=oc2 h
    refine tgf 8 38 (P1 b1 (iadd .i64 z15 z6)) (yi 70 21 256 1 .i64 (iadd .i64 z15 z6) i0_37 i1_37) (tgt 9 39 _ (yA hs 2 21 (iadd .i64 z15 z6) rfl i0_37 i1_37 .grow) (gq 10 40 (I4 (imul .i32 (rd r3 x14) (rd z16 (iadd .i64 z15 z6)))) (gq 11 41 (I4 (irem .i32 (imul .i32 (rd r3 x14) (rd z16 (iadd .i64 z15 z6))) 3329)) ?_)))
    obtain ⟨x19,hx,h⟩:=ob h
    refine tgf 12 8 (I4 x19) (yn hx) (gf (j35 _ _ (T s34 (?_))))
    refine rg [18,20] (fun k=>True) 21 fun _ j38=>?_
    have hs:=hs.drawn1
    refine gq 0 42 (I8 z15) (gq 1 43 (I8 z6) (gq 2 44 (I8 (iadd .i64 z15 z6)) (gq 3 45 (I8 z15) (gq 4 46 (I8 z15) ?_))))
    obtain ⟨i0_39,i1_39,h⟩:=oc2 h
    refine tgf 5 47 (P1 b1 z15) (yi 70 21 256 1 .i64 z15 i0_39 i1_39) (tgt 6 48 _ (yA hs 2 21 z15 rfl i0_39 i1_39 .grow) (gq 7 49 (I4 x19) (gq 8 50 (I4 (isub .i32 (rd z16 z15) x19)) (gq 9 51 (I4 (iadd .i32 (isub .i32 (rd z16 z15) x19) 3329)) ?_))))
    refine gq 10 52 (I4 (irem .i32 (iadd .i32 (isub .i32 (rd z16 z15) x19) 3329) 3329)) (gq 11 53 (I8 z15) ?_)
    obtain ⟨i0_40,i1_40,h⟩:=oc2 h
    refine tgf 12 54 (P1 b1 z15) (yi 70 21 256 1 .i64 z15 i0_40 i1_40) (tgt 13 55 _ (yA hs 2 21 z15 rfl i0_40 i1_40 .grow) (gq 14 56 (I4 x19) (gq 15 57 (I4 (iadd .i32 (rd z16 z15) x19)) (gq 16 58 (I4 (irem .i32 (iadd .i32 (rd z16 z15) x19) 3329)) ?_))))
    obtain ⟨x20,hx,h⟩:=ob h
    have hx:=of_some hx
    subst hx
    obtain ⟨i0_41,i1_41,h⟩:=oc2 h
    refine tgf 17 59 (P1 b1 (iadd .i64 z15 z6)) (yi 70 21 256 1 .i64 (iadd .i64 z15 z6) i0_41 i1_41) ?_
    obtain ⟨x21,hx,h⟩:=ob h
    refine go 18 (oA 21 x21 (iadd .i64 z15 z6) hs 2 rfl (by cases hx; kernel_rfl) i0_41 i1_41 fun w kp hs=>⟨⟨fun hf=>absurd hf (by decide),.all _ _⟩,?_⟩)
    obtain ⟨i0_42,i1_42,h⟩:=oc2 h
    refine tgf 19 60 (P1 b1 z15) (yi 70 21 256 1 .i64 z15 i0_42 i1_42) ?_
    obtain ⟨x22,hx,h⟩:=ob h
    refine go 20 (oA 21 x22 z15 hs 2 rfl (by cases hx; kernel_rfl) i0_42 i1_42 fun w kp hs=>⟨⟨fun hf=>absurd hf (by decide),.all _ _⟩,?_⟩)
    refine gf (j38 _ _ ?_)
    refine iN (T s33 (xn 3 fun _ j43=>?_))
    refine nq 0 [(28,I8 z15),(29,I8 (iadd .i64 z15 1))] ?_
    obtain ⟨x23,hx,h⟩:=ob h
    refine tkf 2 7 (I8 x23) (yn hx) (fin (j43 _ _ ?_))
    exact tn (kl2 _ _ ⟨n,ls n,x23,(wr (wr z16 (iadd .i64 z15 z6) x21) z15 x22),h,(hs.conv rfl),eg⟩)
    refine tb 4 27 (df hc) (fj j32 s31 (cf (xexit (tx (tx (iH ?_))))))
    obtain rfl:=of_some h
    exact exq_n (nn2 _ _ ⟨(hs.conv rfl),eg⟩)
   clear hs h hy
   rintro a w ⟨hs,g29,rfl⟩
   have h:=hk2
   refine iN (T s23 (xn 5 fun _ j44=>?_))
   refine nq 0 [(16,I8 z10),(17,I8 z6),(18,I8 (imul .i64 2 z6)),(19,I8 (iadd .i64 z10 (imul .i64 2 z6)))] ?_
   obtain ⟨x24,hx,h⟩:=ob h
   refine tkf 4 6 (I8 x24) (yn hx) (fin (j44 _ _ ?_))
   exact tn (kl1 _ _ ⟨n,ls n,x14,x24,y17,h,(hs.conv rfl),eg⟩)
   refine tb 1 15 (df hc) (fj j22 s21 (cf (xexit (tx (tx (iH ?_))))))
   obtain ⟨rfl,rfl⟩:=os2 h
   exact exq_n (nn1 _ _ ⟨(hs.conv rfl),eg⟩)
  clear hs h hy
  rintro a w ⟨hs,g19,rfl⟩
  have h:=hk1
  refine iN (T s15 (xn 3 fun _ j45=>?_))
  refine nq 0 [(12,I8 z6),(13,I8 (iquo .i64 z6 2))] ?_
  obtain ⟨x25,hx,h⟩:=ob h
  refine tkf 2 5 (I8 x25) (yn hx) (fin (j45 _ _ ?_))
  exact tn (kl0 _ _ ⟨n,ls n,y12,x25,y13,h,(hs.conv rfl),eg⟩)
  refine tb 1 11 (df hc) (fj j14 s13 (cf (xexit (tx (tx (iH ?_))))))
  obtain rfl:=of_some h
  exact exq_n (nn0 _ _ ⟨(hs.conv rfl),eg⟩)
 clear hs h hy
 rintro a w ⟨hs,g11,rfl⟩
 have h:=hk0
 refine T s7 (xs fun _ s46=>(xn 2 fun _ j47=>(tkt 0 61 _ (yWe 70 hs 2 .grow) (so 1 (oWe 70 .i32 y8 hs 1 fun w kp hs=>(fj j47 s46 (xret ?_)))))))
 obtain rfl:=of_some h
 exact qq _ _ (pr (rr [.cell 2 70] [ag .i32 y8] (.cons (rcN 256 hs 1 rfl (enc_len _ _)) .nil)) ⟨cr,hs.none⟩)
theorem kpke_vector_parts.ok {K:Nat}{a0 r0:List (Arr 256)}{a0_A:Option Addr}{a0_n a0_c:Nat}(h:kpke_vector_parts.f K a0=some r0) (w0:World) (hp0:RowL CZ w0 a0_A a0_n a0_c a0):Calls Tryz.prog 62 #[.slice a0_A a0_n a0_c] w0 fun e w'=>∃ h:(Option Addr × Nat × Nat),e = .returned (.slice h.1 h.2.1 h.2.2)∧St w0 [] [.ownL CZ h.1 h.2.1 h.2.2 r0 70] [] w':=by
 refine calls_k Tryz.func62 rfl fun Q qq=>?_
 have hs:=St.startR (all_cons (RowP.ent hp0) all_nil)
 refine wc (a':=(fu 22 [.slice a0_A a0_n a0_c])) (xs fun _ s1=>(xn 1 fun _ j2=>(qo 0 2 (.slice none 0 0) (fj j2 s1 (xs fun _ s3=>(xn 4 fun _ j4=>?_))))))
 refine qo 0 6 (.slice a0_A a0_n a0_c) (tkf 1 7 (I8 (a0.length:Int)) (yl (rR 0 hs)) ?_)
 obtain ⟨h0,h1,h⟩:=oc2 h
 refine so 2 (oMk (C:=CZ) 8 97 70 1024 137438953472 .i64 .i64 (a0.length:Int) hs h0 h1 (by decide) (by decide) fun s1_A s1_n s1_c w gw hs=>?_)
 refine qo 3 3 (.slice s1_A s1_n s1_c) (fj j4 s3 (xs fun _ s5=>(xs fun _ s6=>(xn 3 fun _ j7=>(qo 0 9 (.slice a0_A a0_n a0_c) (tkf 1 10 (I8 (a0.length:Int)) (yl (rR 0 hs)) (qo 2 11 (I8 0) ?_)))))))
 refine fj j7 s6 (?_)
 obtain ⟨y4,hy,hk0⟩:=ob h
 refine wp_exq (N:=fun a w=>St w0 [] [.ownL CZ s1_A s1_n s1_c y4 70] [.rowL CZ a0_A a0_n a0_c a0] w∧∃ g9,a=fr g9 23 [(2,[.slice none 0 0,.slice s1_A s1_n s1_c])]) (fun N0 nn0=>?_) ?_
 clear hk0
 refine xb ?_
 refine wp_loop_k (fun n a w=>∃ z2 z3,kpke_vector_parts.l0 K n a0 z2 z3=some y4∧St w0 [] [.ownL CZ s1_A s1_n s1_c z3 70] [.rowL CZ a0_A a0_n a0_c a0] w∧∃ g8,a=fr g8 23 [(2,[.slice none 0 0,.slice s1_A s1_n s1_c]),(9,[.slice a0_A a0_n a0_c,I8 (a0.length:Int),I8 z2])]) K ⟨0,(List.replicate ((a0.length:Int):Int).toNat (Cod.zero CZ)),hy,hs.conv rfl,eg⟩ ?_
 clear hs h hy
 rintro n a w ⟨z2,z3,h,hs,g8,rfl⟩ KL0 kl0
 cases n with
 | zero=>exact nomatch (show none=some _ from h)
 | succ n=>
  refine xs fun _ s10=>(xn 1 fun _ j11=>?_)
  obtain ⟨hc,h⟩|⟨hc,h⟩:=of_if h
  refine tb 0 12 (dt hc) ?_
  refine fj j11 s10 (xs fun _ s12=>(ct (xk (T s12 (xs fun _ s13=>(xb (xs fun _ s14=>(xn 6 fun _ j15=>(qo 0 13 (I8 z2) ?_)))))))))
  obtain ⟨h0,h1,h⟩:=oc2 h
  have i0_16:=h0
  have i1_16:=h1
  refine tkf 1 14 (PA CZ a0_A z2) (yiL (C:=CZ) 97 70 .i64 z2 (rR 0 hs) h0 h1) (tkt 2 15 _ (yLA (C:=CZ) 70 z2 (rR 0 hs) rfl i0_16 i1_16) (so 3 (oNe 5 70 .i32 (zeroA 256) hs fun b5 w gw hs=>(qo 4 4 (I8 z2) (so 5 (oWe 70 .i32 (rdL CZ a0 z2) hs 0 fun w kp hs=>?_))))))
  refine fj j15 s14 (xn 6 fun _ j17=>(nq 0 [(16,.slice s1_A s1_n s1_c),(17,I8 z2)] (tkt 2 18 _ (yWe 70 hs 0 .grow) ?_)))
  obtain ⟨r6,hg,h⟩:=ob h
  refine so 3 (oC 19 hs (kq_Ntt.ok hg _) fun w gw hs=>?_)
  obtain ⟨h0,h1,h⟩:=oc2 h
  have i0_18:=h0
  have i1_18:=h1
  refine tkf 4 20 (PA CZ s1_A z2) (yiL (C:=CZ) 97 70 .i64 z2 (rL 1 hs) h0 h1) (so 5 (oL (C:=CZ) 70 z2 r6 hs 1 rfl i0_18 i1_18 fun w hs=>(fin (j17 _ _ (iN (T s13 (xn 2 fun _ j19=>(nq 0 [(21,I8 (iadd .i64 z2 1)),(11,I8 (iadd .i64 z2 1))] (fin (j19 _ _ ?_))))))))))
  exact tn (kl0 _ _ ⟨n,ls n,(iadd .i64 z2 1),(wrL z3 z2 r6),h,(dr [0,1] hs),eg⟩)
  refine tb 0 12 (df hc) (fj j11 s10 (xs fun _ s20=>(cf (xexit (tx (tx (iH ?_)))))))
  obtain rfl:=of_some h
  exact exq_n (nn0 _ _ ⟨(hs.conv rfl),eg⟩)
 clear hs h hy
 rintro a w ⟨hs,g9,rfl⟩
 have h:=hk0
 refine T s5 (xs fun _ s21=>(xn 2 fun _ j22=>(nq 0 [(22,.slice s1_A s1_n s1_c),(2,.slice s1_A s1_n s1_c)] (fj j22 s21 (xret ?_)))))
 obtain rfl:=of_some h
 exact qq _ _ (pt [2] [.slice s1_A s1_n s1_c] ⟨⟨s1_A,s1_n,s1_c⟩,cr,(pz hs)⟩)
theorem kq_Add.ok {K:Nat}{a0 a1 r0:Arr 256}(h:kq_Add.f K a0 a1=some r0) (w0:World):Ret Tryz.prog 64 #[ag .i32 a0,ag .i32 a1] w0 (ag .i32 r0):=by
 refine calls_k Tryz.func64 rfl fun Q qq=>?_
 have hs:=St.start w0
 refine wc (a':=(fu 26 [ag .i32 a0,ag .i32 a1])) (xs fun _ s1=>(xn 3 fun _ j2=>(so 0 (oBe 2 70 .i32 a0 hs fun b1 w gw hs=>(so 1 (oBe 3 70 .i32 a1 hs fun b2 w gw hs=>?_))))))
 refine so 2 (oNe 4 70 .i32 (zeroA 256) hs fun b3 w gw hs=>?_)
 refine fj j2 s1 (xs fun _ s3=>(xs fun _ s4=>(xn 1 fun _ j5=>(qo 0 6 (I8 0) (fj j5 s4 (?_))))))
 obtain ⟨y6,hy,hk0⟩:=ob h
 refine wp_exq (N:=fun a w=>St w0 [] [.blk b3 (enc .i32 (zeroA 256)) 70,.blk b2 (enc .i32 a1) 70,.blk b1 (enc .i32 y6) 70] [] w∧∃ g7,a=fr g7 28 [(2,[P0 b1]),(4,[P0 b3])]) (fun N0 nn0=>?_) ?_
 clear hk0
 refine xb ?_
 refine wp_loop_k (fun n a w=>∃ z4 z5,kq_Add.l0 K n a1 z4 z5=some y6∧St w0 [] [.blk b3 (enc .i32 (zeroA 256)) 70,.blk b2 (enc .i32 a1) 70,.blk b1 (enc .i32 z5) 70] [] w∧∃ g6,a=fr g6 28 [(2,[P0 b1,P0 b2,P0 b3]),(6,[I8 z4])]) K ⟨0,a0,hy,hs.conv rfl,eg⟩ ?_
 clear hs h hy
 rintro n a w ⟨z4,z5,h,hs,g6,rfl⟩ KL0 kl0
 cases n with
 | zero=>exact nomatch (show none=some _ from h)
 | succ n=>
  refine xs fun _ s8=>(xn 1 fun _ j9=>?_)
  obtain ⟨hc,h⟩|⟨hc,h⟩:=of_if h
  refine tb 0 7 (dt hc) ?_
  refine fj j9 s8 (xs fun _ s10=>(ct (xk (T s10 (?_)))))
  obtain ⟨y7,hj,h⟩:=ob h
  refine xs fun _ s12=>wp_join (N:=fun a w=>St w0 [] [.blk b3 (enc .i32 (zeroA 256)) 70,.blk b2 (enc .i32 a1) 70,.blk b1 (enc .i32 y7) 70] [] w∧∃ g11,a=fr g11 28 [(2,[P0 b1,P0 b2,P0 b3]),(6,[I8 z4])]) (fun N nj=>?_) ?_
  clear h
  have h:=hj
  refine xb (xs fun _ s13=>(xn 2 fun _ j14=>(nq 0 [(8,I8 z4),(5,I8 z4)] (fj j14 s13 (xs fun _ s15=>?_)))))
  refine rg [8] (fun k=>True) 9 fun _ j16=>?_
  have hs:=hs.drawn1
  refine gq 0 9 (I8 z4) ?_
  obtain ⟨i0_17,i1_17,h⟩:=oc2 h
  refine tgf 1 10 (P1 b1 z4) (yi 70 21 256 1 .i64 z4 i0_17 i1_17) (tgt 2 11 _ (yA hs 2 21 z4 rfl i0_17 i1_17 .grow) (gq 3 12 (I8 z4) ?_))
  obtain ⟨i0_18,i1_18,h⟩:=oc2 h
  refine tgf 4 13 (P1 b2 z4) (yi 70 21 256 1 .i64 z4 i0_18 i1_18) (tgt 5 14 _ (yA hs 1 21 z4 rfl i0_18 i1_18 .grow) (gq 6 15 (I4 (iadd .i32 (rd z5 z4) (rd a1 z4))) ?_))
  obtain ⟨i0_19,i1_19,h⟩:=oc2 h
  refine tgf 7 16 (P1 b1 z4) (yi 70 21 256 1 .i64 z4 i0_19 i1_19) ?_
  obtain ⟨x8,hx,h⟩:=ob h
  refine go 8 (oA 21 x8 z4 hs 2 rfl (by cases hx; kernel_rfl) i0_19 i1_19 fun w kp hs=>⟨⟨fun hf=>absurd hf (by decide),.all _ _⟩,?_⟩)
  refine gf (j16 _ _ (T s15 (xs fun _ s20=>(xn 4 fun _ j21=>(qo 0 17 (I8 z4) ?_)))))
  obtain ⟨i0_22,i1_22,h⟩:=oc2 h
  refine tkf 1 18 (P1 b1 z4) (yi 70 21 256 1 .i64 z4 i0_22 i1_22) (tkt 2 19 _ (yA hs 2 21 z4 rfl i0_22 i1_22 .grow) ?_)
  obtain ⟨hc,h⟩|⟨hc,h⟩:=of_if h
  refine tb 3 20 (dt hc) ?_
  refine fj j21 s20 (ct (xn 6 fun _ j23=>(qo 0 21 (I8 z4) ?_)))
  obtain ⟨i0_24,i1_24,h⟩:=oc2 h
  refine tkf 1 22 (P1 b1 z4) (yi 70 21 256 1 .i64 z4 i0_24 i1_24) (tkt 2 23 _ (yA hs 2 21 z4 rfl i0_24 i1_24 .grow) (qo 3 24 (I4 (isub .i32 (rd (wr z5 z4 x8) z4) 3329)) ?_))
  obtain ⟨i0_25,i1_25,h⟩:=oc2 h
  refine tkf 4 25 (P1 b1 z4) (yi 70 21 256 1 .i64 z4 i0_25 i1_25) ?_
  obtain ⟨x9,hx,h⟩:=ob h
  refine so 5 (oA 21 x9 z4 hs 2 rfl (by cases hx; kernel_rfl) i0_25 i1_25 fun w kp hs=>?_)
  refine fin (j23 _ _ (iN ?_))
  obtain rfl:=of_some h
  exact nj _ _ ⟨(hs.conv rfl),eg⟩
  refine tb 3 20 (df hc) (fj j21 s20 (cf (xk (iN ?_))))
  obtain rfl:=of_some h
  exact nj _ _ ⟨(hs.conv rfl),eg⟩
  clear hj hs
  rintro a w ⟨hs,g11,rfl⟩
  refine T s12 (xn 2 fun _ j26=>(nq 0 [(26,I8 (iadd .i64 z4 1)),(6,I8 (iadd .i64 z4 1))] (fin (j26 _ _ ?_))))
  exact tn (kl0 _ _ ⟨n,ls n,(iadd .i64 z4 1),y7,h,(hs.conv rfl),eg⟩)
  refine tb 0 7 (df hc) (fj j9 s8 (xs fun _ s27=>(cf (xexit (tx (tx (iH ?_)))))))
  obtain rfl:=of_some h
  exact exq_n (nn0 _ _ ⟨(hs.conv rfl),eg⟩)
 clear hs h hy
 rintro a w ⟨hs,g7,rfl⟩
 have h:=hk0
 refine T s3 (xs fun _ s28=>(xn 2 fun _ j29=>(tkt 0 27 _ (yWe 70 hs 2 .grow) (so 1 (oWe 70 .i32 y6 hs 0 fun w kp hs=>(fj j29 s28 (xret ?_)))))))
 obtain rfl:=of_some h
 exact qq _ _ (pr (rr [.cell 4 70] [ag .i32 y6] (.cons (rcN 256 hs 0 rfl (enc_len _ _)) .nil)) ⟨cr,hs.none⟩)
theorem kq_pair_times.ok {K:Nat}{a0_0 a0_1 a1_0 a1_1 a2 r0_0 r0_1:Int}(h:kq_pair_times.f K a0_0 a0_1 a1_0 a1_1 a2=some (r0_0,r0_1)) (w0:World):Ret Tryz.prog 110 #[.agg #[I4 a0_0,I4 a0_1],.agg #[I4 a1_0,I4 a1_1],I4 a2] w0 (.agg #[I4 r0_0,I4 r0_1]):=by
 refine calls_k Tryz.func110 rfl fun Q qq=>?_
 have hs:=St.start w0
 refine wc (a':=(fu 32 [.agg #[I4 a0_0,I4 a0_1],.agg #[I4 a1_0,I4 a1_1],I4 a2])) (xs fun _ s1=>(xn 3 fun _ j2=>(so 0 (oBa 3 135 hs [I4 a0_0,I4 a0_1] fun b1 w gw hs=>(so 1 (oBa 4 135 hs [I4 a1_0,I4 a1_1] fun b2 w gw hs=>?_))))))
 refine so 2 (oNa 6 135 hs [I4 0,I4 0] fun b3 w gw hs=>?_)
 refine fj j2 s1 (xs fun _ s3=>(xn 29 fun _ j4=>(qo 0 7 (P0 b1) (tkt 1 8 _ (yv hs 2 0 21 rfl (by rfl) .grow) (qo 2 9 (P0 b2) (tkt 3 10 _ (yv hs 1 0 21 rfl (by rfl) .grow) ?_))))))
 refine nq 4 [(11,I4 (imul .i32 a0_0 a1_0)),(12,.pointer (some ⟨b1,1,none⟩))] (tkt 6 13 _ (yv hs 2 1 21 rfl (by rfl) .grow) (qo 7 14 (.pointer (some ⟨b2,1,none⟩)) (tkt 8 15 _ (yv hs 1 1 21 rfl (by rfl) .grow) (nq 9 [(16,I4 (imul .i32 a0_1 a1_1)),(17,I4 (irem .i32 (imul .i32 a0_1 a1_1) 3329)),(18,I4 a2),(19,I4 (imul .i32 (irem .i32 (imul .i32 a0_1 a1_1) 3329) a2)),(20,I4 (iadd .i32 (imul .i32 a0_0 a1_0) (imul .i32 (irem .i32 (imul .i32 a0_1 a1_1) 3329) a2))),(21,I4 (irem .i32 (iadd .i32 (imul .i32 a0_0 a1_0) (imul .i32 (irem .i32 (imul .i32 a0_1 a1_1) 3329) a2)) 3329)),(22,P0 b1)] ?_))))
 refine tkt 16 23 _ (yv hs 2 0 21 rfl (by rfl) .grow) (qo 17 24 (.pointer (some ⟨b2,1,none⟩)) (tkt 18 25 _ (yv hs 1 1 21 rfl (by rfl) .grow) (nq 19 [(26,I4 (imul .i32 a0_0 a1_1)),(27,.pointer (some ⟨b1,1,none⟩))] (tkt 21 28 _ (yv hs 2 1 21 rfl (by rfl) .grow) ?_))))
 refine qo 22 29 (P0 b2) (tkt 23 30 _ (yv hs 1 0 21 rfl (by rfl) .grow) (nq 24 [(31,I4 (imul .i32 a0_1 a1_0)),(32,I4 (iadd .i32 (imul .i32 a0_0 a1_1) (imul .i32 a0_1 a1_0))),(33,I4 (irem .i32 (iadd .i32 (imul .i32 a0_0 a1_1) (imul .i32 a0_1 a1_0)) 3329)),(34,.agg #[I4 (irem .i32 (iadd .i32 (imul .i32 a0_0 a1_0) (imul .i32 (irem .i32 (imul .i32 a0_1 a1_1) 3329) a2)) 3329),I4 (irem .i32 (iadd .i32 (imul .i32 a0_0 a1_1) (imul .i32 a0_1 a1_0)) 3329)])] (so 28 (oWa 135 [I4 (irem .i32 (iadd .i32 (imul .i32 a0_0 a1_0) (imul .i32 (irem .i32 (imul .i32 a0_1 a1_1) 3329) a2)) 3329),I4 (irem .i32 (iadd .i32 (imul .i32 a0_0 a1_1) (imul .i32 a0_1 a1_0)) 3329)] hs 0 fun w kp hs=>(fj j4 s3 (xret ?_))))))
 obtain ⟨rfl,rfl⟩:=os2 h
 exact qq _ _ (pr (rr [.cell 6 135] [.agg #[I4 (irem .i32 (iadd .i32 (imul .i32 a0_0 a1_0) (imul .i32 (irem .i32 (imul .i32 a0_1 a1_1) 3329) a2)) 3329),I4 (irem .i32 (iadd .i32 (imul .i32 a0_0 a1_1) (imul .i32 a0_1 a1_0)) 3329)]] (.cons (rcN 2 hs 0 rfl (by simp [enc_len])) .nil)) ⟨cr,hs.none⟩)
end Go.Proofs.YtemdbgmldljbpaaGreatDoor

/- own -/
set_option linter.unusedVariables false
set_option linter.unusedSimpArgs false
set_option maxRecDepth 100000
set_option maxHeartbeats 4000000
namespace Go.Proofs.YtemdbgmldljbpaaGreatDoor
open Go.Mx
attribute [local irreducible] wpOp
theorem kq_Mul.ok {K:Nat}{a0 a1 r0:Arr 256}(h:kq_Mul.f K a0 a1=some r0) (w0:World):Ret Tryz.prog 93 #[ag .i32 a0,ag .i32 a1] w0 (ag .i32 r0):=by
 refine calls_k Tryz.func93 rfl fun Q qq=>?_
 have hs:=St.start w0
 refine wc (a':=(fu 80 [ag .i32 a0,ag .i32 a1])) (xs fun _ s1=>(xn 3 fun _ j2=>(so 0 (oBe 2 70 .i32 a0 hs fun b1 w gw hs=>(so 1 (oBe 3 70 .i32 a1 hs fun b2 w gw hs=>?_))))))
 refine so 2 (oNe 4 70 .i32 (zeroA 256) hs fun b3 w gw hs=>?_)
 refine fj j2 s1 (xs fun _ s3=>(xn 2 fun _ j4=>?_))
 obtain ⟨r4,hg,h⟩:=ob h
 refine so 0 (oCB 11 hs (kq_roots.ok hg _) fun b5 w gw hs=>?_)
 refine qo 1 5 (P0 b5) (fj j4 s3 (xs fun _ s5=>(xn 1 fun _ j6=>(so 0 (oNe 6 70 .i32 (zeroA 256) hs fun b6 w gw hs=>(fj j6 s5 (xs fun _ s7=>(xs fun _ s8=>(xn 1 fun _ j9=>(qo 0 7 (I8 0) ?_))))))))))
 refine fj j9 s8 (?_)
 obtain ⟨y9,hy,hk0⟩:=ob h
 refine wp_exq (N:=fun a w=>St w0 [] [.blk b6 (enc .i32 y9) 70,.blk b5 (enc .i32 r4) 138,.blk b3 (enc .i32 (zeroA 256)) 70,.blk b2 (enc .i32 a1) 70,.blk b1 (enc .i32 a0) 70] [] w∧∃ g11,a=fr g11 82 [(4,[P0 b3]),(6,[P0 b6])]) (fun N0 nn0=>?_) ?_
 clear hk0
 refine xb ?_
 refine wp_loop_k (fun n a w=>∃ z7 z8,kq_Mul.l0 K n a0 a1 r4 z7 z8=some y9∧St w0 [] [.blk b6 (enc .i32 z8) 70,.blk b5 (enc .i32 r4) 138,.blk b3 (enc .i32 (zeroA 256)) 70,.blk b2 (enc .i32 a1) 70,.blk b1 (enc .i32 a0) 70] [] w∧∃ g10,a=fr g10 82 [(2,[P0 b1,P0 b2,P0 b3,P0 b5,P0 b6,I8 z7])]) K ⟨0,(zeroA 256),hy,hs.conv rfl,eg⟩ ?_
 clear hs h hy
 rintro n a w ⟨z7,z8,h,hs,g10,rfl⟩ KL0 kl0
 cases n with
 | zero=>exact nomatch (show none=some _ from h)
 | succ n=>
  refine xs fun _ s12=>(xs fun _ s13=>(xn 2 fun _ j14=>(qo 0 12 (I8 z7) ?_)))
  obtain ⟨hc,h⟩|⟨hc,h⟩:=of_if h
  refine tb 1 13 (dt hc) ?_
  refine fj j14 s13 (ct (xk (T s12 (xs fun _ s15=>(xb (xs fun _ s16=>(xn 8 fun _ j17=>(nq 0 [(16,P0 b5),(17,I8 z7),(18,I8 (iquo .i64 z7 4)),(19,I8 (iadd .i64 64 (iquo .i64 z7 4))),(20,P0 b5)] ?_))))))))
  obtain ⟨x10,hx,h⟩:=ob h
  have hx:=of_some hx
  subst hx
  obtain ⟨i0_18,i1_18,h⟩:=oc2 h
  refine tkf 5 21 (.pointer (some ⟨b5,0+((iadd .i64 64 (iquo .i64 z7 4)):Int).toNat*1,none⟩)) (yi 138 21 128 1 .i64 (iadd .i64 64 (iquo .i64 z7 4)) i0_18 i1_18) (tkt 6 22 _ (yA hs 1 21 (iadd .i64 64 (iquo .i64 z7 4)) rfl i0_18 i1_18 .grow) ?_)
  obtain ⟨x11,hx,h⟩:=ob h
  refine tkf 7 8 (I4 x11) (yn hx) (fj j17 s16 (xs fun _ s19=>?_))
  obtain ⟨⟨y13_0,y13_1⟩,hj,h⟩:=ob h
  refine wp_join (N:=fun a w=>∃ b12,St w0 [] [.blk b12 ([I4 y13_0,I4 y13_1]) 135,.blk b6 (enc .i32 z8) 70,.blk b5 (enc .i32 r4) 138,.blk b3 (enc .i32 (zeroA 256)) 70,.blk b2 (enc .i32 a1) 70,.blk b1 (enc .i32 a0) 70] [] w∧∃ g20,a=fr g20 82 [(2,[P0 b1,P0 b2,P0 b3,P0 b5,P0 b6,I8 z7,I4 x11,P0 b12])]) (fun N nj=>?_) ?_
  clear h
  have h:=hj
  refine rg [19] (fun k=>True) 20 fun _ j21=>?_
  have hs:=hs.drawn1
  refine gq 0 23 (I8 z7) ?_
  obtain ⟨i0_22,i1_22,h⟩:=oc2 h
  refine tgf 1 24 (P1 b1 z7) (yi 70 21 256 1 .i64 z7 i0_22 i1_22) (tgt 2 25 _ (yA hs 4 21 z7 rfl i0_22 i1_22 .grow) (gq 3 26 (I8 z7) (gq 4 27 (I8 (iadd .i64 z7 1)) ?_)))
  obtain ⟨x14,hx,h⟩:=ob h
  have hx:=of_some hx
  subst hx
  obtain ⟨i0_23,i1_23,h⟩:=oc2 h
  refine tgf 5 28 (P1 b1 (iadd .i64 z7 1)) (yi 70 21 256 1 .i64 (iadd .i64 z7 1) i0_23 i1_23) (tgt 6 29 _ (yA hs 4 21 (iadd .i64 z7 1) rfl i0_23 i1_23 .grow) (gq 7 30 (.agg #[I4 (rd a0 z7),I4 (rd a0 (iadd .i64 z7 1))]) (gq 8 31 (I8 z7) ?_)))
  obtain ⟨i0_24,i1_24,h⟩:=oc2 h
  refine tgf 9 32 (P1 b2 z7) (yi 70 21 256 1 .i64 z7 i0_24 i1_24) (tgt 10 33 _ (yA hs 3 21 z7 rfl i0_24 i1_24 .grow) (gq 11 34 (I8 z7) (gq 12 35 (I8 (iadd .i64 z7 1)) ?_)))
  obtain ⟨x15,hx,h⟩:=ob h
  have hx:=of_some hx
  subst hx
  obtain ⟨i0_25,i1_25,h⟩:=oc2 h
  refine tgf 13 36 (P1 b2 (iadd .i64 z7 1)) (yi 70 21 256 1 .i64 (iadd .i64 z7 1) i0_25 i1_25) (tgt 14 37 _ (yA hs 3 21 (iadd .i64 z7 1) rfl i0_25 i1_25 .grow) (gq 15 38 (.agg #[I4 (rd a1 z7),I4 (rd a1 (iadd .i64 z7 1))]) (gq 16 39 (I4 x11) ?_)))
  refine wpG.many [17,18] (by kernel_rfl) (by decide) (forall_cons ?_ (forall_cons ?_ forall_nil))
  obtain ⟨⟨r16_0,r16_1⟩,hg,h⟩:=ob h
  refine (oC 40 hs (kq_pair_times.ok hg _) ?_)
  intro w gw hs
  refine ⟨.of gw,?_⟩
  refine go 18 (oNa 9 135 hs [I4 0,I4 0] fun b17 w gw hs=>⟨.of gw,?_⟩)
  refine go 19 (oWa 135 [I4 r16_0,I4 r16_1] hs 0 fun w kp hs=>⟨⟨fun hf=>absurd hf (by decide),.all _ _⟩,?_⟩)
  refine gf (j21 _ _ ?_)
  obtain ⟨rfl,rfl⟩:=os2 h
  exact nj _ _ ⟨b17,(hs.conv rfl),eg⟩
  refine (oN 9 135 hs ([I4 0,I4 0]) (.agg #[I4 0,I4 0]) ?_)
  intro b18 w gw hs
  refine ⟨.of gw,?_⟩
  obtain ⟨⟨r19_0,r19_1⟩,hg,h⟩:=ob h
  refine go 17 (oC 40 hs (kq_pair_times.ok hg _) fun w gw hs=>⟨.of gw,?_⟩)
  refine go 19 (oWa 135 [I4 r19_0,I4 r19_1] hs 0 fun w kp hs=>⟨⟨fun hf=>absurd hf (by decide),.all _ _⟩,?_⟩)
  refine gf (j21 _ _ ?_)
  obtain ⟨rfl,rfl⟩:=os2 h
  exact nj _ _ ⟨b18,(hs.conv rfl),eg⟩
  clear hj hs
  rintro a w ⟨b12,hs,g20,rfl⟩
  refine T s19 (xs fun _ s26=>?_)
  obtain ⟨⟨y21_0,y21_1⟩,hj,h⟩:=ob h
  refine wp_join (N:=fun a w=>∃ b20,St w0 [] [.blk b20 ([I4 y21_0,I4 y21_1]) 135,.blk b12 ([I4 y13_0,I4 y13_1]) 135,.blk b6 (enc .i32 z8) 70,.blk b5 (enc .i32 r4) 138,.blk b3 (enc .i32 (zeroA 256)) 70,.blk b2 (enc .i32 a1) 70,.blk b1 (enc .i32 a0) 70] [] w∧∃ g27,a=fr g27 82 [(2,[P0 b1,P0 b2,P0 b3,P0 b5,P0 b6,I8 z7]),(9,[P0 b12,P0 b20])]) (fun N nj=>?_) ?_
  clear h
  have h:=hj
  refine rg [22] (fun k=>True) 23 fun _ j28=>?_
  have hs:=hs.drawn1
  refine gq 0 41 (I8 z7) (gq 1 42 (I8 (iadd .i64 z7 2)) ?_)
  obtain ⟨x22,hx,h⟩:=ob h
  have hx:=of_some hx
  subst hx
  obtain ⟨i0_29,i1_29,h⟩:=oc2 h
  refine tgf 2 43 (P1 b1 (iadd .i64 z7 2)) (yi 70 21 256 1 .i64 (iadd .i64 z7 2) i0_29 i1_29) (tgt 3 44 _ (yA hs 5 21 (iadd .i64 z7 2) rfl i0_29 i1_29 .grow) (gq 4 45 (I8 z7) (gq 5 46 (I8 (iadd .i64 z7 3)) ?_)))
  obtain ⟨x23,hx,h⟩:=ob h
  have hx:=of_some hx
  subst hx
  obtain ⟨i0_30,i1_30,h⟩:=oc2 h
  refine tgf 6 47 (P1 b1 (iadd .i64 z7 3)) (yi 70 21 256 1 .i64 (iadd .i64 z7 3) i0_30 i1_30) (tgt 7 48 _ (yA hs 5 21 (iadd .i64 z7 3) rfl i0_30 i1_30 .grow) (gq 8 49 (.agg #[I4 (rd a0 (iadd .i64 z7 2)),I4 (rd a0 (iadd .i64 z7 3))]) (gq 9 50 (I8 z7) (gq 10 51 (I8 (iadd .i64 z7 2)) ?_))))
  obtain ⟨x24,hx,h⟩:=ob h
  have hx:=of_some hx
  subst hx
  obtain ⟨i0_31,i1_31,h⟩:=oc2 h
  refine tgf 11 52 (P1 b2 (iadd .i64 z7 2)) (yi 70 21 256 1 .i64 (iadd .i64 z7 2) i0_31 i1_31) (tgt 12 53 _ (yA hs 4 21 (iadd .i64 z7 2) rfl i0_31 i1_31 .grow) (gq 13 54 (I8 z7) (gq 14 55 (I8 (iadd .i64 z7 3)) ?_)))
  obtain ⟨x25,hx,h⟩:=ob h
  have hx:=of_some hx
  subst hx
  obtain ⟨i0_32,i1_32,h⟩:=oc2 h
  refine tgf 15 56 (P1 b2 (iadd .i64 z7 3)) (yi 70 21 256 1 .i64 (iadd .i64 z7 3) i0_32 i1_32) (tgt 16 57 _ (yA hs 4 21 (iadd .i64 z7 3) rfl i0_32 i1_32 .grow) (gq 17 58 (.agg #[I4 (rd a1 (iadd .i64 z7 2)),I4 (rd a1 (iadd .i64 z7 3))]) (gq 18 59 (I4 x11) (gq 19 60 (I4 (isub .i32 3329 x11)) ?_))))
  refine wpG.many [20,21] (by kernel_rfl) (by decide) (forall_cons ?_ (forall_cons ?_ forall_nil))
  obtain ⟨⟨r26_0,r26_1⟩,hg,h⟩:=ob h
  refine (oC 61 hs (kq_pair_times.ok hg _) ?_)
  intro w gw hs
  refine ⟨.of gw,?_⟩
  refine go 21 (oNa 10 135 hs [I4 0,I4 0] fun b27 w gw hs=>⟨.of gw,?_⟩)
  refine go 22 (oWa 135 [I4 r26_0,I4 r26_1] hs 0 fun w kp hs=>⟨⟨fun hf=>absurd hf (by decide),.all _ _⟩,?_⟩)
  refine gf (j28 _ _ ?_)
  obtain ⟨rfl,rfl⟩:=os2 h
  exact nj _ _ ⟨b27,(hs.conv rfl),eg⟩
  refine (oN 10 135 hs ([I4 0,I4 0]) (.agg #[I4 0,I4 0]) ?_)
  intro b28 w gw hs
  refine ⟨.of gw,?_⟩
  obtain ⟨⟨r29_0,r29_1⟩,hg,h⟩:=ob h
  refine go 20 (oC 61 hs (kq_pair_times.ok hg _) fun w gw hs=>⟨.of gw,?_⟩)
  refine go 22 (oWa 135 [I4 r29_0,I4 r29_1] hs 0 fun w kp hs=>⟨⟨fun hf=>absurd hf (by decide),.all _ _⟩,?_⟩)
  refine gf (j28 _ _ ?_)
  obtain ⟨rfl,rfl⟩:=os2 h
  exact nj _ _ ⟨b28,(hs.conv rfl),eg⟩
  clear hj hs
  rintro a w ⟨b20,hs,g27,rfl⟩
  refine T s26 (?_)
  refine rg [16,18,20,22] (fun k=>¬ (k=b20∨k=b12)) 23 fun _ j33=>?_
  have hs:=hs.drawn1
  refine gq 0 62 (I8 z7) (gq 1 63 (I8 z7) (gq 2 64 (I8 (iadd .i64 z7 1)) (gq 3 65 (I8 z7) (gq 4 66 (I8 (iadd .i64 z7 2)) ?_))))
  refine gq 5 67 (I8 z7) (gq 6 68 (I8 (iadd .i64 z7 3)) (gq 7 69 (P0 b12) (tgt 8 70 _ (yv hs 1 0 21 rfl (by rfl) .grow) (gq 9 71 (.pointer (some ⟨b12,1,none⟩)) ?_))))
  refine wpG.takeK [10,17,18,19,20,21,22] 10 (some 72) (I4 y13_1) (by kernel_rfl) (by kernel_rfl) (yv hs 1 1 21 rfl (by rfl) (.keep (fun hn=>hn (.inr rfl)))) ?_
  refine gq 11 73 (P0 b20) ?_
  refine wpG.takeK [12,19,20,21,22] 12 (some 74) (I4 y21_0) (by kernel_rfl) (by kernel_rfl) (yv hs 0 0 21 rfl (by rfl) (.keep (fun hn=>hn (.inl rfl)))) ?_
  refine gq 13 75 (.pointer (some ⟨b20,1,none⟩)) ?_
  refine wpG.takeK [14,21,22] 14 (some 76) (I4 y21_1) (by kernel_rfl) (by kernel_rfl) (yv hs 0 1 21 rfl (by rfl) (.keep (fun hn=>hn (.inl rfl)))) ?_
  obtain ⟨i0_34,i1_34,h⟩:=oc2 h
  refine tgf 15 77 (P1 b6 z7) (yi 70 21 256 1 .i64 z7 i0_34 i1_34) ?_
  have hsB42:=hs
  refine go 16 (oA 21 y13_0 z7 hs 2 rfl (by kernel_rfl) i0_34 i1_34 fun w kp hs=>⟨⟨fun hf=>absurd hf (by decide),(keepB2 (hsB42.blkAt 0 rfl) (hs.blkAt 0 rfl) (keepB1 (hsB42.blkAt 1 rfl) (hs.blkAt 1 rfl)))⟩,?_⟩)
  obtain ⟨x30,hx,h⟩:=ob h
  have hx:=of_some hx
  subst hx
  obtain ⟨i0_35,i1_35,h⟩:=oc2 h
  refine tgf 17 78 (P1 b6 (iadd .i64 z7 1)) (yi 70 21 256 1 .i64 (iadd .i64 z7 1) i0_35 i1_35) ?_
  have hsB41:=hs
  refine go 18 (oA 21 y13_1 (iadd .i64 z7 1) hs 2 rfl (by kernel_rfl) i0_35 i1_35 fun w kp hs=>⟨⟨fun hf=>absurd hf (by decide),(keepB2 (hsB41.blkAt 0 rfl) (hs.blkAt 0 rfl) (keepB1 (hsB41.blkAt 1 rfl) (hs.blkAt 1 rfl)))⟩,?_⟩)
  obtain ⟨x31,hx,h⟩:=ob h
  have hx:=of_some hx
  subst hx
  obtain ⟨i0_36,i1_36,h⟩:=oc2 h
  refine tgf 19 79 (P1 b6 (iadd .i64 z7 2)) (yi 70 21 256 1 .i64 (iadd .i64 z7 2) i0_36 i1_36) ?_
  have hsB40:=hs
  refine go 20 (oA 21 y21_0 (iadd .i64 z7 2) hs 2 rfl (by kernel_rfl) i0_36 i1_36 fun w kp hs=>⟨⟨fun hf=>absurd hf (by decide),(keepB2 (hsB40.blkAt 0 rfl) (hs.blkAt 0 rfl) (keepB1 (hsB40.blkAt 1 rfl) (hs.blkAt 1 rfl)))⟩,?_⟩)
  obtain ⟨x32,hx,h⟩:=ob h
  have hx:=of_some hx
  subst hx
  obtain ⟨i0_37,i1_37,h⟩:=oc2 h
  refine tgf 21 80 (P1 b6 (iadd .i64 z7 3)) (yi 70 21 256 1 .i64 (iadd .i64 z7 3) i0_37 i1_37) ?_
  have hsB39:=hs
  refine go 22 (oA 21 y21_1 (iadd .i64 z7 3) hs 2 rfl (by kernel_rfl) i0_37 i1_37 fun w kp hs=>⟨⟨fun hf=>absurd hf (by decide),(keepB2 (hsB39.blkAt 0 rfl) (hs.blkAt 0 rfl) (keepB1 (hsB39.blkAt 1 rfl) (hs.blkAt 1 rfl)))⟩,?_⟩)
  refine gf (j33 _ _ ?_)
  refine iN (T s15 (xn 3 fun _ j38=>?_))
  refine nq 0 [(14,I8 z7),(15,I8 (iadd .i64 z7 4))] ?_
  obtain ⟨x33,hx,h⟩:=ob h
  refine tkf 2 7 (I8 x33) (yn hx) (fin (j38 _ _ ?_))
  exact tn (kl0 _ _ ⟨n,ls n,x33,(wr (wr (wr (wr z8 z7 y13_0) (iadd .i64 z7 1) y13_1) (iadd .i64 z7 2) y21_0) (iadd .i64 z7 3) y21_1),h,(dr [0,0,1,1,1,1,1] hs),eg⟩)
  refine tb 1 13 (df hc) (fj j14 s13 (cf (xexit (tx (tx (iH ?_))))))
  obtain rfl:=of_some h
  exact exq_n (nn0 _ _ ⟨(hs.conv rfl),eg⟩)
 clear hs h hy
 rintro a w ⟨hs,g11,rfl⟩
 have h:=hk0
 refine T s7 (xs fun _ s43=>(xn 2 fun _ j44=>(tkt 0 81 _ (yWe 70 hs 0 .grow) (so 1 (oWe 70 .i32 y9 hs 2 fun w kp hs=>(fj j44 s43 (xret ?_)))))))
 obtain rfl:=of_some h
 exact qq _ _ (pr (rr [.cell 4 70] [ag .i32 y9] (.cons (rcN 256 hs 2 rfl (enc_len _ _)) .nil)) ⟨cr,hs.none⟩)
theorem kpke_vector_dot.ok {K:Nat}{a0 a1:List (Arr 256)}{r0:Arr 256}{a0_A:Option Addr}{a0_n a0_c:Nat}{a1_A:Option Addr}{a1_n a1_c:Nat}(h:kpke_vector_dot.f K a0 a1=some r0) (w0:World) (hp0:RowL CZ w0 a0_A a0_n a0_c a0) (hp1:RowL CZ w0 a1_A a1_n a1_c a1):Ret Tryz.prog 63 #[.slice a0_A a0_n a0_c,.slice a1_A a1_n a1_c] w0 (ag .i32 r0):=by
 refine calls_k Tryz.func63 rfl fun Q qq=>?_
 have hs:=St.startR (all_cons (RowP.ent hp0) (all_cons (RowP.ent hp1) all_nil))
 refine wc (a':=(fu 23 [.slice a0_A a0_n a0_c,.slice a1_A a1_n a1_c])) (xs fun _ s1=>(xn 1 fun _ j2=>(so 0 (oNe 4 70 .i32 (zeroA 256) hs fun b1 w gw hs=>(fj j2 s1 (xs fun _ s3=>(xn 1 fun _ j4=>?_)))))))
 refine so 0 (oNe 5 70 .i32 (zeroA 256) hs fun b2 w gw hs=>?_)
 refine fj j4 s3 (xs fun _ s5=>(xs fun _ s6=>(xn 3 fun _ j7=>(qo 0 8 (.slice a0_A a0_n a0_c) (tkf 1 9 (I8 (a0.length:Int)) (yl (rR 0 hs)) (qo 2 10 (I8 0) (fj j7 s6 (?_))))))))
 obtain ⟨y5,hy,hk0⟩:=ob h
 refine wp_exq (N:=fun a w=>St w0 [] [.blk b2 (enc .i32 y5) 70,.blk b1 (enc .i32 (zeroA 256)) 70] [.rowL CZ a0_A a0_n a0_c a0,.rowL CZ a1_A a1_n a1_c a1] w∧∃ g9,a=fr g9 25 [(4,[P0 b1,P0 b2])]) (fun N0 nn0=>?_) ?_
 clear hk0
 refine xb ?_
 refine wp_loop_k (fun n a w=>∃ z3 z4,kpke_vector_dot.l0 K n a0 a1 z3 z4=some y5∧St w0 [] [.blk b2 (enc .i32 z4) 70,.blk b1 (enc .i32 (zeroA 256)) 70] [.rowL CZ a0_A a0_n a0_c a0,.rowL CZ a1_A a1_n a1_c a1] w∧∃ g8,a=fr g8 25 [(1,[.slice a1_A a1_n a1_c]),(4,[P0 b1,P0 b2]),(8,[.slice a0_A a0_n a0_c,I8 (a0.length:Int),I8 z3])]) K ⟨0,(zeroA 256),hy,hs.conv rfl,eg⟩ ?_
 clear hs h hy
 rintro n a w ⟨z3,z4,h,hs,g8,rfl⟩ KL0 kl0
 cases n with
 | zero=>exact nomatch (show none=some _ from h)
 | succ n=>
  refine xs fun _ s10=>(xn 1 fun _ j11=>?_)
  obtain ⟨hc,h⟩|⟨hc,h⟩:=of_if h
  refine tb 0 11 (dt hc) ?_
  refine fj j11 s10 (xs fun _ s12=>(ct (xk (T s12 (xs fun _ s13=>(xb (xs fun _ s14=>(xn 6 fun _ j15=>(qo 0 12 (I8 z3) ?_)))))))))
  obtain ⟨h0,h1,h⟩:=oc2 h
  have i0_16:=h0
  have i1_16:=h1
  refine tkf 1 13 (PA CZ a0_A z3) (yiL (C:=CZ) 97 70 .i64 z3 (rR 0 hs) h0 h1) (tkt 2 14 _ (yLA (C:=CZ) 70 z3 (rR 0 hs) rfl i0_16 i1_16) (so 3 (oNe 7 70 .i32 (zeroA 256) hs fun b6 w gw hs=>(qo 4 6 (I8 z3) (so 5 (oWe 70 .i32 (rdL CZ a0 z3) hs 0 fun w kp hs=>?_))))))
  refine fj j15 s14 (?_)
  refine rg [8] (fun k=>True) 9 fun _ j17=>?_
  have hs:=hs.drawn1
  refine tgt 0 15 _ (yWe 70 hs 1 .grow) (tgt 1 16 _ (yWe 70 hs 0 .grow) (gq 2 17 (.slice a1_A a1_n a1_c) (gq 3 18 (I8 z3) ?_)))
  obtain ⟨h0,h1,h⟩:=oc2 h
  have i0_18:=h0
  have i1_18:=h1
  refine tgf 4 19 (PA CZ a1_A z3) (yiL (C:=CZ) 97 70 .i64 z3 (rR 1 hs) h0 h1) (tgt 5 20 _ (yLA (C:=CZ) 70 z3 (rR 1 hs) rfl i0_18 i1_18) ?_)
  obtain ⟨r7,hg,h⟩:=ob h
  refine go 6 (oC 21 hs (kq_Mul.ok hg _) fun w gw hs=>⟨.of gw,?_⟩)
  obtain ⟨r8,hg,h⟩:=ob h
  refine go 7 (oC 22 hs (kq_Add.ok hg _) fun w gw hs=>⟨.of gw,?_⟩)
  refine go 8 (oWe 70 .i32 r8 hs 1 fun w kp hs=>⟨⟨fun hf=>absurd hf (by decide),.all _ _⟩,?_⟩)
  refine gf (j17 _ _ ?_)
  refine iN (T s13 (xn 2 fun _ j19=>?_))
  refine nq 0 [(23,I8 (iadd .i64 z3 1)),(10,I8 (iadd .i64 z3 1))] (fin (j19 _ _ ?_))
  exact tn (kl0 _ _ ⟨n,ls n,(iadd .i64 z3 1),r8,h,(dr [0,1,1] hs),eg⟩)
  refine tb 0 11 (df hc) (fj j11 s10 (xs fun _ s20=>(cf (xexit (tx (tx (iH ?_)))))))
  obtain rfl:=of_some h
  exact exq_n (nn0 _ _ ⟨(hs.conv rfl),eg⟩)
 clear hs h hy
 rintro a w ⟨hs,g9,rfl⟩
 have h:=hk0
 refine T s5 (xs fun _ s21=>(xn 2 fun _ j22=>(tkt 0 24 _ (yWe 70 hs 0 .grow) (so 1 (oWe 70 .i32 y5 hs 1 fun w kp hs=>(fj j22 s21 (xret ?_)))))))
 obtain rfl:=of_some h
 exact qq _ _ (pr (rr [.cell 4 70] [ag .i32 y5] (.cons (rcN 256 hs 1 rfl (enc_len _ _)) .nil)) ⟨cr,hs.none⟩)
theorem kq_below.ok {K:Nat}{a0:Arr 256}{a1:Int}{r0:Bool}(h:kq_below.f K a0 a1=some r0) (w0:World):Ret Tryz.prog 97 #[ag .i32 a0,I4 a1] w0 (.bool r0):=by
 refine calls_k Tryz.func97 rfl fun Q qq=>?_
 have hs:=St.start w0
 refine wc (a':=(fu 17 [ag .i32 a0,I4 a1])) (xs fun _ s1=>(xn 2 fun _ j2=>(so 0 (oBe 2 70 .i32 a0 hs fun b1 w gw hs=>(qo 1 4 (.bool false) ?_)))))
 refine fj j2 s1 (xs fun _ s3=>(xs fun _ s4=>(xn 2 fun _ j5=>(tkt 0 7 _ (yWe 70 hs 0 .grow) (qo 1 8 (I8 0) (fj j5 s4 (?_)))))))
 obtain ⟨t0,hy,hk0⟩:=ob h
 refine wp_exq (N:=fun a w=>t0 = .inl ()∧St w0 [] [.blk b1 (enc .i32 a0) 70] [] w∧∃ g7,a=fr g7 19 []) (fun N0 nn0=>?_) ?_
 refine xb ?_
 refine wp_loop_k (fun n a w=>∃ z2,kq_below.l0 K n a0 a1 z2=some t0∧St w0 [] [.blk b1 (enc .i32 a0) 70] [] w∧∃ g6,a=fr g6 19 [(1,[I4 a1]),(7,[ag .i32 a0,I8 z2])]) K ⟨0,hy,hs.conv rfl,eg⟩ ?_
 clear hs h hy
 rintro n a w ⟨z2,h,hs,g6,rfl⟩ KL0 kl0
 cases n with
 | zero=>exact nomatch (show none=some _ from h)
 | succ n=>
  refine xs fun _ s8=>(xn 1 fun _ j9=>?_)
  obtain ⟨hc,h⟩|⟨hc,h⟩:=of_if h
  refine tb 0 9 (dt hc) ?_
  refine fj j9 s8 (xs fun _ s10=>(ct (xk (T s10 (xs fun _ s11=>(xb (xs fun _ s12=>(xn 2 fun _ j13=>?_))))))))
  obtain ⟨h0,h1,h⟩:=oc2 h
  refine tkf 0 10 (I4 (rd a0 z2)) (yt 70 21 .i64 h0 h1) ?_
  obtain ⟨x3,hx,h⟩:=ob h
  refine tkf 1 6 (I4 x3) (yn hx) (fj j13 s12 (xs fun _ s14=>(xn 7 fun _ j15=>(qo 0 11 (I4 x3) ?_))))
  obtain ⟨hc,h⟩|⟨hc,h⟩:=of_if h
  refine tb 1 12 (dt hc) ?_
  refine nq 2 [(13,.bool true),(14,undef),(15,undef),(16,undef),(17,.bool true)] (fj j15 s14 (ct (xs fun _ s16=>(xn 1 fun _ j17=>(qo 0 4 (.bool false) (fj j17 s16 (xret (iR (tr (tr (iR (exq_r (tr ?_)))))))))))))
  obtain rfl:=of_some h
  have q0:=of_some hk0
  subst q0
  exact qq _ _ (pt [4] [.bool false] ⟨cr,hs.none⟩)
  refine tb 1 12 (df hc) (nq 2 [(13,.bool false),(14,I4 x3),(15,I4 a1)] ?_)
  obtain ⟨hc,h⟩|⟨hc,h⟩:=of_if h
  refine tb 5 16 (dt hc) ?_
  refine qo 6 17 (.bool true) (fj j15 s14 (ct (xs fun _ s18=>(xn 1 fun _ j19=>(qo 0 4 (.bool false) (fj j19 s18 (xret (iR (tr (tr (iR (exq_r (tr ?_)))))))))))))
  obtain rfl:=of_some h
  have q0:=of_some hk0
  subst q0
  exact qq _ _ (pt [4] [.bool false] ⟨cr,hs.none⟩)
  refine tb 5 16 (df hc) (qo 6 17 (.bool false) (fj j15 s14 (cf (xk (iN (T s11 (xn 2 fun _ j20=>(nq 0 [(18,I8 (iadd .i64 z2 1)),(8,I8 (iadd .i64 z2 1))] (fin (j20 _ _ ?_))))))))))
  exact tn (kl0 _ _ ⟨n,ls n,(iadd .i64 z2 1),h,(hs.conv rfl),eg⟩)
  refine tb 0 9 (df hc) (fj j9 s8 (xs fun _ s21=>(cf (xexit (tx (tx (iH ?_)))))))
  obtain rfl:=of_some h
  exact exq_n (nn0 _ _ ⟨rfl,(hs.conv rfl),eg⟩)
 clear hs h hy
 rintro a w ⟨rfl,hs,g7,rfl⟩
 have h:=hk0
 refine T s3 (xs fun _ s22=>(xn 1 fun _ j23=>(qo 0 4 (.bool true) (fj j23 s22 (xret ?_)))))
 obtain rfl:=of_some h
 exact qq _ _ (pt [4] [.bool true] ⟨cr,hs.none⟩)
theorem kq_bound.ok {K:Nat}{a0 r0:Int}(h:kq_bound.f K a0=some r0) (w0:World):Ret Tryz.prog 98 #[I8 a0] w0 (I4 r0):=by
 refine calls_k Tryz.func98 rfl fun Q qq=>?_
 have hs:=St.start w0
 refine wc (a':=(fu 6 [I8 a0])) (xs fun _ s1=>(xn 1 fun _ j2=>(qo 0 2 (I4 0) (fj j2 s1 (xs fun _ s3=>(xs fun _ s4=>(xn 2 fun _ j5=>?_)))))))
 refine qo 0 3 (I8 a0) ?_
 obtain ⟨hc,h⟩|⟨hc,h⟩:=of_if h
 refine tb 1 4 (et hc) ?_
 refine fj j5 s4 (ct (xs fun _ s6=>(xn 1 fun _ j7=>(qo 0 2 (I4 3329) (fj j7 s6 (xret (tr ?_)))))))
 obtain rfl:=of_some h
 exact qq _ _ (pt [2] [I4 3329] ⟨cr,hs.none⟩)
 refine tb 1 4 (ef hc) (fj j5 s4 (cf (xk (T s3 (xs fun _ s8=>(xn 3 fun _ j9=>(qo 0 5 (I8 a0) ?_)))))))
 obtain ⟨h0,h⟩:=oc h
 refine tkf 1 6 (I4 (ishl .i32 1 a0)) (ysl 21 .i64 h0) ?_
 obtain ⟨x1,hx,h⟩:=ob h
 refine tkf 2 2 (I4 x1) (yn hx) (fj j9 s8 (xret ?_))
 obtain rfl:=of_some h
 exact qq _ _ (pt [2] [I4 x1] ⟨cr,hs.none⟩)
theorem bits_Pack.ok {K:Nat}{a0:List Int}{a1:Int}{r0:List Int}{a0_A:Option Addr}{a0_n a0_c:Nat}(h:bits_Pack.f K a0 a1=some r0) (w0:World) (hp0:RowL (CI .u32) w0 a0_A a0_n a0_c a0):Calls Tryz.prog 99 #[.slice a0_A a0_n a0_c,I8 a1] w0 fun e w'=>∃ h:(Option Addr × Nat × Nat),e = .returned (.slice h.1 h.2.1 h.2.2)∧St w0 [] [.ownL CB h.1 h.2.1 h.2.2 r0 5] [] w':=by
 refine calls_k Tryz.func99 rfl fun Q qq=>?_
 have hs:=St.startR (all_cons (RowP.ent hp0) all_nil)
 refine wc (a':=(fu 60 [.slice a0_A a0_n a0_c,I8 a1])) (xs fun _ s1=>(xn 1 fun _ j2=>(qo 0 4 (.slice none 0 0) (fj j2 s1 (xs fun _ s3=>(xs fun _ s4=>(xn 6 fun _ j5=>?_)))))))
 refine qo 0 10 (I8 a1) ?_
 obtain ⟨hc,h⟩|⟨hc,h⟩:=of_if h
 refine tb 1 11 (dt hc) ?_
 refine nq 2 [(12,.bool true),(13,undef),(14,undef),(15,.bool true)] (fj j5 s4 (ct (xs fun _ s6=>(xn 1 fun _ j7=>(qo 0 4 (.slice none 0 0) (fj j7 s6 (xret (tr ?_))))))))
 obtain rfl:=of_some h
 have hs:=hs.addNilL CB 5
 exact qq _ _ (pt [4] [.slice none 0 0] ⟨⟨none,0,0⟩,cr,(pz hs)⟩)
 refine tb 1 11 (df hc) (nq 2 [(12,.bool false),(13,I8 a1)] ?_)
 obtain ⟨hc,h⟩|⟨hc,h⟩:=of_if h
 refine tb 4 14 (dt hc) ?_
 refine qo 5 15 (.bool true) (fj j5 s4 (ct (xs fun _ s8=>(xn 1 fun _ j9=>(qo 0 4 (.slice none 0 0) (fj j9 s8 (xret (tr ?_))))))))
 obtain rfl:=of_some h
 have hs:=hs.addNilL CB 5
 exact qq _ _ (pt [4] [.slice none 0 0] ⟨⟨none,0,0⟩,cr,(pz hs)⟩)
 refine tb 4 14 (df hc) (qo 5 15 (.bool false) (fj j5 s4 (cf (xk (T s3 (xs fun _ s10=>(xn 8 fun _ j11=>(qo 0 16 (.slice a0_A a0_n a0_c) (tkf 1 17 (I8 (a0.length:Int)) (yl (rR 0 hs)) ?_)))))))))
 refine nq 2 [(18,I8 a1),(19,I8 (imul .i64 (a0.length:Int) a1)),(20,I8 (iadd .i64 (imul .i64 (a0.length:Int) a1) 7)),(21,I8 (iquo .i64 (iadd .i64 (imul .i64 (a0.length:Int) a1) 7) 8))] ?_
 obtain ⟨h0,h1,h⟩:=oc2 h
 refine so 6 (oMk0 (C:=CB) 22 24 5 1 140737488355328 .i64 .i64 (iquo .i64 (iadd .i64 (imul .i64 (a0.length:Int) a1) 7) 8) hs h0 h1 (by decide) (by decide) fun s1_A s1_n s1_c w gw hs=>?_)
 refine qo 7 5 (.slice s1_A s1_n s1_c) (fj j11 s10 (xs fun _ s12=>(xn 2 fun _ j13=>(nq 0 [(6,U8 0),(7,I8 0)] (fj j13 s12 (xs fun _ s14=>(xs fun _ s15=>(xn 3 fun _ j16=>(qo 0 23 (.slice a0_A a0_n a0_c) ?_)))))))))
 refine tkf 1 24 (I8 (a0.length:Int)) (yl (rR 0 hs)) (qo 2 25 (I8 0) (fj j16 s15 (?_)))
 obtain ⟨⟨y6,y7,y8⟩,hy,hk0⟩:=ob h
 refine wp_exq (N:=fun a w=>∃ y8_A y8_n y8_c,St w0 [] [.ownL CB y8_A y8_n y8_c y8 5] [.rowL (CI .u32) a0_A a0_n a0_c a0] w∧∃ g18,a=fr g18 62 [(4,[.slice none 0 0,.slice y8_A y8_n y8_c,U8 y6,I8 y7])]) (fun N0 nn0=>?_) ?_
 clear hk0
 refine xb ?_
 refine wp_loop_k (fun n a w=>∃ z2 z3 z4 z5,∃ z5_A z5_n z5_c,bits_Pack.l0 K n a0 a1 z2 z3 z4 z5=some (y6,y7,y8)∧St w0 [] [.ownL CB z5_A z5_n z5_c z5 5] [.rowL (CI .u32) a0_A a0_n a0_c a0] w∧∃ g17,a=fr g17 62 [(1,[I8 a1]),(4,[.slice none 0 0,.slice z5_A z5_n z5_c,U8 z2,I8 z3]),(23,[.slice a0_A a0_n a0_c,I8 (a0.length:Int),I8 z4])]) K ⟨0,0,0,([]:List Int),s1_A,s1_n,s1_c,hy,hs.conv rfl,eg⟩ ?_
 clear hs h hy
 rintro n a w ⟨z2,z3,z4,z5,z5_A,z5_n,z5_c,h,hs,g17,rfl⟩ KL0 kl0
 cases n with
 | zero=>exact nomatch (show none=some _ from h)
 | succ n=>
  refine xs fun _ s19=>(xn 1 fun _ j20=>?_)
  obtain ⟨hc,h⟩|⟨hc,h⟩:=of_if h
  refine tb 0 26 (dt hc) ?_
  refine fj j20 s19 (xs fun _ s21=>(ct (xk (T s21 (xs fun _ s22=>(xb (xs fun _ s23=>(xn 3 fun _ j24=>?_))))))))
  obtain ⟨h0,h1,h⟩:=oc2 h
  have i0_25:=h0
  have i1_25:=h1
  refine tkf 0 27 (PA (CI .u32) a0_A z4) (yiL (C:=(CI .u32)) 110 112 .i64 z4 (rR 0 hs) h0 h1) (tkt 1 28 _ (yL (C:=(CI .u32)) 112 z4 (rR 0 hs) rfl i0_25 i1_25) ?_)
  obtain ⟨x9,hx,h⟩:=ob h
  refine tkf 2 9 (U4 x9) (yn hx) (fj j24 s23 (xs fun _ s26=>(xn 11 fun _ j27=>(nq 0 [(29,U8 z2),(30,U4 x9),(31,I8 a1)] ?_))))
  obtain ⟨h0,h⟩:=oc h
  refine tkf 3 32 (U4 (ishl .u32 1 a1)) (ysl 112 .i64 h0) (nq 4 [(33,U4 (isub .u32 (ishl .u32 1 a1) 1)),(34,U4 (iand .u32 x9 (isub .u32 (ishl .u32 1 a1) 1))),(35,U8 (iconv .u64 (iand .u32 x9 (isub .u32 (ishl .u32 1 a1) 1)))),(36,I8 z3)] ?_)
  obtain ⟨h0,h⟩:=oc h
  refine tkf 8 37 (U8 (ishl .u64 (iconv .u64 (iand .u32 x9 (isub .u32 (ishl .u32 1 a1) 1))) z3)) (ysl 85 .i64 h0) (qo 9 38 (U8 (ior .u64 z2 (ishl .u64 (iconv .u64 (iand .u32 x9 (isub .u32 (ishl .u32 1 a1) 1))) z3))) ?_)
  obtain ⟨x10,hx,h⟩:=ob h
  refine tkf 10 6 (U8 x10) (yn hx) (fj j27 s26 (xs fun _ s28=>(xn 4 fun _ j29=>(nq 0 [(39,I8 z3),(40,I8 a1),(41,I8 (iadd .i64 z3 a1))] ?_))))
  obtain ⟨x11,hx,h⟩:=ob h
  refine tkf 3 7 (I8 x11) (yn hx) (fj j29 s28 (?_))
  obtain ⟨⟨y15,y16,y17⟩,hy,hk1⟩:=ob h
  refine wp_exq (N:=fun a w=>∃ y17_A y17_n y17_c,St w0 [] [.ownL CB y17_A y17_n y17_c y17 5] [.rowL (CI .u32) a0_A a0_n a0_c a0] w∧∃ g31,a=fr g31 62 [(1,[I8 a1]),(4,[.slice none 0 0,.slice y17_A y17_n y17_c,U8 y15,I8 y16]),(23,[.slice a0_A a0_n a0_c,I8 (a0.length:Int),I8 z4])]) (fun N1 nn1=>?_) ?_
  clear hk1
  refine xb ?_
  refine wp_loop_k (fun n a w=>∃ z12 z13 z14,∃ z14_A z14_n z14_c,bits_Pack.l1 K n z12 z13 z14=some (y15,y16,y17)∧St w0 [] [.ownL CB z14_A z14_n z14_c z14 5] [.rowL (CI .u32) a0_A a0_n a0_c a0] w∧∃ g30,a=fr g30 62 [(1,[I8 a1]),(4,[.slice none 0 0,.slice z14_A z14_n z14_c,U8 z12,I8 z13]),(23,[.slice a0_A a0_n a0_c,I8 (a0.length:Int),I8 z4])]) K ⟨x10,x11,z5,z5_A,z5_n,z5_c,hy,hs.conv rfl,eg⟩ ?_
  clear hs h hy
  rintro n a w ⟨z12,z13,z14,z14_A,z14_n,z14_c,h,hs,g30,rfl⟩ KL1 kl1
  cases n with
  | zero=>exact nomatch (show none=some _ from h)
  | succ n=>
   refine xs fun _ s32=>(xs fun _ s33=>(xn 2 fun _ j34=>(qo 0 42 (I8 z13) ?_)))
   obtain ⟨hc,h⟩|⟨hc,h⟩:=of_if h
   refine tb 1 43 (dt hc) ?_
   refine fj j34 s33 (ct (xk (T s32 (xs fun _ s35=>(xb (xs fun _ s36=>(xn 6 fun _ j37=>(nq 0 [(46,.slice z14_A z14_n z14_c),(47,U8 z12),(48,U1 (iconv .u8 z12))] (so 3 (oLt (C:=CB) 49 24 5 1 (U1 0) #[(0,U1 (iconv .u8 z12))] [(iconv .u8 z12)] hs rfl (by decide) (by decide) fun s18_A s18_n s18_c w gw hs=>?_))))))))))
   obtain ⟨h0,h⟩:=oc h
   refine so 4 (oAp (C:=CB) 50 24 24 5 1 140737488355328 hs 1 rfl (rL 0 hs) h0 (by decide) (by decide) fun s19_A s19_n s19_c w hs=>?_)
   refine qo 5 5 (.slice s19_A s19_n s19_c) (fj j37 s36 (xn 3 fun _ j38=>(nq 0 [(51,U8 z12),(52,U8 (ishr .u64 z12 8))] ?_)))
   obtain ⟨x20,hx,h⟩:=ob h
   refine tkf 2 6 (U8 x20) (yn hx) (fin (j38 _ _ (iN (T s35 (xn 3 fun _ j39=>(nq 0 [(44,I8 z13),(45,I8 (isub .i64 z13 8))] ?_))))))
   obtain ⟨x21,hx,h⟩:=ob h
   refine tkf 2 7 (I8 x21) (yn hx) (fin (j39 _ _ ?_))
   exact tn (kl1 _ _ ⟨n,ls n,x20,x21,(z14++([(iconv .u8 z12)]:List Int)),s19_A,s19_n,s19_c,h,(dr [0,1] hs),eg⟩)
   refine tb 1 43 (df hc) (fj j34 s33 (cf (xexit (tx (tx (iH ?_))))))
   obtain ⟨rfl,rfl,rfl⟩:=os3 h
   exact exq_n (nn1 _ _ ⟨z14_A,z14_n,z14_c,(hs.conv rfl),eg⟩)
  clear hs h hy
  rintro a w ⟨y17_A,y17_n,y17_c,hs,g31,rfl⟩
  have h:=hk1
  refine iN (T s22 (xn 2 fun _ j40=>?_))
  refine nq 0 [(53,I8 (iadd .i64 z4 1)),(25,I8 (iadd .i64 z4 1))] (fin (j40 _ _ ?_))
  exact tn (kl0 _ _ ⟨n,ls n,y15,y16,(iadd .i64 z4 1),y17,y17_A,y17_n,y17_c,h,(hs.conv rfl),eg⟩)
  refine tb 0 26 (df hc) (fj j20 s19 (xs fun _ s41=>(cf (xexit (tx (tx (iH ?_)))))))
  obtain ⟨rfl,rfl,rfl⟩:=os3 h
  exact exq_n (nn0 _ _ ⟨z5_A,z5_n,z5_c,(hs.conv rfl),eg⟩)
 clear hs h hy
 rintro a w ⟨y8_A,y8_n,y8_c,hs,g18,rfl⟩
 have h:=hk0
 refine T s14 (?_)
 obtain ⟨y22,hj,h⟩:=ob h
 refine xs fun _ s43=>wp_join (N:=fun a w=>∃ y22_A y22_n y22_c,St w0 [] [.ownL CB y22_A y22_n y22_c y22 5] [.rowL (CI .u32) a0_A a0_n a0_c a0] w∧∃ g42,a=fr g42 62 [(4,[.slice none 0 0,.slice y22_A y22_n y22_c])]) (fun N nj=>?_) ?_
 clear h
 have h:=hj
 refine xs fun _ s44=>(xn 2 fun _ j45=>(qo 0 54 (I8 y7) ?_))
 obtain ⟨hc,h⟩|⟨hc,h⟩:=of_if h
 refine tb 1 55 (dt hc) ?_
 refine fj j45 s44 (ct (xn 6 fun _ j46=>(nq 0 [(56,.slice y8_A y8_n y8_c),(57,U8 y6),(58,U1 (iconv .u8 y6))] (so 3 (oLt (C:=CB) 59 24 5 1 (U1 0) #[(0,U1 (iconv .u8 y6))] [(iconv .u8 y6)] hs rfl (by decide) (by decide) fun s23_A s23_n s23_c w gw hs=>?_)))))
 obtain ⟨h0,h⟩:=oc h
 refine so 4 (oAp (C:=CB) 60 24 24 5 1 140737488355328 hs 1 rfl (rL 0 hs) h0 (by decide) (by decide) fun s24_A s24_n s24_c w hs=>?_)
 refine qo 5 5 (.slice s24_A s24_n s24_c) (fin (j46 _ _ ?_))
 obtain rfl:=of_some h
 exact nj _ _ ⟨s24_A,s24_n,s24_c,(dr [0,1] hs),eg⟩
 refine tb 1 55 (df hc) (fj j45 s44 (cf (xk ?_)))
 obtain rfl:=of_some h
 exact nj _ _ ⟨y8_A,y8_n,y8_c,(hs.conv rfl),eg⟩
 clear hj hs
 rintro a w ⟨y22_A,y22_n,y22_c,hs,g42,rfl⟩
 refine T s43 (xs fun _ s47=>(xn 2 fun _ j48=>(nq 0 [(61,.slice y22_A y22_n y22_c),(4,.slice y22_A y22_n y22_c)] (fj j48 s47 (xret ?_)))))
 obtain rfl:=of_some h
 exact qq _ _ (pt [4] [.slice y22_A y22_n y22_c] ⟨⟨y22_A,y22_n,y22_c⟩,cr,(pz hs)⟩)
theorem kq_Pack.ok {K:Nat}{a0:Arr 256}{a1:Int}{r0:List Int}(h:kq_Pack.f K a0 a1=some r0) (w0:World):Calls Tryz.prog 72 #[ag .i32 a0,I8 a1] w0 fun e w'=>∃ h:(Option Addr × Nat × Nat),e = .returned (.slice h.1 h.2.1 h.2.2)∧St w0 [] [.ownL CB h.1 h.2.1 h.2.2 r0 5] [] w':=by
 refine calls_k Tryz.func72 rfl fun Q qq=>?_
 have hs:=St.start w0
 refine wc (a':=(fu 34 [ag .i32 a0,I8 a1])) (xs fun _ s1=>(xn 2 fun _ j2=>(so 0 (oBe 2 70 .i32 a0 hs fun b1 w gw hs=>(qo 1 4 (.slice none 0 0) ?_)))))
 refine fj j2 s1 (xs fun _ s3=>(xs fun _ s4=>?_))
 refine rg [] (fun k=>True) 13 fun _ j5=>?_
 have hs:=hs.drawn1
 refine gq 0 8 (I8 a1) ?_
 obtain ⟨hc,h⟩|⟨hc,h⟩:=of_if h
 refine gb 1 9 (dt hc) ?_
 refine gq 2 10 (.bool true) (gq 3 11 undef (gq 4 12 undef (gq 5 13 (.bool true) (gq 6 14 (.bool true) ?_))))
 refine gq 7 15 undef (gq 8 16 undef (gq 9 17 undef (gq 10 18 undef (gq 11 19 undef ?_))))
 refine gq 12 20 (.bool true) (gf (j5 _ _ (T s4 (ct (xs fun _ s6=>(xn 1 fun _ j7=>(qo 0 4 (.slice none 0 0) (fj j7 s6 (xret (tr ?_))))))))))
 obtain rfl:=of_some h
 have hs:=hs.addNilL CB 5
 exact qq _ _ (pt [4] [.slice none 0 0] ⟨⟨none,0,0⟩,cr,(dr [1,0] hs)⟩)
 refine gb 1 9 (df hc) (gq 2 10 (.bool false) (gq 3 11 (I8 a1) ?_))
 obtain ⟨hc,h⟩|⟨hc,h⟩:=of_if h
 refine gb 4 12 (dt hc) ?_
 refine gq 5 13 (.bool true) (gq 6 14 (.bool true) (gq 7 15 undef (gq 8 16 undef (gq 9 17 undef ?_))))
 refine gq 10 18 undef (gq 11 19 undef (gq 12 20 (.bool true) (gf (j5 _ _ (T s4 (ct (xs fun _ s8=>(xn 1 fun _ j9=>?_))))))))
 refine qo 0 4 (.slice none 0 0) (fj j9 s8 (xret (tr ?_)))
 obtain rfl:=of_some h
 have hs:=hs.addNilL CB 5
 exact qq _ _ (pt [4] [.slice none 0 0] ⟨⟨none,0,0⟩,cr,(dr [1,0] hs)⟩)
 refine gb 4 12 (df hc) (gq 5 13 (.bool false) (gq 6 14 (.bool false) (tgt 7 15 _ (yWe 70 hs 0 .grow) (gq 8 16 (I8 a1) ?_))))
 obtain ⟨r2,hg,h⟩:=ob h
 refine go 9 (oC 17 hs (kq_bound.ok hg _) fun w gw hs=>⟨.of gw,?_⟩)
 obtain ⟨r3,hg,h⟩:=ob h
 cases r3 with
 | true=>
  have h:=of_if_t h
  refine go 10 (oC 18 hs (kq_below.ok hg _) fun w gw hs=>⟨.of gw,?_⟩)
  refine gq 11 19 (.bool false) (gq 12 20 (.bool false) (gf (j5 _ _ (T s4 (cf (xk (T s3 (xs fun _ s10=>(xn 2 fun _ j11=>(so 0 (oMk (C:=(CI .u32)) 21 110 112 4 35184372088832 .i64 .i64 256 hs (by decide) (by decide) (by decide) (by decide) fun s4_A s4_n s4_c w gw hs=>?_)))))))))))
  refine qo 1 5 (.slice s4_A s4_n s4_c) (fj j11 s10 (xs fun _ s12=>(xs fun _ s13=>(xn 2 fun _ j14=>(tkt 0 22 _ (yWe 70 hs 1 .grow) (qo 1 23 (I8 0) (fj j14 s13 (?_))))))))
  obtain ⟨y7,hy,hk0⟩:=ob h
  refine wp_exq (N:=fun a w=>St w0 [] [.ownL (CI .u32) s4_A s4_n s4_c y7 112,.blk b1 (enc .i32 a0) 70] [] w∧∃ g16,a=fr g16 36 [(1,[I8 a1]),(4,[.slice none 0 0,.slice s4_A s4_n s4_c])]) (fun N0 nn0=>?_) ?_
  clear hk0
  refine xb ?_
  refine wp_loop_k (fun n a w=>∃ z5 z6,kq_Pack.l0 K n a0 z5 z6=some y7∧St w0 [] [.ownL (CI .u32) s4_A s4_n s4_c z6 112,.blk b1 (enc .i32 a0) 70] [] w∧∃ g15,a=fr g15 36 [(1,[I8 a1]),(4,[.slice none 0 0,.slice s4_A s4_n s4_c]),(22,[ag .i32 a0,I8 z5])]) K ⟨0,(List.replicate (256:Int).toNat (Cod.zero (CI .u32))),hy,hs.conv rfl,eg⟩ ?_
  clear hs h hy
  rintro n a w ⟨z5,z6,h,hs,g15,rfl⟩ KL0 kl0
  cases n with
  | zero=>exact nomatch (show none=some _ from h)
  | succ n=>
   refine xs fun _ s17=>(xn 1 fun _ j18=>?_)
   obtain ⟨hc,h⟩|⟨hc,h⟩:=of_if h
   refine tb 0 24 (dt hc) ?_
   refine fj j18 s17 (xs fun _ s19=>(ct (xk (T s19 (xs fun _ s20=>(xb (xs fun _ s21=>(xn 4 fun _ j22=>(qo 0 25 (I8 z5) ?_)))))))))
   obtain ⟨h0,h1,h⟩:=oc2 h
   refine tkf 1 26 (I4 (rd a0 z5)) (yt 70 21 .i64 h0 h1) (qo 2 6 (I8 z5) ?_)
   obtain ⟨x8,hx,h⟩:=ob h
   refine tkf 3 7 (I4 x8) (yn hx) (fj j22 s21 (xn 6 fun _ j23=>(nq 0 [(27,.slice s4_A s4_n s4_c),(28,I8 z5),(29,I4 x8),(30,U4 (iconv .u32 x8))] ?_)))
   obtain ⟨h0,h1,h⟩:=oc2 h
   have i0_24:=h0
   have i1_24:=h1
   refine tkf 4 31 (PA (CI .u32) s4_A z5) (yiL (C:=(CI .u32)) 110 112 .i64 z5 (rL 0 hs) h0 h1) ?_
   obtain ⟨x9,hx,h⟩:=ob h
   refine so 5 (oL (C:=(CI .u32)) (he:=by cases hx; kernel_rfl) 112 z5 x9 hs 0 rfl i0_24 i1_24 fun w hs=>?_)
   refine fin (j23 _ _ (iN (T s20 (xn 2 fun _ j25=>(nq 0 [(32,I8 (iadd .i64 z5 1)),(23,I8 (iadd .i64 z5 1))] (fin (j25 _ _ ?_)))))))
   exact tn (kl0 _ _ ⟨n,ls n,(iadd .i64 z5 1),(wrL z6 z5 x9),h,(hs.conv rfl),eg⟩)
   refine tb 0 24 (df hc) (fj j18 s17 (xs fun _ s26=>(cf (xexit (tx (tx (iH ?_)))))))
   obtain rfl:=of_some h
   exact exq_n (nn0 _ _ ⟨(hs.conv rfl),eg⟩)
  clear hs h hy
  rintro a w ⟨hs,g16,rfl⟩
  have h:=hk0
  refine T s12 (xs fun _ s27=>(xn 4 fun _ j28=>(nq 0 [(33,.slice s4_A s4_n s4_c),(34,I8 a1)] ?_)))
  obtain ⟨r10,hg,h⟩:=ob h
  refine wpS.only 2 (oH 35 hs (bits_Pack.ok hg _ (rL 0 hs)) ?_)
  rintro ⟨r10_A,r10_n,r10_c⟩ w gw hs
  have hs:=hs.conv (L':=[.ownL CB r10_A r10_n r10_c r10 5,.ownL (CI .u32) s4_A s4_n s4_c y7 112,.blk b1 (enc .i32 a0) 70]) rfl
  refine ⟨fun _=>trivial,?_⟩
  refine qo 3 4 (.slice r10_A r10_n r10_c) (fj j28 s27 (xret ?_))
  obtain rfl:=of_some h
  exact qq _ _ (pt [4] [.slice r10_A r10_n r10_c] ⟨⟨r10_A,r10_n,r10_c⟩,cr,(dr [1,0,0] hs)⟩)
 | false=>
  have h:=of_if_f h
  refine go 10 (oC 18 hs (kq_below.ok hg _) fun w gw hs=>⟨.of gw,?_⟩)
  refine gq 11 19 (.bool true) (gq 12 20 (.bool true) (gf (j5 _ _ (T s4 (ct (xs fun _ s29=>(xn 1 fun _ j30=>(qo 0 4 (.slice none 0 0) ?_))))))))
  refine fj j30 s29 (xret (tr ?_))
  obtain rfl:=of_some h
  have hs:=hs.addNilL CB 5
  exact qq _ _ (pt [4] [.slice none 0 0] ⟨⟨none,0,0⟩,cr,(dr [1,0] hs)⟩)
theorem kpke_vector_packed.ok {K:Nat}{a0:List (Arr 256)}{a1:Int}{r0:List Int}{a0_A:Option Addr}{a0_n a0_c:Nat}(h:kpke_vector_packed.f K a0 a1=some r0) (w0:World) (hp0:RowL CZ w0 a0_A a0_n a0_c a0):Calls Tryz.prog 65 #[.slice a0_A a0_n a0_c,I8 a1] w0 fun e w'=>∃ h:(Option Addr × Nat × Nat),e = .returned (.slice h.1 h.2.1 h.2.2)∧St w0 [] [.ownL CB h.1 h.2.1 h.2.2 r0 5] [] w':=by
 refine calls_k Tryz.func65 rfl fun Q qq=>?_
 have hs:=St.startR (all_cons (RowP.ent hp0) all_nil)
 refine wc (a':=(fu 19 [.slice a0_A a0_n a0_c,I8 a1])) (xs fun _ s1=>(xn 1 fun _ j2=>(qo 0 4 (.slice none 0 0) (fj j2 s1 (xs fun _ s3=>(xn 1 fun _ j4=>?_))))))
 refine qo 0 5 (.slice none 0 0) (fj j4 s3 (xs fun _ s5=>(xs fun _ s6=>(xn 3 fun _ j7=>(qo 0 8 (.slice a0_A a0_n a0_c) (tkf 1 9 (I8 (a0.length:Int)) (yl (rR 0 hs)) (qo 2 10 (I8 0) ?_)))))))
 refine fj j7 s6 (?_)
 have hs:=hs.addNilL CB 5
 obtain ⟨y3,hy,hk0⟩:=ob h
 refine wp_exq (N:=fun a w=>∃ y3_A y3_n y3_c,St w0 [] [.ownL CB y3_A y3_n y3_c y3 5] [.rowL CZ a0_A a0_n a0_c a0] w∧∃ g9,a=fr g9 21 [(4,[.slice none 0 0,.slice y3_A y3_n y3_c])]) (fun N0 nn0=>?_) ?_
 clear hk0
 refine xb ?_
 refine wp_loop_k (fun n a w=>∃ z1 z2,∃ z2_A z2_n z2_c,kpke_vector_packed.l0 K n a0 a1 z1 z2=some y3∧St w0 [] [.ownL CB z2_A z2_n z2_c z2 5] [.rowL CZ a0_A a0_n a0_c a0] w∧∃ g8,a=fr g8 21 [(1,[I8 a1]),(4,[.slice none 0 0,.slice z2_A z2_n z2_c]),(8,[.slice a0_A a0_n a0_c,I8 (a0.length:Int),I8 z1])]) K ⟨0,([]:List Int),none,0,0,hy,hs.conv rfl,eg⟩ ?_
 clear hs h hy
 rintro n a w ⟨z1,z2,z2_A,z2_n,z2_c,h,hs,g8,rfl⟩ KL0 kl0
 cases n with
 | zero=>exact nomatch (show none=some _ from h)
 | succ n=>
  refine xs fun _ s10=>(xn 1 fun _ j11=>?_)
  obtain ⟨hc,h⟩|⟨hc,h⟩:=of_if h
  refine tb 0 11 (dt hc) ?_
  refine fj j11 s10 (xs fun _ s12=>(ct (xk (T s12 (xs fun _ s13=>(xb (xs fun _ s14=>(xn 4 fun _ j15=>?_))))))))
  obtain ⟨h0,h1,h⟩:=oc2 h
  have i0_16:=h0
  have i1_16:=h1
  refine tkf 0 12 (PA CZ a0_A z1) (yiL (C:=CZ) 97 70 .i64 z1 (rR 0 hs) h0 h1) (tkt 1 13 _ (yLA (C:=CZ) 70 z1 (rR 0 hs) rfl i0_16 i1_16) (so 2 (oNe 7 70 .i32 (zeroA 256) hs fun b4 w gw hs=>(so 3 (oWe 70 .i32 (rdL CZ a0 z1) hs 0 fun w kp hs=>(fj j15 s14 (xn 6 fun _ j17=>?_)))))))
  refine qo 0 14 (.slice z2_A z2_n z2_c) (tkt 1 15 _ (yWe 70 hs 0 .grow) (qo 2 16 (I8 a1) ?_))
  obtain ⟨r5,hg,h⟩:=ob h
  refine wpS.only 3 (oH 17 hs (kq_Pack.ok hg _) ?_)
  rintro ⟨r5_A,r5_n,r5_c⟩ w gw hs
  have hs:=hs.conv (L':=[.ownL CB r5_A r5_n r5_c r5 5,.blk b4 (enc .i32 (rdL CZ a0 z1)) 70,.ownL CB z2_A z2_n z2_c z2 5]) rfl
  refine ⟨fun _=>trivial,?_⟩
  obtain ⟨h0,h⟩:=oc h
  refine so 4 (oAp (C:=CB) 18 24 24 5 1 140737488355328 hs 2 rfl (rL 0 hs) h0 (by decide) (by decide) fun s6_A s6_n s6_c w hs=>?_)
  refine qo 5 5 (.slice s6_A s6_n s6_c) (fin (j17 _ _ (iN (T s13 (xn 2 fun _ j18=>(nq 0 [(19,I8 (iadd .i64 z1 1)),(10,I8 (iadd .i64 z1 1))] (fin (j18 _ _ ?_))))))))
  exact tn (kl0 _ _ ⟨n,ls n,(iadd .i64 z1 1),(z2++r5),s6_A,s6_n,s6_c,h,(dr [0,0,1] hs),eg⟩)
  refine tb 0 11 (df hc) (fj j11 s10 (xs fun _ s19=>(cf (xexit (tx (tx (iH ?_)))))))
  obtain rfl:=of_some h
  exact exq_n (nn0 _ _ ⟨z2_A,z2_n,z2_c,(hs.conv rfl),eg⟩)
 clear hs h hy
 rintro a w ⟨y3_A,y3_n,y3_c,hs,g9,rfl⟩
 have h:=hk0
 refine T s5 (xs fun _ s20=>(xn 2 fun _ j21=>(nq 0 [(20,.slice y3_A y3_n y3_c),(4,.slice y3_A y3_n y3_c)] (fj j21 s20 (xret ?_)))))
 obtain rfl:=of_some h
 exact qq _ _ (pt [4] [.slice y3_A y3_n y3_c] ⟨⟨y3_A,y3_n,y3_c⟩,cr,(pz hs)⟩)
end Go.Proofs.YtemdbgmldljbpaaGreatDoor
