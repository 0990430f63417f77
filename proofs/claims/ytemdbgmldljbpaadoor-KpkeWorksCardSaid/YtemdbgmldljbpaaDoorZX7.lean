/- own -/
import Derived.Test.YtemdbgmldljbpaaDoorMh
import Derived.Test.YtemdbgmldljbpaaDoorProg
import Derived.Test.YtemdbgmldljbpaaDoorZF0
import Derived.Test.YtemdbgmldljbpaaDoorZX3
import Derived.Test.YtemdbgmldljbpaaDoorZX6
set_option linter.unusedVariables false
set_option linter.unusedSimpArgs false
set_option maxRecDepth 100000
set_option maxHeartbeats 4000000
namespace Go.Proofs.YtemdbgmldljbpaaDoor
open Go.Mx
attribute [local irreducible] wpOp
theorem kpke_expanded_s.ok {K:Nat}{ca0 ca1 ca2 ca3 ca4:Int}{ca5:List Int}{y1:List (List (Arr 256))}{y2:Int}{ca5_A:Option Addr}{ca5_n ca5_c:Nat}(h:kpke_expanded_s.f K ca0 ca1 ca2 ca3 ca4 ca5=some (y1,y2)){w0 w:World}{X:List Nat}{Lt Rt:List Ent}(hs:St w0 X Lt (.rowL CB ca5_A ca5_n ca5_c ca5::.rowL CW (some ⟨0,0,none⟩) 1 1 ([tab_0])::.rowL CV (some ⟨1,0,none⟩) 1 1 ([tab_1])::.rowL CV (some ⟨2,0,none⟩) 1 1 ([tab_2])::Rt) w):Calls Tryd.prog 43 #[.agg #[I8 ca0,I8 ca1,I8 ca2,I8 ca3,I8 ca4],.slice ca5_A ca5_n ca5_c,.bool true] w fun e w'=>∃ (y1_A:Option Addr) (y1_n:Nat) (y1_c:Nat) (y1_H:List HS),e = .returned (.tuple #[.slice y1_A y1_n y1_c,I8 y2])∧St w0 X (.ownL CS y1_A y1_n y1_c y1_H 78::Lt) (.inn CZ y1_H y1::.rowL CB ca5_A ca5_n ca5_c ca5::.rowL CW (some ⟨0,0,none⟩) 1 1 ([tab_0])::.rowL CV (some ⟨1,0,none⟩) 1 1 ([tab_1])::.rowL CV (some ⟨2,0,none⟩) 1 1 ([tab_2])::Rt) w':=by
 refine calls_k Tryd.func43 rfl fun Q qq=>?_
 refine wc (a':=(fu 55 [.agg #[I8 ca0,I8 ca1,I8 ca2,I8 ca3,I8 ca4],.slice ca5_A ca5_n ca5_c,.bool true])) ?_
 refine xs fun _ s1=>?_
 refine xn 3 fun _ j2=>?_
 refine so 0 (oB 3 23 (.agg #[I8 ca0,I8 ca1,I8 ca2,I8 ca3,I8 ca4]) hs ([I8 ca0,I8 ca1,I8 ca2,I8 ca3,I8 ca4]) fun b3 w gw hs=>?_)
 refine nq 1 [(6,.slice none 0 0),(7,I8 0)] ?_
 refine fj j2 s1 (xs fun _ s3=>(xn 4 fun _ j4=>?_))
 refine qo 0 15 (P0 b3) ?_
 refine tkt 1 16 (I8 ca0) (yv hs 0 0 3 rfl (by rfl) .grow) ?_
 obtain ⟨h0,h1,h⟩:=oc2 h
 refine so 2 (oMk (C:=CS) 17 74 78 24 5864062014805 .i64 .i64 ca0 hs h0 h1 (by decide) (by decide) fun s4_A s4_n s4_c w gw hs=>?_)
 have hs:=hs.addInns0 CZ 32 (ca0:Int).toNat
 refine qo 3 8 (.slice s4_A s4_n s4_c) ?_
 refine fj j4 s3 (xs fun _ s5=>(xs fun _ s6=>(xn 3 fun _ j7=>?_)))
 refine qo 0 18 (.slice s4_A s4_n s4_c) ?_
 refine tkf 1 19 (I8 ((List.replicate (ca0:Int).toNat ([]:List (Arr 256))).length:Int)) (ylNN (⟨hs.rowL 1 rfl,hs.innsLen 0 rfl⟩ : NNP _ _ _ _ _ _)) ?_
 refine qo 2 20 (I8 0) ?_
 refine fj j7 s6 (?_)
 obtain ⟨t0,hy,hk0⟩:=ob h
 refine wp_exq (N:=fun a w=>∃ y7,∃ (y7_H:List HS),t0 = .inl y7∧St w0 X (.inns CZ 32 y7_H y7::.ownL CS s4_A s4_n s4_c y7_H 78::.blk b3 ([I8 ca0,I8 ca1,I8 ca2,I8 ca3,I8 ca4]) 23::Lt) (.rowL CB ca5_A ca5_n ca5_c ca5::.rowL CW (some ⟨0,0,none⟩) 1 1 ([tab_0])::.rowL CV (some ⟨1,0,none⟩) 1 1 ([tab_1])::.rowL CV (some ⟨2,0,none⟩) 1 1 ([tab_2])::Rt) w∧∃ g9,a=fr g9 58 [(8,[.slice s4_A s4_n s4_c])]) (fun N0 nn0=>?_) ?_
 refine xb ?_
 refine wp_loop_k (fun n a w=>∃ z5 z6,∃ (z6_H:List HS),kpke_expanded_s.l0 K n ca0 ca5 z5 z6=some t0∧St w0 X (.inns CZ 32 z6_H z6::.ownL CS s4_A s4_n s4_c z6_H 78::.blk b3 ([I8 ca0,I8 ca1,I8 ca2,I8 ca3,I8 ca4]) 23::Lt) (.rowL CB ca5_A ca5_n ca5_c ca5::.rowL CW (some ⟨0,0,none⟩) 1 1 ([tab_0])::.rowL CV (some ⟨1,0,none⟩) 1 1 ([tab_1])::.rowL CV (some ⟨2,0,none⟩) 1 1 ([tab_2])::Rt) w∧∃ g8,a=fr g8 58 [(1,[.slice ca5_A ca5_n ca5_c,.bool true,P0 b3]),(8,[.slice s4_A s4_n s4_c]),(19,[I8 ((List.replicate (ca0:Int).toNat ([]:List (Arr 256))).length:Int),I8 z5])]) K ⟨0,(List.replicate (ca0:Int).toNat ([]:List (Arr 256))),(List.replicate (ca0:Int).toNat (Cod.zero CS)),hy,hs.conv rfl,eg⟩ ?_
 clear hs h hy
 rintro n a w ⟨z5,z6,z6_H,h,hs,g8,rfl⟩ KL0 kl0
 cases n with
 | zero=>exact nomatch (show none=some _ from h)
 | succ n=>
  refine xs fun _ s10=>?_
  refine xn 1 fun _ j11=>?_
  obtain ⟨hc,h⟩|⟨hc,h⟩:=of_if h
  refine tb 0 21 (dt hc) ?_
  refine fj j11 s10 (xs fun _ s12=>(ct (xk (T s12 (xs fun _ s13=>(xb (xs fun _ s14=>(xn 2 fun _ j15=>?_))))))))
  refine nq 0 [(22,I8 z5),(9,I8 z5)] ?_
  refine fj j15 s14 (xs fun _ s16=>(xn 3 fun _ j17=>?_))
  refine qo 0 23 (P0 b3) ?_
  refine tkt 1 24 (I8 ca0) (yv hs 2 0 3 rfl (by rfl) .grow) ?_
  refine qo 2 25 (I8 0) ?_
  refine fj j17 s16 (?_)
  obtain ⟨t1,hy,hk1⟩:=ob h
  refine wp_exq (N:=fun a w=>∃ y10,∃ (y10_H:List HS),t1 = .inl y10∧St w0 X (.inns CZ 32 y10_H y10::.ownL CS s4_A s4_n s4_c y10_H 78::.blk b3 ([I8 ca0,I8 ca1,I8 ca2,I8 ca3,I8 ca4]) 23::Lt) (.rowL CB ca5_A ca5_n ca5_c ca5::.rowL CW (some ⟨0,0,none⟩) 1 1 ([tab_0])::.rowL CV (some ⟨1,0,none⟩) 1 1 ([tab_1])::.rowL CV (some ⟨2,0,none⟩) 1 1 ([tab_2])::Rt) w∧∃ g19,a=fr g19 58 [(1,[.slice ca5_A ca5_n ca5_c,.bool true,P0 b3]),(8,[.slice s4_A s4_n s4_c]),(19,[I8 ((List.replicate (ca0:Int).toNat ([]:List (Arr 256))).length:Int),I8 z5])]) (fun N1 nn1=>?_) ?_
  refine xb ?_
  refine wp_loop_k (fun n a w=>∃ z8 z9,∃ (z9_H:List HS),kpke_expanded_s.l1 K n ca0 ca5 z5 z8 z9=some t1∧St w0 X (.inns CZ 32 z9_H z9::.ownL CS s4_A s4_n s4_c z9_H 78::.blk b3 ([I8 ca0,I8 ca1,I8 ca2,I8 ca3,I8 ca4]) 23::Lt) (.rowL CB ca5_A ca5_n ca5_c ca5::.rowL CW (some ⟨0,0,none⟩) 1 1 ([tab_0])::.rowL CV (some ⟨1,0,none⟩) 1 1 ([tab_1])::.rowL CV (some ⟨2,0,none⟩) 1 1 ([tab_2])::Rt) w∧∃ g18,a=fr g18 58 [(1,[.slice ca5_A ca5_n ca5_c,.bool true,P0 b3]),(8,[.slice s4_A s4_n s4_c,I8 z5]),(19,[I8 ((List.replicate (ca0:Int).toNat ([]:List (Arr 256))).length:Int),I8 z5]),(24,[I8 ca0,I8 z8])]) K ⟨0,z6,z6_H,hy,hs.conv rfl,eg⟩ ?_
  clear hs h hy
  rintro n a w ⟨z8,z9,z9_H,h,hs,g18,rfl⟩ KL1 kl1
  cases n with
  | zero=>exact nomatch (show none=some _ from h)
  | succ n=>
   refine xs fun _ s20=>?_
   refine xn 1 fun _ j21=>?_
   obtain ⟨hc,h⟩|⟨hc,h⟩:=of_if h
   refine tb 0 26 (dt hc) ?_
   refine fj j21 s20 (xs fun _ s22=>(ct (xk (T s22 (xs fun _ s23=>(xb (xs fun _ s24=>(xn 2 fun _ j25=>?_))))))))
   refine nq 0 [(27,I8 z8),(10,I8 z8)] ?_
   refine fj j25 s24 (xs fun _ s26=>(xn 6 fun _ j27=>?_))
   refine nq 0 [(28,I8 z5),(29,U1 (iconv .u8 z5)),(30,I8 z8),(31,U1 (iconv .u8 z8))] ?_
   obtain ⟨x11,hx,h⟩:=ob h
   refine tkf 4 11 (U1 x11) (yn hx) ?_
   obtain ⟨x12,hx,h⟩:=ob h
   refine tkf 5 12 (U1 x12) (yn hx) ?_
   refine fj j27 s26 (xs fun _ s28=>(xs fun _ s29=>(xn 1 fun _ j30=>?_)))
   refine qo 0 32 (.bool true) ?_
   refine fj j30 s29 (ct (xn 4 fun _ j31=>?_))
   refine nq 0 [(33,U1 x12),(34,U1 x11),(11,U1 x12),(12,U1 x11)] ?_
   refine fj j31 s28 (xs fun _ s32=>(xn 10 fun _ j33=>?_))
   refine nq 0 [(36,.slice ca5_A ca5_n ca5_c),(37,U1 x12),(38,U1 x11)] ?_
   obtain ⟨⟨r13,r14⟩,hg,h⟩:=ob h
   refine so 3 (oC 39 hs (kpke_Parts.ok hg _ (hs.rowR 0 rfl) (hs.rowR 1 rfl) (hs.rowR 2 rfl) (hs.rowR 3 rfl)) fun w gw hs=>?_)
   refine nq 4 [(35,.tuple #[ag .i32 r13,I8 r14]),(40,ag .i32 r13),(41,I8 r14)] ?_
   refine so 7 (oN 13 32 hs (enc .i32 (zeroA 256)) (ag .i32 (zeroA 256)) fun b15 w gw hs=>?_)
   refine so 8 (oWe 32 .i32 r13 hs 0 fun w kp hs=>?_)
   refine qo 9 14 (I8 r14) ?_
   refine fj j33 s32 (xs fun _ s34=>(xs fun _ s35=>(xn 2 fun _ j36=>?_)))
   refine qo 0 42 (I8 r14) ?_
   obtain ⟨hc,h⟩|⟨hc,h⟩:=of_if h
   refine tb 1 43 (nf hc) ?_
   refine fj j36 s35 (cf (xk (T s34 (?_))))
   refine rg [8,10] (fun k=>True) 11 fun _ j37=>?_
   have hs:=hs.drawn1
   refine gq 0 45 (.slice s4_A s4_n s4_c) ?_
   refine gq 1 46 (I8 z5) ?_
   refine gq 2 47 (.slice s4_A s4_n s4_c) ?_
   refine gq 3 48 (I8 z5) ?_
   obtain ⟨h0,h1,h⟩:=oc2 h
   have i0_38:=h0
   have i1_38:=h1
   refine tgf 4 49 (PA CS s4_A z5) (yiNN 74 78 .i64 z5 (⟨hs.rowL 2 rfl,hs.innsLen 1 rfl⟩ : NNP _ _ _ _ _ _) h0 h1) ?_
   obtain ⟨s16_A,hA⟩ : ∃ A,A=(rdL CS z9_H z5).1:=⟨_,rfl⟩
   obtain ⟨s16_n,hn⟩ : ∃ n,n=(rdL CS z9_H z5).2.1:=⟨_,rfl⟩
   obtain ⟨s16_c,hc⟩ : ∃ c,c=(rdL CS z9_H z5).2.2:=⟨_,rfl⟩
   refine tgt 5 50 (.slice s16_A s16_n s16_c) (by subst hA hn hc; exact yld_loadNN (e:=78) (x:=z5) (⟨hs.rowL 2 rfl,hs.innsLen 1 rfl⟩ : NNP _ _ _ _ _ _) (by kernel_rfl) (by kernel_rfl) i0_38 i1_38) ?_
   have hs:=hs.front 1 rfl
   try dsimp only [List.eraseIdx] at hs
   obtain ⟨hl39,hs⟩:=hs.openI i0_38 i1_38 hA hn hc
   refine wpG.take [6,7,8,9,10] 6 true (some 51) (ag .i32 r13) (by kernel_rfl) (by kernel_rfl) (yWe 32 hs 2 .grow) ?_
   refine go 7 (oLL (C:=CZ) 52 78 32 1 (ag .i32 (zeroA 256)) #[(0,ag .i32 r13)] [r13] hs rfl rfl (by decide) (by decide) fun s17_A s17_n s17_c w gw hs=>⟨.of gw,?_⟩)
   obtain ⟨h0,h⟩:=oc h
   refine go 8 (oAp (C:=CZ) 53 78 78 32 1024 137438953472 hs 1 rfl (hs.rowL 0 rfl) h0 (by decide) (by decide) fun s18_A s18_n s18_c w hs=>⟨⟨fun hf=>absurd hf (by decide),.all _ _⟩,?_⟩)
   obtain ⟨h0,h1,h⟩:=oc2 h
   have i0_40:=h0
   have i1_40:=h1
   refine tgf 9 54 (PA CS s4_A z5) (yiNN 74 78 .i64 z5 (⟨hs.rowL 4 rfl,hl39⟩ : NNP _ _ _ _ _ _) h0 h1) ?_
   refine go 10 (oL (C:=CS) 78 z5 ((s18_A,s18_n,s18_c):HS) hs 4 rfl i0_40 (by rw [hl39]; exact i1_40) fun w hs=>⟨⟨fun hf=>absurd hf (by decide),.all _ _⟩,?_⟩)
   have hs:=hs.front 2 rfl
   have hs:=hs.front 2 rfl
   try dsimp only [List.eraseIdx] at hs
   have hs:=hs.closeI (x:=z5) hl39 i0_38 i1_38
   refine gf (j37 _ _ ?_)
   refine iN (T s23 (xn 2 fun _ j41=>?_))
   refine nq 0 [(55,I8 (iadd .i64 z8 1)),(25,I8 (iadd .i64 z8 1))] ?_
   refine fin (j41 _ _ ?_)
   exact tn (kl1 _ _ ⟨n,ls n,(iadd .i64 z8 1),(wrL z9 z5 ((rdLL z9 z5)++([r13]:List (Arr 256)))),(wrL z9_H z5 ((s18_A,s18_n,s18_c):HS)),h,(dr [1,0,0,1,1] hs),eg⟩)
   refine tb 1 43 (nt hc) ?_
   refine fj j36 s35 (ct (xs fun _ s42=>(xn 3 fun _ j43=>?_)))
   refine nq 0 [(44,I8 r14),(6,.slice none 0 0),(7,I8 r14)] ?_
   refine fj j43 s42 (xret (tr (iR (tr (tr (iR (exq_r (iR (tr (tr (iR (exq_r (tr ?_)))))))))))))
   obtain rfl:=of_some h
   have q0:=of_some hk1
   subst q0
   obtain ⟨q0,qr0⟩:=Prod.mk.inj (of_some hk0)
   have q1:=qr0
   subst q0
   subst q1
   have hs:=hs.front 1 rfl
   try dsimp only [List.eraseIdx] at hs
   have hs:=hs.innsInn
   have hs:=(hs.addNilL CS 78).addInn0 CZ
   exact qq _ _ (pt [6,7] [.slice none 0 0,I8 r14] ⟨none,0,0,[],rfl,((dr [1,0,0,0] hs).pickR (pick_cons 0 rfl (pick_cons 2 rfl (pick_cons 3 rfl (pick_cons 4 rfl (pick_cons 5 rfl (fun _ he=>.tail _ (.tail _ (.tail _ (.tail _ (.tail _ (.tail _ he))))))))))))⟩)
   refine tb 0 26 (df hc) ?_
   refine fj j21 s20 (xs fun _ s44=>(cf (xexit (tx (tx (iH ?_))))))
   obtain rfl:=of_some h
   exact exq_n (nn1 _ _ ⟨z9,z9_H,rfl,(hs.conv rfl),eg⟩)
  clear hs h hy
  rintro a w ⟨y10,y10_H,rfl,hs,g19,rfl⟩
  have h:=hk1
  refine iN (T s13 (xn 2 fun _ j45=>?_))
  refine nq 0 [(56,I8 (iadd .i64 z5 1)),(20,I8 (iadd .i64 z5 1))] ?_
  refine fin (j45 _ _ ?_)
  exact tn (kl0 _ _ ⟨n,ls n,(iadd .i64 z5 1),y10,y10_H,h,(hs.conv rfl),eg⟩)
  refine tb 0 21 (df hc) ?_
  refine fj j11 s10 (xs fun _ s46=>(cf (xexit (tx (tx (iH ?_))))))
  obtain rfl:=of_some h
  exact exq_n (nn0 _ _ ⟨z6,z6_H,rfl,(hs.conv rfl),eg⟩)
 clear hs h hy
 rintro a w ⟨y7,y7_H,rfl,hs,g9,rfl⟩
 have h:=hk0
 refine T s5 (xs fun _ s47=>(xn 3 fun _ j48=>?_))
 refine nq 0 [(57,.slice s4_A s4_n s4_c),(6,.slice s4_A s4_n s4_c),(7,I8 0)] ?_
 refine fj j48 s47 (xret ?_)
 obtain ⟨rfl,rfl⟩:=os2 h
 have hs:=hs.innsInn
 exact qq _ _ (pt [6,7] [.slice s4_A s4_n s4_c,I8 0] ⟨s4_A,s4_n,s4_c,y7_H,rfl,(dr [1,0] hs)⟩)
theorem kpke_Encrypt.ok {K:Nat}{a0_0 a0_1 a0_2 a0_3 a0_4:Int}{a1 a2 a3 r0:List Int}{r1:Int}{a1_A:Option Addr}{a1_n a1_c:Nat}{a2_A:Option Addr}{a2_n a2_c:Nat}{a3_A:Option Addr}{a3_n a3_c:Nat}(h:kpke_Encrypt.f K a0_0 a0_1 a0_2 a0_3 a0_4 a1 a2 a3=some (r0,r1)) (w0:World) (hp1:RowL CB w0 a1_A a1_n a1_c a1) (hp2:RowL CB w0 a2_A a2_n a2_c a2) (hp3:RowL CB w0 a3_A a3_n a3_c a3) (hg0:RowL CW w0 (some ⟨0,0,none⟩) 1 1 [tab_0]) (hg1:RowL CV w0 (some ⟨1,0,none⟩) 1 1 [tab_1]) (hg2:RowL CV w0 (some ⟨2,0,none⟩) 1 1 [tab_2]):Calls Tryd.prog 21 #[.agg #[I8 a0_0,I8 a0_1,I8 a0_2,I8 a0_3,I8 a0_4],.slice a1_A a1_n a1_c,.slice a2_A a2_n a2_c,.slice a3_A a3_n a3_c] w0 fun e w'=>∃ h:(Option Addr × Nat × Nat),e = .returned (.tuple #[.slice h.1 h.2.1 h.2.2,I8 r1])∧St w0 [] [.ownL CB h.1 h.2.1 h.2.2 r0 5] [] w':=by
 refine calls_k Tryd.func21 rfl fun Q qq=>?_
 have hs:=St.startR (all_cons (RowP.ent hp1) (all_cons (RowP.ent hp2) (all_cons (RowP.ent hp3) (all_cons (RowP.ent hg0) (all_cons (RowP.ent hg1) (all_cons (RowP.ent hg2) all_nil))))))
 refine wc (a':=(fu 131 [.agg #[I8 a0_0,I8 a0_1,I8 a0_2,I8 a0_3,I8 a0_4],.slice a1_A a1_n a1_c,.slice a2_A a2_n a2_c,.slice a3_A a3_n a3_c])) ?_
 refine xs fun _ s1=>?_
 refine xn 3 fun _ j2=>?_
 refine so 0 (oB 4 23 (.agg #[I8 a0_0,I8 a0_1,I8 a0_2,I8 a0_3,I8 a0_4]) hs ([I8 a0_0,I8 a0_1,I8 a0_2,I8 a0_3,I8 a0_4]) fun b1 w gw hs=>?_)
 refine nq 1 [(8,.slice none 0 0),(9,I8 0)] ?_
 refine fj j2 s1 (xs fun _ s3=>(xn 9 fun _ j4=>?_))
 refine tkt 0 23 (.agg #[I8 a0_0,I8 a0_1,I8 a0_2,I8 a0_3,I8 a0_4]) (yW hs 0 5 23 rfl (by simp [enc_len]) .grow) ?_
 obtain ⟨⟨r2,r3,r4⟩,hg,h⟩:=ob h
 refine so 1 (oC 24 hs (kpke_Sizes.ok hg _) fun w gw hs=>?_)
 refine nq 2 [(22,.tuple #[I8 r2,I8 r3,I8 r4]),(25,I8 r2),(26,I8 r3),(27,I8 r4),(10,I8 r2),(11,I8 r3),(12,I8 r4)] ?_
 refine fj j4 s3 (xs fun _ s5=>(xb (xs fun _ s6=>(xn 3 fun _ j7=>?_))))
 refine qo 0 29 (I8 r2) ?_
 obtain ⟨hc,h⟩|⟨hc,h⟩:=of_if h
 refine tb 1 30 (et hc) ?_
 refine qo 2 28 (.bool true) ?_
 refine fj j7 s6 (ct (xs fun _ s8=>(xn 2 fun _ j9=>?_)))
 refine nq 0 [(8,.slice none 0 0),(9,I8 9)] ?_
 refine fj j9 s8 (xret (iR (tr ?_)))
 obtain ⟨rfl,rfl⟩:=os2 h
 have hs:=hs.addNilL CB 5
 exact qq _ _ (pt [8,9] [.slice none 0 0,I8 9] ⟨⟨none,0,0⟩,cr,(pz (dr [1,0] hs))⟩)
 refine tb 1 30 (ef hc) ?_
 refine qo 2 28 (.bool false) ?_
 refine fj j7 s6 (cf (xs fun _ s10=>(xn 5 fun _ j11=>?_)))
 refine qo 0 32 (.slice a1_A a1_n a1_c) ?_
 refine tkf 1 33 (I8 (a1.length:Int)) (yl (hs.rowR 0 rfl)) ?_
 refine qo 2 34 (I8 r2) ?_
 obtain ⟨hc,h⟩|⟨hc,h⟩:=of_if h
 refine tb 3 35 (nf hc) ?_
 refine qo 4 31 (.bool false) ?_
 refine fj j11 s10 (cf (xk (iN (T s5 (xs fun _ s12=>(xn 9 fun _ j13=>?_))))))
 refine nq 0 [(37,.slice a1_A a1_n a1_c),(38,P0 b1)] ?_
 refine tkt 2 39 (I8 a0_0) (yv hs 0 0 3 rfl (by rfl) .grow) ?_
 obtain ⟨⟨r5,r6⟩,hg,h⟩:=ob h
 refine wpS.only 3 (oH 40 hs (kpke_read.ok hg _ (hs.rowR 0 rfl)) ?_)
 rintro ⟨r5_A,r5_n,r5_c⟩ w gw hs
 have hs:=hs.conv (L':=[.ownL CZ r5_A r5_n r5_c r5 32,.blk b1 ([I8 a0_0,I8 a0_1,I8 a0_2,I8 a0_3,I8 a0_4]) 23]) rfl
 refine ⟨fun _=>trivial,?_⟩
 refine nq 4 [(36,.tuple #[.slice r5_A r5_n r5_c,.bool r6]),(41,.slice r5_A r5_n r5_c)] ?_
 cases r6 with
 | true=>
  have h:=of_if_t h
  refine nq 6 [(42,.bool true),(13,.slice r5_A r5_n r5_c),(14,.bool true)] ?_
  refine fj j13 s12 (xs fun _ s14=>(xb (xs fun _ s15=>(xn 3 fun _ j16=>?_))))
  refine nq 0 [(44,.bool true),(45,.bool false),(43,.bool false)] ?_
  refine fj j16 s15 (cf (xs fun _ s17=>(xn 9 fun _ j18=>?_)))
  refine qo 0 47 (.slice a2_A a2_n a2_c) ?_
  refine tkf 1 48 (I8 (a2.length:Int)) (yl (hs.rowR 1 rfl)) ?_
  obtain ⟨hc,h⟩|⟨hc,h⟩:=of_if h
  refine tb 2 49 (nf hc) ?_
  refine nq 3 [(50,.bool false),(51,.slice a3_A a3_n a3_c)] ?_
  refine tkf 5 52 (I8 (a3.length:Int)) (yl (hs.rowR 2 rfl)) ?_
  obtain ⟨hc,h⟩|⟨hc,h⟩:=of_if h
  refine tb 6 53 (nf hc) ?_
  refine nq 7 [(54,.bool false),(46,.bool false)] ?_
  refine fj j18 s17 (cf (xk (iN (T s14 (xs fun _ s19=>?_)))))
  refine rg [5] (fun k=>True) 11 fun _ j20=>?_
  have hs:=hs.drawn1
  refine tgt 0 56 (.agg #[I8 a0_0,I8 a0_1,I8 a0_2,I8 a0_3,I8 a0_4]) (yW hs 1 5 23 rfl (by simp [enc_len]) .grow) ?_
  refine gq 1 57 (.slice a1_A a1_n a1_c) ?_
  refine gq 2 58 (I8 r2) ?_
  refine gq 3 59 (I8 (isub .i64 r2 32)) ?_
  obtain ⟨h0,h1,h⟩:=oc2 h
  obtain ⟨h2,h⟩:=oc h
  obtain ⟨s7_A,hA⟩ : ∃ A,A=if a1_c=((isub .i64 r2 32):Int).toNat then a1_A else adr a1_A (((isub .i64 r2 32):Int).toNat*Cod.size CB):=⟨_,rfl⟩
  obtain ⟨s7_n,hn⟩ : ∃ n,n=((a1.length:Int):Int).toNat-((isub .i64 r2 32):Int).toNat:=⟨_,rfl⟩
  obtain ⟨s7_c,hc⟩ : ∃ c,c=a1_c-((isub .i64 r2 32):Int).toNat:=⟨_,rfl⟩
  refine tgf 4 60 (.slice s7_A s7_n s7_c) (ysb (C:=CB) 24 5 (some (I8 (isub .i64 r2 32))) none (isub .i64 r2 32) (a1.length:Int) (hs.rowR 0 rfl) (.inr ⟨_,rfl⟩) (.inl ⟨rfl,rfl⟩) h0 h1 h2 hA hn hc) ?_
  have hs:=hs.addSub (C:=CB) 0 rfl h0 h1 h2 hA hn hc
  have hs:=hs.pickR (pick_cons 0 rfl (pick_cons 4 rfl (pick_cons 5 rfl (pick_cons 6 rfl (pick_cons 1 rfl (pick_cons 2 rfl (pick_cons 3 rfl pick_nil)))))))
  obtain ⟨⟨r8,r9⟩,hg,h⟩:=ob h
  refine wpG.only 5 (by kernel_rfl) (wpOp_call (d:=(some 61)) (by kernel_rfl) (fun _=>by kernel_rfl) (kpke_expanded_s.ok hg hs) ?_)
  rintro e w ⟨y10_A,y10_n,y10_c,y10_H,rfl,hs⟩
  refine ⟨_,rfl,?_⟩
  refine ⟨⟨fun hf=>absurd hf (by decide),.all _ _⟩,?_⟩
  refine gq 6 55 (.tuple #[.slice y10_A y10_n y10_c,I8 r9]) ?_
  refine gq 7 62 (.slice y10_A y10_n y10_c) ?_
  refine gq 8 63 (I8 r9) ?_
  refine gq 9 15 (.slice y10_A y10_n y10_c) ?_
  refine gq 10 16 (I8 r9) ?_
  refine gf (j20 _ _ ?_)
  refine T s19 (xs fun _ s21=>(xs fun _ s22=>(xn 2 fun _ j23=>?_)))
  refine qo 0 64 (I8 r9) ?_
  obtain ⟨hc,h⟩|⟨hc,h⟩:=of_if h
  refine tb 1 65 (nf hc) ?_
  refine fj j23 s22 (cf (xk (T s21 (xs fun _ s24=>(xn 8 fun _ j25=>?_)))))
  refine qo 0 67 (P0 b1) ?_
  refine tkt 1 68 (I8 a0_0) (yv hs 2 0 3 rfl (by rfl) .grow) ?_
  refine qo 2 69 (.pointer (some ⟨b1,1,none⟩)) ?_
  refine tkt 3 70 (I8 a0_1) (yv hs 2 1 3 rfl (by rfl) .grow) ?_
  refine qo 4 71 (.slice a3_A a3_n a3_c) ?_
  obtain ⟨r14,hg,h⟩:=ob h
  refine wpS.only 5 (oH 72 hs (kpke_noises.ok hg _ (hs.rowR 7 rfl) (hs.rowR 2 rfl) (hs.rowR 3 rfl) (hs.rowR 4 rfl)) ?_)
  rintro ⟨r14_A,r14_n,r14_c⟩ w gw hs
  have hs:=hs.conv (L':=[.ownL CZ r14_A r14_n r14_c r14 32,.ownL CS y10_A y10_n y10_c y10_H 78,.ownL CZ r5_A r5_n r5_c r5 32,.blk b1 ([I8 a0_0,I8 a0_1,I8 a0_2,I8 a0_3,I8 a0_4]) 23]) rfl
  refine ⟨fun _=>trivial,?_⟩
  obtain ⟨r15,hg,h⟩:=ob h
  refine wpS.only 6 (oH 73 hs (kpke_vector_parts.ok hg _ (hs.rowL 0 rfl)) ?_)
  rintro ⟨r15_A,r15_n,r15_c⟩ w gw hs
  have hs:=hs.conv (L':=[.ownL CZ r15_A r15_n r15_c r15 32,.ownL CZ r14_A r14_n r14_c r14 32,.ownL CS y10_A y10_n y10_c y10_H 78,.ownL CZ r5_A r5_n r5_c r5 32,.blk b1 ([I8 a0_0,I8 a0_1,I8 a0_2,I8 a0_3,I8 a0_4]) 23]) rfl
  refine ⟨fun _=>trivial,?_⟩
  refine qo 7 17 (.slice r15_A r15_n r15_c) ?_
  refine fj j25 s24 (xs fun _ s26=>(xn 9 fun _ j27=>?_))
  refine qo 0 74 (P0 b1) ?_
  refine tkt 1 75 (I8 a0_0) (yv hs 4 0 3 rfl (by rfl) .grow) ?_
  refine qo 2 76 (.pointer (some ⟨b1,2,none⟩)) ?_
  refine tkt 3 77 (I8 a0_2) (yv hs 4 2 3 rfl (by rfl) .grow) ?_
  refine nq 4 [(78,.slice a3_A a3_n a3_c),(79,P0 b1)] ?_
  refine tkt 6 80 (I8 a0_0) (yv hs 4 0 3 rfl (by rfl) .grow) ?_
  obtain ⟨r16,hg,h⟩:=ob h
  refine wpS.only 7 (oH 81 hs (kpke_noises.ok hg _ (hs.rowR 7 rfl) (hs.rowR 2 rfl) (hs.rowR 3 rfl) (hs.rowR 4 rfl)) ?_)
  rintro ⟨r16_A,r16_n,r16_c⟩ w gw hs
  have hs:=hs.conv (L':=[.ownL CZ r16_A r16_n r16_c r16 32,.ownL CZ r15_A r15_n r15_c r15 32,.ownL CZ r14_A r14_n r14_c r14 32,.ownL CS y10_A y10_n y10_c y10_H 78,.ownL CZ r5_A r5_n r5_c r5 32,.blk b1 ([I8 a0_0,I8 a0_1,I8 a0_2,I8 a0_3,I8 a0_4]) 23]) rfl
  refine ⟨fun _=>trivial,?_⟩
  refine qo 8 18 (.slice r16_A r16_n r16_c) ?_
  refine fj j27 s26 (xs fun _ s28=>(xs fun _ s29=>(xn 3 fun _ j30=>?_)))
  refine qo 0 82 (.slice y10_A y10_n y10_c) ?_
  refine tkf 1 83 (I8 (r8.length:Int)) (ylLL (LLP.mk (hs.rowL 3 rfl) (hs.innR 0 rfl))) ?_
  refine qo 2 84 (I8 0) ?_
  refine fj j30 s29 (?_)
  obtain ⟨y19,hy,hk0⟩:=ob h
  refine wp_exq (N:=fun a w=>St w0 [] [.ownL CZ r16_A r16_n r16_c y19 32,.ownL CZ r15_A r15_n r15_c r15 32,.ownL CZ r14_A r14_n r14_c r14 32,.ownL CS y10_A y10_n y10_c y10_H 78,.ownL CZ r5_A r5_n r5_c r5 32,.blk b1 ([I8 a0_0,I8 a0_1,I8 a0_2,I8 a0_3,I8 a0_4]) 23] [.inn CZ y10_H r8,.rowL CB s7_A s7_n s7_c (subL a1 (isub .i64 r2 32) (a1.length:Int)),.rowL CW (some ⟨0,0,none⟩) 1 1 ([tab_0]),.rowL CV (some ⟨1,0,none⟩) 1 1 ([tab_1]),.rowL CV (some ⟨2,0,none⟩) 1 1 ([tab_2]),.rowL CB a1_A a1_n a1_c a1,.rowL CB a2_A a2_n a2_c a2,.rowL CB a3_A a3_n a3_c a3] w∧∃ g32,a=fr g32 135 [(2,[.slice a2_A a2_n a2_c,.slice a3_A a3_n a3_c,P0 b1]),(8,[.slice none 0 0,I8 0]),(13,[.slice r5_A r5_n r5_c]),(17,[.slice r15_A r15_n r15_c,.slice r16_A r16_n r16_c])]) (fun N0 nn0=>?_) ?_
  clear hk0
  refine xb ?_
  refine wp_loop_k (fun n a w=>∃ z17 z18,kpke_Encrypt.l0 K n a0_3 r8 r15 z17 z18=some y19∧St w0 [] [.ownL CZ r16_A r16_n r16_c z18 32,.ownL CZ r15_A r15_n r15_c r15 32,.ownL CZ r14_A r14_n r14_c r14 32,.ownL CS y10_A y10_n y10_c y10_H 78,.ownL CZ r5_A r5_n r5_c r5 32,.blk b1 ([I8 a0_0,I8 a0_1,I8 a0_2,I8 a0_3,I8 a0_4]) 23] [.inn CZ y10_H r8,.rowL CB s7_A s7_n s7_c (subL a1 (isub .i64 r2 32) (a1.length:Int)),.rowL CW (some ⟨0,0,none⟩) 1 1 ([tab_0]),.rowL CV (some ⟨1,0,none⟩) 1 1 ([tab_1]),.rowL CV (some ⟨2,0,none⟩) 1 1 ([tab_2]),.rowL CB a1_A a1_n a1_c a1,.rowL CB a2_A a2_n a2_c a2,.rowL CB a3_A a3_n a3_c a3] w∧∃ g31,a=fr g31 135 [(2,[.slice a2_A a2_n a2_c,.slice a3_A a3_n a3_c,P0 b1]),(8,[.slice none 0 0,I8 0]),(13,[.slice r5_A r5_n r5_c]),(17,[.slice r15_A r15_n r15_c,.slice r16_A r16_n r16_c]),(82,[.slice y10_A y10_n y10_c,I8 (r8.length:Int),I8 z17])]) K ⟨0,r16,hy,hs.conv rfl,eg⟩ ?_
  clear hs h hy
  rintro n a w ⟨z17,z18,h,hs,g31,rfl⟩ KL0 kl0
  cases n with
  | zero=>exact nomatch (show none=some _ from h)
  | succ n=>
   refine xs fun _ s33=>?_
   refine xn 1 fun _ j34=>?_
   obtain ⟨hc,h⟩|⟨hc,h⟩:=of_if h
   refine tb 0 85 (dt hc) ?_
   refine fj j34 s33 (xs fun _ s35=>(ct (xk (T s35 (xs fun _ s36=>(xb (xs fun _ s37=>(xn 5 fun _ j38=>?_))))))))
   refine qo 0 86 (I8 z17) ?_
   obtain ⟨h0,h1,h⟩:=oc2 h
   have i0_39:=h0
   have i1_39:=h1
   refine tkf 1 87 (PA CS y10_A z17) (yiLL (C:=CZ) 74 78 .i64 z17 (LLP.mk (hs.rowL 3 rfl) (hs.innR 0 rfl)) h0 h1) ?_
   obtain ⟨s20_A,hA⟩ : ∃ A,A=(rdL CS y10_H z17).1:=⟨_,rfl⟩
   obtain ⟨s20_n,hn⟩ : ∃ n,n=(rdL CS y10_H z17).2.1:=⟨_,rfl⟩
   obtain ⟨s20_c,hc⟩ : ∃ c,c=(rdL CS y10_H z17).2.2:=⟨_,rfl⟩
   refine tkt 2 88 (.slice s20_A s20_n s20_c) (by subst hA hn hc; exact yLL (C:=CZ) 78 z17 (LLP.mk (hs.rowL 3 rfl) (hs.innR 0 rfl)) i0_39 i1_39) ?_
   have hs:=hs.addInnI (C:=CZ) 0 rfl i0_39 i1_39 hA hn hc
   refine nq 3 [(19,I8 z17),(20,.slice s20_A s20_n s20_c)] ?_
   refine fj j38 s37 (?_)
   refine rg [15] (fun k=>True) 16 fun _ j40=>?_
   have hs:=hs.drawn1
   refine gq 0 89 (.slice r16_A r16_n r16_c) ?_
   refine gq 1 90 (I8 z17) ?_
   refine gq 2 91 (.slice r16_A r16_n r16_c) ?_
   refine gq 3 92 (I8 z17) ?_
   obtain ⟨h0,h1,h⟩:=oc2 h
   have i0_41:=h0
   have i1_41:=h1
   refine tgf 4 93 (PA CZ r16_A z17) (yiL (C:=CZ) 78 32 .i64 z17 (hs.rowL 0 rfl) h0 h1) ?_
   refine tgt 5 94 (ag .i32 (rdL CZ z18 z17)) (yLA (C:=CZ) 32 z17 (hs.rowL 0 rfl) rfl i0_41 i1_41) ?_
   refine gq 6 95 (.slice s20_A s20_n s20_c) ?_
   refine gq 7 96 (.slice r15_A r15_n r15_c) ?_
   refine gq 11 100 (.pointer (some ⟨b1,3,none⟩)) ?_
   refine tgt 12 101 (I8 a0_3) (yv hs 5 3 3 rfl (by rfl) .grow) ?_
   obtain ⟨r21,hg,h⟩:=ob h
   refine go 8 (oC 97 hs (kpke_vector_dot.ok hg _ (hs.rowR 0 rfl) (hs.rowL 1 rfl)) fun w gw hs=>⟨.of gw,?_⟩)
   obtain ⟨r22,hg,h⟩:=ob h
   refine go 9 (oC 98 hs (kq_Back.ok hg _) fun w gw hs=>⟨.of gw,?_⟩)
   obtain ⟨r23,hg,h⟩:=ob h
   refine go 10 (oC 99 hs (kq_Add.ok hg _) fun w gw hs=>⟨.of gw,?_⟩)
   obtain ⟨r24,hg,h⟩:=ob h
   refine go 13 (oC 102 hs (kq_Squeeze.ok hg _) fun w gw hs=>⟨.of gw,?_⟩)
   obtain ⟨h0,h1,h⟩:=oc2 h
   have i0_42:=h0
   have i1_42:=h1
   refine tgf 14 103 (PA CZ r16_A z17) (yiL (C:=CZ) 78 32 .i64 z17 (hs.rowL 0 rfl) h0 h1) ?_
   refine go 15 (oL (C:=CZ) 32 z17 r24 hs 0 rfl i0_42 i1_42 fun w hs=>⟨⟨fun hf=>absurd hf (by decide),.all _ _⟩,?_⟩)
   refine gf (j40 _ _ ?_)
   refine iN (T s36 (xn 2 fun _ j43=>?_))
   refine nq 0 [(104,I8 (iadd .i64 z17 1)),(84,I8 (iadd .i64 z17 1))] ?_
   refine fin (j43 _ _ ?_)
   exact tn (kl0 _ _ ⟨n,ls n,(iadd .i64 z17 1),(wrL z18 z17 r24),h,(pk [1,2,3,4,5,6,7,8] hs),eg⟩)
   refine tb 0 85 (df hc) ?_
   refine fj j34 s33 (xs fun _ s44=>(cf (xexit (tx (tx (iH ?_))))))
   obtain rfl:=of_some h
   exact exq_n (nn0 _ _ ⟨(hs.conv rfl),eg⟩)
  clear hs h hy
  rintro a w ⟨hs,g32,rfl⟩
  have h:=hk0
  refine T s28 (xs fun _ s45=>?_)
  obtain ⟨y26,hj,h⟩:=ob h
  refine wp_join (N:=fun a w=>∃ b25,St w0 [] [.blk b25 (enc .i32 y26) 32,.ownL CZ r16_A r16_n r16_c y19 32,.ownL CZ r15_A r15_n r15_c r15 32,.ownL CZ r14_A r14_n r14_c r14 32,.ownL CS y10_A y10_n y10_c y10_H 78,.ownL CZ r5_A r5_n r5_c r5 32,.blk b1 ([I8 a0_0,I8 a0_1,I8 a0_2,I8 a0_3,I8 a0_4]) 23] [.inn CZ y10_H r8,.rowL CB s7_A s7_n s7_c (subL a1 (isub .i64 r2 32) (a1.length:Int)),.rowL CW (some ⟨0,0,none⟩) 1 1 ([tab_0]),.rowL CV (some ⟨1,0,none⟩) 1 1 ([tab_1]),.rowL CV (some ⟨2,0,none⟩) 1 1 ([tab_2]),.rowL CB a1_A a1_n a1_c a1,.rowL CB a2_A a2_n a2_c a2,.rowL CB a3_A a3_n a3_c a3] w∧∃ g46,a=fr g46 135 [(2,[.slice a2_A a2_n a2_c]),(4,[P0 b1]),(8,[.slice none 0 0,I8 0]),(18,[.slice r16_A r16_n r16_c]),(21,[P0 b25])]) (fun N nj=>?_) ?_
  clear h
  have h:=hj
  refine rg [14] (fun k=>True) 15 fun _ j47=>?_
  have hs:=hs.drawn1
  refine gq 0 105 (.slice r5_A r5_n r5_c) ?_
  refine gq 1 106 (.slice r15_A r15_n r15_c) ?_
  refine gq 4 109 (.pointer (some ⟨b1,2,none⟩)) ?_
  refine tgt 5 110 (I8 a0_2) (yv hs 5 2 3 rfl (by rfl) .grow) ?_
  refine gq 6 111 (.slice a3_A a3_n a3_c) ?_
  refine gq 7 112 (P0 b1) ?_
  refine tgt 8 113 (I8 a0_0) (yv hs 5 0 3 rfl (by rfl) .grow) ?_
  refine gq 9 114 (I8 (imul .i64 2 a0_0)) ?_
  refine gq 10 115 (U1 (iconv .u8 (imul .i64 2 a0_0))) ?_
  refine wpG.many [2,13] (by kernel_rfl) (by decide) (forall_cons ?_ (forall_cons ?_ forall_nil))
  obtain ⟨r27,hg,h⟩:=ob h
  refine (oC 107 hs (kpke_vector_dot.ok hg _ (hs.rowL 4 rfl) (hs.rowL 1 rfl)) ?_)
  intro w gw hs
  refine ⟨.of gw,?_⟩
  refine wpG.many [3,13] (by kernel_rfl) (by decide) (forall_cons ?_ (forall_cons ?_ forall_nil))
  obtain ⟨r28,hg,h⟩:=ob h
  refine (oC 108 hs (kq_Back.ok hg _) ?_)
  intro w gw hs
  refine ⟨.of gw,?_⟩
  refine wpG.many [11,13] (by kernel_rfl) (by decide) (forall_cons ?_ (forall_cons ?_ forall_nil))
  obtain ⟨r29,hg,h⟩:=ob h
  refine (oC 116 hs (kpke_Noise.ok hg _ (hs.rowR 7 rfl) (hs.rowR 2 rfl) (hs.rowR 3 rfl) (hs.rowR 4 rfl)) ?_)
  intro w gw hs
  refine ⟨.of gw,?_⟩
  refine wpG.many [12,13] (by kernel_rfl) (by decide) (forall_cons ?_ (forall_cons ?_ forall_nil))
  obtain ⟨r30,hg,h⟩:=ob h
  refine (oC 117 hs (kq_Add.ok hg _) ?_)
  intro w gw hs
  refine ⟨.of gw,?_⟩
  refine go 13 (oN 21 32 hs (enc .i32 (zeroA 256)) (ag .i32 (zeroA 256)) fun b31 w gw hs=>⟨.of gw,?_⟩)
  refine go 14 (oWe 32 .i32 r30 hs 0 fun w kp hs=>⟨⟨fun hf=>absurd hf (by decide),.all _ _⟩,?_⟩)
  refine gf (j47 _ _ ?_)
  obtain rfl:=of_some h
  exact nj _ _ ⟨b31,(hs.conv rfl),eg⟩
  refine (oN 21 32 hs (enc .i32 (zeroA 256)) (ag .i32 (zeroA 256)) ?_)
  intro b32 w gw hs
  refine ⟨.of gw,?_⟩
  obtain ⟨r33,hg,h⟩:=ob h
  refine go 12 (oC 117 hs (kq_Add.ok hg _) fun w gw hs=>⟨.of gw,?_⟩)
  refine go 14 (oWe 32 .i32 r33 hs 0 fun w kp hs=>⟨⟨fun hf=>absurd hf (by decide),.all _ _⟩,?_⟩)
  refine gf (j47 _ _ ?_)
  obtain rfl:=of_some h
  exact nj _ _ ⟨b32,(hs.conv rfl),eg⟩
  refine (oN 21 32 hs (enc .i32 (zeroA 256)) (ag .i32 (zeroA 256)) ?_)
  intro b34 w gw hs
  refine ⟨.of gw,?_⟩
  obtain ⟨r35,hg,h⟩:=ob h
  refine go 11 (oC 116 hs (kpke_Noise.ok hg _ (hs.rowR 7 rfl) (hs.rowR 2 rfl) (hs.rowR 3 rfl) (hs.rowR 4 rfl)) fun w gw hs=>⟨.of gw,?_⟩)
  obtain ⟨r36,hg,h⟩:=ob h
  refine go 12 (oC 117 hs (kq_Add.ok hg _) fun w gw hs=>⟨.of gw,?_⟩)
  refine go 14 (oWe 32 .i32 r36 hs 0 fun w kp hs=>⟨⟨fun hf=>absurd hf (by decide),.all _ _⟩,?_⟩)
  refine gf (j47 _ _ ?_)
  obtain rfl:=of_some h
  exact nj _ _ ⟨b34,(hs.conv rfl),eg⟩
  refine (oN 21 32 hs (enc .i32 (zeroA 256)) (ag .i32 (zeroA 256)) ?_)
  intro b37 w gw hs
  refine ⟨.of gw,?_⟩
  obtain ⟨r38,hg,h⟩:=ob h
  refine go 3 (oC 108 hs (kq_Back.ok hg _) fun w gw hs=>⟨.of gw,?_⟩)
  obtain ⟨r39,hg,h⟩:=ob h
  refine go 11 (oC 116 hs (kpke_Noise.ok hg _ (hs.rowR 7 rfl) (hs.rowR 2 rfl) (hs.rowR 3 rfl) (hs.rowR 4 rfl)) fun w gw hs=>⟨.of gw,?_⟩)
  obtain ⟨r40,hg,h⟩:=ob h
  refine go 12 (oC 117 hs (kq_Add.ok hg _) fun w gw hs=>⟨.of gw,?_⟩)
  refine go 14 (oWe 32 .i32 r40 hs 0 fun w kp hs=>⟨⟨fun hf=>absurd hf (by decide),.all _ _⟩,?_⟩)
  refine gf (j47 _ _ ?_)
  obtain rfl:=of_some h
  exact nj _ _ ⟨b37,(hs.conv rfl),eg⟩
  refine (oN 21 32 hs (enc .i32 (zeroA 256)) (ag .i32 (zeroA 256)) ?_)
  intro b41 w gw hs
  refine ⟨.of gw,?_⟩
  obtain ⟨r42,hg,h⟩:=ob h
  refine go 2 (oC 107 hs (kpke_vector_dot.ok hg _ (hs.rowL 5 rfl) (hs.rowL 2 rfl)) fun w gw hs=>⟨.of gw,?_⟩)
  obtain ⟨r43,hg,h⟩:=ob h
  refine go 3 (oC 108 hs (kq_Back.ok hg _) fun w gw hs=>⟨.of gw,?_⟩)
  obtain ⟨r44,hg,h⟩:=ob h
  refine go 11 (oC 116 hs (kpke_Noise.ok hg _ (hs.rowR 7 rfl) (hs.rowR 2 rfl) (hs.rowR 3 rfl) (hs.rowR 4 rfl)) fun w gw hs=>⟨.of gw,?_⟩)
  obtain ⟨r45,hg,h⟩:=ob h
  refine go 12 (oC 117 hs (kq_Add.ok hg _) fun w gw hs=>⟨.of gw,?_⟩)
  refine go 14 (oWe 32 .i32 r45 hs 0 fun w kp hs=>⟨⟨fun hf=>absurd hf (by decide),.all _ _⟩,?_⟩)
  refine gf (j47 _ _ ?_)
  obtain rfl:=of_some h
  exact nj _ _ ⟨b41,(hs.conv rfl),eg⟩
  clear hj hs
  rintro a w ⟨b25,hs,g46,rfl⟩
  refine T s45 (xs fun _ s48=>?_)
  refine rg [7] (fun k=>True) 8 fun _ j49=>?_
  have hs:=hs.drawn1
  refine tgt 0 118 (ag .i32 y26) (yWe 32 hs 0 .grow) ?_
  refine gq 1 119 (.slice a2_A a2_n a2_c) ?_
  refine gq 4 122 (.pointer (some ⟨b1,4,none⟩)) ?_
  refine tgt 5 123 (I8 a0_4) (yv hs 6 4 3 rfl (by rfl) .grow) ?_
  obtain ⟨r46,hg,h⟩:=ob h
  refine go 2 (oC 120 hs (kpke_spread.ok hg _ (hs.rowR 6 rfl)) fun w gw hs=>⟨.of gw,?_⟩)
  obtain ⟨r47,hg,h⟩:=ob h
  refine go 3 (oC 121 hs (kq_Add.ok hg _) fun w gw hs=>⟨.of gw,?_⟩)
  obtain ⟨r48,hg,h⟩:=ob h
  refine go 6 (oC 124 hs (kq_Squeeze.ok hg _) fun w gw hs=>⟨.of gw,?_⟩)
  refine go 7 (oWe 32 .i32 r48 hs 0 fun w kp hs=>⟨⟨fun hf=>absurd hf (by decide),.all _ _⟩,?_⟩)
  refine gf (j49 _ _ ?_)
  refine T s48 (xs fun _ s50=>?_)
  refine rg [] (fun k=>True) 12 fun _ j51=>?_
  have hs:=hs.drawn1
  refine gq 0 125 (.slice r16_A r16_n r16_c) ?_
  refine gq 1 126 (.pointer (some ⟨b1,3,none⟩)) ?_
  refine tgt 2 127 (I8 a0_3) (yv hs 6 3 3 rfl (by rfl) .grow) ?_
  refine tgt 4 129 (ag .i32 r48) (yWe 32 hs 0 .grow) ?_
  refine gq 5 130 (.pointer (some ⟨b1,4,none⟩)) ?_
  refine tgt 6 131 (I8 a0_4) (yv hs 6 4 3 rfl (by rfl) .grow) ?_
  obtain ⟨r49,hg,h⟩:=ob h
  refine wpG.only 3 (by kernel_rfl) (oH 128 hs (kpke_vector_packed.ok hg _ (hs.rowL 1 rfl)) ?_)
  rintro ⟨r49_A,r49_n,r49_c⟩ w gw hs
  have hs:=hs.conv (L':=[.ownL CB r49_A r49_n r49_c r49 5,.blk b25 (enc .i32 r48) 32,.ownL CZ r16_A r16_n r16_c y19 32,.ownL CZ r15_A r15_n r15_c r15 32,.ownL CZ r14_A r14_n r14_c r14 32,.ownL CS y10_A y10_n y10_c y10_H 78,.ownL CZ r5_A r5_n r5_c r5 32,.blk b1 ([I8 a0_0,I8 a0_1,I8 a0_2,I8 a0_3,I8 a0_4]) 23]) rfl
  refine ⟨.of gw,?_⟩
  obtain ⟨r50,hg,h⟩:=ob h
  refine wpG.only 7 (by kernel_rfl) (oH 132 hs (kq_Pack.ok hg _) ?_)
  rintro ⟨r50_A,r50_n,r50_c⟩ w gw hs
  have hs:=hs.conv (L':=[.ownL CB r50_A r50_n r50_c r50 5,.ownL CB r49_A r49_n r49_c r49 5,.blk b25 (enc .i32 r48) 32,.ownL CZ r16_A r16_n r16_c y19 32,.ownL CZ r15_A r15_n r15_c r15 32,.ownL CZ r14_A r14_n r14_c r14 32,.ownL CS y10_A y10_n y10_c y10_H 78,.ownL CZ r5_A r5_n r5_c r5 32,.blk b1 ([I8 a0_0,I8 a0_1,I8 a0_2,I8 a0_3,I8 a0_4]) 23]) rfl
  refine ⟨.of gw,?_⟩
  refine go 8 (oLt (C:=CS) 133 59 24 2 (.slice none 0 0) #[(0,.slice r49_A r49_n r49_c),(1,.slice r50_A r50_n r50_c)] ([(r49_A,r49_n,r49_c),(r50_A,r50_n,r50_c)]:List HS) hs rfl (by decide) (by decide) fun s51_A s51_n s51_c w gw hs=>⟨.of gw,?_⟩)
  obtain ⟨r52,hg,h⟩:=ob h
  refine wpG.only 9 (by kernel_rfl) (oH 134 hs (bits_Join.ok hg _ (LLP.mk (hs.rowL 0 rfl) (inn_cons (hs.rowL 2 rfl) (inn_cons (hs.rowL 1 rfl) inn_nil)))) ?_)
  rintro ⟨r52_A,r52_n,r52_c⟩ w gw hs
  have hs:=hs.conv (L':=[.ownL CB r52_A r52_n r52_c r52 5,.ownL CS s51_A s51_n s51_c ([(r49_A,r49_n,r49_c),(r50_A,r50_n,r50_c)]:List HS) 24,.ownL CB r50_A r50_n r50_c r50 5,.ownL CB r49_A r49_n r49_c r49 5,.blk b25 (enc .i32 r48) 32,.ownL CZ r16_A r16_n r16_c y19 32,.ownL CZ r15_A r15_n r15_c r15 32,.ownL CZ r14_A r14_n r14_c r14 32,.ownL CS y10_A y10_n y10_c y10_H 78,.ownL CZ r5_A r5_n r5_c r5 32,.blk b1 ([I8 a0_0,I8 a0_1,I8 a0_2,I8 a0_3,I8 a0_4]) 23]) rfl
  refine ⟨.of gw,?_⟩
  refine gq 10 8 (.slice r52_A r52_n r52_c) ?_
  refine gq 11 9 (I8 0) ?_
  refine gf (j51 _ _ ?_)
  refine T s50 (xret ?_)
  obtain ⟨rfl,rfl⟩:=os2 h
  exact qq _ _ (pt [8,9] [.slice r52_A r52_n r52_c,I8 0] ⟨⟨r52_A,r52_n,r52_c⟩,cr,(pz (dr [1,0,0,0,0,0,0,0,0,0,0] hs))⟩)
  refine tb 1 65 (nt hc) ?_
  refine fj j23 s22 (ct (xs fun _ s52=>(xn 3 fun _ j53=>?_)))
  refine nq 0 [(66,I8 r9),(8,.slice none 0 0),(9,I8 r9)] ?_
  refine fj j53 s52 (xret (tr ?_))
  obtain ⟨rfl,rfl⟩:=os2 h
  have hs:=hs.addNilL CB 5
  exact qq _ _ (pt [8,9] [.slice none 0 0,I8 r9] ⟨⟨none,0,0⟩,cr,(pz (dr [1,0,0,0] hs))⟩)
  refine tb 6 53 (nt hc) ?_
  refine nq 7 [(54,.bool true),(46,.bool true)] ?_
  refine fj j18 s17 (ct (xs fun _ s54=>(xn 2 fun _ j55=>?_)))
  refine nq 0 [(8,.slice none 0 0),(9,I8 14)] ?_
  refine fj j55 s54 (xret (iR (tr ?_)))
  obtain ⟨rfl,rfl⟩:=os2 h
  have hs:=hs.addNilL CB 5
  exact qq _ _ (pt [8,9] [.slice none 0 0,I8 14] ⟨⟨none,0,0⟩,cr,(pz (dr [1,0,0] hs))⟩)
  refine tb 2 49 (nt hc) ?_
  refine nq 3 [(50,.bool true),(51,undef),(52,undef),(53,undef),(54,.bool true),(46,.bool true)] ?_
  refine fj j18 s17 (ct (xs fun _ s56=>(xn 2 fun _ j57=>?_)))
  refine nq 0 [(8,.slice none 0 0),(9,I8 14)] ?_
  refine fj j57 s56 (xret (iR (tr ?_)))
  obtain ⟨rfl,rfl⟩:=os2 h
  have hs:=hs.addNilL CB 5
  exact qq _ _ (pt [8,9] [.slice none 0 0,I8 14] ⟨⟨none,0,0⟩,cr,(pz (dr [1,0,0] hs))⟩)
 | false=>
  have h:=of_if_f h
  refine nq 6 [(42,.bool false),(13,.slice r5_A r5_n r5_c),(14,.bool false)] ?_
  refine fj j13 s12 (xs fun _ s58=>(xb (xs fun _ s59=>(xn 3 fun _ j60=>?_))))
  refine nq 0 [(44,.bool false),(45,.bool true),(43,.bool true)] ?_
  refine fj j60 s59 (ct (xs fun _ s61=>(xn 2 fun _ j62=>?_)))
  refine nq 0 [(8,.slice none 0 0),(9,I8 10)] ?_
  refine fj j62 s61 (xret (iR (tr ?_)))
  obtain ⟨rfl,rfl⟩:=os2 h
  have hs:=hs.addNilL CB 5
  exact qq _ _ (pt [8,9] [.slice none 0 0,I8 10] ⟨⟨none,0,0⟩,cr,(pz (dr [1,0,0] hs))⟩)
 refine tb 3 35 (nt hc) ?_
 refine qo 4 31 (.bool true) ?_
 refine fj j11 s10 (ct (xs fun _ s63=>(xn 2 fun _ j64=>?_)))
 refine nq 0 [(8,.slice none 0 0),(9,I8 10)] ?_
 refine fj j64 s63 (xret (iR (tr ?_)))
 obtain ⟨rfl,rfl⟩:=os2 h
 have hs:=hs.addNilL CB 5
 exact qq _ _ (pt [8,9] [.slice none 0 0,I8 10] ⟨⟨none,0,0⟩,cr,(pz (dr [1,0] hs))⟩)
theorem law26_awake.ok {K:Nat}{r0:Bool}(h:law26_awake.f K=some r0) (w0:World) (hg0:RowL CW w0 (some ⟨0,0,none⟩) 1 1 [tab_0]) (hg1:RowL CV w0 (some ⟨1,0,none⟩) 1 1 [tab_1]) (hg2:RowL CV w0 (some ⟨2,0,none⟩) 1 1 [tab_2]):Ret Tryd.prog 9 #[] w0 (.bool r0):=by
 refine calls_k Tryd.func9 rfl fun Q qq=>?_
 have hs:=St.startR (all_cons (RowP.ent hg0) (all_cons (RowP.ent hg1) (all_cons (RowP.ent hg2) all_nil)))
 refine wc (a':=(fu 40 [])) ?_
 refine xs fun _ s1=>?_
 refine xn 1 fun _ j2=>?_
 refine qo 0 0 (.bool false) ?_
 refine fj j2 s1 (xs fun _ s3=>(xn 7 fun _ j4=>?_))
 obtain ⟨⟨r1_0,r1_1,r1_2,r1_3,r1_4,r2⟩,hg,h⟩:=ob h
 refine so 0 (oC 9 hs (kpke_Set.ok hg _) fun w gw hs=>?_)
 refine nq 1 [(8,.tuple #[.agg #[I8 r1_0,I8 r1_1,I8 r1_2,I8 r1_3,I8 r1_4],.bool r2]),(10,.agg #[I8 r1_0,I8 r1_1,I8 r1_2,I8 r1_3,I8 r1_4])] ?_
 cases r2 with
 | true=>
  have h:=of_if_t h
  refine qo 3 11 (.bool true) ?_
  refine so 4 (oN 1 23 hs ([I8 0,I8 0,I8 0,I8 0,I8 0]) (.agg #[I8 0,I8 0,I8 0,I8 0,I8 0]) fun b3 w gw hs=>?_)
  refine so 5 (oWa 23 [I8 r1_0,I8 r1_1,I8 r1_2,I8 r1_3,I8 r1_4] hs 0 fun w kp hs=>?_)
  refine qo 6 2 (.bool true) ?_
  refine fj j4 s3 (xs fun _ s5=>(xn 9 fun _ j6=>?_))
  refine tkt 0 13 (.agg #[I8 r1_0,I8 r1_1,I8 r1_2,I8 r1_3,I8 r1_4]) (yW hs 0 5 23 rfl (by simp [enc_len]) .grow) ?_
  obtain ⟨⟨r4,r5,r6⟩,hg,h⟩:=ob h
  refine so 1 (oC 14 hs (kpke_Sizes.ok hg _) fun w gw hs=>?_)
  refine nq 2 [(12,.tuple #[I8 r4,I8 r5,I8 r6]),(15,I8 r4),(16,I8 r5),(17,I8 r6),(3,I8 r4),(4,I8 r5),(5,I8 r6)] ?_
  refine fj j6 s5 (xs fun _ s7=>(xn 7 fun _ j8=>?_))
  refine tkt 0 19 (.agg #[I8 r1_0,I8 r1_1,I8 r1_2,I8 r1_3,I8 r1_4]) (yW hs 0 5 23 rfl (by simp [enc_len]) .grow) ?_
  obtain ⟨⟨r7,r8⟩,hg,h⟩:=ob h
  refine wpS.only 1 (oH 20 hs (kpke_Encrypt.ok hg _ (RowL.nil _) (RowL.nil _) (RowL.nil _) (hs.rowR 0 rfl) (hs.rowR 1 rfl) (hs.rowR 2 rfl)) ?_)
  rintro ⟨r7_A,r7_n,r7_c⟩ w gw hs
  have hs:=hs.conv (L':=[.ownL CB r7_A r7_n r7_c r7 5,.blk b3 ([I8 r1_0,I8 r1_1,I8 r1_2,I8 r1_3,I8 r1_4]) 23]) rfl
  refine ⟨fun _=>trivial,?_⟩
  refine nq 2 [(18,.tuple #[.slice r7_A r7_n r7_c,I8 r8]),(21,.slice r7_A r7_n r7_c),(22,I8 r8),(6,.slice r7_A r7_n r7_c),(7,I8 r8)] ?_
  refine fj j8 s7 (xs fun _ s9=>(xn 18 fun _ j10=>?_))
  refine nq 0 [(23,.bool true),(24,.bool true),(25,I8 r4)] ?_
  obtain ⟨hc,h⟩|⟨hc,h⟩:=of_if h
  refine tb 3 26 (et hc) ?_
  refine nq 4 [(27,.bool true),(28,.bool true),(29,I8 r5)] ?_
  obtain ⟨hc,h⟩|⟨hc,h⟩:=of_if h
  refine tb 7 30 (et hc) ?_
  refine nq 8 [(31,.bool true),(32,.bool true),(33,I8 r6)] ?_
  obtain ⟨hc,h⟩|⟨hc,h⟩:=of_if h
  refine tb 11 34 (et hc) ?_
  refine nq 12 [(35,.bool true),(36,.bool true),(37,I8 r8),(38,.bool (r8 == 10)),(39,.bool (r8 == 10)),(0,.bool (r8 == 10))] ?_
  refine fj j10 s9 (xret ?_)
  obtain rfl:=of_some h
  exact qq _ _ (pt [0] [.bool (r8 == 10)] ⟨cr,hs.none⟩)
  refine tb 11 34 (ef hc) ?_
  refine nq 12 [(35,.bool false),(36,.bool false),(37,undef),(38,undef),(39,.bool false),(0,.bool false)] ?_
  refine fj j10 s9 (xret ?_)
  obtain rfl:=of_some h
  exact qq _ _ (pt [0] [.bool false] ⟨cr,hs.none⟩)
  refine tb 7 30 (ef hc) ?_
  refine nq 8 [(31,.bool false),(32,.bool false),(33,undef),(34,undef),(35,.bool false),(36,.bool false),(37,undef),(38,undef),(39,.bool false),(0,.bool false)] ?_
  refine fj j10 s9 (xret ?_)
  obtain rfl:=of_some h
  exact qq _ _ (pt [0] [.bool false] ⟨cr,hs.none⟩)
  refine tb 3 26 (ef hc) ?_
  refine nq 4 [(27,.bool false),(28,.bool false),(29,undef),(30,undef),(31,.bool false),(32,.bool false),(33,undef),(34,undef),(35,.bool false),(36,.bool false),(37,undef),(38,undef),(39,.bool false),(0,.bool false)] ?_
  refine fj j10 s9 (xret ?_)
  obtain rfl:=of_some h
  exact qq _ _ (pt [0] [.bool false] ⟨cr,hs.none⟩)
 | false=>
  have h:=of_if_f h
  refine qo 3 11 (.bool false) ?_
  refine so 4 (oN 1 23 hs ([I8 0,I8 0,I8 0,I8 0,I8 0]) (.agg #[I8 0,I8 0,I8 0,I8 0,I8 0]) fun b9 w gw hs=>?_)
  refine so 5 (oWa 23 [I8 r1_0,I8 r1_1,I8 r1_2,I8 r1_3,I8 r1_4] hs 0 fun w kp hs=>?_)
  refine qo 6 2 (.bool false) ?_
  refine fj j4 s3 (xs fun _ s11=>(xn 9 fun _ j12=>?_))
  refine tkt 0 13 (.agg #[I8 r1_0,I8 r1_1,I8 r1_2,I8 r1_3,I8 r1_4]) (yW hs 0 5 23 rfl (by simp [enc_len]) .grow) ?_
  obtain ⟨⟨r10,r11,r12⟩,hg,h⟩:=ob h
  refine so 1 (oC 14 hs (kpke_Sizes.ok hg _) fun w gw hs=>?_)
  refine nq 2 [(12,.tuple #[I8 r10,I8 r11,I8 r12]),(15,I8 r10),(16,I8 r11),(17,I8 r12),(3,I8 r10),(4,I8 r11),(5,I8 r12)] ?_
  refine fj j12 s11 (xs fun _ s13=>(xn 7 fun _ j14=>?_))
  refine tkt 0 19 (.agg #[I8 r1_0,I8 r1_1,I8 r1_2,I8 r1_3,I8 r1_4]) (yW hs 0 5 23 rfl (by simp [enc_len]) .grow) ?_
  obtain ⟨⟨r13,r14⟩,hg,h⟩:=ob h
  refine wpS.only 1 (oH 20 hs (kpke_Encrypt.ok hg _ (RowL.nil _) (RowL.nil _) (RowL.nil _) (hs.rowR 0 rfl) (hs.rowR 1 rfl) (hs.rowR 2 rfl)) ?_)
  rintro ⟨r13_A,r13_n,r13_c⟩ w gw hs
  have hs:=hs.conv (L':=[.ownL CB r13_A r13_n r13_c r13 5,.blk b9 ([I8 r1_0,I8 r1_1,I8 r1_2,I8 r1_3,I8 r1_4]) 23]) rfl
  refine ⟨fun _=>trivial,?_⟩
  refine nq 2 [(18,.tuple #[.slice r13_A r13_n r13_c,I8 r14]),(21,.slice r13_A r13_n r13_c),(22,I8 r14),(6,.slice r13_A r13_n r13_c),(7,I8 r14)] ?_
  refine fj j14 s13 (xs fun _ s15=>(xn 18 fun _ j16=>?_))
  refine nq 0 [(23,.bool false),(24,.bool false),(25,undef),(26,undef),(27,.bool false),(28,.bool false),(29,undef),(30,undef),(31,.bool false),(32,.bool false),(33,undef),(34,undef),(35,.bool false),(36,.bool false),(37,undef),(38,undef),(39,.bool false),(0,.bool false)] ?_
  refine fj j16 s15 (xret ?_)
  obtain rfl:=of_some h
  exact qq _ _ (pt [0] [.bool false] ⟨cr,hs.none⟩)
theorem ref26_Set.ok {K:Nat}{a0 r0_0 r0_1 r0_2 r0_3 r0_4:Int}{r1:Bool}(h:ref26_Set.f K a0=some (r0_0,r0_1,r0_2,r0_3,r0_4,r1)) (w0:World):Ret Tryd.prog 11 #[I8 a0] w0 (.tuple #[.agg #[I8 r0_0,I8 r0_1,I8 r0_2,I8 r0_3,I8 r0_4],.bool r1]):=by
 refine calls_k Tryd.func11 rfl fun Q qq=>?_
 have hs:=St.start w0
 refine wc (a':=(fu 14 [I8 a0])) ?_
 refine xs fun _ s1=>?_
 refine xn 2 fun _ j2=>?_
 refine so 0 (oN 2 23 hs ([I8 0,I8 0,I8 0,I8 0,I8 0]) (.agg #[I8 0,I8 0,I8 0,I8 0,I8 0]) fun b1 w gw hs=>?_)
 refine qo 1 3 (.bool false) ?_
 refine fj j2 s1 (xs fun _ s3=>(xs fun _ s4=>(xn 1 fun _ j5=>?_)))
 refine qo 0 4 (I8 a0) ?_
 refine fj j5 s4 (xb (xs fun _ s6=>(xn 2 fun _ j7=>?_)))
 obtain ⟨hc,h⟩|⟨hc,h⟩:=of_if h
 refine tb 0 6 (et hc) ?_
 refine qo 1 5 (.bool true) ?_
 refine fj j7 s6 (ct (xs fun _ s8=>(xn 3 fun _ j9=>?_)))
 refine qo 0 7 (.agg #[I8 2,I8 3,I8 2,I8 10,I8 4]) ?_
 refine so 1 (oWa 23 [I8 2,I8 3,I8 2,I8 10,I8 4] hs 0 fun w kp hs=>?_)
 refine qo 2 3 (.bool true) ?_
 refine fj j9 s8 (xret (iR (tr ?_)))
 obtain ⟨rfl,rfl,rfl,rfl,rfl,rfl⟩:=os6 h
 exact qq _ _ (pr (rr [.cell 2 23,.tmp 3] [.agg #[I8 2,I8 3,I8 2,I8 10,I8 4],.bool true] (.cons (rcN 5 hs 0 rfl (by simp [enc_len])) (.cons rt .nil))) ⟨cr,hs.none⟩)
 refine tb 0 6 (ef hc) ?_
 refine qo 1 5 (.bool false) ?_
 refine fj j7 s6 (cf (xs fun _ s10=>(xn 2 fun _ j11=>?_)))
 obtain ⟨hc,h⟩|⟨hc,h⟩:=of_if h
 refine tb 0 9 (et hc) ?_
 refine qo 1 8 (.bool true) ?_
 refine fj j11 s10 (ct (xs fun _ s12=>(xn 3 fun _ j13=>?_)))
 refine qo 0 10 (.agg #[I8 3,I8 2,I8 2,I8 10,I8 4]) ?_
 refine so 1 (oWa 23 [I8 3,I8 2,I8 2,I8 10,I8 4] hs 0 fun w kp hs=>?_)
 refine qo 2 3 (.bool true) ?_
 refine fj j13 s12 (xret (iR (tr ?_)))
 obtain ⟨rfl,rfl,rfl,rfl,rfl,rfl⟩:=os6 h
 exact qq _ _ (pr (rr [.cell 2 23,.tmp 3] [.agg #[I8 3,I8 2,I8 2,I8 10,I8 4],.bool true] (.cons (rcN 5 hs 0 rfl (by simp [enc_len])) (.cons rt .nil))) ⟨cr,hs.none⟩)
 refine tb 0 9 (ef hc) ?_
 refine qo 1 8 (.bool false) ?_
 refine fj j11 s10 (cf (xs fun _ s14=>(xn 2 fun _ j15=>?_)))
 obtain ⟨hc,h⟩|⟨hc,h⟩:=of_if h
 refine tb 0 12 (et hc) ?_
 refine qo 1 11 (.bool true) ?_
 refine fj j15 s14 (ct (xs fun _ s16=>(xn 3 fun _ j17=>?_)))
 refine qo 0 13 (.agg #[I8 4,I8 2,I8 2,I8 11,I8 5]) ?_
 refine so 1 (oWa 23 [I8 4,I8 2,I8 2,I8 11,I8 5] hs 0 fun w kp hs=>?_)
 refine qo 2 3 (.bool true) ?_
 refine fj j17 s16 (xret (iR (tr ?_)))
 obtain ⟨rfl,rfl,rfl,rfl,rfl,rfl⟩:=os6 h
 exact qq _ _ (pr (rr [.cell 2 23,.tmp 3] [.agg #[I8 4,I8 2,I8 2,I8 11,I8 5],.bool true] (.cons (rcN 5 hs 0 rfl (by simp [enc_len])) (.cons rt .nil))) ⟨cr,hs.none⟩)
 refine tb 0 12 (ef hc) ?_
 refine qo 1 11 (.bool false) ?_
 refine fj j15 s14 (cf (xk (iN (T s3 (xs fun _ s18=>(xn 3 fun _ j19=>?_))))))
 refine qo 0 14 (.agg #[I8 0,I8 0,I8 0,I8 0,I8 0]) ?_
 refine so 1 (oWa 23 [I8 0,I8 0,I8 0,I8 0,I8 0] hs 0 fun w kp hs=>?_)
 refine qo 2 3 (.bool false) ?_
 refine fj j19 s18 (xret ?_)
 obtain ⟨rfl,rfl,rfl,rfl,rfl,rfl⟩:=os6 h
 exact qq _ _ (pr (rr [.cell 2 23,.tmp 3] [.agg #[I8 0,I8 0,I8 0,I8 0,I8 0],.bool false] (.cons (rcN 5 hs 0 rfl (by simp [enc_len])) (.cons rt .nil))) ⟨cr,hs.none⟩)
end Go.Proofs.YtemdbgmldljbpaaDoor
