/- own -/
import Derived.Test.YtemdbgmldljbpaaDoorMh
import Derived.Test.YtemdbgmldljbpaaDoorProg
import Derived.Test.YtemdbgmldljbpaaDoorYF0
import Derived.Test.YtemdbgmldljbpaaDoorYX0
import Derived.Test.YtemdbgmldljbpaaDoorYX1
import Derived.Test.YtemdbgmldljbpaaDoorYX2
import Derived.Test.YtemdbgmldljbpaaDoorYX3
import Derived.Test.YtemdbgmldljbpaaDoorYX4
import Derived.Test.YtemdbgmldljbpaaDoorYX5
import Derived.Test.YtemdbgmldljbpaaDoorYX6
set_option linter.unusedVariables false
set_option linter.unusedSimpArgs false
set_option maxRecDepth 100000
set_option maxHeartbeats 4000000
namespace Go.Proofs.YtemdbgmldljbpaaDoor
open Go.Mx
attribute [local irreducible] wpOp
theorem kpke_expanded_s2.ok {K:Nat}{ca0 ca1 ca2 ca3 ca4:Int}{ca5:List Int}{y1:List (List (Arr 256))}{y2:Int}{ca5_A:Option Addr}{ca5_n ca5_c:Nat}(h:kpke_expanded_s2.f K ca0 ca1 ca2 ca3 ca4 ca5=some (y1,y2)){w0 w:World}{X:List Nat}{Lt Rt:List Ent}(hs:St w0 X Lt (.rowL CB ca5_A ca5_n ca5_c ca5::.rowL CW (some ⟨0,0,none⟩) 1 1 ([tab_0])::.rowL CV (some ⟨1,0,none⟩) 1 1 ([tab_1])::.rowL CV (some ⟨2,0,none⟩) 1 1 ([tab_2])::Rt) w):Calls Tryd.prog 43 #[.agg #[I8 ca0,I8 ca1,I8 ca2,I8 ca3,I8 ca4],.slice ca5_A ca5_n ca5_c,.bool false] w fun e w'=>∃ (y1_A:Option Addr) (y1_n:Nat) (y1_c:Nat) (y1_H:List HS),e = .returned (.tuple #[.slice y1_A y1_n y1_c,I8 y2])∧St w0 X (.ownL CS y1_A y1_n y1_c y1_H 78::Lt) (.inn CZ y1_H y1::.rowL CB ca5_A ca5_n ca5_c ca5::.rowL CW (some ⟨0,0,none⟩) 1 1 ([tab_0])::.rowL CV (some ⟨1,0,none⟩) 1 1 ([tab_1])::.rowL CV (some ⟨2,0,none⟩) 1 1 ([tab_2])::Rt) w':=by
 refine calls_k Tryd.func43 rfl fun Q qq=>?_
 refine wc (a':=(fu 55 [.agg #[I8 ca0,I8 ca1,I8 ca2,I8 ca3,I8 ca4],.slice ca5_A ca5_n ca5_c,.bool false])) ?_
 refine xs fun _ s1=>?_
 refine xn 3 fun _ j2=>?_
 refine so 0 (oBa 3 23 hs [I8 ca0,I8 ca1,I8 ca2,I8 ca3,I8 ca4] fun b3 w gw hs=>?_)
 refine nq 1 [(6,.slice none 0 0),(7,I8 0)] ?_
 refine fj j2 s1 (xs fun _ s3=>(xn 4 fun _ j4=>?_))
 refine qo 0 15 (P0 b3) ?_
 refine tkt 1 16 _ (yv hs 0 0 3 rfl (by rfl) .grow) ?_
 obtain ⟨h0,h1,h⟩:=oc2 h
 refine so 2 (oMk (C:=CS) 17 74 78 24 5864062014805 .i64 .i64 ca0 hs h0 h1 (by decide) (by decide) fun s4_A s4_n s4_c w gw hs=>?_)
 have hs:=hs.addInns0 CZ 32 (ca0:Int).toNat
 refine qo 3 8 (.slice s4_A s4_n s4_c) ?_
 refine fj j4 s3 (xs fun _ s5=>(xs fun _ s6=>(xn 3 fun _ j7=>?_)))
 refine qo 0 18 (.slice s4_A s4_n s4_c) ?_
 refine tkf 1 19 (I8 ((List.replicate (ca0:Int).toNat ([]:List (Arr 256))).length:Int)) (ylNN (⟨hs.rowL 1 rfl,hs.innsLen 0 rfl⟩ : NNP _ _ _ _ _ _)) ?_
 refine qo 2 20 (I8 0) ?_
 refine fj j7 s6 (?_)
 obtain ⟨t0,hy,hk0⟩:=ob h
 refine wp_exq (N:=fun a w=>∃ y7,∃ (y7_H:List HS),t0 = .inl y7∧St w0 X (.inns CZ 32 y7_H y7::.ownL CS s4_A s4_n s4_c y7_H 78::.blk b3 ([I8 ca0,I8 ca1,I8 ca2,I8 ca3,I8 ca4]) 23::Lt) (.rowL CB ca5_A ca5_n ca5_c ca5::.rowL CW (some ⟨0,0,none⟩) 1 1 ([tab_0])::.rowL CV (some ⟨1,0,none⟩) 1 1 ([tab_1])::.rowL CV (some ⟨2,0,none⟩) 1 1 ([tab_2])::Rt) w∧∃ g9,a=fr g9 58 [(8,[.slice s4_A s4_n s4_c])]) (fun N0 nn0=>?_) ?_
 refine xb ?_
 refine wp_loop_k (fun n a w=>∃ z5 z6,∃ (z6_H:List HS),kpke_expanded_s2.l0 K n ca0 ca5 z5 z6=some t0∧St w0 X (.inns CZ 32 z6_H z6::.ownL CS s4_A s4_n s4_c z6_H 78::.blk b3 ([I8 ca0,I8 ca1,I8 ca2,I8 ca3,I8 ca4]) 23::Lt) (.rowL CB ca5_A ca5_n ca5_c ca5::.rowL CW (some ⟨0,0,none⟩) 1 1 ([tab_0])::.rowL CV (some ⟨1,0,none⟩) 1 1 ([tab_1])::.rowL CV (some ⟨2,0,none⟩) 1 1 ([tab_2])::Rt) w∧∃ g8,a=fr g8 58 [(1,[.slice ca5_A ca5_n ca5_c,.bool false,P0 b3]),(8,[.slice s4_A s4_n s4_c]),(19,[I8 ((List.replicate (ca0:Int).toNat ([]:List (Arr 256))).length:Int),I8 z5])]) K ⟨0,(List.replicate (ca0:Int).toNat ([]:List (Arr 256))),(List.replicate (ca0:Int).toNat (Cod.zero CS)),hy,hs.conv rfl,eg⟩ ?_
 clear hs h hy
 rintro n a w ⟨z5,z6,z6_H,h,hs,g8,rfl⟩ KL0 kl0
 cases n with
 | zero=>exact nomatch (show none=some _ from h)
 | succ n=>
  refine xs fun _ s10=>?_
  refine xn 1 fun _ j11=>?_
  obtain ⟨hc,h⟩|⟨hc,h⟩:=of_if h
  refine tb 0 21 (dt hc) ?_
  refine fj j11 s10 (xs fun _ s12=>(ct (xk (T s12 (xs fun _ s13=>(xb (xs fun _ s14=>(xn 2 fun _ j15=>?_))))))))
  refine nq 0 [(22,I8 z5),(9,I8 z5)] ?_
  refine fj j15 s14 (xs fun _ s16=>(xn 3 fun _ j17=>?_))
  refine qo 0 23 (P0 b3) ?_
  refine tkt 1 24 _ (yv hs 2 0 3 rfl (by rfl) .grow) ?_
  refine qo 2 25 (I8 0) ?_
  refine fj j17 s16 (?_)
  obtain ⟨t1,hy,hk1⟩:=ob h
  refine wp_exq (N:=fun a w=>∃ y10,∃ (y10_H:List HS),t1 = .inl y10∧St w0 X (.inns CZ 32 y10_H y10::.ownL CS s4_A s4_n s4_c y10_H 78::.blk b3 ([I8 ca0,I8 ca1,I8 ca2,I8 ca3,I8 ca4]) 23::Lt) (.rowL CB ca5_A ca5_n ca5_c ca5::.rowL CW (some ⟨0,0,none⟩) 1 1 ([tab_0])::.rowL CV (some ⟨1,0,none⟩) 1 1 ([tab_1])::.rowL CV (some ⟨2,0,none⟩) 1 1 ([tab_2])::Rt) w∧∃ g19,a=fr g19 58 [(1,[.slice ca5_A ca5_n ca5_c,.bool false,P0 b3]),(8,[.slice s4_A s4_n s4_c]),(19,[I8 ((List.replicate (ca0:Int).toNat ([]:List (Arr 256))).length:Int),I8 z5])]) (fun N1 nn1=>?_) ?_
  refine xb ?_
  refine wp_loop_k (fun n a w=>∃ z8 z9,∃ (z9_H:List HS),kpke_expanded_s2.l1 K n ca0 ca5 z5 z8 z9=some t1∧St w0 X (.inns CZ 32 z9_H z9::.ownL CS s4_A s4_n s4_c z9_H 78::.blk b3 ([I8 ca0,I8 ca1,I8 ca2,I8 ca3,I8 ca4]) 23::Lt) (.rowL CB ca5_A ca5_n ca5_c ca5::.rowL CW (some ⟨0,0,none⟩) 1 1 ([tab_0])::.rowL CV (some ⟨1,0,none⟩) 1 1 ([tab_1])::.rowL CV (some ⟨2,0,none⟩) 1 1 ([tab_2])::Rt) w∧∃ g18,a=fr g18 58 [(1,[.slice ca5_A ca5_n ca5_c,.bool false,P0 b3]),(8,[.slice s4_A s4_n s4_c,I8 z5]),(19,[I8 ((List.replicate (ca0:Int).toNat ([]:List (Arr 256))).length:Int),I8 z5]),(24,[I8 ca0,I8 z8])]) K ⟨0,z6,z6_H,hy,hs.conv rfl,eg⟩ ?_
  clear hs h hy
  rintro n a w ⟨z8,z9,z9_H,h,hs,g18,rfl⟩ KL1 kl1
  cases n with
  | zero=>exact nomatch (show none=some _ from h)
  | succ n=>
   refine xs fun _ s20=>?_
   refine xn 1 fun _ j21=>?_
   obtain ⟨hc,h⟩|⟨hc,h⟩:=of_if h
   refine tb 0 26 (dt hc) ?_
   refine fj j21 s20 (xs fun _ s22=>(ct (xk (T s22 (xs fun _ s23=>(xb (xs fun _ s24=>(xn 2 fun _ j25=>?_))))))))
   refine nq 0 [(27,I8 z8),(10,I8 z8)] ?_
   refine fj j25 s24 (xs fun _ s26=>(xn 6 fun _ j27=>?_))
   refine nq 0 [(28,I8 z5),(29,U1 (iconv .u8 z5)),(30,I8 z8),(31,U1 (iconv .u8 z8))] ?_
   obtain ⟨x11,hx,h⟩:=ob h
   refine tkf 4 11 (U1 x11) (yn hx) ?_
   obtain ⟨x12,hx,h⟩:=ob h
   refine tkf 5 12 (U1 x12) (yn hx) ?_
   refine fj j27 s26 (xs fun _ s28=>(xs fun _ s29=>(xn 1 fun _ j30=>?_)))
   refine qo 0 32 (.bool false) ?_
   refine fj j30 s29 (cf (xk (T s28 (xs fun _ s31=>(xn 10 fun _ j32=>?_)))))
   refine nq 0 [(36,.slice ca5_A ca5_n ca5_c),(37,U1 x11),(38,U1 x12)] ?_
   obtain ⟨⟨r13,r14⟩,hg,h⟩:=ob h
   refine so 3 (oC 39 hs (kpke_Parts.ok hg _ (rR 0 hs) (rR 1 hs) (rR 2 hs) (rR 3 hs)) fun w gw hs=>?_)
   refine nq 4 [(35,.tuple #[ag .i32 r13,I8 r14]),(40,ag .i32 r13),(41,I8 r14)] ?_
   refine so 7 (oNe 13 32 .i32 (zeroA 256) hs fun b15 w gw hs=>?_)
   refine so 8 (oWe 32 .i32 r13 hs 0 fun w kp hs=>?_)
   refine qo 9 14 (I8 r14) ?_
   refine fj j32 s31 (xs fun _ s33=>(xs fun _ s34=>(xn 2 fun _ j35=>?_)))
   refine qo 0 42 (I8 r14) ?_
   obtain ⟨hc,h⟩|⟨hc,h⟩:=of_if h
   refine tb 1 43 (nf hc) ?_
   refine fj j35 s34 (cf (xk (T s33 (?_))))
   refine rg [8,10] (fun k=>True) 11 fun _ j36=>?_
   have hs:=hs.drawn1
   refine gq 0 45 (.slice s4_A s4_n s4_c) ?_
   refine gq 1 46 (I8 z5) ?_
   refine gq 2 47 (.slice s4_A s4_n s4_c) ?_
   refine gq 3 48 (I8 z5) ?_
   obtain ⟨h0,h1,h⟩:=oc2 h
   have i0_37:=h0
   have i1_37:=h1
   refine tgf 4 49 (PA CS s4_A z5) (yiNN 74 78 .i64 z5 (⟨hs.rowL 2 rfl,hs.innsLen 1 rfl⟩ : NNP _ _ _ _ _ _) h0 h1) ?_
   obtain ⟨s16_A,hA⟩ : ∃ A,A=(rdL CS z9_H z5).1:=⟨_,rfl⟩
   obtain ⟨s16_n,hn⟩ : ∃ n,n=(rdL CS z9_H z5).2.1:=⟨_,rfl⟩
   obtain ⟨s16_c,hc⟩ : ∃ c,c=(rdL CS z9_H z5).2.2:=⟨_,rfl⟩
   refine tgt 5 50 (.slice s16_A s16_n s16_c) (by subst hA hn hc; exact yld_loadNN (e:=78) (x:=z5) (⟨hs.rowL 2 rfl,hs.innsLen 1 rfl⟩ : NNP _ _ _ _ _ _) (by kernel_rfl) (by kernel_rfl) i0_37 i1_37) ?_
   have hs:=hs.front 1 rfl
   try dsimp only [List.eraseIdx] at hs
   obtain ⟨hl38,hs⟩:=hs.openI i0_37 i1_37 hA hn hc
   refine wpG.take [6,7,8,9,10] 6 true (some 51) (ag .i32 r13) (by kernel_rfl) (by kernel_rfl) (yWe 32 hs 2 .grow) ?_
   refine go 7 (oLL (C:=CZ) 52 78 32 1 (ag .i32 (zeroA 256)) #[(0,ag .i32 r13)] [r13] hs rfl rfl (by decide) (by decide) fun s17_A s17_n s17_c w gw hs=>⟨.of gw,?_⟩)
   obtain ⟨h0,h⟩:=oc h
   refine go 8 (oAp (C:=CZ) 53 78 78 32 1024 137438953472 hs 1 rfl (rL 0 hs) h0 (by decide) (by decide) fun s18_A s18_n s18_c w hs=>⟨⟨fun hf=>absurd hf (by decide),.all _ _⟩,?_⟩)
   obtain ⟨h0,h1,h⟩:=oc2 h
   have i0_39:=h0
   have i1_39:=h1
   refine tgf 9 54 (PA CS s4_A z5) (yiNN 74 78 .i64 z5 (⟨hs.rowL 4 rfl,hl38⟩ : NNP _ _ _ _ _ _) h0 h1) ?_
   refine go 10 (oL (C:=CS) 78 z5 ((s18_A,s18_n,s18_c):HS) hs 4 rfl i0_39 (by rw [hl38]; exact i1_39) fun w hs=>⟨⟨fun hf=>absurd hf (by decide),.all _ _⟩,?_⟩)
   have hs:=hs.front 2 rfl
   have hs:=hs.front 2 rfl
   try dsimp only [List.eraseIdx] at hs
   have hs:=hs.closeI (x:=z5) hl38 i0_37 i1_37
   refine gf (j36 _ _ ?_)
   refine iN (T s23 (xn 2 fun _ j40=>?_))
   refine nq 0 [(55,I8 (iadd .i64 z8 1)),(25,I8 (iadd .i64 z8 1))] ?_
   refine fin (j40 _ _ ?_)
   exact tn (kl1 _ _ ⟨n,ls n,(iadd .i64 z8 1),(wrL z9 z5 ((rdLL z9 z5)++([r13]:List (Arr 256)))),(wrL z9_H z5 ((s18_A,s18_n,s18_c):HS)),h,(dr [1,0,0,1,1] hs),eg⟩)
   refine tb 1 43 (nt hc) ?_
   refine fj j35 s34 (ct (xs fun _ s41=>(xn 3 fun _ j42=>?_)))
   refine nq 0 [(44,I8 r14),(6,.slice none 0 0),(7,I8 r14)] ?_
   refine fj j42 s41 (xret (tr (iR (tr (tr (iR (exq_r (iR (tr (tr (iR (exq_r (tr ?_)))))))))))))
   obtain rfl:=of_some h
   have q0:=of_some hk1
   subst q0
   obtain ⟨q0,qr0⟩:=Prod.mk.inj (of_some hk0)
   have q1:=qr0
   subst q0
   subst q1
   have hs:=hs.front 1 rfl
   try dsimp only [List.eraseIdx] at hs
   have hs:=hs.innsInn
   have hs:=(hs.addNilL CS 78).addInn0 CZ
   exact qq _ _ (pt [6,7] [.slice none 0 0,I8 r14] ⟨none,0,0,[],rfl,((dr [1,0,0,0] hs).pickR (pick_cons 0 rfl (pick_cons 2 rfl (pick_cons 3 rfl (pick_cons 4 rfl (pick_cons 5 rfl (fun _ he=>.tail _ (.tail _ (.tail _ (.tail _ (.tail _ (.tail _ he))))))))))))⟩)
   refine tb 0 26 (df hc) ?_
   refine fj j21 s20 (xs fun _ s43=>(cf (xexit (tx (tx (iH ?_))))))
   obtain rfl:=of_some h
   exact exq_n (nn1 _ _ ⟨z9,z9_H,rfl,(hs.conv rfl),eg⟩)
  clear hs h hy
  rintro a w ⟨y10,y10_H,rfl,hs,g19,rfl⟩
  have h:=hk1
  refine iN (T s13 (xn 2 fun _ j44=>?_))
  refine nq 0 [(56,I8 (iadd .i64 z5 1)),(20,I8 (iadd .i64 z5 1))] ?_
  refine fin (j44 _ _ ?_)
  exact tn (kl0 _ _ ⟨n,ls n,(iadd .i64 z5 1),y10,y10_H,h,(hs.conv rfl),eg⟩)
  refine tb 0 21 (df hc) ?_
  refine fj j11 s10 (xs fun _ s45=>(cf (xexit (tx (tx (iH ?_))))))
  obtain rfl:=of_some h
  exact exq_n (nn0 _ _ ⟨z6,z6_H,rfl,(hs.conv rfl),eg⟩)
 clear hs h hy
 rintro a w ⟨y7,y7_H,rfl,hs,g9,rfl⟩
 have h:=hk0
 refine T s5 (xs fun _ s46=>(xn 3 fun _ j47=>?_))
 refine nq 0 [(57,.slice s4_A s4_n s4_c),(6,.slice s4_A s4_n s4_c),(7,I8 0)] ?_
 refine fj j47 s46 (xret ?_)
 obtain ⟨rfl,rfl⟩:=os2 h
 have hs:=hs.innsInn
 exact qq _ _ (pt [6,7] [.slice s4_A s4_n s4_c,I8 0] ⟨s4_A,s4_n,s4_c,y7_H,rfl,(dr [1,0] hs)⟩)
theorem kpke_vector_dot_s.ok {K:Nat}{ca0 ca1:List (Arr 256)}{y1:Arr 256}{ca0_A:Option Addr}{ca0_n ca0_c:Nat}{ca1_A:Option Addr}{ca1_n ca1_c:Nat}(h:kpke_vector_dot_s.f K ca0 ca1=some y1){w0 w:World}{X:List Nat}{Lt Rt:List Ent}(hs:St w0 X (.ownL CZ ca0_A ca0_n ca0_c ca0 32::Lt) (.rowL CZ ca1_A ca1_n ca1_c ca1::Rt) w):Calls Tryd.prog 46 #[.slice ca0_A ca0_n ca0_c,.slice ca1_A ca1_n ca1_c] w fun e w'=>e = .returned (ag .i32 y1)∧St w0 X (.ownL CZ ca0_A ca0_n ca0_c ca0 32::Lt) (.rowL CZ ca1_A ca1_n ca1_c ca1::Rt) w':=by
 refine calls_k Tryd.func46 rfl fun Q qq=>?_
 refine wc (a':=(fu 23 [.slice ca0_A ca0_n ca0_c,.slice ca1_A ca1_n ca1_c])) ?_
 refine xs fun _ s1=>?_
 refine xn 1 fun _ j2=>?_
 refine so 0 (oNe 4 32 .i32 (zeroA 256) hs fun b2 w gw hs=>?_)
 refine fj j2 s1 (xs fun _ s3=>(xn 1 fun _ j4=>?_))
 refine so 0 (oNe 5 32 .i32 (zeroA 256) hs fun b3 w gw hs=>?_)
 refine fj j4 s3 (xs fun _ s5=>(xs fun _ s6=>(xn 3 fun _ j7=>?_)))
 refine qo 0 8 (.slice ca0_A ca0_n ca0_c) ?_
 refine tkf 1 9 (I8 (ca0.length:Int)) (yl (rL 2 hs)) ?_
 refine qo 2 10 (I8 0) ?_
 refine fj j7 s6 (?_)
 obtain ⟨y6,hy,hk0⟩:=ob h
 refine wp_exq (N:=fun a w=>St w0 X (.blk b3 (enc .i32 y6) 32::.blk b2 (enc .i32 (zeroA 256)) 32::.ownL CZ ca0_A ca0_n ca0_c ca0 32::Lt) (.rowL CZ ca1_A ca1_n ca1_c ca1::Rt) w∧∃ g9,a=fr g9 25 [(4,[P0 b2,P0 b3])]) (fun N0 nn0=>?_) ?_
 clear hk0
 refine xb ?_
 refine wp_loop_k (fun n a w=>∃ z4 z5,kpke_vector_dot_s.l0 K n ca0 ca1 z4 z5=some y6∧St w0 X (.blk b3 (enc .i32 z5) 32::.blk b2 (enc .i32 (zeroA 256)) 32::.ownL CZ ca0_A ca0_n ca0_c ca0 32::Lt) (.rowL CZ ca1_A ca1_n ca1_c ca1::Rt) w∧∃ g8,a=fr g8 25 [(1,[.slice ca1_A ca1_n ca1_c]),(4,[P0 b2,P0 b3]),(8,[.slice ca0_A ca0_n ca0_c,I8 (ca0.length:Int),I8 z4])]) K ⟨0,(zeroA 256),hy,hs.conv rfl,eg⟩ ?_
 clear hs h hy
 rintro n a w ⟨z4,z5,h,hs,g8,rfl⟩ KL0 kl0
 cases n with
 | zero=>exact nomatch (show none=some _ from h)
 | succ n=>
  refine xs fun _ s10=>?_
  refine xn 1 fun _ j11=>?_
  obtain ⟨hc,h⟩|⟨hc,h⟩:=of_if h
  refine tb 0 11 (dt hc) ?_
  refine fj j11 s10 (xs fun _ s12=>(ct (xk (T s12 (xs fun _ s13=>(xb (xs fun _ s14=>(xn 6 fun _ j15=>?_))))))))
  refine qo 0 12 (I8 z4) ?_
  obtain ⟨h0,h1,h⟩:=oc2 h
  have i0_16:=h0
  have i1_16:=h1
  refine tkf 1 13 (PA CZ ca0_A z4) (yiL (C:=CZ) 78 32 .i64 z4 (rL 2 hs) h0 h1) ?_
  refine tkt 2 14 _ (yLA (C:=CZ) 32 z4 (rL 2 hs) rfl i0_16 i1_16) ?_
  refine so 3 (oNe 7 32 .i32 (zeroA 256) hs fun b7 w gw hs=>?_)
  refine qo 4 6 (I8 z4) ?_
  refine so 5 (oWe 32 .i32 (rdL CZ ca0 z4) hs 0 fun w kp hs=>?_)
  refine fj j15 s14 (?_)
  refine rg [8] (fun k=>True) 9 fun _ j17=>?_
  have hs:=hs.drawn1
  refine tgt 0 15 _ (yWe 32 hs 1 .grow) ?_
  refine tgt 1 16 _ (yWe 32 hs 0 .grow) ?_
  refine gq 2 17 (.slice ca1_A ca1_n ca1_c) ?_
  refine gq 3 18 (I8 z4) ?_
  obtain ⟨h0,h1,h⟩:=oc2 h
  have i0_18:=h0
  have i1_18:=h1
  refine tgf 4 19 (PA CZ ca1_A z4) (yiL (C:=CZ) 78 32 .i64 z4 (rR 0 hs) h0 h1) ?_
  refine tgt 5 20 _ (yLA (C:=CZ) 32 z4 (rR 0 hs) rfl i0_18 i1_18) ?_
  obtain ⟨r8,hg,h⟩:=ob h
  refine go 6 (oC 21 hs (kq_Mul.ok hg _) fun w gw hs=>⟨.of gw,?_⟩)
  obtain ⟨r9,hg,h⟩:=ob h
  refine go 7 (oC 22 hs (kq_Add.ok hg _) fun w gw hs=>⟨.of gw,?_⟩)
  refine go 8 (oWe 32 .i32 r9 hs 1 fun w kp hs=>⟨⟨fun hf=>absurd hf (by decide),.all _ _⟩,?_⟩)
  refine gf (j17 _ _ ?_)
  refine iN (T s13 (xn 2 fun _ j19=>?_))
  refine nq 0 [(23,I8 (iadd .i64 z4 1)),(10,I8 (iadd .i64 z4 1))] ?_
  refine fin (j19 _ _ ?_)
  exact tn (kl0 _ _ ⟨n,ls n,(iadd .i64 z4 1),r9,h,(dr [0,1,1,1] hs),eg⟩)
  refine tb 0 11 (df hc) ?_
  refine fj j11 s10 (xs fun _ s20=>(cf (xexit (tx (tx (iH ?_))))))
  obtain rfl:=of_some h
  exact exq_n (nn0 _ _ ⟨(hs.conv rfl),eg⟩)
 clear hs h hy
 rintro a w ⟨hs,g9,rfl⟩
 have h:=hk0
 refine T s5 (xs fun _ s21=>(xn 2 fun _ j22=>?_))
 refine tkt 0 24 _ (yWe 32 hs 0 .grow) ?_
 refine so 1 (oWe 32 .i32 y6 hs 1 fun w kp hs=>?_)
 refine fj j22 s21 (xret ?_)
 obtain rfl:=of_some h
 exact qq _ _ (pr (rr [.cell 4 32] [ag .i32 y6] (.cons (rcN 256 hs 1 rfl (enc_len _ _)) .nil)) ⟨rfl,(dr [0,0,1] hs)⟩)
theorem kpke_Keys.ok {K:Nat}{a0_0 a0_1 a0_2 a0_3 a0_4:Int}{a1 r0 r1:List Int}{r2:Int}{a1_A:Option Addr}{a1_n a1_c:Nat}(h:kpke_Keys.f K a0_0 a0_1 a0_2 a0_3 a0_4 a1=some (r0,r1,r2)) (w0:World) (hp1:RowL CB w0 a1_A a1_n a1_c a1) (hg0:RowL CW w0 (some ⟨0,0,none⟩) 1 1 [tab_0]) (hg1:RowL CV w0 (some ⟨1,0,none⟩) 1 1 [tab_1]) (hg2:RowL CV w0 (some ⟨2,0,none⟩) 1 1 [tab_2]):Calls Tryd.prog 19 #[.agg #[I8 a0_0,I8 a0_1,I8 a0_2,I8 a0_3,I8 a0_4],.slice a1_A a1_n a1_c] w0 fun e w'=>∃ h:(Option Addr × Nat × Nat) × (Option Addr × Nat × Nat),e = .returned (.tuple #[.slice h.1.1 h.1.2.1 h.1.2.2,.slice h.2.1 h.2.2.1 h.2.2.2,I8 r2])∧St w0 [] [.ownL CB h.1.1 h.1.2.1 h.1.2.2 r0 5,.ownL CB h.2.1 h.2.2.1 h.2.2.2 r1 5] [] w':=by
 refine calls_k Tryd.func19 rfl fun Q qq=>?_
 have hs:=St.startR (all_cons (RowP.ent hp1) (all_cons (RowP.ent hg0) (all_cons (RowP.ent hg1) (all_cons (RowP.ent hg2) all_nil))))
 refine wc (a':=(fu 91 [.agg #[I8 a0_0,I8 a0_1,I8 a0_2,I8 a0_3,I8 a0_4],.slice a1_A a1_n a1_c])) ?_
 refine xs fun _ s1=>?_
 refine xn 4 fun _ j2=>?_
 refine so 0 (oBa 2 23 hs [I8 a0_0,I8 a0_1,I8 a0_2,I8 a0_3,I8 a0_4] fun b1 w gw hs=>?_)
 refine nq 1 [(4,.slice none 0 0),(5,.slice none 0 0),(6,I8 0)] ?_
 refine fj j2 s1 (xs fun _ s3=>(xb (xs fun _ s4=>(xn 4 fun _ j5=>?_))))
 refine tkt 0 18 _ (yWs 5 23 hs 0 .grow) ?_
 obtain ⟨r2,hg,h⟩:=ob h
 cases r2 with
 | true=>
  have h:=of_if_t h
  refine so 1 (oC 19 hs (kpke_known.ok hg _) fun w gw hs=>?_)
  refine nq 2 [(20,.bool false),(17,.bool false)] ?_
  refine fj j5 s4 (cf (xs fun _ s6=>(xn 4 fun _ j7=>?_)))
  refine qo 0 22 (.slice a1_A a1_n a1_c) ?_
  refine tkf 1 23 (I8 (a1.length:Int)) (yl (rR 0 hs)) ?_
  obtain ⟨hc,h⟩|⟨hc,h⟩:=of_if h
  refine tb 2 24 (nf hc) ?_
  refine qo 3 21 (.bool false) ?_
  refine fj j7 s6 (cf (xk (iN (T s3 (xs fun _ s8=>(xn 13 fun _ j9=>?_))))))
  refine nq 0 [(26,.slice a1_A a1_n a1_c),(27,P0 b1)] ?_
  refine tkt 2 28 _ (yv hs 0 0 3 rfl (by rfl) .grow) ?_
  refine qo 3 29 (U1 (iconv .u8 a0_0)) ?_
  refine so 4 (oLt (C:=CB) 30 24 5 1 (U1 0) #[(0,U1 (iconv .u8 a0_0))] [(iconv .u8 a0_0)] hs rfl (by decide) (by decide) fun s3_A s3_n s3_c w gw hs=>?_)
  refine so 5 (oLt (C:=CS) 31 59 24 2 (.slice none 0 0) #[(0,.slice a1_A a1_n a1_c),(1,.slice s3_A s3_n s3_c)] ([(a1_A,a1_n,a1_c),(s3_A,s3_n,s3_c)]:List HS) hs rfl (by decide) (by decide) fun s4_A s4_n s4_c w gw hs=>?_)
  obtain ⟨r5,hg,h⟩:=ob h
  refine wpS.only 6 (oH 32 hs (bits_Join.ok hg _ (LLP.mk (rL 0 hs) (inn_cons (rR 0 hs) (inn_cons (rL 1 hs) inn_nil)))) ?_)
  rintro ⟨r5_A,r5_n,r5_c⟩ w gw hs
  have hs:=hs.conv (L':=[.ownL CB r5_A r5_n r5_c r5 5,.ownL CS s4_A s4_n s4_c ([(a1_A,a1_n,a1_c),(s3_A,s3_n,s3_c)]:List HS) 24,.ownL CB s3_A s3_n s3_c ([(iconv .u8 a0_0)]:List Int) 5,.blk b1 ([I8 a0_0,I8 a0_1,I8 a0_2,I8 a0_3,I8 a0_4]) 23]) rfl
  refine ⟨fun _=>trivial,?_⟩
  obtain ⟨⟨r6,r7⟩,hg,h⟩:=ob h
  refine wpS.only 7 (oH 33 hs (keccak_Sum.ok hg _ (rL 0 hs) (rR 1 hs) (rR 2 hs) (rR 3 hs)) ?_)
  rintro ⟨r6_A,r6_n,r6_c⟩ w gw hs
  have hs:=hs.conv (L':=[.ownL CB r6_A r6_n r6_c r6 5,.ownL CB r5_A r5_n r5_c r5 5,.ownL CS s4_A s4_n s4_c ([(a1_A,a1_n,a1_c),(s3_A,s3_n,s3_c)]:List HS) 24,.ownL CB s3_A s3_n s3_c ([(iconv .u8 a0_0)]:List Int) 5,.blk b1 ([I8 a0_0,I8 a0_1,I8 a0_2,I8 a0_3,I8 a0_4]) 23]) rfl
  refine ⟨fun _=>trivial,?_⟩
  refine nq 8 [(25,.tuple #[.slice r6_A r6_n r6_c,I8 r7]),(34,.slice r6_A r6_n r6_c),(35,I8 r7),(7,.slice r6_A r6_n r6_c),(8,I8 r7)] ?_
  refine fj j9 s8 (xs fun _ s10=>?_)
  refine rg [] (fun k=>True) 6 fun _ j11=>?_
  have hs:=hs.drawn1
  refine gq 0 36 (.slice r6_A r6_n r6_c) ?_
  have hs:=hs.freeze 0 rfl
  obtain ⟨h0,h1,h⟩:=oc2 h
  obtain ⟨h2,h⟩:=oc h
  obtain ⟨s8_A,hA⟩ : ∃ A,A=if r6_c=(0:Int).toNat then r6_A else adr r6_A ((0:Int).toNat*Cod.size CB):=⟨_,rfl⟩
  obtain ⟨s8_n,hn⟩ : ∃ n,n=(32:Int).toNat-(0:Int).toNat:=⟨_,rfl⟩
  obtain ⟨s8_c,hc⟩ : ∃ c,c=r6_c-(0:Int).toNat:=⟨_,rfl⟩
  refine tgf 1 37 (.slice s8_A s8_n s8_c) (ysb (C:=CB) 24 5 none (some (I8 32)) 0 32 (rR 0 hs) (.inl ⟨rfl,rfl⟩) (.inr ⟨_,rfl⟩) h0 h1 h2 hA hn hc) ?_
  have hs:=hs.addSub (C:=CB) 0 rfl h0 h1 h2 hA hn hc
  refine gq 2 38 (.slice r6_A r6_n r6_c) ?_
  obtain ⟨h0,h1,h⟩:=oc2 h
  obtain ⟨h2,h⟩:=oc h
  obtain ⟨s9_A,hA⟩ : ∃ A,A=if r6_c=(32:Int).toNat then r6_A else adr r6_A ((32:Int).toNat*Cod.size CB):=⟨_,rfl⟩
  obtain ⟨s9_n,hn⟩ : ∃ n,n=((r6.length:Int):Int).toNat-(32:Int).toNat:=⟨_,rfl⟩
  obtain ⟨s9_c,hc⟩ : ∃ c,c=r6_c-(32:Int).toNat:=⟨_,rfl⟩
  refine tgf 3 39 (.slice s9_A s9_n s9_c) (ysb (C:=CB) 24 5 (some (I8 32)) none 32 (r6.length:Int) (rR 1 hs) (.inr ⟨_,rfl⟩) (.inl ⟨rfl,rfl⟩) h0 h1 h2 hA hn hc) ?_
  have hs:=hs.addSub (C:=CB) 1 rfl h0 h1 h2 hA hn hc
  refine gq 4 9 (.slice s8_A s8_n s8_c) ?_
  refine gq 5 10 (.slice s9_A s9_n s9_c) ?_
  refine gf (j11 _ _ ?_)
  refine T s10 (xs fun _ s12=>(xn 8 fun _ j13=>?_))
  refine tkt 0 41 _ (yWs 5 23 hs 3 .grow) ?_
  refine qo 1 42 (.slice s8_A s8_n s8_c) ?_
  have hs:=hs.pickR (pick_cons 1 rfl (pick_cons 4 rfl (pick_cons 5 rfl (pick_cons 6 rfl (pick_cons 0 rfl (pick_cons 2 rfl (pick_cons 3 rfl pick_nil)))))))
  obtain ⟨⟨r10,r11⟩,hg,h⟩:=ob h
  refine wpS.only 2 (wpOp_call (d:=(some 43)) (by kernel_rfl) (fun _=>by kernel_rfl) (kpke_expanded_s2.ok hg hs) ?_)
  rintro e w ⟨y12_A,y12_n,y12_c,y12_H,rfl,hs⟩
  refine ⟨_,rfl,?_⟩
  refine ⟨fun _=>trivial,?_⟩
  refine nq 3 [(40,.tuple #[.slice y12_A y12_n y12_c,I8 r11]),(44,.slice y12_A y12_n y12_c),(45,I8 r11),(11,.slice y12_A y12_n y12_c),(6,I8 r11)] ?_
  refine fj j13 s12 (xs fun _ s14=>(xs fun _ s15=>(xn 2 fun _ j16=>?_)))
  refine qo 0 46 (I8 r11) ?_
  obtain ⟨hc,h⟩|⟨hc,h⟩:=of_if h
  refine tb 1 47 (nf hc) ?_
  refine fj j16 s15 (cf (xk (T s14 (xs fun _ s17=>(xn 8 fun _ j18=>?_)))))
  refine qo 0 49 (P0 b1) ?_
  refine tkt 1 50 _ (yv hs 4 0 3 rfl (by rfl) .grow) ?_
  refine qo 2 51 (.pointer (some ⟨b1,1,none⟩)) ?_
  refine tkt 3 52 _ (yv hs 4 1 3 rfl (by rfl) .grow) ?_
  refine qo 4 53 (.slice s9_A s9_n s9_c) ?_
  obtain ⟨r16,hg,h⟩:=ob h
  refine wpS.only 5 (oH 54 hs (kpke_noises.ok hg _ (rR 5 hs) (rR 2 hs) (rR 3 hs) (rR 4 hs)) ?_)
  rintro ⟨r16_A,r16_n,r16_c⟩ w gw hs
  have hs:=hs.conv (L':=[.ownL CZ r16_A r16_n r16_c r16 32,.ownL CS y12_A y12_n y12_c y12_H 78,.ownL CB r5_A r5_n r5_c r5 5,.ownL CS s4_A s4_n s4_c ([(a1_A,a1_n,a1_c),(s3_A,s3_n,s3_c)]:List HS) 24,.ownL CB s3_A s3_n s3_c ([(iconv .u8 a0_0)]:List Int) 5,.blk b1 ([I8 a0_0,I8 a0_1,I8 a0_2,I8 a0_3,I8 a0_4]) 23]) rfl
  refine ⟨fun _=>trivial,?_⟩
  obtain ⟨r17,hg,h⟩:=ob h
  refine wpS.only 6 (oH 55 hs (kpke_vector_parts.ok hg _ (rL 0 hs)) ?_)
  rintro ⟨r17_A,r17_n,r17_c⟩ w gw hs
  have hs:=hs.conv (L':=[.ownL CZ r17_A r17_n r17_c r17 32,.ownL CZ r16_A r16_n r16_c r16 32,.ownL CS y12_A y12_n y12_c y12_H 78,.ownL CB r5_A r5_n r5_c r5 5,.ownL CS s4_A s4_n s4_c ([(a1_A,a1_n,a1_c),(s3_A,s3_n,s3_c)]:List HS) 24,.ownL CB s3_A s3_n s3_c ([(iconv .u8 a0_0)]:List Int) 5,.blk b1 ([I8 a0_0,I8 a0_1,I8 a0_2,I8 a0_3,I8 a0_4]) 23]) rfl
  refine ⟨fun _=>trivial,?_⟩
  refine qo 7 12 (.slice r17_A r17_n r17_c) ?_
  refine fj j18 s17 (xs fun _ s19=>(xn 10 fun _ j20=>?_))
  refine qo 0 56 (P0 b1) ?_
  refine tkt 1 57 _ (yv hs 6 0 3 rfl (by rfl) .grow) ?_
  refine qo 2 58 (.pointer (some ⟨b1,1,none⟩)) ?_
  refine tkt 3 59 _ (yv hs 6 1 3 rfl (by rfl) .grow) ?_
  refine nq 4 [(60,.slice s9_A s9_n s9_c),(61,P0 b1)] ?_
  refine tkt 6 62 _ (yv hs 6 0 3 rfl (by rfl) .grow) ?_
  obtain ⟨r18,hg,h⟩:=ob h
  refine wpS.only 7 (oH 63 hs (kpke_noises.ok hg _ (rR 5 hs) (rR 2 hs) (rR 3 hs) (rR 4 hs)) ?_)
  rintro ⟨r18_A,r18_n,r18_c⟩ w gw hs
  have hs:=hs.conv (L':=[.ownL CZ r18_A r18_n r18_c r18 32,.ownL CZ r17_A r17_n r17_c r17 32,.ownL CZ r16_A r16_n r16_c r16 32,.ownL CS y12_A y12_n y12_c y12_H 78,.ownL CB r5_A r5_n r5_c r5 5,.ownL CS s4_A s4_n s4_c ([(a1_A,a1_n,a1_c),(s3_A,s3_n,s3_c)]:List HS) 24,.ownL CB s3_A s3_n s3_c ([(iconv .u8 a0_0)]:List Int) 5,.blk b1 ([I8 a0_0,I8 a0_1,I8 a0_2,I8 a0_3,I8 a0_4]) 23]) rfl
  refine ⟨fun _=>trivial,?_⟩
  obtain ⟨r19,hg,h⟩:=ob h
  refine wpS.only 8 (oH 64 hs (kpke_vector_parts.ok hg _ (rL 0 hs)) ?_)
  rintro ⟨r19_A,r19_n,r19_c⟩ w gw hs
  have hs:=hs.conv (L':=[.ownL CZ r19_A r19_n r19_c r19 32,.ownL CZ r18_A r18_n r18_c r18 32,.ownL CZ r17_A r17_n r17_c r17 32,.ownL CZ r16_A r16_n r16_c r16 32,.ownL CS y12_A y12_n y12_c y12_H 78,.ownL CB r5_A r5_n r5_c r5 5,.ownL CS s4_A s4_n s4_c ([(a1_A,a1_n,a1_c),(s3_A,s3_n,s3_c)]:List HS) 24,.ownL CB s3_A s3_n s3_c ([(iconv .u8 a0_0)]:List Int) 5,.blk b1 ([I8 a0_0,I8 a0_1,I8 a0_2,I8 a0_3,I8 a0_4]) 23]) rfl
  refine ⟨fun _=>trivial,?_⟩
  refine qo 9 13 (.slice r19_A r19_n r19_c) ?_
  refine fj j20 s19 (xs fun _ s21=>(xn 3 fun _ j22=>?_))
  refine nq 0 [(65,.slice r17_A r17_n r17_c),(66,.func (.func 46) #[.slice r17_A r17_n r17_c] #[]),(14,.func (.func 46) #[.slice r17_A r17_n r17_c] #[])] ?_
  refine fj j22 s21 (xs fun _ s23=>(xs fun _ s24=>(xn 3 fun _ j25=>?_)))
  refine qo 0 67 (.slice y12_A y12_n y12_c) ?_
  refine tkf 1 68 (I8 (r10.length:Int)) (ylLL (LLP.mk (rL 4 hs) (hs.innR 0 rfl))) ?_
  refine qo 2 69 (I8 0) ?_
  refine fj j25 s24 (?_)
  obtain ⟨y22,hy,hk0⟩:=ob h
  refine wp_exq (N:=fun a w=>St w0 [] [.ownL CZ r19_A r19_n r19_c y22 32,.ownL CZ r18_A r18_n r18_c r18 32,.ownL CZ r17_A r17_n r17_c r17 32,.ownL CZ r16_A r16_n r16_c r16 32,.ownL CS y12_A y12_n y12_c y12_H 78,.ownL CB r5_A r5_n r5_c r5 5,.ownL CS s4_A s4_n s4_c ([(a1_A,a1_n,a1_c),(s3_A,s3_n,s3_c)]:List HS) 24,.ownL CB s3_A s3_n s3_c ([(iconv .u8 a0_0)]:List Int) 5,.blk b1 ([I8 a0_0,I8 a0_1,I8 a0_2,I8 a0_3,I8 a0_4]) 23] [.inn CZ y12_H r10,.rowL CB s8_A s8_n s8_c (subL r6 0 32),.rowL CW (some ⟨0,0,none⟩) 1 1 ([tab_0]),.rowL CV (some ⟨1,0,none⟩) 1 1 ([tab_1]),.rowL CV (some ⟨2,0,none⟩) 1 1 ([tab_2]),.rowL CB s9_A s9_n s9_c (subL r6 32 (r6.length:Int)),.rowL CB r6_A r6_n r6_c r6,.rowL CB a1_A a1_n a1_c a1] w∧∃ g27,a=fr g27 93 [(4,[.slice none 0 0,.slice none 0 0,I8 r11]),(9,[.slice s8_A s8_n s8_c]),(12,[.slice r17_A r17_n r17_c,.slice r19_A r19_n r19_c])]) (fun N0 nn0=>?_) ?_
  clear hk0
  refine xb ?_
  refine wp_loop_k (fun n a w=>∃ z20 z21,kpke_Keys.l0 K n r10 r17 z20 z21=some y22∧St w0 [] [.ownL CZ r19_A r19_n r19_c z21 32,.ownL CZ r18_A r18_n r18_c r18 32,.ownL CZ r17_A r17_n r17_c r17 32,.ownL CZ r16_A r16_n r16_c r16 32,.ownL CS y12_A y12_n y12_c y12_H 78,.ownL CB r5_A r5_n r5_c r5 5,.ownL CS s4_A s4_n s4_c ([(a1_A,a1_n,a1_c),(s3_A,s3_n,s3_c)]:List HS) 24,.ownL CB s3_A s3_n s3_c ([(iconv .u8 a0_0)]:List Int) 5,.blk b1 ([I8 a0_0,I8 a0_1,I8 a0_2,I8 a0_3,I8 a0_4]) 23] [.inn CZ y12_H r10,.rowL CB s8_A s8_n s8_c (subL r6 0 32),.rowL CW (some ⟨0,0,none⟩) 1 1 ([tab_0]),.rowL CV (some ⟨1,0,none⟩) 1 1 ([tab_1]),.rowL CV (some ⟨2,0,none⟩) 1 1 ([tab_2]),.rowL CB s9_A s9_n s9_c (subL r6 32 (r6.length:Int)),.rowL CB r6_A r6_n r6_c r6,.rowL CB a1_A a1_n a1_c a1] w∧∃ g26,a=fr g26 93 [(4,[.slice none 0 0,.slice none 0 0,I8 r11]),(9,[.slice s8_A s8_n s8_c]),(12,[.slice r17_A r17_n r17_c,.slice r19_A r19_n r19_c,.func (.func 46) #[.slice r17_A r17_n r17_c] #[]]),(67,[.slice y12_A y12_n y12_c,I8 (r10.length:Int),I8 z20])]) K ⟨0,r19,hy,hs.conv rfl,eg⟩ ?_
  clear hs h hy
  rintro n a w ⟨z20,z21,h,hs,g26,rfl⟩ KL0 kl0
  cases n with
  | zero=>exact nomatch (show none=some _ from h)
  | succ n=>
   refine xs fun _ s28=>?_
   refine xn 1 fun _ j29=>?_
   obtain ⟨hc,h⟩|⟨hc,h⟩:=of_if h
   refine tb 0 70 (dt hc) ?_
   refine fj j29 s28 (xs fun _ s30=>(ct (xk (T s30 (xs fun _ s31=>(xb (xs fun _ s32=>(xn 5 fun _ j33=>?_))))))))
   refine qo 0 71 (I8 z20) ?_
   obtain ⟨h0,h1,h⟩:=oc2 h
   have i0_34:=h0
   have i1_34:=h1
   refine tkf 1 72 (PA CS y12_A z20) (yiLL (C:=CZ) 74 78 .i64 z20 (LLP.mk (rL 4 hs) (hs.innR 0 rfl)) h0 h1) ?_
   obtain ⟨s23_A,hA⟩ : ∃ A,A=(rdL CS y12_H z20).1:=⟨_,rfl⟩
   obtain ⟨s23_n,hn⟩ : ∃ n,n=(rdL CS y12_H z20).2.1:=⟨_,rfl⟩
   obtain ⟨s23_c,hc⟩ : ∃ c,c=(rdL CS y12_H z20).2.2:=⟨_,rfl⟩
   refine tkt 2 73 (.slice s23_A s23_n s23_c) (by subst hA hn hc; exact yLL (C:=CZ) 78 z20 (LLP.mk (rL 4 hs) (hs.innR 0 rfl)) i0_34 i1_34) ?_
   have hs:=hs.addInnI (C:=CZ) 0 rfl i0_34 i1_34 hA hn hc
   refine nq 3 [(15,I8 z20),(16,.slice s23_A s23_n s23_c)] ?_
   refine fj j33 s32 (?_)
   obtain ⟨y24,hj,h⟩:=ob h
   refine wp_join (N:=fun a w=>St w0 [] [.ownL CZ r19_A r19_n r19_c y24 32,.ownL CZ r18_A r18_n r18_c r18 32,.ownL CZ r17_A r17_n r17_c r17 32,.ownL CZ r16_A r16_n r16_c r16 32,.ownL CS y12_A y12_n y12_c y12_H 78,.ownL CB r5_A r5_n r5_c r5 5,.ownL CS s4_A s4_n s4_c ([(a1_A,a1_n,a1_c),(s3_A,s3_n,s3_c)]:List HS) 24,.ownL CB s3_A s3_n s3_c ([(iconv .u8 a0_0)]:List Int) 5,.blk b1 ([I8 a0_0,I8 a0_1,I8 a0_2,I8 a0_3,I8 a0_4]) 23] [.rowL CZ s23_A s23_n s23_c (rdLL r10 z20),.inn CZ y12_H r10,.rowL CB s8_A s8_n s8_c (subL r6 0 32),.rowL CW (some ⟨0,0,none⟩) 1 1 ([tab_0]),.rowL CV (some ⟨1,0,none⟩) 1 1 ([tab_1]),.rowL CV (some ⟨2,0,none⟩) 1 1 ([tab_2]),.rowL CB s9_A s9_n s9_c (subL r6 32 (r6.length:Int)),.rowL CB r6_A r6_n r6_c r6,.rowL CB a1_A a1_n a1_c a1] w∧∃ g35,a=fr g35 93 [(4,[.slice none 0 0,.slice none 0 0,I8 r11]),(9,[.slice s8_A s8_n s8_c]),(12,[.slice r17_A r17_n r17_c,.slice r19_A r19_n r19_c,.func (.func 46) #[.slice r17_A r17_n r17_c] #[]]),(67,[.slice y12_A y12_n y12_c,I8 (r10.length:Int),I8 z20])]) (fun N nj=>?_) ?_
   clear h
   have h:=hj
   refine rg [8,11] (fun k=>True) 12 fun _ j36=>?_
   have hs:=hs.drawn1
   refine gq 0 74 (.slice r19_A r19_n r19_c) ?_
   refine gq 1 75 (I8 z20) ?_
   refine gq 2 76 (.slice r19_A r19_n r19_c) ?_
   refine gq 3 77 (I8 z20) ?_
   obtain ⟨h0,h1,h⟩:=oc2 h
   have i0_37:=h0
   have i1_37:=h1
   refine tgf 4 78 (PA CZ r19_A z20) (yiL (C:=CZ) 78 32 .i64 z20 (rL 0 hs) h0 h1) ?_
   refine gq 6 80 (.func (.func 46) #[.slice r17_A r17_n r17_c] #[]) ?_
   refine gq 7 81 (.slice s23_A s23_n s23_c) ?_
   refine wpG.many [5,8] (by kernel_rfl) (by decide) (forall_cons ?_ (forall_cons ?_ forall_nil))
   refine (op_val (d:=(some 79)) (v:=ag .i32 (rdL CZ z21 z20)) (by kernel_rfl) (yLA (C:=CZ) 32 z20 (rL 0 hs) rfl i0_37 i1_37) ⟨Cl.refl _,?_⟩)
   have hs:=hs.front 2 rfl
   try dsimp only [List.eraseIdx] at hs
   obtain ⟨r25,hg,h⟩:=ob h
   refine wpG.only 8 (by kernel_rfl) (wpOp_call (d:=(some 82)) (by kernel_rfl) (fun _=>by kernel_rfl) (kpke_vector_dot_s.ok hg hs) ?_)
   rintro e w ⟨rfl,hs⟩
   refine ⟨_,rfl,?_⟩
   refine ⟨⟨fun hf=>absurd hf (by decide),.all _ _⟩,?_⟩
   obtain ⟨r26,hg,h⟩:=ob h
   refine go 9 (oC 83 hs (kq_Add.ok hg _) fun w gw hs=>⟨.of gw,?_⟩)
   obtain ⟨h0,h1,h⟩:=oc2 h
   have i0_38:=h0
   have i1_38:=h1
   refine tgf 10 84 (PA CZ r19_A z20) (yiL (C:=CZ) 78 32 .i64 z20 (rL 1 hs) h0 h1) ?_
   refine go 11 (oL (C:=CZ) 32 z20 r26 hs 1 rfl i0_38 i1_38 fun w hs=>⟨⟨fun hf=>absurd hf (by decide),.all _ _⟩,?_⟩)
   refine gf (j36 _ _ ?_)
   obtain rfl:=of_some h
   have hs:=hs.front 2 rfl
   have hs:=hs.front 2 rfl
   try dsimp only [List.eraseIdx] at hs
   exact nj _ _ ⟨(hs.conv rfl),eg⟩
   have hs:=hs.front 2 rfl
   try dsimp only [List.eraseIdx] at hs
   obtain ⟨r27,hg,h⟩:=ob h
   refine (wpOp_call (d:=(some 82)) (by kernel_rfl) (fun _=>by kernel_rfl) (kpke_vector_dot_s.ok hg hs) ?_)
   rintro e w ⟨rfl,hs⟩
   refine ⟨_,rfl,?_⟩
   refine ⟨⟨fun hf=>absurd hf (by decide),.all _ _⟩,?_⟩
   refine wpG.only 5 (by kernel_rfl) (op_val (d:=(some 79)) (v:=ag .i32 (rdL CZ z21 z20)) (by kernel_rfl) (yLA (C:=CZ) 32 z20 (rL 1 hs) rfl i0_37 i1_37) ⟨Cl.refl _,?_⟩)
   obtain ⟨r28,hg,h⟩:=ob h
   refine go 9 (oC 83 hs (kq_Add.ok hg _) fun w gw hs=>⟨.of gw,?_⟩)
   obtain ⟨h0,h1,h⟩:=oc2 h
   have i0_39:=h0
   have i1_39:=h1
   refine tgf 10 84 (PA CZ r19_A z20) (yiL (C:=CZ) 78 32 .i64 z20 (rL 1 hs) h0 h1) ?_
   refine go 11 (oL (C:=CZ) 32 z20 r28 hs 1 rfl i0_39 i1_39 fun w hs=>⟨⟨fun hf=>absurd hf (by decide),.all _ _⟩,?_⟩)
   refine gf (j36 _ _ ?_)
   obtain rfl:=of_some h
   have hs:=hs.front 2 rfl
   have hs:=hs.front 2 rfl
   try dsimp only [List.eraseIdx] at hs
   exact nj _ _ ⟨(hs.conv rfl),eg⟩
   clear hj hs
   rintro a w ⟨hs,g35,rfl⟩
   refine iN (T s31 (xn 2 fun _ j40=>?_))
   refine nq 0 [(85,I8 (iadd .i64 z20 1)),(69,I8 (iadd .i64 z20 1))] ?_
   refine fin (j40 _ _ ?_)
   exact tn (kl0 _ _ ⟨n,ls n,(iadd .i64 z20 1),y24,h,(pk [1,2,3,4,5,6,7,8] hs),eg⟩)
   refine tb 0 70 (df hc) ?_
   refine fj j29 s28 (xs fun _ s41=>(cf (xexit (tx (tx (iH ?_))))))
   obtain rfl:=of_some h
   exact exq_n (nn0 _ _ ⟨(hs.conv rfl),eg⟩)
  clear hs h hy
  rintro a w ⟨hs,g27,rfl⟩
  have h:=hk0
  refine T s23 (xs fun _ s42=>(xn 10 fun _ j43=>?_))
  refine qo 0 86 (.slice r19_A r19_n r19_c) ?_
  obtain ⟨r29,hg,h⟩:=ob h
  refine wpS.only 1 (oH 87 hs (kpke_vector_packed.ok hg _ (rL 0 hs)) ?_)
  rintro ⟨r29_A,r29_n,r29_c⟩ w gw hs
  have hs:=hs.conv (L':=[.ownL CB r29_A r29_n r29_c r29 5,.ownL CZ r19_A r19_n r19_c y22 32,.ownL CZ r18_A r18_n r18_c r18 32,.ownL CZ r17_A r17_n r17_c r17 32,.ownL CZ r16_A r16_n r16_c r16 32,.ownL CS y12_A y12_n y12_c y12_H 78,.ownL CB r5_A r5_n r5_c r5 5,.ownL CS s4_A s4_n s4_c ([(a1_A,a1_n,a1_c),(s3_A,s3_n,s3_c)]:List HS) 24,.ownL CB s3_A s3_n s3_c ([(iconv .u8 a0_0)]:List Int) 5,.blk b1 ([I8 a0_0,I8 a0_1,I8 a0_2,I8 a0_3,I8 a0_4]) 23]) rfl
  refine ⟨fun _=>trivial,?_⟩
  refine qo 2 88 (.slice s8_A s8_n s8_c) ?_
  refine so 3 (oLt (C:=CS) 89 59 24 2 (.slice none 0 0) #[(0,.slice r29_A r29_n r29_c),(1,.slice s8_A s8_n s8_c)] ([(r29_A,r29_n,r29_c),(s8_A,s8_n,s8_c)]:List HS) hs rfl (by decide) (by decide) fun s30_A s30_n s30_c w gw hs=>?_)
  obtain ⟨r31,hg,h⟩:=ob h
  refine wpS.only 4 (oH 90 hs (bits_Join.ok hg _ (LLP.mk (rL 0 hs) (inn_cons (rL 1 hs) (inn_cons (rR 1 hs) inn_nil)))) ?_)
  rintro ⟨r31_A,r31_n,r31_c⟩ w gw hs
  have hs:=hs.conv (L':=[.ownL CB r31_A r31_n r31_c r31 5,.ownL CS s30_A s30_n s30_c ([(r29_A,r29_n,r29_c),(s8_A,s8_n,s8_c)]:List HS) 24,.ownL CB r29_A r29_n r29_c r29 5,.ownL CZ r19_A r19_n r19_c y22 32,.ownL CZ r18_A r18_n r18_c r18 32,.ownL CZ r17_A r17_n r17_c r17 32,.ownL CZ r16_A r16_n r16_c r16 32,.ownL CS y12_A y12_n y12_c y12_H 78,.ownL CB r5_A r5_n r5_c r5 5,.ownL CS s4_A s4_n s4_c ([(a1_A,a1_n,a1_c),(s3_A,s3_n,s3_c)]:List HS) 24,.ownL CB s3_A s3_n s3_c ([(iconv .u8 a0_0)]:List Int) 5,.blk b1 ([I8 a0_0,I8 a0_1,I8 a0_2,I8 a0_3,I8 a0_4]) 23]) rfl
  refine ⟨fun _=>trivial,?_⟩
  refine qo 5 91 (.slice r17_A r17_n r17_c) ?_
  obtain ⟨r32,hg,h⟩:=ob h
  refine wpS.only 6 (oH 92 hs (kpke_vector_packed.ok hg _ (rL 5 hs)) ?_)
  rintro ⟨r32_A,r32_n,r32_c⟩ w gw hs
  have hs:=hs.conv (L':=[.ownL CB r32_A r32_n r32_c r32 5,.ownL CB r31_A r31_n r31_c r31 5,.ownL CS s30_A s30_n s30_c ([(r29_A,r29_n,r29_c),(s8_A,s8_n,s8_c)]:List HS) 24,.ownL CB r29_A r29_n r29_c r29 5,.ownL CZ r19_A r19_n r19_c y22 32,.ownL CZ r18_A r18_n r18_c r18 32,.ownL CZ r17_A r17_n r17_c r17 32,.ownL CZ r16_A r16_n r16_c r16 32,.ownL CS y12_A y12_n y12_c y12_H 78,.ownL CB r5_A r5_n r5_c r5 5,.ownL CS s4_A s4_n s4_c ([(a1_A,a1_n,a1_c),(s3_A,s3_n,s3_c)]:List HS) 24,.ownL CB s3_A s3_n s3_c ([(iconv .u8 a0_0)]:List Int) 5,.blk b1 ([I8 a0_0,I8 a0_1,I8 a0_2,I8 a0_3,I8 a0_4]) 23]) rfl
  refine ⟨fun _=>trivial,?_⟩
  refine nq 7 [(4,.slice r31_A r31_n r31_c),(5,.slice r32_A r32_n r32_c),(6,I8 0)] ?_
  refine fj j43 s42 (xret ?_)
  obtain ⟨rfl,rfl,rfl⟩:=os3 h
  have hs:=hs.front 1 rfl
  try dsimp only [List.eraseIdx] at hs
  exact qq _ _ (pt [4,5,6] [.slice r31_A r31_n r31_c,.slice r32_A r32_n r32_c,I8 0] ⟨⟨⟨r31_A,r31_n,r31_c⟩,⟨r32_A,r32_n,r32_c⟩⟩,cr,(pz (dr [1,1,0,0,0,0,0,0,0,0,0,0,0] hs))⟩)
  refine tb 1 47 (nt hc) ?_
  refine fj j16 s15 (ct (xs fun _ s44=>(xn 4 fun _ j45=>?_)))
  refine nq 0 [(48,I8 r11),(4,.slice none 0 0),(5,.slice none 0 0),(6,I8 r11)] ?_
  refine fj j45 s44 (xret (tr ?_))
  obtain ⟨rfl,rfl,rfl⟩:=os3 h
  have hs:=hs.addNilL CB 5
  have hs:=hs.addNilL CB 5
  exact qq _ _ (pt [4,5,6] [.slice none 0 0,.slice none 0 0,I8 r11] ⟨⟨⟨none,0,0⟩,⟨none,0,0⟩⟩,cr,(pz (dr [1,1,0,0,0,0,0] hs))⟩)
  refine tb 2 24 (nt hc) ?_
  refine qo 3 21 (.bool true) ?_
  refine fj j7 s6 (ct (xs fun _ s46=>(xn 3 fun _ j47=>?_)))
  refine nq 0 [(4,.slice none 0 0),(5,.slice none 0 0),(6,I8 14)] ?_
  refine fj j47 s46 (xret (iR (tr ?_)))
  obtain ⟨rfl,rfl,rfl⟩:=os3 h
  have hs:=hs.addNilL CB 5
  have hs:=hs.addNilL CB 5
  exact qq _ _ (pt [4,5,6] [.slice none 0 0,.slice none 0 0,I8 14] ⟨⟨⟨none,0,0⟩,⟨none,0,0⟩⟩,cr,(pz (dr [1,1,0] hs))⟩)
 | false=>
  have h:=of_if_f h
  refine so 1 (oC 19 hs (kpke_known.ok hg _) fun w gw hs=>?_)
  refine nq 2 [(20,.bool true),(17,.bool true)] ?_
  refine fj j5 s4 (ct (xs fun _ s48=>(xn 3 fun _ j49=>?_)))
  refine nq 0 [(4,.slice none 0 0),(5,.slice none 0 0),(6,I8 9)] ?_
  refine fj j49 s48 (xret (iR (tr ?_)))
  obtain ⟨rfl,rfl,rfl⟩:=os3 h
  have hs:=hs.addNilL CB 5
  have hs:=hs.addNilL CB 5
  exact qq _ _ (pt [4,5,6] [.slice none 0 0,.slice none 0 0,I8 9] ⟨⟨⟨none,0,0⟩,⟨none,0,0⟩⟩,cr,(pz (dr [1,1,0] hs))⟩)
theorem kem_Keys.ok {K:Nat}{a0_0 a0_1 a0_2 a0_3 a0_4:Int}{a1 a2 r0 r1:List Int}{r2:Int}{a1_A:Option Addr}{a1_n a1_c:Nat}{a2_A:Option Addr}{a2_n a2_c:Nat}(h:kem_Keys.f K a0_0 a0_1 a0_2 a0_3 a0_4 a1 a2=some (r0,r1,r2)) (w0:World) (hp1:RowL CB w0 a1_A a1_n a1_c a1) (hp2:RowL CB w0 a2_A a2_n a2_c a2) (hg0:RowL CW w0 (some ⟨0,0,none⟩) 1 1 [tab_0]) (hg1:RowL CV w0 (some ⟨1,0,none⟩) 1 1 [tab_1]) (hg2:RowL CV w0 (some ⟨2,0,none⟩) 1 1 [tab_2]):Calls Tryd.prog 29 #[.agg #[I8 a0_0,I8 a0_1,I8 a0_2,I8 a0_3,I8 a0_4],.slice a1_A a1_n a1_c,.slice a2_A a2_n a2_c] w0 fun e w'=>∃ h:(Option Addr × Nat × Nat) × (Option Addr × Nat × Nat),e = .returned (.tuple #[.slice h.1.1 h.1.2.1 h.1.2.2,.slice h.2.1 h.2.2.1 h.2.2.2,I8 r2])∧St w0 [] [.ownL CB h.1.1 h.1.2.1 h.1.2.2 r0 5,.ownL CB h.2.1 h.2.2.1 h.2.2.2 r1 5] [] w':=by
 refine calls_k Tryd.func29 rfl fun Q qq=>?_
 have hs:=St.startR (all_cons (RowP.ent hp1) (all_cons (RowP.ent hp2) (all_cons (RowP.ent hg0) (all_cons (RowP.ent hg1) (all_cons (RowP.ent hg2) all_nil)))))
 refine wc (a':=(fu 46 [.agg #[I8 a0_0,I8 a0_1,I8 a0_2,I8 a0_3,I8 a0_4],.slice a1_A a1_n a1_c,.slice a2_A a2_n a2_c])) ?_
 refine xs fun _ s1=>?_
 refine xn 4 fun _ j2=>?_
 refine so 0 (oBa 3 23 hs [I8 a0_0,I8 a0_1,I8 a0_2,I8 a0_3,I8 a0_4] fun b1 w gw hs=>?_)
 refine nq 1 [(6,.slice none 0 0),(7,.slice none 0 0),(8,I8 0)] ?_
 refine fj j2 s1 (xs fun _ s3=>(xs fun _ s4=>(xn 9 fun _ j5=>?_)))
 refine tkt 0 14 _ (yWs 5 23 hs 0 .grow) ?_
 obtain ⟨⟨r2,r3,r4⟩,hg,h⟩:=ob h
 refine so 1 (oC 15 hs (kem_Sizes.ok hg _) fun w gw hs=>?_)
 refine nq 2 [(13,.tuple #[I8 r2,I8 r3,I8 r4]),(16,I8 r2),(17,I8 r3),(18,I8 r4),(9,I8 r2),(10,I8 r3),(11,I8 r4)] ?_
 refine fj j5 s4 (xb (xs fun _ s6=>(xn 3 fun _ j7=>?_)))
 refine qo 0 20 (I8 r2) ?_
 obtain ⟨hc,h⟩|⟨hc,h⟩:=of_if h
 refine tb 1 21 (et hc) ?_
 refine qo 2 19 (.bool true) ?_
 refine fj j7 s6 (ct (xs fun _ s8=>(xn 3 fun _ j9=>?_)))
 refine nq 0 [(6,.slice none 0 0),(7,.slice none 0 0),(8,I8 9)] ?_
 refine fj j9 s8 (xret (iR (tr ?_)))
 obtain ⟨rfl,rfl,rfl⟩:=os3 h
 have hs:=hs.addNilL CB 5
 have hs:=hs.addNilL CB 5
 exact qq _ _ (pt [6,7,8] [.slice none 0 0,.slice none 0 0,I8 9] ⟨⟨⟨none,0,0⟩,⟨none,0,0⟩⟩,cr,(pz (dr [1,1,0] hs))⟩)
 refine tb 1 21 (ef hc) ?_
 refine qo 2 19 (.bool false) ?_
 refine fj j7 s6 (cf (xs fun _ s10=>(xn 9 fun _ j11=>?_)))
 refine qo 0 23 (.slice a1_A a1_n a1_c) ?_
 refine tkf 1 24 (I8 (a1.length:Int)) (yl (rR 0 hs)) ?_
 obtain ⟨hc,h⟩|⟨hc,h⟩:=of_if h
 refine tb 2 25 (nf hc) ?_
 refine nq 3 [(26,.bool false),(27,.slice a2_A a2_n a2_c)] ?_
 refine tkf 5 28 (I8 (a2.length:Int)) (yl (rR 1 hs)) ?_
 obtain ⟨hc,h⟩|⟨hc,h⟩:=of_if h
 refine tb 6 29 (nf hc) ?_
 refine nq 7 [(30,.bool false),(22,.bool false)] ?_
 refine fj j11 s10 (cf (xk (iN (T s3 (xs fun _ s12=>(xn 10 fun _ j13=>?_))))))
 refine tkt 0 32 _ (yWs 5 23 hs 0 .grow) ?_
 refine qo 1 33 (.slice a1_A a1_n a1_c) ?_
 obtain ⟨⟨r5,r6,r7⟩,hg,h⟩:=ob h
 refine wpS.only 2 (oH 34 hs (kpke_Keys.ok hg _ (rR 0 hs) (rR 2 hs) (rR 3 hs) (rR 4 hs)) ?_)
 rintro ⟨⟨r5_A,r5_n,r5_c⟩,⟨r6_A,r6_n,r6_c⟩⟩ w gw hs
 have hs:=hs.conv (L':=[.ownL CB r5_A r5_n r5_c r5 5,.ownL CB r6_A r6_n r6_c r6 5,.blk b1 ([I8 a0_0,I8 a0_1,I8 a0_2,I8 a0_3,I8 a0_4]) 23]) rfl
 refine ⟨fun _=>trivial,?_⟩
 refine nq 3 [(31,.tuple #[.slice r5_A r5_n r5_c,.slice r6_A r6_n r6_c,I8 r7]),(35,.slice r5_A r5_n r5_c),(36,.slice r6_A r6_n r6_c),(37,I8 r7),(6,.slice r5_A r5_n r5_c),(12,.slice r6_A r6_n r6_c),(8,I8 r7)] ?_
 refine fj j13 s12 (xs fun _ s14=>(xs fun _ s15=>(xn 2 fun _ j16=>?_)))
 refine qo 0 38 (I8 r7) ?_
 obtain ⟨hc,h⟩|⟨hc,h⟩:=of_if h
 refine tb 1 39 (nf hc) ?_
 refine fj j16 s15 (cf (xk (T s14 (xs fun _ s17=>(xn 11 fun _ j18=>?_)))))
 refine nq 0 [(41,.slice r5_A r5_n r5_c),(42,.slice r6_A r6_n r6_c),(43,.slice r5_A r5_n r5_c),(44,.slice r5_A r5_n r5_c)] ?_
 obtain ⟨r8,hg,h⟩:=ob h
 refine wpS.only 4 (oH 45 hs (kem_digest.ok hg _ (rL 0 hs) (rR 2 hs) (rR 3 hs) (rR 4 hs)) ?_)
 rintro ⟨r8_A,r8_n,r8_c⟩ w gw hs
 have hs:=hs.conv (L':=[.ownL CB r8_A r8_n r8_c r8 5,.ownL CB r5_A r5_n r5_c r5 5,.ownL CB r6_A r6_n r6_c r6 5,.blk b1 ([I8 a0_0,I8 a0_1,I8 a0_2,I8 a0_3,I8 a0_4]) 23]) rfl
 refine ⟨fun _=>trivial,?_⟩
 refine qo 5 46 (.slice a2_A a2_n a2_c) ?_
 refine so 6 (oLt (C:=CS) 47 59 24 4 (.slice none 0 0) #[(0,.slice r6_A r6_n r6_c),(1,.slice r5_A r5_n r5_c),(2,.slice r8_A r8_n r8_c),(3,.slice a2_A a2_n a2_c)] ([(r6_A,r6_n,r6_c),(r5_A,r5_n,r5_c),(r8_A,r8_n,r8_c),(a2_A,a2_n,a2_c)]:List HS) hs rfl (by decide) (by decide) fun s9_A s9_n s9_c w gw hs=>?_)
 obtain ⟨r10,hg,h⟩:=ob h
 refine wpS.only 7 (oH 48 hs (bits_Join.ok hg _ (LLP.mk (rL 0 hs) (inn_cons (rL 3 hs) (inn_cons (rL 2 hs) (inn_cons (rL 1 hs) (inn_cons (rR 1 hs) inn_nil)))))) ?_)
 rintro ⟨r10_A,r10_n,r10_c⟩ w gw hs
 have hs:=hs.conv (L':=[.ownL CB r10_A r10_n r10_c r10 5,.ownL CS s9_A s9_n s9_c ([(r6_A,r6_n,r6_c),(r5_A,r5_n,r5_c),(r8_A,r8_n,r8_c),(a2_A,a2_n,a2_c)]:List HS) 24,.ownL CB r8_A r8_n r8_c r8 5,.ownL CB r5_A r5_n r5_c r5 5,.ownL CB r6_A r6_n r6_c r6 5,.blk b1 ([I8 a0_0,I8 a0_1,I8 a0_2,I8 a0_3,I8 a0_4]) 23]) rfl
 refine ⟨fun _=>trivial,?_⟩
 refine nq 8 [(6,.slice r5_A r5_n r5_c),(7,.slice r10_A r10_n r10_c),(8,I8 0)] ?_
 refine fj j18 s17 (xret ?_)
 obtain ⟨rfl,rfl,rfl⟩:=os3 h
 have hs:=hs.front 3 rfl
 try dsimp only [List.eraseIdx] at hs
 exact qq _ _ (pt [6,7,8] [.slice r5_A r5_n r5_c,.slice r10_A r10_n r10_c,I8 0] ⟨⟨⟨r5_A,r5_n,r5_c⟩,⟨r10_A,r10_n,r10_c⟩⟩,cr,(pz (dr [1,1,0,0,0,0] hs))⟩)
 refine tb 1 39 (nt hc) ?_
 refine fj j16 s15 (ct (xs fun _ s19=>(xn 4 fun _ j20=>?_)))
 refine nq 0 [(40,I8 r7),(6,.slice none 0 0),(7,.slice none 0 0),(8,I8 r7)] ?_
 refine fj j20 s19 (xret (tr ?_))
 obtain ⟨rfl,rfl,rfl⟩:=os3 h
 have hs:=hs.addNilL CB 5
 have hs:=hs.addNilL CB 5
 exact qq _ _ (pt [6,7,8] [.slice none 0 0,.slice none 0 0,I8 r7] ⟨⟨⟨none,0,0⟩,⟨none,0,0⟩⟩,cr,(pz (dr [1,1,0,0,0] hs))⟩)
 refine tb 6 29 (nt hc) ?_
 refine nq 7 [(30,.bool true),(22,.bool true)] ?_
 refine fj j11 s10 (ct (xs fun _ s21=>(xn 3 fun _ j22=>?_)))
 refine nq 0 [(6,.slice none 0 0),(7,.slice none 0 0),(8,I8 14)] ?_
 refine fj j22 s21 (xret (iR (tr ?_)))
 obtain ⟨rfl,rfl,rfl⟩:=os3 h
 have hs:=hs.addNilL CB 5
 have hs:=hs.addNilL CB 5
 exact qq _ _ (pt [6,7,8] [.slice none 0 0,.slice none 0 0,I8 14] ⟨⟨⟨none,0,0⟩,⟨none,0,0⟩⟩,cr,(pz (dr [1,1,0] hs))⟩)
 refine tb 2 25 (nt hc) ?_
 refine nq 3 [(26,.bool true),(27,undef),(28,undef),(29,undef),(30,.bool true),(22,.bool true)] ?_
 refine fj j11 s10 (ct (xs fun _ s23=>(xn 3 fun _ j24=>?_)))
 refine nq 0 [(6,.slice none 0 0),(7,.slice none 0 0),(8,I8 14)] ?_
 refine fj j24 s23 (xret (iR (tr ?_)))
 obtain ⟨rfl,rfl,rfl⟩:=os3 h
 have hs:=hs.addNilL CB 5
 have hs:=hs.addNilL CB 5
 exact qq _ _ (pt [6,7,8] [.slice none 0 0,.slice none 0 0,I8 14] ⟨⟨⟨none,0,0⟩,⟨none,0,0⟩⟩,cr,(pz (dr [1,1,0] hs))⟩)
end Go.Proofs.YtemdbgmldljbpaaDoor
