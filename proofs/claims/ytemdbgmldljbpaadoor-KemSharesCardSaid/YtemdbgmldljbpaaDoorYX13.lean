/- own -/
import Derived.Test.YtemdbgmldljbpaaDoorMh
import Derived.Test.YtemdbgmldljbpaaDoorProg
import Derived.Test.YtemdbgmldljbpaaDoorYFKemShares
import Derived.Test.YtemdbgmldljbpaaDoorYX0
import Derived.Test.YtemdbgmldljbpaaDoorYX1
import Derived.Test.YtemdbgmldljbpaaDoorYX2
import Derived.Test.YtemdbgmldljbpaaDoorYX3
import Derived.Test.YtemdbgmldljbpaaDoorYX4
import Derived.Test.YtemdbgmldljbpaaDoorYX5
import Derived.Test.YtemdbgmldljbpaaDoorYX6
import Derived.Test.YtemdbgmldljbpaaDoorYX7
set_option linter.unusedVariables false
set_option linter.unusedSimpArgs false
set_option maxRecDepth 100000
set_option maxHeartbeats 4000000
namespace Go.Proofs.YtemdbgmldljbpaaDoor
open Go.Mx
attribute [local irreducible] wpOp
theorem kem_Seal.ok {K:Nat}{a0_0 a0_1 a0_2 a0_3 a0_4:Int}{a1 a2 r0 r1:List Int}{r2:Int}{a1_A:Option Addr}{a1_n a1_c:Nat}{a2_A:Option Addr}{a2_n a2_c:Nat}(h:kem_Seal.f K a0_0 a0_1 a0_2 a0_3 a0_4 a1 a2=some (r0,r1,r2)) (w0:World) (hp1:RowL CB w0 a1_A a1_n a1_c a1) (hp2:RowL CB w0 a2_A a2_n a2_c a2) (hg0:RowL CW w0 (some ⟨0,0,none⟩) 1 1 [tab_0]) (hg1:RowL CV w0 (some ⟨1,0,none⟩) 1 1 [tab_1]) (hg2:RowL CV w0 (some ⟨2,0,none⟩) 1 1 [tab_2]):Calls Tryd.prog 32 #[.agg #[I8 a0_0,I8 a0_1,I8 a0_2,I8 a0_3,I8 a0_4],.slice a1_A a1_n a1_c,.slice a2_A a2_n a2_c] w0 fun e w'=>∃ h:(Option Addr × Nat × Nat) × (Option Addr × Nat × Nat),e = .returned (.tuple #[.slice h.1.1 h.1.2.1 h.1.2.2,.slice h.2.1 h.2.2.1 h.2.2.2,I8 r2])∧St w0 [] [.rowL CB h.1.1 h.1.2.1 h.1.2.2 r0,.ownL CB h.2.1 h.2.2.1 h.2.2.2 r1 5] [] w':=by
 refine calls_k Tryd.func32 rfl fun Q qq=>?_
 have hs:=St.startR (all_cons (RowP.ent hp1) (all_cons (RowP.ent hp2) (all_cons (RowP.ent hg0) (all_cons (RowP.ent hg1) (all_cons (RowP.ent hg2) all_nil)))))
 refine wc (a':=(fu 48 [.agg #[I8 a0_0,I8 a0_1,I8 a0_2,I8 a0_3,I8 a0_4],.slice a1_A a1_n a1_c,.slice a2_A a2_n a2_c])) ?_
 refine xs fun _ s1=>?_
 refine xn 4 fun _ j2=>?_
 refine so 0 (oBa 3 23 hs [I8 a0_0,I8 a0_1,I8 a0_2,I8 a0_3,I8 a0_4] fun b1 w gw hs=>?_)
 refine nq 1 [(6,.slice none 0 0),(7,.slice none 0 0),(8,I8 0)] ?_
 refine fj j2 s1 (xs fun _ s3=>(xs fun _ s4=>(xn 9 fun _ j5=>?_)))
 refine tkt 0 14 _ (yWs 5 23 hs 0 .grow) ?_
 obtain ⟨⟨r2,r3,r4⟩,hg,h⟩:=ob h
 refine so 1 (oC 15 hs (kem_Sizes.ok hg _) fun w gw hs=>?_)
 refine nq 2 [(13,.tuple #[I8 r2,I8 r3,I8 r4]),(16,I8 r2),(17,I8 r3),(18,I8 r4),(9,I8 r2),(10,I8 r3),(11,I8 r4)] ?_
 refine fj j5 s4 (xb (xs fun _ s6=>(xn 3 fun _ j7=>?_)))
 refine qo 0 20 (I8 r2) ?_
 obtain ⟨hc,h⟩|⟨hc,h⟩:=of_if h
 refine tb 1 21 (et hc) ?_
 refine qo 2 19 (.bool true) ?_
 refine fj j7 s6 (ct (xs fun _ s8=>(xn 3 fun _ j9=>?_)))
 refine nq 0 [(6,.slice none 0 0),(7,.slice none 0 0),(8,I8 9)] ?_
 refine fj j9 s8 (xret (iR (tr ?_)))
 obtain ⟨rfl,rfl,rfl⟩:=os3 h
 have hs:=hs.addNilL CB 5
 have hs:=hs.addNilR CB
 exact qq _ _ (pt [6,7,8] [.slice none 0 0,.slice none 0 0,I8 9] ⟨⟨⟨none,0,0⟩,⟨none,0,0⟩⟩,cr,(pz (dr [1,1,0] hs))⟩)
 refine tb 1 21 (ef hc) ?_
 refine qo 2 19 (.bool false) ?_
 refine fj j7 s6 (cf (xs fun _ s10=>(xn 5 fun _ j11=>?_)))
 refine tkt 0 23 _ (yWs 5 23 hs 0 .grow) ?_
 refine qo 1 24 (.slice a1_A a1_n a1_c) ?_
 obtain ⟨r5,hg,h⟩:=ob h
 cases r5 with
 | true=>
  have h:=of_if_t h
  refine so 2 (oC 25 hs (kem_good.ok hg _ (rR 0 hs) (rR 2 hs) (rR 3 hs) (rR 4 hs)) fun w gw hs=>?_)
  refine nq 3 [(26,.bool false),(22,.bool false)] ?_
  refine fj j11 s10 (cf (xs fun _ s12=>(xn 4 fun _ j13=>?_)))
  refine qo 0 28 (.slice a2_A a2_n a2_c) ?_
  refine tkf 1 29 (I8 (a2.length:Int)) (yl (rR 1 hs)) ?_
  obtain ⟨hc,h⟩|⟨hc,h⟩:=of_if h
  refine tb 2 30 (nf hc) ?_
  refine qo 3 27 (.bool false) ?_
  refine fj j13 s12 (cf (xk (iN (T s3 (xs fun _ s14=>(xn 9 fun _ j15=>?_))))))
  refine nq 0 [(32,.slice a2_A a2_n a2_c),(33,.slice a1_A a1_n a1_c)] ?_
  obtain ⟨r6,hg,h⟩:=ob h
  refine wpS.only 2 (oH 34 hs (kem_digest.ok hg _ (rR 0 hs) (rR 2 hs) (rR 3 hs) (rR 4 hs)) ?_)
  rintro ⟨r6_A,r6_n,r6_c⟩ w gw hs
  have hs:=hs.conv (L':=[.ownL CB r6_A r6_n r6_c r6 5,.blk b1 ([I8 a0_0,I8 a0_1,I8 a0_2,I8 a0_3,I8 a0_4]) 23]) rfl
  refine ⟨fun _=>trivial,?_⟩
  refine wpS.only 3 (op_inline (d:=(some 35)) (f:=75) (args:=#[.slice a2_A a2_n a2_c,.slice r6_A r6_n r6_c]) (by kernel_rfl) (fun _=>by kernel_rfl) fun R16 kI16=>?_)
  refine calls_k Tryd.func75 rfl fun Q16 qq16=>?_
  refine wc (a':=(fu 18 [.slice a2_A a2_n a2_c,.slice r6_A r6_n r6_c])) ?_
  refine xs fun _ s17=>?_
  refine xn 2 fun _ j18=>?_
  refine nq 0 [(4,.slice none 0 0),(5,.slice none 0 0)] ?_
  refine fj j18 s17 (xs fun _ s19=>(xn 10 fun _ j20=>?_))
  refine nq 0 [(9,.slice a2_A a2_n a2_c),(10,.slice r6_A r6_n r6_c)] ?_
  refine so 2 (oLt (C:=CS) 11 59 24 2 (.slice none 0 0) #[(0,.slice a2_A a2_n a2_c),(1,.slice r6_A r6_n r6_c)] ([(a2_A,a2_n,a2_c),(r6_A,r6_n,r6_c)]:List HS) hs rfl (by decide) (by decide) fun s7_A s7_n s7_c w gw hs=>?_)
  obtain ⟨r8,hg,h⟩:=ob h
  refine wpS.only 3 (oH 12 hs (bits_Join.ok hg _ (LLP.mk (rL 0 hs) (inn_cons (rR 1 hs) (inn_cons (rL 1 hs) inn_nil)))) ?_)
  rintro ⟨r8_A,r8_n,r8_c⟩ w gw hs
  have hs:=hs.conv (L':=[.ownL CB r8_A r8_n r8_c r8 5,.ownL CS s7_A s7_n s7_c ([(a2_A,a2_n,a2_c),(r6_A,r6_n,r6_c)]:List HS) 24,.ownL CB r6_A r6_n r6_c r6 5,.blk b1 ([I8 a0_0,I8 a0_1,I8 a0_2,I8 a0_3,I8 a0_4]) 23]) rfl
  refine ⟨fun _=>trivial,?_⟩
  obtain ⟨⟨r9,r10⟩,hg,h⟩:=ob h
  refine wpS.only 4 (oH 13 hs (keccak_Sum.ok hg _ (rL 0 hs) (rR 2 hs) (rR 3 hs) (rR 4 hs)) ?_)
  rintro ⟨r9_A,r9_n,r9_c⟩ w gw hs
  have hs:=hs.conv (L':=[.ownL CB r9_A r9_n r9_c r9 5,.ownL CB r8_A r8_n r8_c r8 5,.ownL CS s7_A s7_n s7_c ([(a2_A,a2_n,a2_c),(r6_A,r6_n,r6_c)]:List HS) 24,.ownL CB r6_A r6_n r6_c r6 5,.blk b1 ([I8 a0_0,I8 a0_1,I8 a0_2,I8 a0_3,I8 a0_4]) 23]) rfl
  refine ⟨fun _=>trivial,?_⟩
  refine nq 5 [(8,.tuple #[.slice r9_A r9_n r9_c,I8 r10]),(14,.slice r9_A r9_n r9_c),(15,I8 r10),(6,.slice r9_A r9_n r9_c),(7,I8 r10)] ?_
  refine fj j20 s19 (xs fun _ s21=>?_)
  refine rg [] (fun k=>True) 6 fun _ j22=>?_
  have hs:=hs.drawn1
  refine gq 0 16 (.slice r9_A r9_n r9_c) ?_
  obtain ⟨hs,hfr23⟩:=hs.freezeF 0 rfl
  obtain ⟨h0,h1,h⟩:=oc2 h
  obtain ⟨h2,h3,h⟩:=oc2 h
  obtain ⟨s11_A,hA⟩ : ∃ A,A=if (32:Int).toNat=(0:Int).toNat then r9_A else adr r9_A ((0:Int).toNat*Cod.size CB):=⟨_,rfl⟩
  obtain ⟨s11_n,hn⟩ : ∃ n,n=(32:Int).toNat-(0:Int).toNat:=⟨_,rfl⟩
  obtain ⟨s11_c,hc⟩ : ∃ c,c=(32:Int).toNat-(0:Int).toNat:=⟨_,rfl⟩
  refine tgf 1 17 (.slice s11_A s11_n s11_c) (yld_sub3 (mx:=32) (k:=.i64) (C:=CB) (t:=24) (e:=5) (low:=none) (high:=some (I8 32)) (lo:=0) (hi:=32) (hs.rowF 0 rfl) (by kernel_rfl) (by kernel_rfl) (by kernel_rfl) (.inl ⟨rfl,rfl⟩) ⟨_,rfl⟩ h0 h1 h2 h3 hA hn hc) ?_
  have hs:=hs.addSub3F (C:=CB) 0 rfl h0 h1 h2 h3 hA hn hc
  refine gq 2 18 (.slice r9_A r9_n r9_c) ?_
  obtain ⟨h0,h1,h⟩:=oc2 h
  obtain ⟨h2,h⟩:=oc h
  obtain ⟨s12_A,hA⟩ : ∃ A,A=if r9_c=(32:Int).toNat then r9_A else adr r9_A ((32:Int).toNat*Cod.size CB):=⟨_,rfl⟩
  obtain ⟨s12_n,hn⟩ : ∃ n,n=((r9.length:Int):Int).toNat-(32:Int).toNat:=⟨_,rfl⟩
  obtain ⟨s12_c,hc⟩ : ∃ c,c=r9_c-(32:Int).toNat:=⟨_,rfl⟩
  refine tgf 3 19 (.slice s12_A s12_n s12_c) (ysb (C:=CB) 24 5 (some (I8 32)) none 32 (r9.length:Int) (hs.rowF 1 rfl) (.inr ⟨_,rfl⟩) (.inl ⟨rfl,rfl⟩) h0 h1 h2 hA hn hc) ?_
  have hs:=hs.addSubF (C:=CB) 1 rfl h0 h1 h2 hA hn hc
  refine gq 4 4 (.slice s11_A s11_n s11_c) ?_
  refine gq 5 5 (.slice s12_A s12_n s12_c) ?_
  refine gf (j22 _ _ ?_)
  refine T s21 (xret ?_)
  refine qq16 _ _ (pt [4,5] [.slice s11_A s11_n s11_c,.slice s12_A s12_n s12_c] ?_)
  refine kI16 _ _ ?_
  refine ⟨fun _=>trivial,?_⟩
  refine nq 4 [(31,.tuple #[.slice s11_A s11_n s11_c,.slice s12_A s12_n s12_c]),(36,.slice s11_A s11_n s11_c),(37,.slice s12_A s12_n s12_c),(6,.slice s11_A s11_n s11_c),(12,.slice s12_A s12_n s12_c)] ?_
  refine fj j15 s14 (xs fun _ s24=>(xn 10 fun _ j25=>?_))
  refine tkt 0 39 _ (yWs 5 23 hs 3 .grow) ?_
  refine nq 1 [(40,.slice a1_A a1_n a1_c),(41,.slice a2_A a2_n a2_c),(42,.slice s12_A s12_n s12_c)] ?_
  obtain ⟨⟨r13,r14⟩,hg,h⟩:=ob h
  refine wpS.only 4 (oH 43 hs (kpke_Encrypt.ok hg _ (rR 3 hs) (rR 4 hs) (hs.rowF 0 rfl) (rR 5 hs) (rR 6 hs) (rR 7 hs)) ?_)
  rintro ⟨r13_A,r13_n,r13_c⟩ w gw hs
  have hs:=hs.conv (L':=[.ownL CB r13_A r13_n r13_c r13 5,.ownL CB r8_A r8_n r8_c r8 5,.ownL CS s7_A s7_n s7_c ([(a2_A,a2_n,a2_c),(r6_A,r6_n,r6_c)]:List HS) 24,.ownL CB r6_A r6_n r6_c r6 5,.blk b1 ([I8 a0_0,I8 a0_1,I8 a0_2,I8 a0_3,I8 a0_4]) 23]) rfl
  refine ⟨fun _=>trivial,?_⟩
  refine nq 5 [(38,.tuple #[.slice r13_A r13_n r13_c,I8 r14]),(44,.slice r13_A r13_n r13_c),(45,I8 r14),(7,.slice r13_A r13_n r13_c),(8,I8 r14)] ?_
  refine fj j25 s24 (xs fun _ s26=>(xs fun _ s27=>(xn 2 fun _ j28=>?_)))
  refine qo 0 46 (I8 r14) ?_
  obtain ⟨hc,h⟩|⟨hc,h⟩:=of_if h
  refine tb 1 47 (nf hc) ?_
  refine fj j28 s27 (cf (xk (T s26 (xs fun _ s29=>(xn 5 fun _ j30=>?_)))))
  refine nq 0 [(49,.slice s11_A s11_n s11_c),(50,.slice r13_A r13_n r13_c),(6,.slice s11_A s11_n s11_c),(7,.slice r13_A r13_n r13_c),(8,I8 0)] ?_
  refine fj j30 s29 (xret ?_)
  obtain ⟨rfl,rfl,rfl⟩:=os3 h
  have hs:=hs.promote 1 rfl hfr23
  exact qq _ _ (pt [6,7,8] [.slice s11_A s11_n s11_c,.slice r13_A r13_n r13_c,I8 0] ⟨⟨⟨s11_A,s11_n,s11_c⟩,⟨r13_A,r13_n,r13_c⟩⟩,cr,(dr [1,1,0,0,0,0] hs)⟩)
  refine tb 1 47 (nt hc) ?_
  refine fj j28 s27 (ct (xs fun _ s31=>(xn 4 fun _ j32=>?_)))
  refine nq 0 [(48,I8 r14),(6,.slice none 0 0),(7,.slice none 0 0),(8,I8 r14)] ?_
  refine fj j32 s31 (xret (tr ?_))
  obtain ⟨rfl,rfl,rfl⟩:=os3 h
  have hs:=hs.addNilL CB 5
  have hs:=hs.addNilR CB
  exact qq _ _ (pt [6,7,8] [.slice none 0 0,.slice none 0 0,I8 r14] ⟨⟨⟨none,0,0⟩,⟨none,0,0⟩⟩,cr,(pz (dr [1,1,0,0,0,0,0] hs))⟩)
  refine tb 2 30 (nt hc) ?_
  refine qo 3 27 (.bool true) ?_
  refine fj j13 s12 (ct (xs fun _ s33=>(xn 3 fun _ j34=>?_)))
  refine nq 0 [(6,.slice none 0 0),(7,.slice none 0 0),(8,I8 14)] ?_
  refine fj j34 s33 (xret (iR (tr ?_)))
  obtain ⟨rfl,rfl,rfl⟩:=os3 h
  have hs:=hs.addNilL CB 5
  have hs:=hs.addNilR CB
  exact qq _ _ (pt [6,7,8] [.slice none 0 0,.slice none 0 0,I8 14] ⟨⟨⟨none,0,0⟩,⟨none,0,0⟩⟩,cr,(pz (dr [1,1,0] hs))⟩)
 | false=>
  have h:=of_if_f h
  refine so 2 (oC 25 hs (kem_good.ok hg _ (rR 0 hs) (rR 2 hs) (rR 3 hs) (rR 4 hs)) fun w gw hs=>?_)
  refine nq 3 [(26,.bool true),(22,.bool true)] ?_
  refine fj j11 s10 (ct (xs fun _ s35=>(xn 3 fun _ j36=>?_)))
  refine nq 0 [(6,.slice none 0 0),(7,.slice none 0 0),(8,I8 10)] ?_
  refine fj j36 s35 (xret (iR (tr ?_)))
  obtain ⟨rfl,rfl,rfl⟩:=os3 h
  have hs:=hs.addNilL CB 5
  have hs:=hs.addNilR CB
  exact qq _ _ (pt [6,7,8] [.slice none 0 0,.slice none 0 0,I8 10] ⟨⟨⟨none,0,0⟩,⟨none,0,0⟩⟩,cr,(pz (dr [1,1,0] hs))⟩)
end Go.Proofs.YtemdbgmldljbpaaDoor
