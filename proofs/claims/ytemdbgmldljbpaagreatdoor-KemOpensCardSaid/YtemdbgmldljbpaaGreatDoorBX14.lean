/- own -/
import Derived.Test.YtemdbgmldljbpaaGreatDoorMh
import Derived.Test.YtemdbgmldljbpaaGreatDoorProg
import Derived.Test.YtemdbgmldljbpaaGreatDoorBF0
import Derived.Test.YtemdbgmldljbpaaGreatDoorBX12
set_option linter.unusedVariables false
set_option linter.unusedSimpArgs false
set_option maxRecDepth 100000
set_option maxHeartbeats 4000000
namespace Go.Proofs.YtemdbgmldljbpaaGreatDoor
open Go.Mx
attribute [local irreducible] wpOp
theorem ref25_Mul.ok {K:Nat}{a0 a1 r0:Arr 256}(h:ref25_Mul.f K a0 a1=some r0) (w0:World):Ret Tryz.prog 84 #[ag .i32 a0,ag .i32 a1] w0 (ag .i32 r0):=by
 refine calls_k Tryz.func84 rfl fun Q qq=>?_
 have hs:=St.start w0
 refine wc (a':=(fu 73 [ag .i32 a0,ag .i32 a1])) (xs fun _ s1=>(xn 3 fun _ j2=>(so 0 (oBe 2 70 .i32 a0 hs fun b1 w gw hs=>(so 1 (oBe 3 70 .i32 a1 hs fun b2 w gw hs=>?_))))))
 refine so 2 (oNe 4 70 .i32 (zeroA 256) hs fun b3 w gw hs=>?_)
 refine fj j2 s1 (xs fun _ s3=>(xn 3 fun _ j4=>?_))
 obtain ⟨r4,hg,h⟩:=ob h
 refine so 0 (oC 9 hs (ref25_powers.ok hg _) fun w gw hs=>?_)
 refine so 1 (oNe 5 69 .i32 (zeroA 256) hs fun b5 w gw hs=>?_)
 refine so 2 (oWe 69 .i32 r4 hs 0 fun w kp hs=>?_)
 refine fj j4 s3 (xs fun _ s5=>(xn 1 fun _ j6=>(so 0 (oNe 6 70 .i32 (zeroA 256) hs fun b6 w gw hs=>(fj j6 s5 (xs fun _ s7=>(xs fun _ s8=>(xn 1 fun _ j9=>(qo 0 7 (I8 0) (fj j9 s8 (?_)))))))))))
 obtain ⟨y9,hy,hk0⟩:=ob h
 refine wp_exq (N:=fun a w=>St w0 [] [.blk b6 (enc .i32 y9) 70,.blk b5 (enc .i32 r4) 69,.blk b3 (enc .i32 (zeroA 256)) 70,.blk b2 (enc .i32 a1) 70,.blk b1 (enc .i32 a0) 70] [] w∧∃ g11,a=fr g11 75 [(4,[P0 b3]),(6,[P0 b6])]) (fun N0 nn0=>?_) ?_
 clear hk0
 refine xb ?_
 refine wp_loop_k (fun n a w=>∃ z7 z8,ref25_Mul.l0 K n a0 a1 r4 z7 z8=some y9∧St w0 [] [.blk b6 (enc .i32 z8) 70,.blk b5 (enc .i32 r4) 69,.blk b3 (enc .i32 (zeroA 256)) 70,.blk b2 (enc .i32 a1) 70,.blk b1 (enc .i32 a0) 70] [] w∧∃ g10,a=fr g10 75 [(2,[P0 b1,P0 b2,P0 b3,P0 b5,P0 b6,I8 z7])]) K ⟨0,(zeroA 256),hy,hs.conv rfl,eg⟩ ?_
 clear hs h hy
 rintro n a w ⟨z7,z8,h,hs,g10,rfl⟩ KL0 kl0
 cases n with
 | zero=>exact nomatch (show none=some _ from h)
 | succ n=>
  refine xs fun _ s12=>(xs fun _ s13=>(xn 2 fun _ j14=>(qo 0 10 (I8 z7) ?_)))
  obtain ⟨hc,h⟩|⟨hc,h⟩:=of_if h
  refine tb 1 11 (dt hc) ?_
  refine fj j14 s13 (ct (xk (T s12 (xs fun _ s15=>(xb (xs fun _ s16=>(xn 7 fun _ j17=>(qo 0 14 (I8 z7) ?_))))))))
  obtain ⟨r10,hg,h⟩:=ob h
  refine so 1 (oC 15 hs (ref25_turned.ok hg _) fun w gw hs=>?_)
  refine nq 2 [(16,I8 (imul .i64 2 r10)),(17,I8 (iadd .i64 (imul .i64 2 r10) 1))] ?_
  obtain ⟨x11,hx,h⟩:=ob h
  have hx:=of_some hx
  subst hx
  obtain ⟨i0_18,i1_18,h⟩:=oc2 h
  refine tkf 4 18 (.pointer (some ⟨b5,0+((iadd .i64 (imul .i64 2 r10) 1):Int).toNat*1,none⟩)) (yi 69 21 256 1 .i64 (iadd .i64 (imul .i64 2 r10) 1) i0_18 i1_18) (tkt 5 19 _ (yA hs 1 21 (iadd .i64 (imul .i64 2 r10) 1) rfl i0_18 i1_18 .grow) ?_)
  obtain ⟨x12,hx,h⟩:=ob h
  refine tkf 6 8 (I4 x12) (yn hx) (fj j17 s16 (xs fun _ s19=>?_))
  refine rg [28] (fun k=>True) 29 fun _ j20=>?_
  have hs:=hs.drawn1
  refine gq 0 20 (I8 z7) (gq 1 21 (I8 (imul .i64 2 z7)) (gq 2 22 (I8 z7) (gq 3 23 (I8 (imul .i64 2 z7)) ?_)))
  obtain ⟨x13,hx,h⟩:=ob h
  have hx:=of_some hx
  subst hx
  obtain ⟨i0_21,i1_21,h⟩:=oc2 h
  refine tgf 4 24 (P1 b1 (imul .i64 2 z7)) (yi 70 21 256 1 .i64 (imul .i64 2 z7) i0_21 i1_21) (tgt 5 25 _ (yA hs 4 21 (imul .i64 2 z7) rfl i0_21 i1_21 .grow) (gq 6 26 (I8 z7) (gq 7 27 (I8 (imul .i64 2 z7)) ?_)))
  obtain ⟨x14,hx,h⟩:=ob h
  have hx:=of_some hx
  subst hx
  obtain ⟨i0_22,i1_22,h⟩:=oc2 h
  refine tgf 8 28 (P1 b2 (imul .i64 2 z7)) (yi 70 21 256 1 .i64 (imul .i64 2 z7) i0_22 i1_22) (tgt 9 29 _ (yA hs 3 21 (imul .i64 2 z7) rfl i0_22 i1_22 .grow) (gq 10 30 (I4 (imul .i32 (rd a0 (imul .i64 2 z7)) (rd a1 (imul .i64 2 z7)))) (gq 11 31 (I8 z7) (gq 12 32 (I8 (imul .i64 2 z7)) ?_))))
  refine gq 13 33 (I8 (iadd .i64 (imul .i64 2 z7) 1)) ?_
  obtain ⟨x15,hx,h⟩:=ob h
  have hx:=of_some hx
  subst hx
  obtain ⟨i0_23,i1_23,h⟩:=oc2 h
  refine tgf 14 34 (.pointer (some ⟨b1,0+((iadd .i64 (imul .i64 2 z7) 1):Int).toNat*1,none⟩)) (yi 70 21 256 1 .i64 (iadd .i64 (imul .i64 2 z7) 1) i0_23 i1_23) (tgt 15 35 _ (yA hs 4 21 (iadd .i64 (imul .i64 2 z7) 1) rfl i0_23 i1_23 .grow) (gq 16 36 (I8 z7) (gq 17 37 (I8 (imul .i64 2 z7)) (gq 18 38 (I8 (iadd .i64 (imul .i64 2 z7) 1)) ?_))))
  obtain ⟨x16,hx,h⟩:=ob h
  have hx:=of_some hx
  subst hx
  obtain ⟨i0_24,i1_24,h⟩:=oc2 h
  refine tgf 19 39 (.pointer (some ⟨b2,0+((iadd .i64 (imul .i64 2 z7) 1):Int).toNat*1,none⟩)) (yi 70 21 256 1 .i64 (iadd .i64 (imul .i64 2 z7) 1) i0_24 i1_24) (tgt 20 40 _ (yA hs 3 21 (iadd .i64 (imul .i64 2 z7) 1) rfl i0_24 i1_24 .grow) (gq 21 41 (I4 (imul .i32 (rd a0 (iadd .i64 (imul .i64 2 z7) 1)) (rd a1 (iadd .i64 (imul .i64 2 z7) 1)))) (gq 22 42 (I4 (irem .i32 (imul .i32 (rd a0 (iadd .i64 (imul .i64 2 z7) 1)) (rd a1 (iadd .i64 (imul .i64 2 z7) 1))) 3329)) (gq 23 43 (I4 x12) ?_))))
  refine gq 24 44 (I4 (imul .i32 (irem .i32 (imul .i32 (rd a0 (iadd .i64 (imul .i64 2 z7) 1)) (rd a1 (iadd .i64 (imul .i64 2 z7) 1))) 3329) x12)) (gq 25 45 (I4 (iadd .i32 (imul .i32 (rd a0 (imul .i64 2 z7)) (rd a1 (imul .i64 2 z7))) (imul .i32 (irem .i32 (imul .i32 (rd a0 (iadd .i64 (imul .i64 2 z7) 1)) (rd a1 (iadd .i64 (imul .i64 2 z7) 1))) 3329) x12))) (gq 26 46 (I4 (irem .i32 (iadd .i32 (imul .i32 (rd a0 (imul .i64 2 z7)) (rd a1 (imul .i64 2 z7))) (imul .i32 (irem .i32 (imul .i32 (rd a0 (iadd .i64 (imul .i64 2 z7) 1)) (rd a1 (iadd .i64 (imul .i64 2 z7) 1))) 3329) x12)) 3329)) ?_))
  obtain ⟨x17,hx,h⟩:=ob h
  have hx:=of_some hx
  subst hx
  obtain ⟨i0_25,i1_25,h⟩:=oc2 h
  refine tgf 27 47 (P1 b6 (imul .i64 2 z7)) (yi 70 21 256 1 .i64 (imul .i64 2 z7) i0_25 i1_25) ?_
  obtain ⟨x18,hx,h⟩:=ob h
  refine go 28 (oA 21 x18 (imul .i64 2 z7) hs 0 rfl (by cases hx; kernel_rfl) i0_25 i1_25 fun w kp hs=>⟨⟨fun hf=>absurd hf (by decide),.all _ _⟩,?_⟩)
  refine gf (j20 _ _ (T s19 (?_)))
  refine rg [26] (fun k=>True) 27 fun _ j26=>?_
  have hs:=hs.drawn1
  refine gq 0 48 (I8 z7) (gq 1 49 (I8 (imul .i64 2 z7)) (gq 2 50 (I8 (iadd .i64 (imul .i64 2 z7) 1)) (gq 3 51 (I8 z7) (gq 4 52 (I8 (imul .i64 2 z7)) ?_))))
  obtain ⟨x19,hx,h⟩:=ob h
  have hx:=of_some hx
  subst hx
  obtain ⟨i0_27,i1_27,h⟩:=oc2 h
  refine tgf 5 53 (P1 b1 (imul .i64 2 z7)) (yi 70 21 256 1 .i64 (imul .i64 2 z7) i0_27 i1_27) (tgt 6 54 _ (yA hs 4 21 (imul .i64 2 z7) rfl i0_27 i1_27 .grow) (gq 7 55 (I8 z7) (gq 8 56 (I8 (imul .i64 2 z7)) (gq 9 57 (I8 (iadd .i64 (imul .i64 2 z7) 1)) ?_))))
  obtain ⟨x20,hx,h⟩:=ob h
  have hx:=of_some hx
  subst hx
  obtain ⟨i0_28,i1_28,h⟩:=oc2 h
  refine tgf 10 58 (.pointer (some ⟨b2,0+((iadd .i64 (imul .i64 2 z7) 1):Int).toNat*1,none⟩)) (yi 70 21 256 1 .i64 (iadd .i64 (imul .i64 2 z7) 1) i0_28 i1_28) (tgt 11 59 _ (yA hs 3 21 (iadd .i64 (imul .i64 2 z7) 1) rfl i0_28 i1_28 .grow) (gq 12 60 (I4 (imul .i32 (rd a0 (imul .i64 2 z7)) (rd a1 (iadd .i64 (imul .i64 2 z7) 1)))) (gq 13 61 (I8 z7) (gq 14 62 (I8 (imul .i64 2 z7)) ?_))))
  refine gq 15 63 (I8 (iadd .i64 (imul .i64 2 z7) 1)) ?_
  obtain ⟨x21,hx,h⟩:=ob h
  have hx:=of_some hx
  subst hx
  obtain ⟨i0_29,i1_29,h⟩:=oc2 h
  refine tgf 16 64 (.pointer (some ⟨b1,0+((iadd .i64 (imul .i64 2 z7) 1):Int).toNat*1,none⟩)) (yi 70 21 256 1 .i64 (iadd .i64 (imul .i64 2 z7) 1) i0_29 i1_29) (tgt 17 65 _ (yA hs 4 21 (iadd .i64 (imul .i64 2 z7) 1) rfl i0_29 i1_29 .grow) (gq 18 66 (I8 z7) (gq 19 67 (I8 (imul .i64 2 z7)) ?_)))
  obtain ⟨x22,hx,h⟩:=ob h
  have hx:=of_some hx
  subst hx
  obtain ⟨i0_30,i1_30,h⟩:=oc2 h
  refine tgf 20 68 (P1 b2 (imul .i64 2 z7)) (yi 70 21 256 1 .i64 (imul .i64 2 z7) i0_30 i1_30) (tgt 21 69 _ (yA hs 3 21 (imul .i64 2 z7) rfl i0_30 i1_30 .grow) (gq 22 70 (I4 (imul .i32 (rd a0 (iadd .i64 (imul .i64 2 z7) 1)) (rd a1 (imul .i64 2 z7)))) (gq 23 71 (I4 (iadd .i32 (imul .i32 (rd a0 (imul .i64 2 z7)) (rd a1 (iadd .i64 (imul .i64 2 z7) 1))) (imul .i32 (rd a0 (iadd .i64 (imul .i64 2 z7) 1)) (rd a1 (imul .i64 2 z7))))) (gq 24 72 (I4 (irem .i32 (iadd .i32 (imul .i32 (rd a0 (imul .i64 2 z7)) (rd a1 (iadd .i64 (imul .i64 2 z7) 1))) (imul .i32 (rd a0 (iadd .i64 (imul .i64 2 z7) 1)) (rd a1 (imul .i64 2 z7)))) 3329)) ?_))))
  obtain ⟨x23,hx,h⟩:=ob h
  have hx:=of_some hx
  subst hx
  obtain ⟨i0_31,i1_31,h⟩:=oc2 h
  refine tgf 25 73 (.pointer (some ⟨b6,0+((iadd .i64 (imul .i64 2 z7) 1):Int).toNat*1,none⟩)) (yi 70 21 256 1 .i64 (iadd .i64 (imul .i64 2 z7) 1) i0_31 i1_31) ?_
  obtain ⟨x24,hx,h⟩:=ob h
  refine go 26 (oA 21 x24 (iadd .i64 (imul .i64 2 z7) 1) hs 0 rfl (by cases hx; kernel_rfl) i0_31 i1_31 fun w kp hs=>⟨⟨fun hf=>absurd hf (by decide),.all _ _⟩,?_⟩)
  refine gf (j26 _ _ ?_)
  refine iN (T s15 (xn 3 fun _ j32=>?_))
  refine nq 0 [(12,I8 z7),(13,I8 (iadd .i64 z7 1))] ?_
  obtain ⟨x25,hx,h⟩:=ob h
  refine tkf 2 7 (I8 x25) (yn hx) (fin (j32 _ _ ?_))
  exact tn (kl0 _ _ ⟨n,ls n,x25,(wr (wr z8 (imul .i64 2 z7) x18) (iadd .i64 (imul .i64 2 z7) 1) x24),h,(hs.conv rfl),eg⟩)
  refine tb 1 11 (df hc) (fj j14 s13 (cf (xexit (tx (tx (iH ?_))))))
  obtain rfl:=of_some h
  exact exq_n (nn0 _ _ ⟨(hs.conv rfl),eg⟩)
 clear hs h hy
 rintro a w ⟨hs,g11,rfl⟩
 have h:=hk0
 refine T s7 (xs fun _ s33=>(xn 2 fun _ j34=>(tkt 0 74 _ (yWe 70 hs 0 .grow) (so 1 (oWe 70 .i32 y9 hs 2 fun w kp hs=>(fj j34 s33 (xret ?_)))))))
 obtain rfl:=of_some h
 exact qq _ _ (pr (rr [.cell 4 70] [ag .i32 y9] (.cons (rcN 256 hs 2 rfl (enc_len _ _)) .nil)) ⟨cr,hs.none⟩)
theorem ref26_dot.ok {K:Nat}{a0 a1:List (Arr 256)}{r0:Arr 256}{a0_A:Option Addr}{a0_n a0_c:Nat}{a1_A:Option Addr}{a1_n a1_c:Nat}(h:ref26_dot.f K a0 a1=some r0) (w0:World) (hp0:RowL CZ w0 a0_A a0_n a0_c a0) (hp1:RowL CZ w0 a1_A a1_n a1_c a1):Ret Tryz.prog 47 #[.slice a0_A a0_n a0_c,.slice a1_A a1_n a1_c] w0 (ag .i32 r0):=by
 refine calls_k Tryz.func47 rfl fun Q qq=>?_
 have hs:=St.startR (all_cons (RowP.ent hp0) (all_cons (RowP.ent hp1) all_nil))
 refine wc (a':=(fu 23 [.slice a0_A a0_n a0_c,.slice a1_A a1_n a1_c])) (xs fun _ s1=>(xn 1 fun _ j2=>(so 0 (oNe 4 70 .i32 (zeroA 256) hs fun b1 w gw hs=>(fj j2 s1 (xs fun _ s3=>(xn 1 fun _ j4=>?_)))))))
 refine so 0 (oNe 5 70 .i32 (zeroA 256) hs fun b2 w gw hs=>?_)
 refine fj j4 s3 (xs fun _ s5=>(xs fun _ s6=>(xn 1 fun _ j7=>(qo 0 6 (I8 0) (fj j7 s6 (?_))))))
 obtain ⟨y5,hy,hk0⟩:=ob h
 refine wp_exq (N:=fun a w=>St w0 [] [.blk b2 (enc .i32 y5) 70,.blk b1 (enc .i32 (zeroA 256)) 70] [.rowL CZ a0_A a0_n a0_c a0,.rowL CZ a1_A a1_n a1_c a1] w∧∃ g9,a=fr g9 25 [(4,[P0 b1,P0 b2])]) (fun N0 nn0=>?_) ?_
 clear hk0
 refine xb ?_
 refine wp_loop_k (fun n a w=>∃ z3 z4,ref26_dot.l0 K n a0 a1 z3 z4=some y5∧St w0 [] [.blk b2 (enc .i32 z4) 70,.blk b1 (enc .i32 (zeroA 256)) 70] [.rowL CZ a0_A a0_n a0_c a0,.rowL CZ a1_A a1_n a1_c a1] w∧∃ g8,a=fr g8 25 [(0,[.slice a0_A a0_n a0_c,.slice a1_A a1_n a1_c]),(4,[P0 b1,P0 b2,I8 z3])]) K ⟨0,(zeroA 256),hy,hs.conv rfl,eg⟩ ?_
 clear hs h hy
 rintro n a w ⟨z3,z4,h,hs,g8,rfl⟩ KL0 kl0
 cases n with
 | zero=>exact nomatch (show none=some _ from h)
 | succ n=>
  refine xs fun _ s10=>(xs fun _ s11=>(xn 4 fun _ j12=>(nq 0 [(7,I8 z3),(8,.slice a0_A a0_n a0_c)] (tkf 2 9 (I8 (a0.length:Int)) (yl (rR 0 hs)) ?_))))
  obtain ⟨hc,h⟩|⟨hc,h⟩:=of_if h
  refine tb 3 10 (dt hc) ?_
  refine fj j12 s11 (ct (xk (T s10 (xs fun _ s13=>(xb ?_)))))
  refine rg [11] (fun k=>True) 12 fun _ j14=>?_
  have hs:=hs.drawn1
  refine tgt 0 13 _ (yWe 70 hs 0 .grow) (gq 1 14 (.slice a0_A a0_n a0_c) (gq 2 15 (I8 z3) ?_))
  obtain ⟨h0,h1,h⟩:=oc2 h
  have i0_15:=h0
  have i1_15:=h1
  refine tgf 3 16 (PA CZ a0_A z3) (yiL (C:=CZ) 66 70 .i64 z3 (rR 0 hs) h0 h1) (tgt 4 17 _ (yLA (C:=CZ) 70 z3 (rR 0 hs) rfl i0_15 i1_15) (gq 5 18 (.slice a1_A a1_n a1_c) (gq 6 19 (I8 z3) ?_)))
  obtain ⟨h0,h1,h⟩:=oc2 h
  have i0_16:=h0
  have i1_16:=h1
  refine tgf 7 20 (PA CZ a1_A z3) (yiL (C:=CZ) 66 70 .i64 z3 (rR 1 hs) h0 h1) (tgt 8 21 _ (yLA (C:=CZ) 70 z3 (rR 1 hs) rfl i0_16 i1_16) ?_)
  obtain ⟨r6,hg,h⟩:=ob h
  refine go 9 (oC 22 hs (ref25_Mul.ok hg _) fun w gw hs=>⟨.of gw,?_⟩)
  obtain ⟨r7,hg,h⟩:=ob h
  refine go 10 (oC 23 hs (ref25_Add.ok hg _) fun w gw hs=>⟨.of gw,?_⟩)
  refine go 11 (oWe 70 .i32 r7 hs 0 fun w kp hs=>⟨⟨fun hf=>absurd hf (by decide),.all _ _⟩,?_⟩)
  refine gf (j14 _ _ ?_)
  refine iN (T s13 (xn 3 fun _ j17=>?_))
  refine nq 0 [(11,I8 z3),(12,I8 (iadd .i64 z3 1))] ?_
  obtain ⟨x8,hx,h⟩:=ob h
  refine tkf 2 6 (I8 x8) (yn hx) (fin (j17 _ _ ?_))
  exact tn (kl0 _ _ ⟨n,ls n,x8,r7,h,(hs.conv rfl),eg⟩)
  refine tb 3 10 (df hc) (fj j12 s11 (cf (xexit (tx (tx (iH ?_))))))
  obtain rfl:=of_some h
  exact exq_n (nn0 _ _ ⟨(hs.conv rfl),eg⟩)
 clear hs h hy
 rintro a w ⟨hs,g9,rfl⟩
 have h:=hk0
 refine T s5 (xs fun _ s18=>(xn 2 fun _ j19=>(tkt 0 24 _ (yWe 70 hs 0 .grow) (so 1 (oWe 70 .i32 y5 hs 1 fun w kp hs=>(fj j19 s18 (xret ?_)))))))
 obtain rfl:=of_some h
 exact qq _ _ (pr (rr [.cell 4 70] [ag .i32 y5] (.cons (rcN 256 hs 1 rfl (enc_len _ _)) .nil)) ⟨cr,hs.none⟩)
theorem ref25_Below.ok {K:Nat}{a0:Arr 256}{a1:Int}{r0:Bool}(h:ref25_Below.f K a0 a1=some r0) (w0:World):Ret Tryz.prog 81 #[ag .i32 a0,I4 a1] w0 (.bool r0):=by
 refine calls_k Tryz.func81 rfl fun Q qq=>?_
 have hs:=St.start w0
 refine wc (a':=(fu 19 [ag .i32 a0,I4 a1])) (xs fun _ s1=>(xn 2 fun _ j2=>(so 0 (oBe 2 70 .i32 a0 hs fun b1 w gw hs=>(qo 1 4 (.bool false) ?_)))))
 refine fj j2 s1 (xs fun _ s3=>(xs fun _ s4=>(xn 1 fun _ j5=>(qo 0 5 (I8 0) (fj j5 s4 (?_))))))
 obtain ⟨t0,hy,hk0⟩:=ob h
 refine wp_exq (N:=fun a w=>t0 = .inl ()∧St w0 [] [.blk b1 (enc .i32 a0) 70] [] w∧∃ g7,a=fr g7 21 []) (fun N0 nn0=>?_) ?_
 refine xb ?_
 refine wp_loop_k (fun n a w=>∃ z2,ref25_Below.l0 K n a0 a1 z2=some t0∧St w0 [] [.blk b1 (enc .i32 a0) 70] [] w∧∃ g6,a=fr g6 21 [(1,[I4 a1,P0 b1]),(5,[I8 z2])]) K ⟨0,hy,hs.conv rfl,eg⟩ ?_
 clear hs h hy
 rintro n a w ⟨z2,h,hs,g6,rfl⟩ KL0 kl0
 cases n with
 | zero=>exact nomatch (show none=some _ from h)
 | succ n=>
  refine xs fun _ s8=>(xs fun _ s9=>(xn 2 fun _ j10=>(qo 0 6 (I8 z2) ?_)))
  obtain ⟨hc,h⟩|⟨hc,h⟩:=of_if h
  refine tb 1 7 (dt hc) ?_
  refine fj j10 s9 (ct (xk (T s8 (xs fun _ s11=>(xb (xs fun _ s12=>(xn 11 fun _ j13=>(qo 0 10 (I8 z2) ?_))))))))
  obtain ⟨i0_14,i1_14,h⟩:=oc2 h
  refine tkf 1 11 (P1 b1 z2) (yi 70 21 256 1 .i64 z2 i0_14 i1_14) (tkt 2 12 _ (yA hs 0 21 z2 rfl i0_14 i1_14 .grow) ?_)
  obtain ⟨hc,h⟩|⟨hc,h⟩:=of_if h
  refine tb 3 13 (dt hc) ?_
  refine nq 4 [(14,.bool true),(15,undef),(16,undef),(17,undef),(18,undef),(19,undef),(20,.bool true)] (fj j13 s12 (ct (xs fun _ s15=>(xn 1 fun _ j16=>(qo 0 4 (.bool false) (fj j16 s15 (xret (iR (tr (tr (iR (exq_r (tr ?_)))))))))))))
  obtain rfl:=of_some h
  have q0:=of_some hk0
  subst q0
  exact qq _ _ (pt [4] [.bool false] ⟨cr,hs.none⟩)
  refine tb 3 13 (df hc) (nq 4 [(14,.bool false),(15,I8 z2)] ?_)
  obtain ⟨i0_17,i1_17,h⟩:=oc2 h
  refine tkf 6 16 (P1 b1 z2) (yi 70 21 256 1 .i64 z2 i0_17 i1_17) (tkt 7 17 _ (yA hs 0 21 z2 rfl i0_17 i1_17 .grow) (qo 8 18 (I4 a1) ?_))
  obtain ⟨hc,h⟩|⟨hc,h⟩:=of_if h
  refine tb 9 19 (dt hc) ?_
  refine qo 10 20 (.bool true) (fj j13 s12 (ct (xs fun _ s18=>(xn 1 fun _ j19=>(qo 0 4 (.bool false) (fj j19 s18 (xret (iR (tr (tr (iR (exq_r (tr ?_)))))))))))))
  obtain rfl:=of_some h
  have q0:=of_some hk0
  subst q0
  exact qq _ _ (pt [4] [.bool false] ⟨cr,hs.none⟩)
  refine tb 9 19 (df hc) (qo 10 20 (.bool false) (fj j13 s12 (cf (xk (iN (T s11 (xn 3 fun _ j20=>(nq 0 [(8,I8 z2),(9,I8 (iadd .i64 z2 1))] ?_))))))))
  obtain ⟨x3,hx,h⟩:=ob h
  refine tkf 2 5 (I8 x3) (yn hx) (fin (j20 _ _ ?_))
  exact tn (kl0 _ _ ⟨n,ls n,x3,h,(hs.conv rfl),eg⟩)
  refine tb 1 7 (df hc) (fj j10 s9 (cf (xexit (tx (tx (iH ?_))))))
  obtain rfl:=of_some h
  exact exq_n (nn0 _ _ ⟨rfl,(hs.conv rfl),eg⟩)
 clear hs h hy
 rintro a w ⟨rfl,hs,g7,rfl⟩
 have h:=hk0
 refine T s3 (xs fun _ s21=>(xn 1 fun _ j22=>(qo 0 4 (.bool true) (fj j22 s21 (xret ?_)))))
 obtain rfl:=of_some h
 exact qq _ _ (pt [4] [.bool true] ⟨cr,hs.none⟩)
theorem ref25_bound.ok {K:Nat}{a0 r0:Int}(h:ref25_bound.f K a0=some r0) (w0:World):Ret Tryz.prog 83 #[I8 a0] w0 (I4 r0):=by
 refine calls_k Tryz.func83 rfl fun Q qq=>?_
 have hs:=St.start w0
 refine wc (a':=(fu 6 [I8 a0])) (xs fun _ s1=>(xn 1 fun _ j2=>(qo 0 2 (I4 0) (fj j2 s1 (xs fun _ s3=>(xs fun _ s4=>(xn 2 fun _ j5=>?_)))))))
 refine qo 0 3 (I8 a0) ?_
 obtain ⟨hc,h⟩|⟨hc,h⟩:=of_if h
 refine tb 1 4 (et hc) ?_
 refine fj j5 s4 (ct (xs fun _ s6=>(xn 1 fun _ j7=>(qo 0 2 (I4 3329) (fj j7 s6 (xret (tr ?_)))))))
 obtain rfl:=of_some h
 exact qq _ _ (pt [2] [I4 3329] ⟨cr,hs.none⟩)
 refine tb 1 4 (ef hc) (fj j5 s4 (cf (xk (T s3 (xs fun _ s8=>(xn 3 fun _ j9=>(qo 0 5 (I8 a0) ?_)))))))
 obtain ⟨h0,h⟩:=oc h
 refine tkf 1 6 (I4 (ishl .i32 1 a0)) (ysl 21 .i64 h0) ?_
 obtain ⟨x1,hx,h⟩:=ob h
 refine tkf 2 2 (I4 x1) (yn hx) (fj j9 s8 (xret ?_))
 obtain rfl:=of_some h
 exact qq _ _ (pt [2] [I4 x1] ⟨cr,hs.none⟩)
theorem ref01_Pack.ok {K:Nat}{a0:List Int}{a1:Int}{r0:List Int}{a0_A:Option Addr}{a0_n a0_c:Nat}(h:ref01_Pack.f K a0 a1=some r0) (w0:World) (hp0:RowL (CI .u32) w0 a0_A a0_n a0_c a0):Calls Tryz.prog 85 #[.slice a0_A a0_n a0_c,I8 a1] w0 fun e w'=>∃ h:(Option Addr × Nat × Nat),e = .returned (.slice h.1 h.2.1 h.2.2)∧St w0 [] [.ownL CB h.1 h.2.1 h.2.2 r0 5] [] w':=by
 refine calls_k Tryz.func85 rfl fun Q qq=>?_
 have hs:=St.startR (all_cons (RowP.ent hp0) all_nil)
 refine wc (a':=(fu 58 [.slice a0_A a0_n a0_c,I8 a1])) (xs fun _ s1=>(xn 1 fun _ j2=>(qo 0 4 (.slice none 0 0) (fj j2 s1 (xs fun _ s3=>(xs fun _ s4=>(xn 6 fun _ j5=>?_)))))))
 refine qo 0 9 (I8 a1) ?_
 obtain ⟨hc,h⟩|⟨hc,h⟩:=of_if h
 refine tb 1 10 (dt hc) ?_
 refine nq 2 [(11,.bool true),(12,undef),(13,undef),(14,.bool true)] (fj j5 s4 (ct (xs fun _ s6=>(xn 1 fun _ j7=>(qo 0 4 (.slice none 0 0) (fj j7 s6 (xret (tr ?_))))))))
 obtain rfl:=of_some h
 have hs:=hs.addNilL CB 5
 exact qq _ _ (pt [4] [.slice none 0 0] ⟨⟨none,0,0⟩,cr,(pz hs)⟩)
 refine tb 1 10 (df hc) (nq 2 [(11,.bool false),(12,I8 a1)] ?_)
 obtain ⟨hc,h⟩|⟨hc,h⟩:=of_if h
 refine tb 4 13 (dt hc) ?_
 refine qo 5 14 (.bool true) (fj j5 s4 (ct (xs fun _ s8=>(xn 1 fun _ j9=>(qo 0 4 (.slice none 0 0) (fj j9 s8 (xret (tr ?_))))))))
 obtain rfl:=of_some h
 have hs:=hs.addNilL CB 5
 exact qq _ _ (pt [4] [.slice none 0 0] ⟨⟨none,0,0⟩,cr,(pz hs)⟩)
 refine tb 4 13 (df hc) (qo 5 14 (.bool false) (fj j5 s4 (cf (xk (T s3 (xs fun _ s10=>(xn 8 fun _ j11=>(qo 0 15 (.slice a0_A a0_n a0_c) (tkf 1 16 (I8 (a0.length:Int)) (yl (rR 0 hs)) ?_)))))))))
 refine nq 2 [(17,I8 a1),(18,I8 (imul .i64 (a0.length:Int) a1)),(19,I8 (iadd .i64 (imul .i64 (a0.length:Int) a1) 7)),(20,I8 (iquo .i64 (iadd .i64 (imul .i64 (a0.length:Int) a1) 7) 8))] ?_
 obtain ⟨h0,h1,h⟩:=oc2 h
 refine so 6 (oMk (C:=CB) 21 24 5 1 140737488355328 .i64 .i64 (iquo .i64 (iadd .i64 (imul .i64 (a0.length:Int) a1) 7) 8) hs h0 h1 (by decide) (by decide) fun s1_A s1_n s1_c w gw hs=>?_)
 refine qo 7 5 (.slice s1_A s1_n s1_c) (fj j11 s10 (xs fun _ s12=>(xs fun _ s13=>(xn 1 fun _ j14=>(qo 0 6 (I8 0) (fj j14 s13 (?_)))))))
 obtain ⟨y4,hy,hk0⟩:=ob h
 refine wp_exq (N:=fun a w=>St w0 [] [.ownL CB s1_A s1_n s1_c y4 5] [.rowL (CI .u32) a0_A a0_n a0_c a0] w∧∃ g16,a=fr g16 60 [(4,[.slice none 0 0,.slice s1_A s1_n s1_c])]) (fun N0 nn0=>?_) ?_
 clear hk0
 refine xb ?_
 refine wp_loop_k (fun n a w=>∃ z2 z3,ref01_Pack.l0 K n a0 a1 z2 z3=some y4∧St w0 [] [.ownL CB s1_A s1_n s1_c z3 5] [.rowL (CI .u32) a0_A a0_n a0_c a0] w∧∃ g15,a=fr g15 60 [(0,[.slice a0_A a0_n a0_c,I8 a1]),(4,[.slice none 0 0,.slice s1_A s1_n s1_c,I8 z2])]) K ⟨0,(List.replicate ((iquo .i64 (iadd .i64 (imul .i64 (a0.length:Int) a1) 7) 8):Int).toNat (Cod.zero CB)),hy,hs.conv rfl,eg⟩ ?_
 clear hs h hy
 rintro n a w ⟨z2,z3,h,hs,g15,rfl⟩ KL0 kl0
 cases n with
 | zero=>exact nomatch (show none=some _ from h)
 | succ n=>
  refine xs fun _ s17=>(xs fun _ s18=>(xn 4 fun _ j19=>(nq 0 [(22,I8 z2),(23,.slice a0_A a0_n a0_c)] (tkf 2 24 (I8 (a0.length:Int)) (yl (rR 0 hs)) ?_))))
  obtain ⟨hc,h⟩|⟨hc,h⟩:=of_if h
  refine tb 3 25 (dt hc) ?_
  refine fj j19 s18 (ct (xk (T s17 (xs fun _ s20=>(xb (xs fun _ s21=>(xn 1 fun _ j22=>(qo 0 7 (I8 0) (fj j22 s21 (?_))))))))))
  obtain ⟨y7,hy,hk1⟩:=ob h
  refine wp_exq (N:=fun a w=>St w0 [] [.ownL CB s1_A s1_n s1_c y7 5] [.rowL (CI .u32) a0_A a0_n a0_c a0] w∧∃ g24,a=fr g24 60 [(0,[.slice a0_A a0_n a0_c,I8 a1]),(4,[.slice none 0 0,.slice s1_A s1_n s1_c,I8 z2])]) (fun N1 nn1=>?_) ?_
  clear hk1
  refine xb ?_
  refine wp_loop_k (fun n a w=>∃ z5 z6,ref01_Pack.l1 K n a0 a1 z2 z5 z6=some y7∧St w0 [] [.ownL CB s1_A s1_n s1_c z6 5] [.rowL (CI .u32) a0_A a0_n a0_c a0] w∧∃ g23,a=fr g23 60 [(0,[.slice a0_A a0_n a0_c,I8 a1]),(4,[.slice none 0 0,.slice s1_A s1_n s1_c,I8 z2,I8 z5])]) K ⟨0,z3,hy,hs.conv rfl,eg⟩ ?_
  clear hs h hy
  rintro n a w ⟨z5,z6,h,hs,g23,rfl⟩ KL1 kl1
  cases n with
  | zero=>exact nomatch (show none=some _ from h)
  | succ n=>
   refine xs fun _ s25=>(xs fun _ s26=>(xn 3 fun _ j27=>(nq 0 [(28,I8 z5),(29,I8 a1)] ?_)))
   obtain ⟨hc,h⟩|⟨hc,h⟩:=of_if h
   refine tb 2 30 (dt hc) ?_
   refine fj j27 s26 (ct (xk (T s25 (xs fun _ s28=>(xb (xs fun _ s29=>(xn 6 fun _ j30=>(nq 0 [(33,I8 z2),(34,I8 a1),(35,I8 (imul .i64 z2 a1)),(36,I8 z5),(37,I8 (iadd .i64 (imul .i64 z2 a1) z5))] ?_))))))))
   obtain ⟨x8,hx,h⟩:=ob h
   refine tkf 5 8 (I8 x8) (yn hx) (fj j30 s29 (?_))
   refine rg [21] (fun k=>True) 22 fun _ j31=>?_
   have hs:=hs.drawn1
   refine gq 0 38 (.slice s1_A s1_n s1_c) (gq 1 39 (I8 x8) (gq 2 40 (I8 (iquo .i64 x8 8)) (gq 3 41 (.slice s1_A s1_n s1_c) (gq 4 42 (I8 x8) ?_))))
   refine gq 5 43 (I8 (iquo .i64 x8 8)) ?_
   obtain ⟨x9,hx,h⟩:=ob h
   have hx:=of_some hx
   subst hx
   obtain ⟨h0,h1,h⟩:=oc2 h
   have i0_32:=h0
   have i1_32:=h1
   refine tgf 6 44 (PA CB s1_A (iquo .i64 x8 8)) (yiL (C:=CB) 24 5 .i64 (iquo .i64 x8 8) (rL 0 hs) h0 h1) (tgt 7 45 _ (yL (C:=CB) 5 (iquo .i64 x8 8) (rL 0 hs) rfl i0_32 i1_32) (gq 8 46 (.slice a0_A a0_n a0_c) (gq 9 47 (I8 z2) ?_)))
   obtain ⟨h0,h1,h⟩:=oc2 h
   have i0_33:=h0
   have i1_33:=h1
   refine tgf 10 48 (PA (CI .u32) a0_A z2) (yiL (C:=(CI .u32)) 110 112 .i64 z2 (rR 0 hs) h0 h1) (tgt 11 49 _ (yL (C:=(CI .u32)) 112 z2 (rR 0 hs) rfl i0_33 i1_33) (gq 12 50 (I8 z5) ?_))
   obtain ⟨h0,h⟩:=oc h
   refine tgf 13 51 (U4 (ishr .u32 (rdL (CI .u32) a0 z2) z5)) (ysr 112 .i64 h0) (gq 14 52 (U4 (iand .u32 (ishr .u32 (rdL (CI .u32) a0 z2) z5) 1)) (gq 15 53 (U1 (iconv .u8 (iand .u32 (ishr .u32 (rdL (CI .u32) a0 z2) z5) 1))) (gq 16 54 (I8 x8) (gq 17 55 (I8 (irem .i64 x8 8)) ?_))))
   obtain ⟨h0,h⟩:=oc h
   refine tgf 18 56 (U1 (ishl .u8 (iconv .u8 (iand .u32 (ishr .u32 (rdL (CI .u32) a0 z2) z5) 1)) (irem .i64 x8 8))) (ysl 5 .i64 h0) (gq 19 57 (U1 (ior .u8 (rdL CB z6 (iquo .i64 x8 8)) (ishl .u8 (iconv .u8 (iand .u32 (ishr .u32 (rdL (CI .u32) a0 z2) z5) 1)) (irem .i64 x8 8)))) ?_)
   obtain ⟨x10,hx,h⟩:=ob h
   have hx:=of_some hx
   subst hx
   obtain ⟨h0,h1,h⟩:=oc2 h
   have i0_34:=h0
   have i1_34:=h1
   refine tgf 20 58 (PA CB s1_A (iquo .i64 x8 8)) (yiL (C:=CB) 24 5 .i64 (iquo .i64 x8 8) (rL 0 hs) h0 h1) ?_
   obtain ⟨x11,hx,h⟩:=ob h
   refine go 21 (oL (C:=CB) (he:=by cases hx; kernel_rfl) 5 (iquo .i64 x8 8) x11 hs 0 rfl i0_34 i1_34 fun w hs=>⟨⟨fun hf=>absurd hf (by decide),.all _ _⟩,?_⟩)
   refine gf (j31 _ _ ?_)
   refine iN (T s28 (xn 3 fun _ j35=>?_))
   refine nq 0 [(31,I8 z5),(32,I8 (iadd .i64 z5 1))] ?_
   obtain ⟨x12,hx,h⟩:=ob h
   refine tkf 2 7 (I8 x12) (yn hx) (fin (j35 _ _ ?_))
   exact tn (kl1 _ _ ⟨n,ls n,x12,(wrL z6 (iquo .i64 x8 8) x11),h,(hs.conv rfl),eg⟩)
   refine tb 2 30 (df hc) (fj j27 s26 (cf (xexit (tx (tx (iH ?_))))))
   obtain rfl:=of_some h
   exact exq_n (nn1 _ _ ⟨(hs.conv rfl),eg⟩)
  clear hs h hy
  rintro a w ⟨hs,g24,rfl⟩
  have h:=hk1
  refine iN (T s20 (xn 3 fun _ j36=>?_))
  refine nq 0 [(26,I8 z2),(27,I8 (iadd .i64 z2 1))] ?_
  obtain ⟨x13,hx,h⟩:=ob h
  refine tkf 2 6 (I8 x13) (yn hx) (fin (j36 _ _ ?_))
  exact tn (kl0 _ _ ⟨n,ls n,x13,y7,h,(hs.conv rfl),eg⟩)
  refine tb 3 25 (df hc) (fj j19 s18 (cf (xexit (tx (tx (iH ?_))))))
  obtain rfl:=of_some h
  exact exq_n (nn0 _ _ ⟨(hs.conv rfl),eg⟩)
 clear hs h hy
 rintro a w ⟨hs,g16,rfl⟩
 have h:=hk0
 refine T s12 (xs fun _ s37=>(xn 2 fun _ j38=>(nq 0 [(59,.slice s1_A s1_n s1_c),(4,.slice s1_A s1_n s1_c)] (fj j38 s37 (xret ?_)))))
 obtain rfl:=of_some h
 exact qq _ _ (pt [4] [.slice s1_A s1_n s1_c] ⟨⟨s1_A,s1_n,s1_c⟩,cr,(pz hs)⟩)
theorem ref25_Pack.ok {K:Nat}{a0:Arr 256}{a1:Int}{r0:List Int}(h:ref25_Pack.f K a0 a1=some r0) (w0:World):Calls Tryz.prog 48 #[ag .i32 a0,I8 a1] w0 fun e w'=>∃ h:(Option Addr × Nat × Nat),e = .returned (.slice h.1 h.2.1 h.2.2)∧St w0 [] [.ownL CB h.1 h.2.1 h.2.2 r0 5] [] w':=by
 refine calls_k Tryz.func48 rfl fun Q qq=>?_
 have hs:=St.start w0
 refine wc (a':=(fu 32 [ag .i32 a0,I8 a1])) (xs fun _ s1=>(xn 2 fun _ j2=>(so 0 (oBe 2 70 .i32 a0 hs fun b1 w gw hs=>(qo 1 4 (.slice none 0 0) ?_)))))
 refine fj j2 s1 (xs fun _ s3=>(xs fun _ s4=>?_))
 refine rg [] (fun k=>True) 13 fun _ j5=>?_
 have hs:=hs.drawn1
 refine gq 0 7 (I8 a1) ?_
 obtain ⟨hc,h⟩|⟨hc,h⟩:=of_if h
 refine gb 1 8 (dt hc) ?_
 refine gq 2 9 (.bool true) (gq 3 10 undef (gq 4 11 undef (gq 5 12 (.bool true) (gq 6 13 (.bool true) ?_))))
 refine gq 7 14 undef (gq 8 15 undef (gq 9 16 undef (gq 10 17 undef (gq 11 18 undef ?_))))
 refine gq 12 19 (.bool true) (gf (j5 _ _ (T s4 (ct (xs fun _ s6=>(xn 1 fun _ j7=>(qo 0 4 (.slice none 0 0) (fj j7 s6 (xret (tr ?_))))))))))
 obtain rfl:=of_some h
 have hs:=hs.addNilL CB 5
 exact qq _ _ (pt [4] [.slice none 0 0] ⟨⟨none,0,0⟩,cr,(dr [1,0] hs)⟩)
 refine gb 1 8 (df hc) (gq 2 9 (.bool false) (gq 3 10 (I8 a1) ?_))
 obtain ⟨hc,h⟩|⟨hc,h⟩:=of_if h
 refine gb 4 11 (dt hc) ?_
 refine gq 5 12 (.bool true) (gq 6 13 (.bool true) (gq 7 14 undef (gq 8 15 undef (gq 9 16 undef ?_))))
 refine gq 10 17 undef (gq 11 18 undef (gq 12 19 (.bool true) (gf (j5 _ _ (T s4 (ct (xs fun _ s8=>(xn 1 fun _ j9=>?_))))))))
 refine qo 0 4 (.slice none 0 0) (fj j9 s8 (xret (tr ?_)))
 obtain rfl:=of_some h
 have hs:=hs.addNilL CB 5
 exact qq _ _ (pt [4] [.slice none 0 0] ⟨⟨none,0,0⟩,cr,(dr [1,0] hs)⟩)
 refine gb 4 11 (df hc) (gq 5 12 (.bool false) (gq 6 13 (.bool false) (tgt 7 14 _ (yWe 70 hs 0 .grow) (gq 8 15 (I8 a1) ?_))))
 obtain ⟨r2,hg,h⟩:=ob h
 refine go 9 (oC 16 hs (ref25_bound.ok hg _) fun w gw hs=>⟨.of gw,?_⟩)
 obtain ⟨r3,hg,h⟩:=ob h
 cases r3 with
 | true=>
  have h:=of_if_t h
  refine go 10 (oC 17 hs (ref25_Below.ok hg _) fun w gw hs=>⟨.of gw,?_⟩)
  refine gq 11 18 (.bool false) (gq 12 19 (.bool false) (gf (j5 _ _ (T s4 (cf (xk (T s3 (xs fun _ s10=>(xn 1 fun _ j11=>(qo 0 5 (.slice none 0 0) ?_))))))))))
  refine fj j11 s10 (xs fun _ s12=>(xs fun _ s13=>(xn 1 fun _ j14=>(qo 0 6 (I8 0) (fj j14 s13 (?_))))))
  have hs:=hs.addNilL (CI .u32) 112
  obtain ⟨y6,hy,hk0⟩:=ob h
  refine wp_exq (N:=fun a w=>∃ y6_A y6_n y6_c,St w0 [] [.ownL (CI .u32) y6_A y6_n y6_c y6 112,.blk b1 (enc .i32 a0) 70] [] w∧∃ g16,a=fr g16 34 [(1,[I8 a1]),(4,[.slice none 0 0,.slice y6_A y6_n y6_c])]) (fun N0 nn0=>?_) ?_
  clear hk0
  refine xb ?_
  refine wp_loop_k (fun n a w=>∃ z4 z5,∃ z5_A z5_n z5_c,ref25_Pack.l0 K n a0 z4 z5=some y6∧St w0 [] [.ownL (CI .u32) z5_A z5_n z5_c z5 112,.blk b1 (enc .i32 a0) 70] [] w∧∃ g15,a=fr g15 34 [(1,[I8 a1,P0 b1]),(4,[.slice none 0 0,.slice z5_A z5_n z5_c,I8 z4])]) K ⟨0,([]:List Int),none,0,0,hy,hs.conv rfl,eg⟩ ?_
  clear hs h hy
  rintro n a w ⟨z4,z5,z5_A,z5_n,z5_c,h,hs,g15,rfl⟩ KL0 kl0
  cases n with
  | zero=>exact nomatch (show none=some _ from h)
  | succ n=>
   refine xs fun _ s17=>(xs fun _ s18=>(xn 2 fun _ j19=>(qo 0 20 (I8 z4) ?_)))
   obtain ⟨hc,h⟩|⟨hc,h⟩:=of_if h
   refine tb 1 21 (dt hc) ?_
   refine fj j19 s18 (ct (xk (T s17 (xs fun _ s20=>(xb (xn 8 fun _ j21=>(nq 0 [(24,.slice z5_A z5_n z5_c),(25,I8 z4)] ?_)))))))
   obtain ⟨i0_22,i1_22,h⟩:=oc2 h
   refine tkf 2 26 (P1 b1 z4) (yi 70 21 256 1 .i64 z4 i0_22 i1_22) (tkt 3 27 _ (yA hs 1 21 z4 rfl i0_22 i1_22 .grow) (qo 4 28 (U4 (iconv .u32 (rd a0 z4))) (so 5 (oLt (C:=(CI .u32)) 29 110 112 1 (U4 0) #[(0,U4 (iconv .u32 (rd a0 z4)))] [(iconv .u32 (rd a0 z4))] hs rfl (by decide) (by decide) fun s7_A s7_n s7_c w gw hs=>?_))))
   obtain ⟨h0,h⟩:=oc h
   refine so 6 (oAp (C:=(CI .u32)) 30 110 110 112 4 35184372088832 hs 1 rfl (rL 0 hs) h0 (by decide) (by decide) fun s8_A s8_n s8_c w hs=>?_)
   refine qo 7 5 (.slice s8_A s8_n s8_c) (fin (j21 _ _ (iN (T s20 (xn 3 fun _ j23=>(nq 0 [(22,I8 z4),(23,I8 (iadd .i64 z4 1))] ?_))))))
   obtain ⟨x9,hx,h⟩:=ob h
   refine tkf 2 6 (I8 x9) (yn hx) (fin (j23 _ _ ?_))
   exact tn (kl0 _ _ ⟨n,ls n,x9,(z5++([(iconv .u32 (rd a0 z4))]:List Int)),s8_A,s8_n,s8_c,h,(dr [0,1,1] hs),eg⟩)
   refine tb 1 21 (df hc) (fj j19 s18 (cf (xexit (tx (tx (iH ?_))))))
   obtain rfl:=of_some h
   exact exq_n (nn0 _ _ ⟨z5_A,z5_n,z5_c,(hs.conv rfl),eg⟩)
  clear hs h hy
  rintro a w ⟨y6_A,y6_n,y6_c,hs,g16,rfl⟩
  have h:=hk0
  refine T s12 (xs fun _ s24=>(xn 4 fun _ j25=>(nq 0 [(31,.slice y6_A y6_n y6_c),(32,I8 a1)] ?_)))
  obtain ⟨r10,hg,h⟩:=ob h
  refine wpS.only 2 (oH 33 hs (ref01_Pack.ok hg _ (rL 0 hs)) ?_)
  rintro ⟨r10_A,r10_n,r10_c⟩ w gw hs
  have hs:=hs.conv (L':=[.ownL CB r10_A r10_n r10_c r10 5,.ownL (CI .u32) y6_A y6_n y6_c y6 112,.blk b1 (enc .i32 a0) 70]) rfl
  refine ⟨fun _=>trivial,?_⟩
  refine qo 3 4 (.slice r10_A r10_n r10_c) (fj j25 s24 (xret ?_))
  obtain rfl:=of_some h
  exact qq _ _ (pt [4] [.slice r10_A r10_n r10_c] ⟨⟨r10_A,r10_n,r10_c⟩,cr,(dr [1,0,0] hs)⟩)
 | false=>
  have h:=of_if_f h
  refine go 10 (oC 17 hs (ref25_Below.ok hg _) fun w gw hs=>⟨.of gw,?_⟩)
  refine gq 11 18 (.bool true) (gq 12 19 (.bool true) (gf (j5 _ _ (T s4 (ct (xs fun _ s26=>(xn 1 fun _ j27=>(qo 0 4 (.slice none 0 0) ?_))))))))
  refine fj j27 s26 (xret (tr ?_))
  obtain rfl:=of_some h
  have hs:=hs.addNilL CB 5
  exact qq _ _ (pt [4] [.slice none 0 0] ⟨⟨none,0,0⟩,cr,(dr [1,0] hs)⟩)
theorem ref01_such.ok {K:Nat}{a0:List Int}{a1 a2:Int}{r0:Bool}{a0_A:Option Addr}{a0_n a0_c:Nat}(h:ref01_such.f K a0 a1 a2=some r0) (w0:World) (hp0:RowL CB w0 a0_A a0_n a0_c a0):Ret Tryz.prog 104 #[.slice a0_A a0_n a0_c,I8 a1,I8 a2] w0 (.bool r0):=by
 refine calls_k Tryz.func104 rfl fun Q qq=>?_
 have hs:=St.startR (all_cons (RowP.ent hp0) all_nil)
 refine wc (a':=(fu 23 [.slice a0_A a0_n a0_c,I8 a1,I8 a2])) (xs fun _ s1=>(xn 1 fun _ j2=>(qo 0 6 (.bool false) (fj j2 s1 (xs fun _ s3=>(xn 20 fun _ j4=>?_))))))
 refine qo 0 7 (I8 a1) ?_
 obtain ⟨hc,h⟩|⟨hc,h⟩:=of_if h
 refine tb 1 8 (dt hc) ?_
 refine nq 2 [(9,.bool true),(10,I8 a1)] ?_
 obtain ⟨hc,h⟩|⟨hc,h⟩:=of_if h
 refine tb 4 11 (dt hc) ?_
 refine nq 5 [(12,.bool true),(13,.bool true),(14,I8 a2)] ?_
 obtain ⟨hc,h⟩|⟨hc,h⟩:=of_if h
 refine tb 8 15 (dt hc) ?_
 refine nq 9 [(16,.bool true),(17,.bool true),(18,I8 a2),(19,.slice a0_A a0_n a0_c)] (tkf 13 20 (I8 (a0.length:Int)) (yl (rR 0 hs)) (nq 14 [(21,I8 (imul .i64 (a0.length:Int) 8)),(22,I8 a1)] ?_))
 obtain ⟨h0,h⟩:=oc h
 refine tkf 16 23 (I8 (iquo .i64 (imul .i64 (a0.length:Int) 8) a1)) (yq 3 h0) (nq 17 [(24,.bool (decide (a2≤(iquo .i64 (imul .i64 (a0.length:Int) 8) a1)))),(25,.bool (decide (a2≤(iquo .i64 (imul .i64 (a0.length:Int) 8) a1)))),(6,.bool (decide (a2≤(iquo .i64 (imul .i64 (a0.length:Int) 8) a1))))] (fj j4 s3 (xret ?_)))
 obtain rfl:=of_some h
 exact qq _ _ (pt [6] [.bool (decide (a2≤(iquo .i64 (imul .i64 (a0.length:Int) 8) a1)))] ⟨cr,hs.none⟩)
 refine tb 8 15 (df hc) (nq 9 [(16,.bool false),(17,.bool false),(18,undef),(19,undef),(20,undef),(21,undef),(22,undef),(23,undef),(24,undef),(25,.bool false),(6,.bool false)] (fj j4 s3 (xret ?_)))
 obtain rfl:=of_some h
 exact qq _ _ (pt [6] [.bool false] ⟨cr,hs.none⟩)
 refine tb 4 11 (df hc) (nq 5 [(12,.bool false),(13,.bool false),(14,undef),(15,undef),(16,.bool false),(17,.bool false),(18,undef),(19,undef),(20,undef),(21,undef),(22,undef),(23,undef),(24,undef),(25,.bool false),(6,.bool false)] (fj j4 s3 (xret ?_)))
 obtain rfl:=of_some h
 exact qq _ _ (pt [6] [.bool false] ⟨cr,hs.none⟩)
 refine tb 1 8 (df hc) (nq 2 [(9,.bool false),(10,undef),(11,undef),(12,.bool false),(13,.bool false),(14,undef),(15,undef),(16,.bool false),(17,.bool false),(18,undef),(19,undef),(20,undef),(21,undef),(22,undef),(23,undef),(24,undef),(25,.bool false),(6,.bool false)] (fj j4 s3 (xret ?_)))
 obtain rfl:=of_some h
 exact qq _ _ (pt [6] [.bool false] ⟨cr,hs.none⟩)
theorem ref01_Unpack.ok {K:Nat}{a0:List Int}{a1 a2:Int}{r0:List Int}{a0_A:Option Addr}{a0_n a0_c:Nat}(h:ref01_Unpack.f K a0 a1 a2=some r0) (w0:World) (hp0:RowL CB w0 a0_A a0_n a0_c a0):Calls Tryz.prog 82 #[.slice a0_A a0_n a0_c,I8 a1,I8 a2] w0 fun e w'=>∃ h:(Option Addr × Nat × Nat),e = .returned (.slice h.1 h.2.1 h.2.2)∧St w0 [] [.ownL (CI .u32) h.1 h.2.1 h.2.2 r0 112] [] w':=by
 refine calls_k Tryz.func82 rfl fun Q qq=>?_
 have hs:=St.startR (all_cons (RowP.ent hp0) all_nil)
 refine wc (a':=(fu 48 [.slice a0_A a0_n a0_c,I8 a1,I8 a2])) (xs fun _ s1=>(xn 1 fun _ j2=>(qo 0 6 (.slice none 0 0) (fj j2 s1 (xs fun _ s3=>(xs fun _ s4=>(xn 5 fun _ j5=>?_)))))))
 refine nq 0 [(12,.slice a0_A a0_n a0_c),(13,I8 a1),(14,I8 a2)] ?_
 obtain ⟨r1,hg,h⟩:=ob h
 cases r1 with
 | true=>
  have h:=of_if_t h
  refine so 3 (oC 15 hs (ref01_such.ok hg _ (rR 0 hs)) fun w gw hs=>?_)
  refine qo 4 16 (.bool false) (fj j5 s4 (cf (xk (T s3 (xs fun _ s6=>(xn 1 fun _ j7=>(qo 0 7 (.slice none 0 0) (fj j7 s6 (xs fun _ s8=>(xs fun _ s9=>(xn 1 fun _ j10=>(qo 0 8 (I8 0) ?_))))))))))))
  refine fj j10 s9 (?_)
  have hs:=hs.addNilL (CI .u32) 112
  obtain ⟨y4,hy,hk0⟩:=ob h
  refine wp_exq (N:=fun a w=>∃ y4_A y4_n y4_c,St w0 [] [.ownL (CI .u32) y4_A y4_n y4_c y4 112] [.rowL CB a0_A a0_n a0_c a0] w∧∃ g12,a=fr g12 51 [(6,[.slice none 0 0,.slice y4_A y4_n y4_c])]) (fun N0 nn0=>?_) ?_
  clear hk0
  refine xb ?_
  refine wp_loop_k (fun n a w=>∃ z2 z3,∃ z3_A z3_n z3_c,ref01_Unpack.l0 K n a0 a1 a2 z2 z3=some y4∧St w0 [] [.ownL (CI .u32) z3_A z3_n z3_c z3 112] [.rowL CB a0_A a0_n a0_c a0] w∧∃ g11,a=fr g11 51 [(0,[.slice a0_A a0_n a0_c,I8 a1,I8 a2]),(6,[.slice none 0 0,.slice z3_A z3_n z3_c,I8 z2])]) K ⟨0,([]:List Int),none,0,0,hy,hs.conv rfl,eg⟩ ?_
  clear hs h hy
  rintro n a w ⟨z2,z3,z3_A,z3_n,z3_c,h,hs,g11,rfl⟩ KL0 kl0
  cases n with
  | zero=>exact nomatch (show none=some _ from h)
  | succ n=>
   refine xs fun _ s13=>(xs fun _ s14=>(xn 3 fun _ j15=>(nq 0 [(17,I8 z2),(18,I8 a2)] ?_)))
   obtain ⟨hc,h⟩|⟨hc,h⟩:=of_if h
   refine tb 2 19 (dt hc) ?_
   refine fj j15 s14 (ct (xk (T s13 (xs fun _ s16=>(xb (xs fun _ s17=>(xn 1 fun _ j18=>(qo 0 9 (U4 0) (fj j18 s17 (xs fun _ s19=>(xs fun _ s20=>(xn 3 fun _ j21=>(nq 0 [(22,I8 a1),(23,I8 (isub .i64 a1 1))] ?_)))))))))))))
   obtain ⟨x5,hx,h⟩:=ob h
   refine tkf 2 10 (I8 x5) (yn hx) (fj j21 s20 (?_))
   obtain ⟨y8,hy,hk1⟩:=ob h
   refine wp_exq (N:=fun a w=>St w0 [] [.ownL (CI .u32) z3_A z3_n z3_c z3 112] [.rowL CB a0_A a0_n a0_c a0] w∧∃ g23,a=fr g23 51 [(0,[.slice a0_A a0_n a0_c,I8 a1,I8 a2]),(6,[.slice none 0 0,.slice z3_A z3_n z3_c,I8 z2,U4 y8])]) (fun N1 nn1=>?_) ?_
   clear hk1
   refine xb ?_
   refine wp_loop_k (fun n a w=>∃ z6 z7,ref01_Unpack.l1 K n a0 a1 z2 z6 z7=some y8∧St w0 [] [.ownL (CI .u32) z3_A z3_n z3_c z3 112] [.rowL CB a0_A a0_n a0_c a0] w∧∃ g22,a=fr g22 51 [(0,[.slice a0_A a0_n a0_c,I8 a1,I8 a2]),(6,[.slice none 0 0,.slice z3_A z3_n z3_c,I8 z2,U4 z6,I8 z7])]) K ⟨0,x5,hy,hs.conv rfl,eg⟩ ?_
   clear hs h hy
   rintro n a w ⟨z6,z7,h,hs,g22,rfl⟩ KL1 kl1
   cases n with
   | zero=>exact nomatch (show none=some _ from h)
   | succ n=>
    refine xs fun _ s24=>(xs fun _ s25=>(xn 2 fun _ j26=>(qo 0 24 (I8 z7) ?_)))
    obtain ⟨hc,h⟩|⟨hc,h⟩:=of_if h
    refine tb 1 25 (dt hc) ?_
    refine fj j26 s25 (ct (xk (T s24 (xs fun _ s27=>(xb (xs fun _ s28=>(xn 6 fun _ j29=>(nq 0 [(28,I8 z2),(29,I8 a1),(30,I8 (imul .i64 z2 a1)),(31,I8 z7),(32,I8 (iadd .i64 (imul .i64 z2 a1) z7))] ?_))))))))
    obtain ⟨x9,hx,h⟩:=ob h
    refine tkf 5 11 (I8 x9) (yn hx) (fj j29 s28 (xn 14 fun _ j30=>(nq 0 [(33,U4 z6),(34,U4 (imul .u32 z6 2)),(35,.slice a0_A a0_n a0_c),(36,I8 x9),(37,I8 (iquo .i64 x9 8))] ?_)))
    obtain ⟨x10,hx,h⟩:=ob h
    have hx:=of_some hx
    subst hx
    obtain ⟨h0,h1,h⟩:=oc2 h
    have i0_31:=h0
    have i1_31:=h1
    refine tkf 5 38 (PA CB a0_A (iquo .i64 x9 8)) (yiL (C:=CB) 24 5 .i64 (iquo .i64 x9 8) (rR 0 hs) h0 h1) (tkt 6 39 _ (yL (C:=CB) 5 (iquo .i64 x9 8) (rR 0 hs) rfl i0_31 i1_31) (nq 7 [(40,I8 x9),(41,I8 (irem .i64 x9 8))] ?_))
    obtain ⟨h0,h⟩:=oc h
    refine tkf 9 42 (U1 (ishr .u8 (rdL CB a0 (iquo .i64 x9 8)) (irem .i64 x9 8))) (ysr 5 .i64 h0) (nq 10 [(43,U1 (iand .u8 (ishr .u8 (rdL CB a0 (iquo .i64 x9 8)) (irem .i64 x9 8)) 1)),(44,U4 (iconv .u32 (iand .u8 (ishr .u8 (rdL CB a0 (iquo .i64 x9 8)) (irem .i64 x9 8)) 1))),(45,U4 (iadd .u32 (imul .u32 z6 2) (iconv .u32 (iand .u8 (ishr .u8 (rdL CB a0 (iquo .i64 x9 8)) (irem .i64 x9 8)) 1))))] ?_)
    obtain ⟨x11,hx,h⟩:=ob h
    refine tkf 13 9 (U4 x11) (yn hx) (fin (j30 _ _ (iN (T s27 (xn 3 fun _ j32=>(nq 0 [(26,I8 z7),(27,I8 (isub .i64 z7 1))] ?_))))))
    obtain ⟨x12,hx,h⟩:=ob h
    refine tkf 2 10 (I8 x12) (yn hx) (fin (j32 _ _ ?_))
    exact tn (kl1 _ _ ⟨n,ls n,x11,x12,h,(hs.conv rfl),eg⟩)
    refine tb 1 25 (df hc) (fj j26 s25 (cf (xexit (tx (tx (iH ?_))))))
    obtain rfl:=of_some h
    exact exq_n (nn1 _ _ ⟨(hs.conv rfl),eg⟩)
   clear hs h hy
   rintro a w ⟨hs,g23,rfl⟩
   have h:=hk1
   refine T s19 (xn 5 fun _ j33=>(nq 0 [(46,.slice z3_A z3_n z3_c),(47,U4 y8)] (so 2 (oLt (C:=(CI .u32)) 48 110 112 1 (U4 0) #[(0,U4 y8)] [y8] hs rfl (by decide) (by decide) fun s13_A s13_n s13_c w gw hs=>?_))))
   obtain ⟨h0,h⟩:=oc h
   refine so 3 (oAp (C:=(CI .u32)) 49 110 110 112 4 35184372088832 hs 1 rfl (rL 0 hs) h0 (by decide) (by decide) fun s14_A s14_n s14_c w hs=>?_)
   refine qo 4 7 (.slice s14_A s14_n s14_c) (fin (j33 _ _ (iN (T s16 (xn 3 fun _ j34=>(nq 0 [(20,I8 z2),(21,I8 (iadd .i64 z2 1))] ?_))))))
   obtain ⟨x15,hx,h⟩:=ob h
   refine tkf 2 8 (I8 x15) (yn hx) (fin (j34 _ _ ?_))
   exact tn (kl0 _ _ ⟨n,ls n,x15,(z3++([y8]:List Int)),s14_A,s14_n,s14_c,h,(dr [0,1] hs),eg⟩)
   refine tb 2 19 (df hc) (fj j15 s14 (cf (xexit (tx (tx (iH ?_))))))
   obtain rfl:=of_some h
   exact exq_n (nn0 _ _ ⟨z3_A,z3_n,z3_c,(hs.conv rfl),eg⟩)
  clear hs h hy
  rintro a w ⟨y4_A,y4_n,y4_c,hs,g12,rfl⟩
  have h:=hk0
  refine T s8 (xs fun _ s35=>(xn 2 fun _ j36=>(nq 0 [(50,.slice y4_A y4_n y4_c),(6,.slice y4_A y4_n y4_c)] (fj j36 s35 (xret ?_)))))
  obtain rfl:=of_some h
  exact qq _ _ (pt [6] [.slice y4_A y4_n y4_c] ⟨⟨y4_A,y4_n,y4_c⟩,cr,(pz hs)⟩)
 | false=>
  have h:=of_if_f h
  refine so 3 (oC 15 hs (ref01_such.ok hg _ (rR 0 hs)) fun w gw hs=>?_)
  refine qo 4 16 (.bool true) (fj j5 s4 (ct (xs fun _ s37=>(xn 1 fun _ j38=>(qo 0 6 (.slice none 0 0) (fj j38 s37 (xret (tr ?_))))))))
  obtain rfl:=of_some h
  have hs:=hs.addNilL (CI .u32) 112
  exact qq _ _ (pt [6] [.slice none 0 0] ⟨⟨none,0,0⟩,cr,(pz hs)⟩)
end Go.Proofs.YtemdbgmldljbpaaGreatDoor

/- own -/
set_option linter.unusedVariables false
set_option linter.unusedSimpArgs false
set_option maxRecDepth 100000
set_option maxHeartbeats 4000000
namespace Go.Proofs.YtemdbgmldljbpaaGreatDoor
open Go.Mx
attribute [local irreducible] wpOp
theorem ref26_drawn.ok {K:Nat}{a0:List Int}{a1:Int}{r0:Arr 256}{r1:Int}{a0_A:Option Addr}{a0_n a0_c:Nat}(h:ref26_drawn.f K a0 a1=some (r0,r1)) (w0:World) (hp0:RowL CB w0 a0_A a0_n a0_c a0):Ret Tryz.prog 105 #[.slice a0_A a0_n a0_c,I8 a1] w0 (.tuple #[ag .i32 r0,I8 r1]):=by
 refine calls_k Tryz.func105 rfl fun Q qq=>?_
 have hs:=St.startR (all_cons (RowP.ent hp0) all_nil)
 refine wc (a':=(fu 47 [.slice a0_A a0_n a0_c,I8 a1])) (xs fun _ s1=>(xn 2 fun _ j2=>(so 0 (oNe 4 70 .i32 (zeroA 256) hs fun b1 w gw hs=>(qo 1 5 (I8 0) ?_)))))
 refine fj j2 s1 (xs fun _ s3=>(xn 8 fun _ j4=>(nq 0 [(13,.slice a0_A a0_n a0_c),(14,I8 a1)] ?_)))
 obtain ⟨⟨r2,r3⟩,hg,h⟩:=ob h
 refine wpS.only 2 (oH 15 hs (ref08_Sum.ok hg _ (rR 0 hs)) ?_)
 rintro ⟨r2_A,r2_n,r2_c⟩ w gw hs
 have hs:=hs.conv (L':=[.ownL CB r2_A r2_n r2_c r2 5,.blk b1 (enc .i32 (zeroA 256)) 70]) rfl
 refine ⟨fun _=>trivial,?_⟩
 refine nq 3 [(12,.tuple #[.slice r2_A r2_n r2_c,I8 r3]),(16,.slice r2_A r2_n r2_c),(17,I8 r3),(6,.slice r2_A r2_n r2_c),(7,I8 r3)] (fj j4 s3 (xs fun _ s5=>(xn 6 fun _ j6=>(nq 0 [(18,.slice r2_A r2_n r2_c),(19,I8 a1),(20,I8 (imul .i64 a1 2)),(21,I8 (iquo .i64 (imul .i64 a1 2) 3))] ?_))))
 obtain ⟨r4,hg,h⟩:=ob h
 refine wpS.only 4 (oH 22 hs (ref01_Unpack.ok hg _ (rL 0 hs)) ?_)
 rintro ⟨r4_A,r4_n,r4_c⟩ w gw hs
 have hs:=hs.conv (L':=[.ownL (CI .u32) r4_A r4_n r4_c r4 112,.ownL CB r2_A r2_n r2_c r2 5,.blk b1 (enc .i32 (zeroA 256)) 70]) rfl
 refine ⟨fun _=>trivial,?_⟩
 refine qo 5 8 (.slice r4_A r4_n r4_c) (fj j6 s5 (xs fun _ s7=>(xn 1 fun _ j8=>(so 0 (oNe 9 70 .i32 (zeroA 256) hs fun b5 w gw hs=>(fj j8 s7 (xs fun _ s9=>(xn 1 fun _ j10=>(qo 0 10 (I8 0) ?_)))))))))
 refine fj j10 s9 (xs fun _ s11=>(xs fun _ s12=>(xn 1 fun _ j13=>(qo 0 11 (I8 0) (fj j13 s12 (?_))))))
 obtain ⟨⟨y9,y10⟩,hy,hk0⟩:=ob h
 refine wp_exq (N:=fun a w=>St w0 [] [.blk b5 (enc .i32 y10) 70,.ownL (CI .u32) r4_A r4_n r4_c r4 112,.ownL CB r2_A r2_n r2_c r2 5,.blk b1 (enc .i32 (zeroA 256)) 70] [.rowL CB a0_A a0_n a0_c a0] w∧∃ g15,a=fr g15 49 [(4,[P0 b1,I8 0]),(9,[P0 b5,I8 y9])]) (fun N0 nn0=>?_) ?_
 clear hk0
 refine xb ?_
 refine wp_loop_k (fun n a w=>∃ z6 z7 z8,ref26_drawn.l0 K n r4 z6 z7 z8=some (y9,y10)∧St w0 [] [.blk b5 (enc .i32 z8) 70,.ownL (CI .u32) r4_A r4_n r4_c r4 112,.ownL CB r2_A r2_n r2_c r2 5,.blk b1 (enc .i32 (zeroA 256)) 70] [.rowL CB a0_A a0_n a0_c a0] w∧∃ g14,a=fr g14 49 [(4,[P0 b1,I8 0]),(8,[.slice r4_A r4_n r4_c,P0 b5,I8 z6,I8 z7])]) K ⟨0,0,(zeroA 256),hy,hs.conv rfl,eg⟩ ?_
 clear hs h hy
 rintro n a w ⟨z6,z7,z8,h,hs,g14,rfl⟩ KL0 kl0
 cases n with
 | zero=>exact nomatch (show none=some _ from h)
 | succ n=>
  refine xs fun _ s16=>(xs fun _ s17=>(xn 8 fun _ j18=>(nq 0 [(23,I8 z7),(24,.slice r4_A r4_n r4_c)] (tkf 2 25 (I8 (r4.length:Int)) (yl (rL 1 hs)) ?_))))
  obtain ⟨hc,h⟩|⟨hc,h⟩:=of_if h
  refine tb 3 26 (dt hc) ?_
  refine nq 4 [(27,.bool true),(28,I8 z6)] ?_
  obtain ⟨hc,h⟩|⟨hc,h⟩:=of_if h
  refine tb 6 29 (dt hc) ?_
  refine qo 7 30 (.bool true) (fj j18 s17 (ct (xk (T s16 (?_)))))
  obtain ⟨⟨y11,y12⟩,hj,h⟩:=ob h
  refine xs fun _ s20=>wp_join (N:=fun a w=>St w0 [] [.blk b5 (enc .i32 y12) 70,.ownL (CI .u32) r4_A r4_n r4_c r4 112,.ownL CB r2_A r2_n r2_c r2 5,.blk b1 (enc .i32 (zeroA 256)) 70] [.rowL CB a0_A a0_n a0_c a0] w∧∃ g19,a=fr g19 49 [(4,[P0 b1,I8 0]),(8,[.slice r4_A r4_n r4_c,P0 b5,I8 y11,I8 z7]),(28,[I8 z6,.bool true])]) (fun N nj=>?_) ?_
  clear h
  have h:=hj
  refine xb (xs fun _ s21=>(xn 5 fun _ j22=>(nq 0 [(33,.slice r4_A r4_n r4_c),(34,I8 z7)] ?_)))
  obtain ⟨h0,h1,h⟩:=oc2 h
  have i0_23:=h0
  have i1_23:=h1
  refine tkf 2 35 (PA (CI .u32) r4_A z7) (yiL (C:=(CI .u32)) 110 112 .i64 z7 (rL 1 hs) h0 h1) (tkt 3 36 _ (yL (C:=(CI .u32)) 112 z7 (rL 1 hs) rfl i0_23 i1_23) ?_)
  obtain ⟨hc,h⟩|⟨hc,h⟩:=of_if h
  refine tb 4 37 (dt hc) ?_
  refine fj j22 s21 (ct (xs fun _ s24=>(xn 8 fun _ j25=>(nq 0 [(38,I8 z6),(39,.slice r4_A r4_n r4_c),(40,I8 z7)] ?_))))
  obtain ⟨h0,h1,h⟩:=oc2 h
  have i0_26:=h0
  have i1_26:=h1
  refine tkf 3 41 (PA (CI .u32) r4_A z7) (yiL (C:=(CI .u32)) 110 112 .i64 z7 (rL 1 hs) h0 h1) (tkt 4 42 _ (yL (C:=(CI .u32)) 112 z7 (rL 1 hs) rfl i0_26 i1_26) (qo 5 43 (I4 (iconv .i32 (rdL (CI .u32) r4 z7))) ?_))
  obtain ⟨i0_27,i1_27,h⟩:=oc2 h
  refine tkf 6 44 (P1 b5 z6) (yi 70 21 256 1 .i64 z6 i0_27 i1_27) ?_
  obtain ⟨x13,hx,h⟩:=ob h
  refine so 7 (oA 21 x13 z6 hs 0 rfl (by cases hx; kernel_rfl) i0_27 i1_27 fun w kp hs=>?_)
  refine fj j25 s24 (xn 3 fun _ j28=>(nq 0 [(45,I8 z6),(46,I8 (iadd .i64 z6 1))] ?_))
  obtain ⟨x14,hx,h⟩:=ob h
  refine tkf 2 10 (I8 x14) (yn hx) (fin (j28 _ _ (iN ?_)))
  obtain ⟨rfl,rfl⟩:=os2 h
  exact nj _ _ ⟨(hs.conv rfl),eg⟩
  refine tb 4 37 (df hc) (fj j22 s21 (cf (xk (iN ?_))))
  obtain ⟨rfl,rfl⟩:=os2 h
  exact nj _ _ ⟨(hs.conv rfl),eg⟩
  clear hj hs
  rintro a w ⟨hs,g19,rfl⟩
  refine T s20 (xn 3 fun _ j29=>(nq 0 [(31,I8 z7),(32,I8 (iadd .i64 z7 1))] ?_))
  obtain ⟨x15,hx,h⟩:=ob h
  refine tkf 2 11 (I8 x15) (yn hx) (fin (j29 _ _ ?_))
  exact tn (kl0 _ _ ⟨n,ls n,y11,x15,y12,h,(hs.conv rfl),eg⟩)
  refine tb 6 29 (df hc) (qo 7 30 (.bool false) (fj j18 s17 (cf (xexit (tx (tx (iH ?_)))))))
  obtain ⟨rfl,rfl⟩:=os2 h
  exact exq_n (nn0 _ _ ⟨(hs.conv rfl),eg⟩)
  refine tb 3 26 (df hc) (nq 4 [(27,.bool false),(28,undef),(29,undef),(30,.bool false)] (fj j18 s17 (cf (xexit (tx (tx (iH ?_)))))))
  obtain ⟨rfl,rfl⟩:=os2 h
  exact exq_n (nn0 _ _ ⟨(hs.conv rfl),eg⟩)
 clear hs h hy
 rintro a w ⟨hs,g15,rfl⟩
 have h:=hk0
 refine T s11 (xs fun _ s30=>(xn 4 fun _ j31=>(tkt 0 47 _ (yWe 70 hs 0 .grow) (qo 1 48 (I8 y9) (so 2 (oWe 70 .i32 y10 hs 3 fun w kp hs=>(qo 3 5 (I8 y9) ?_)))))))
 refine fj j31 s30 (xret ?_)
 obtain ⟨rfl,rfl⟩:=os2 h
 exact qq _ _ (pr (rr [.cell 4 70,.tmp 5] [ag .i32 y10,I8 y9] (.cons (rcN 256 hs 3 rfl (enc_len _ _)) (.cons rt .nil))) ⟨cr,hs.none⟩)
theorem ref26_Parts.ok {K:Nat}{a0:List Int}{a1 a2:Int}{r0:Arr 256}{r1:Int}{a0_A:Option Addr}{a0_n a0_c:Nat}(h:ref26_Parts.f K a0 a1 a2=some (r0,r1)) (w0:World) (hp0:RowL CB w0 a0_A a0_n a0_c a0):Ret Tryz.prog 86 #[.slice a0_A a0_n a0_c,U1 a1,U1 a2] w0 (.tuple #[ag .i32 r0,I8 r1]):=by
 refine calls_k Tryz.func86 rfl fun Q qq=>?_
 have hs:=St.startR (all_cons (RowP.ent hp0) all_nil)
 refine wc (a':=(fu 30 [.slice a0_A a0_n a0_c,U1 a1,U1 a2])) (xs fun _ s1=>(xn 2 fun _ j2=>(so 0 (oNe 6 70 .i32 (zeroA 256) hs fun b1 w gw hs=>(qo 1 7 (I8 0) ?_)))))
 refine fj j2 s1 (xs fun _ s3=>(xn 7 fun _ j4=>(nq 0 [(11,.slice a0_A a0_n a0_c),(12,U1 a2),(13,U1 a1)] (so 3 (oLt (C:=CB) 14 24 5 2 (U1 0) #[(0,U1 a2),(1,U1 a1)] [a2,a1] hs rfl (by decide) (by decide) fun s2_A s2_n s2_c w gw hs=>(so 4 (oLt (C:=CS) 15 57 24 2 (.slice none 0 0) #[(0,.slice a0_A a0_n a0_c),(1,.slice s2_A s2_n s2_c)] ([(a0_A,a0_n,a0_c),(s2_A,s2_n,s2_c)]:List HS) hs rfl (by decide) (by decide) fun s3_A s3_n s3_c w gw hs=>?_)))))))
 obtain ⟨r4,hg,h⟩:=ob h
 refine wpS.only 5 (oH 16 hs (ref01_Join.ok hg _ (LLP.mk (rL 0 hs) (inn_cons (rR 0 hs) (inn_cons (rL 1 hs) inn_nil)))) ?_)
 rintro ⟨r4_A,r4_n,r4_c⟩ w gw hs
 have hs:=hs.conv (L':=[.ownL CB r4_A r4_n r4_c r4 5,.ownL CS s3_A s3_n s3_c ([(a0_A,a0_n,a0_c),(s2_A,s2_n,s2_c)]:List HS) 24,.ownL CB s2_A s2_n s2_c ([a2,a1]:List Int) 5,.blk b1 (enc .i32 (zeroA 256)) 70]) rfl
 refine ⟨fun _=>trivial,?_⟩
 refine qo 6 8 (.slice r4_A r4_n r4_c) (fj j4 s3 (xs fun _ s5=>(xn 8 fun _ j6=>(qo 0 18 (.slice r4_A r4_n r4_c) ?_))))
 obtain ⟨⟨r5,r6⟩,hg,h⟩:=ob h
 refine so 1 (oC 19 hs (ref26_drawn.ok hg _ (rL 0 hs)) fun w gw hs=>?_)
 refine nq 2 [(17,.tuple #[ag .i32 r5,I8 r6]),(20,ag .i32 r5),(21,I8 r6)] (so 5 (oNe 9 70 .i32 (zeroA 256) hs fun b7 w gw hs=>(so 6 (oWe 70 .i32 r5 hs 0 fun w kp hs=>(qo 7 10 (I8 r6) (fj j6 s5 (?_)))))))
 obtain ⟨⟨y8,y9⟩,hj,h⟩:=ob h
 refine xs fun _ s8=>wp_join (N:=fun a w=>St w0 [] [.blk b7 (enc .i32 y9) 70,.ownL CB r4_A r4_n r4_c r4 5,.ownL CS s3_A s3_n s3_c ([(a0_A,a0_n,a0_c),(s2_A,s2_n,s2_c)]:List HS) 24,.ownL CB s2_A s2_n s2_c ([a2,a1]:List Int) 5,.blk b1 (enc .i32 (zeroA 256)) 70] [.rowL CB a0_A a0_n a0_c a0] w∧∃ g7,a=fr g7 33 [(6,[P0 b1,I8 0]),(9,[P0 b7,I8 y8])]) (fun N nj=>?_) ?_
 clear h
 have h:=hj
 refine xs fun _ s9=>(xn 2 fun _ j10=>(qo 0 22 (I8 r6) ?_))
 obtain ⟨hc,h⟩|⟨hc,h⟩:=of_if h
 refine tb 1 23 (dt hc) ?_
 refine fj j10 s9 (ct (xn 7 fun _ j11=>(qo 0 25 (.slice r4_A r4_n r4_c) ?_)))
 obtain ⟨⟨r10,r11⟩,hg,h⟩:=ob h
 refine so 1 (oC 26 hs (ref26_drawn.ok hg _ (rL 1 hs)) fun w gw hs=>?_)
 refine nq 2 [(24,.tuple #[ag .i32 r10,I8 r11]),(27,ag .i32 r10),(28,I8 r11)] (so 5 (oWe 70 .i32 r10 hs 0 fun w kp hs=>(qo 6 10 (I8 r11) (fin (j11 _ _ ?_)))))
 obtain ⟨rfl,rfl⟩:=os2 h
 exact nj _ _ ⟨(hs.conv rfl),eg⟩
 refine tb 1 23 (df hc) (fj j10 s9 (cf (xk ?_)))
 obtain ⟨rfl,rfl⟩:=os2 h
 exact nj _ _ ⟨(hs.conv rfl),eg⟩
 clear hj hs
 rintro a w ⟨hs,g7,rfl⟩
 refine T s8 (xs fun _ s12=>(xs fun _ s13=>(xn 2 fun _ j14=>(qo 0 29 (I8 y8) ?_))))
 obtain ⟨hc,h⟩|⟨hc,h⟩:=of_if h
 refine tb 1 30 (dt hc) ?_
 refine fj j14 s13 (ct (xs fun _ s15=>(xn 3 fun _ j16=>(qo 0 31 (ag .i32 (zeroA 256)) (so 1 (oWe 70 .i32 (zeroA 256) hs 4 fun w kp hs=>(qo 2 7 (I8 12) (fj j16 s15 (xret (tr ?_))))))))))
 obtain ⟨rfl,rfl⟩:=os2 h
 exact qq _ _ (pr (rr [.cell 6 70,.tmp 7] [ag .i32 (zeroA 256),I8 12] (.cons (rcN 256 hs 4 rfl (enc_len _ _)) (.cons rt .nil))) ⟨cr,hs.none⟩)
 refine tb 1 30 (df hc) (fj j14 s13 (cf (xk (T s12 (xs fun _ s17=>(xn 3 fun _ j18=>(tkt 0 32 _ (yWe 70 hs 0 .grow) (so 1 (oWe 70 .i32 y9 hs 4 fun w kp hs=>(qo 2 7 (I8 0) ?_))))))))))
 refine fj j18 s17 (xret ?_)
 obtain ⟨rfl,rfl⟩:=os2 h
 exact qq _ _ (pr (rr [.cell 6 70,.tmp 7] [ag .i32 y9,I8 0] (.cons (rcN 256 hs 4 rfl (enc_len _ _)) (.cons rt .nil))) ⟨cr,hs.none⟩)
theorem ref25_Ntt.ok {K:Nat}{a0 r0:Arr 256}(h:ref25_Ntt.f K a0=some r0) (w0:World):Ret Tryz.prog 42 #[ag .i32 a0] w0 (ag .i32 r0):=by
 refine calls_k Tryz.func42 rfl fun Q qq=>?_
 have hs:=St.start w0
 refine wc (a':=(fu 58 [ag .i32 a0])) (xs fun _ s1=>(xn 2 fun _ j2=>(so 0 (oBe 1 70 .i32 a0 hs fun b1 w gw hs=>(so 1 (oNe 2 70 .i32 (zeroA 256) hs fun b2 w gw hs=>?_))))))
 refine fj j2 s1 (xs fun _ s3=>(xn 3 fun _ j4=>?_))
 obtain ⟨r3,hg,h⟩:=ob h
 refine so 0 (oC 11 hs (ref25_powers.ok hg _) fun w gw hs=>?_)
 refine so 1 (oNe 3 69 .i32 (zeroA 256) hs fun b4 w gw hs=>?_)
 refine so 2 (oWe 69 .i32 r3 hs 0 fun w kp hs=>?_)
 refine fj j4 s3 (xs fun _ s5=>(xn 1 fun _ j6=>(so 0 (oNe 4 70 .i32 (zeroA 256) hs fun b5 w gw hs=>(fj j6 s5 (xs fun _ s7=>(xs fun _ s8=>(xn 1 fun _ j9=>(qo 0 5 (I8 0) (fj j9 s8 (?_)))))))))))
 obtain ⟨y8,hy,hk0⟩:=ob h
 refine wp_exq (N:=fun a w=>St w0 [] [.blk b5 (enc .i32 y8) 70,.blk b4 (enc .i32 r3) 69,.blk b2 (enc .i32 (zeroA 256)) 70,.blk b1 (enc .i32 a0) 70] [] w∧∃ g11,a=fr g11 59 [(2,[P0 b2]),(4,[P0 b5])]) (fun N0 nn0=>?_) ?_
 clear hk0
 refine xb ?_
 refine wp_loop_k (fun n a w=>∃ z6 z7,ref25_Ntt.l0 K n a0 r3 z6 z7=some y8∧St w0 [] [.blk b5 (enc .i32 z7) 70,.blk b4 (enc .i32 r3) 69,.blk b2 (enc .i32 (zeroA 256)) 70,.blk b1 (enc .i32 a0) 70] [] w∧∃ g10,a=fr g10 59 [(1,[P0 b1,P0 b2,P0 b4,P0 b5,I8 z6])]) K ⟨0,(zeroA 256),hy,hs.conv rfl,eg⟩ ?_
 clear hs h hy
 rintro n a w ⟨z6,z7,h,hs,g10,rfl⟩ KL0 kl0
 cases n with
 | zero=>exact nomatch (show none=some _ from h)
 | succ n=>
  refine xs fun _ s12=>(xs fun _ s13=>(xn 2 fun _ j14=>(qo 0 12 (I8 z6) ?_)))
  obtain ⟨hc,h⟩|⟨hc,h⟩:=of_if h
  refine tb 1 13 (dt hc) ?_
  refine fj j14 s13 (ct (xk (T s12 (xs fun _ s15=>(xb (xs fun _ s16=>(xn 5 fun _ j17=>(qo 0 16 (I8 z6) ?_))))))))
  obtain ⟨r9,hg,h⟩:=ob h
  refine so 1 (oC 17 hs (ref25_turned.ok hg _) fun w gw hs=>?_)
  refine nq 2 [(18,I8 (imul .i64 2 r9)),(19,I8 (iadd .i64 (imul .i64 2 r9) 1))] ?_
  obtain ⟨x10,hx,h⟩:=ob h
  refine tkf 4 6 (I8 x10) (yn hx) (fj j17 s16 (xs fun _ s18=>(xn 1 fun _ j19=>(qo 0 7 (I4 0) (fj j19 s18 (xs fun _ s20=>(xn 1 fun _ j21=>(qo 0 8 (I4 0) ?_))))))))
  refine fj j21 s20 (xs fun _ s22=>(xs fun _ s23=>(xn 1 fun _ j24=>(qo 0 9 (I8 0) (fj j24 s23 (?_))))))
  obtain ⟨⟨y14,y15⟩,hy,hk1⟩:=ob h
  refine wp_exq (N:=fun a w=>St w0 [] [.blk b5 (enc .i32 z7) 70,.blk b4 (enc .i32 r3) 69,.blk b2 (enc .i32 (zeroA 256)) 70,.blk b1 (enc .i32 a0) 70] [] w∧∃ g26,a=fr g26 59 [(1,[P0 b1,P0 b2,P0 b4,P0 b5,I8 z6]),(7,[I4 y14,I4 y15])]) (fun N1 nn1=>?_) ?_
  clear hk1
  refine xb ?_
  refine wp_loop_k (fun n a w=>∃ z11 z12 z13,ref25_Ntt.l1 K n a0 r3 x10 z11 z12 z13=some (y14,y15)∧St w0 [] [.blk b5 (enc .i32 z7) 70,.blk b4 (enc .i32 r3) 69,.blk b2 (enc .i32 (zeroA 256)) 70,.blk b1 (enc .i32 a0) 70] [] w∧∃ g25,a=fr g25 59 [(1,[P0 b1,P0 b2,P0 b4,P0 b5,I8 z6,I8 x10,I4 z11,I4 z12,I8 z13])]) K ⟨0,0,0,hy,hs.conv rfl,eg⟩ ?_
  clear hs h hy
  rintro n a w ⟨z11,z12,z13,h,hs,g25,rfl⟩ KL1 kl1
  cases n with
  | zero=>exact nomatch (show none=some _ from h)
  | succ n=>
   refine xs fun _ s27=>(xs fun _ s28=>(xn 2 fun _ j29=>(qo 0 20 (I8 z13) ?_)))
   obtain ⟨hc,h⟩|⟨hc,h⟩:=of_if h
   refine tb 1 21 (dt hc) ?_
   refine fj j29 s28 (ct (xk (T s27 (xs fun _ s30=>(xb (xs fun _ s31=>(xn 7 fun _ j32=>(nq 0 [(24,I8 x10),(25,I8 z13),(26,I8 (imul .i64 x10 z13)),(27,I8 (irem .i64 (imul .i64 x10 z13) 256))] ?_))))))))
   obtain ⟨x16,hx,h⟩:=ob h
   have hx:=of_some hx
   subst hx
   obtain ⟨i0_33,i1_33,h⟩:=oc2 h
   refine tkf 4 28 (.pointer (some ⟨b4,0+((irem .i64 (imul .i64 x10 z13) 256):Int).toNat*1,none⟩)) (yi 69 21 256 1 .i64 (irem .i64 (imul .i64 x10 z13) 256) i0_33 i1_33) (tkt 5 29 _ (yA hs 1 21 (irem .i64 (imul .i64 x10 z13) 256) rfl i0_33 i1_33 .grow) ?_)
   obtain ⟨x17,hx,h⟩:=ob h
   refine tkf 6 10 (I4 x17) (yn hx) (fj j32 s31 (xs fun _ s34=>(xn 10 fun _ j35=>(nq 0 [(30,I4 z11),(31,I8 z13),(32,I8 (imul .i64 2 z13))] ?_))))
   obtain ⟨x18,hx,h⟩:=ob h
   have hx:=of_some hx
   subst hx
   obtain ⟨i0_36,i1_36,h⟩:=oc2 h
   refine tkf 3 33 (P1 b1 (imul .i64 2 z13)) (yi 70 21 256 1 .i64 (imul .i64 2 z13) i0_36 i1_36) (tkt 4 34 _ (yA hs 3 21 (imul .i64 2 z13) rfl i0_36 i1_36 .grow) (nq 5 [(35,I4 x17),(36,I4 (imul .i32 (rd a0 (imul .i64 2 z13)) x17)),(37,I4 (iadd .i32 z11 (imul .i32 (rd a0 (imul .i64 2 z13)) x17))),(38,I4 (irem .i32 (iadd .i32 z11 (imul .i32 (rd a0 (imul .i64 2 z13)) x17)) 3329))] ?_))
   obtain ⟨x19,hx,h⟩:=ob h
   refine tkf 9 7 (I4 x19) (yn hx) (fj j35 s34 (xn 11 fun _ j37=>(nq 0 [(39,I4 z12),(40,I8 z13),(41,I8 (imul .i64 2 z13)),(42,I8 (iadd .i64 (imul .i64 2 z13) 1))] ?_)))
   obtain ⟨x20,hx,h⟩:=ob h
   have hx:=of_some hx
   subst hx
   obtain ⟨i0_38,i1_38,h⟩:=oc2 h
   refine tkf 4 43 (.pointer (some ⟨b1,0+((iadd .i64 (imul .i64 2 z13) 1):Int).toNat*1,none⟩)) (yi 70 21 256 1 .i64 (iadd .i64 (imul .i64 2 z13) 1) i0_38 i1_38) (tkt 5 44 _ (yA hs 3 21 (iadd .i64 (imul .i64 2 z13) 1) rfl i0_38 i1_38 .grow) (nq 6 [(45,I4 x17),(46,I4 (imul .i32 (rd a0 (iadd .i64 (imul .i64 2 z13) 1)) x17)),(47,I4 (iadd .i32 z12 (imul .i32 (rd a0 (iadd .i64 (imul .i64 2 z13) 1)) x17))),(48,I4 (irem .i32 (iadd .i32 z12 (imul .i32 (rd a0 (iadd .i64 (imul .i64 2 z13) 1)) x17)) 3329))] ?_))
   obtain ⟨x21,hx,h⟩:=ob h
   refine tkf 10 8 (I4 x21) (yn hx) (fin (j37 _ _ (iN (T s30 (xn 3 fun _ j39=>(nq 0 [(22,I8 z13),(23,I8 (iadd .i64 z13 1))] ?_))))))
   obtain ⟨x22,hx,h⟩:=ob h
   refine tkf 2 9 (I8 x22) (yn hx) (fin (j39 _ _ ?_))
   exact tn (kl1 _ _ ⟨n,ls n,x19,x21,x22,h,(hs.conv rfl),eg⟩)
   refine tb 1 21 (df hc) (fj j29 s28 (cf (xexit (tx (tx (iH ?_))))))
   obtain ⟨rfl,rfl⟩:=os2 h
   exact exq_n (nn1 _ _ ⟨(hs.conv rfl),eg⟩)
  clear hs h hy
  rintro a w ⟨hs,g26,rfl⟩
  have h:=hk1
  refine T s22 (xs fun _ s40=>(xn 5 fun _ j41=>(nq 0 [(49,I8 z6),(50,I8 (imul .i64 2 z6)),(51,I4 y14)] ?_)))
  obtain ⟨x23,hx,h⟩:=ob h
  have hx:=of_some hx
  subst hx
  obtain ⟨i0_42,i1_42,h⟩:=oc2 h
  refine tkf 3 52 (P1 b5 (imul .i64 2 z6)) (yi 70 21 256 1 .i64 (imul .i64 2 z6) i0_42 i1_42) (so 4 (oA 21 y14 (imul .i64 2 z6) hs 0 rfl (by kernel_rfl) i0_42 i1_42 fun w kp hs=>(fj j41 s40 (xn 6 fun _ j43=>(nq 0 [(53,I8 z6),(54,I8 (imul .i64 2 z6)),(55,I8 (iadd .i64 (imul .i64 2 z6) 1)),(56,I4 y15)] ?_)))))
  obtain ⟨x24,hx,h⟩:=ob h
  have hx:=of_some hx
  subst hx
  obtain ⟨i0_44,i1_44,h⟩:=oc2 h
  refine tkf 4 57 (.pointer (some ⟨b5,0+((iadd .i64 (imul .i64 2 z6) 1):Int).toNat*1,none⟩)) (yi 70 21 256 1 .i64 (iadd .i64 (imul .i64 2 z6) 1) i0_44 i1_44) (so 5 (oA 21 y15 (iadd .i64 (imul .i64 2 z6) 1) hs 0 rfl (by kernel_rfl) i0_44 i1_44 fun w kp hs=>(fin (j43 _ _ (iN (T s15 (xn 3 fun _ j45=>(nq 0 [(14,I8 z6),(15,I8 (iadd .i64 z6 1))] ?_))))))))
  obtain ⟨x25,hx,h⟩:=ob h
  refine tkf 2 5 (I8 x25) (yn hx) (fin (j45 _ _ ?_))
  exact tn (kl0 _ _ ⟨n,ls n,x25,(wr (wr z7 (imul .i64 2 z6) y14) (iadd .i64 (imul .i64 2 z6) 1) y15),h,(hs.conv rfl),eg⟩)
  refine tb 1 13 (df hc) (fj j14 s13 (cf (xexit (tx (tx (iH ?_))))))
  obtain rfl:=of_some h
  exact exq_n (nn0 _ _ ⟨(hs.conv rfl),eg⟩)
 clear hs h hy
 rintro a w ⟨hs,g11,rfl⟩
 have h:=hk0
 refine T s7 (xs fun _ s46=>(xn 2 fun _ j47=>(tkt 0 58 _ (yWe 70 hs 0 .grow) (so 1 (oWe 70 .i32 y8 hs 2 fun w kp hs=>(fj j47 s46 (xret ?_)))))))
 obtain rfl:=of_some h
 exact qq _ _ (pr (rr [.cell 2 70] [ag .i32 y8] (.cons (rcN 256 hs 2 rfl (enc_len _ _)) .nil)) ⟨cr,hs.none⟩)
theorem ref26_ntt.ok {K:Nat}{a0 r0:List (Arr 256)}{a0_A:Option Addr}{a0_n a0_c:Nat}(h:ref26_ntt.f K a0=some r0) (w0:World) (hp0:RowL CZ w0 a0_A a0_n a0_c a0):Calls Tryz.prog 51 #[.slice a0_A a0_n a0_c] w0 fun e w'=>∃ h:(Option Addr × Nat × Nat),e = .returned (.slice h.1 h.2.1 h.2.2)∧St w0 [] [.ownL CZ h.1 h.2.1 h.2.2 r0 70] [] w':=by
 refine calls_k Tryz.func51 rfl fun Q qq=>?_
 have hs:=St.startR (all_cons (RowP.ent hp0) all_nil)
 refine wc (a':=(fu 19 [.slice a0_A a0_n a0_c])) (xs fun _ s1=>(xn 1 fun _ j2=>(qo 0 2 (.slice none 0 0) (fj j2 s1 (xs fun _ s3=>(xn 1 fun _ j4=>?_))))))
 refine qo 0 3 (.slice none 0 0) (fj j4 s3 (xs fun _ s5=>(xs fun _ s6=>(xn 1 fun _ j7=>(qo 0 4 (I8 0) (fj j7 s6 (?_)))))))
 have hs:=hs.addNilL CZ 70
 obtain ⟨y3,hy,hk0⟩:=ob h
 refine wp_exq (N:=fun a w=>∃ y3_A y3_n y3_c,St w0 [] [.ownL CZ y3_A y3_n y3_c y3 70] [.rowL CZ a0_A a0_n a0_c a0] w∧∃ g9,a=fr g9 20 [(2,[.slice none 0 0,.slice y3_A y3_n y3_c])]) (fun N0 nn0=>?_) ?_
 clear hk0
 refine xb ?_
 refine wp_loop_k (fun n a w=>∃ z1 z2,∃ z2_A z2_n z2_c,ref26_ntt.l0 K n a0 z1 z2=some y3∧St w0 [] [.ownL CZ z2_A z2_n z2_c z2 70] [.rowL CZ a0_A a0_n a0_c a0] w∧∃ g8,a=fr g8 20 [(0,[.slice a0_A a0_n a0_c]),(2,[.slice none 0 0,.slice z2_A z2_n z2_c,I8 z1])]) K ⟨0,([]:List (Arr 256)),none,0,0,hy,hs.conv rfl,eg⟩ ?_
 clear hs h hy
 rintro n a w ⟨z1,z2,z2_A,z2_n,z2_c,h,hs,g8,rfl⟩ KL0 kl0
 cases n with
 | zero=>exact nomatch (show none=some _ from h)
 | succ n=>
  refine xs fun _ s10=>(xs fun _ s11=>(xn 4 fun _ j12=>(nq 0 [(5,I8 z1),(6,.slice a0_A a0_n a0_c)] (tkf 2 7 (I8 (a0.length:Int)) (yl (rR 0 hs)) ?_))))
  obtain ⟨hc,h⟩|⟨hc,h⟩:=of_if h
  refine tb 3 8 (dt hc) ?_
  refine fj j12 s11 (ct (xk (T s10 (xs fun _ s13=>(xb (xn 9 fun _ j14=>(nq 0 [(11,.slice z2_A z2_n z2_c),(12,.slice a0_A a0_n a0_c),(13,I8 z1)] ?_)))))))
  obtain ⟨h0,h1,h⟩:=oc2 h
  have i0_15:=h0
  have i1_15:=h1
  refine tkf 3 14 (PA CZ a0_A z1) (yiL (C:=CZ) 66 70 .i64 z1 (rR 0 hs) h0 h1) (tkt 4 15 _ (yLA (C:=CZ) 70 z1 (rR 0 hs) rfl i0_15 i1_15) ?_)
  obtain ⟨r4,hg,h⟩:=ob h
  refine so 5 (oC 16 hs (ref25_Ntt.ok hg _) fun w gw hs=>?_)
  refine so 6 (oLL (C:=CZ) 17 66 70 1 (ag .i32 (zeroA 256)) #[(0,ag .i32 r4)] [r4] hs rfl rfl (by decide) (by decide) fun s5_A s5_n s5_c w gw hs=>?_)
  obtain ⟨h0,h⟩:=oc h
  refine so 7 (oAp (C:=CZ) 18 66 66 70 1024 137438953472 hs 1 rfl (rL 0 hs) h0 (by decide) (by decide) fun s6_A s6_n s6_c w hs=>?_)
  refine qo 8 3 (.slice s6_A s6_n s6_c) (fin (j14 _ _ (iN (T s13 (xn 3 fun _ j16=>(nq 0 [(9,I8 z1),(10,I8 (iadd .i64 z1 1))] ?_))))))
  obtain ⟨x7,hx,h⟩:=ob h
  refine tkf 2 4 (I8 x7) (yn hx) (fin (j16 _ _ ?_))
  exact tn (kl0 _ _ ⟨n,ls n,x7,(z2++([r4]:List (Arr 256))),s6_A,s6_n,s6_c,h,(dr [0,1] hs),eg⟩)
  refine tb 3 8 (df hc) (fj j12 s11 (cf (xexit (tx (tx (iH ?_))))))
  obtain rfl:=of_some h
  exact exq_n (nn0 _ _ ⟨z2_A,z2_n,z2_c,(hs.conv rfl),eg⟩)
 clear hs h hy
 rintro a w ⟨y3_A,y3_n,y3_c,hs,g9,rfl⟩
 have h:=hk0
 refine T s5 (xs fun _ s17=>(xn 2 fun _ j18=>(nq 0 [(19,.slice y3_A y3_n y3_c),(2,.slice y3_A y3_n y3_c)] (fj j18 s17 (xret ?_)))))
 obtain rfl:=of_some h
 exact qq _ _ (pt [2] [.slice y3_A y3_n y3_c] ⟨⟨y3_A,y3_n,y3_c⟩,cr,(pz hs)⟩)
theorem ref26_bit.ok {K:Nat}{a0:List Int}{a1 r0:Int}{a0_A:Option Addr}{a0_n a0_c:Nat}(h:ref26_bit.f K a0 a1=some r0) (w0:World) (hp0:RowL CB w0 a0_A a0_n a0_c a0):Ret Tryz.prog 54 #[.slice a0_A a0_n a0_c,I8 a1] w0 (I4 r0):=by
 refine calls_k Tryz.func54 rfl fun Q qq=>?_
 have hs:=St.startR (all_cons (RowP.ent hp0) all_nil)
 refine wc (a':=(fu 13 [.slice a0_A a0_n a0_c,I8 a1])) (xs fun _ s1=>(xn 1 fun _ j2=>(qo 0 4 (I4 0) (fj j2 s1 (xs fun _ s3=>(xn 11 fun _ j4=>?_))))))
 refine nq 0 [(5,.slice a0_A a0_n a0_c),(6,I8 a1),(7,I8 (iquo .i64 a1 8))] ?_
 obtain ⟨x1,hx,h⟩:=ob h
 have hx:=of_some hx
 subst hx
 obtain ⟨h0,h1,h⟩:=oc2 h
 have i0_5:=h0
 have i1_5:=h1
 refine tkf 3 8 (PA CB a0_A (iquo .i64 a1 8)) (yiL (C:=CB) 24 5 .i64 (iquo .i64 a1 8) (rR 0 hs) h0 h1) (tkt 4 9 _ (yL (C:=CB) 5 (iquo .i64 a1 8) (rR 0 hs) rfl i0_5 i1_5) (nq 5 [(10,I8 a1),(11,I8 (irem .i64 a1 8))] ?_))
 obtain ⟨h0,h⟩:=oc h
 refine tkf 7 12 (U1 (ishr .u8 (rdL CB a0 (iquo .i64 a1 8)) (irem .i64 a1 8))) (ysr 5 .i64 h0) (nq 8 [(13,U1 (iand .u8 (ishr .u8 (rdL CB a0 (iquo .i64 a1 8)) (irem .i64 a1 8)) 1)),(14,I4 (iconv .i32 (iand .u8 (ishr .u8 (rdL CB a0 (iquo .i64 a1 8)) (irem .i64 a1 8)) 1)))] ?_)
 obtain ⟨x2,hx,h⟩:=ob h
 refine tkf 10 4 (I4 x2) (yn hx) (fj j4 s3 (xret ?_))
 obtain rfl:=of_some h
 exact qq _ _ (pt [4] [I4 x2] ⟨cr,hs.none⟩)
theorem ref26_Noise.ok {K:Nat}{a0:Int}{a1:List Int}{a2:Int}{r0:Arr 256}{a1_A:Option Addr}{a1_n a1_c:Nat}(h:ref26_Noise.f K a0 a1 a2=some r0) (w0:World) (hp1:RowL CB w0 a1_A a1_n a1_c a1):Ret Tryz.prog 55 #[I8 a0,.slice a1_A a1_n a1_c,U1 a2] w0 (ag .i32 r0):=by
 refine calls_k Tryz.func55 rfl fun Q qq=>?_
 have hs:=St.startR (all_cons (RowP.ent hp1) all_nil)
 refine wc (a':=(fu 64 [I8 a0,.slice a1_A a1_n a1_c,U1 a2])) (xs fun _ s1=>(xn 1 fun _ j2=>(so 0 (oNe 6 70 .i32 (zeroA 256) hs fun b1 w gw hs=>(fj j2 s1 (xs fun _ s3=>(xn 1 fun _ j4=>?_)))))))
 refine so 0 (oNe 7 70 .i32 (zeroA 256) hs fun b2 w gw hs=>?_)
 refine fj j4 s3 (?_)
 obtain ⟨tv6,hj,hk_6⟩:=ob h
 refine xs fun _ s6=>wp_exj (N:=fun a w=>∃ y3,tv6 = .inl y3∧St w0 [] [.blk b2 (enc .i32 (zeroA 256)) 70,.blk b1 (enc .i32 y3) 70] [.rowL CB a1_A a1_n a1_c a1] w∧∃ g5,a=fr g5 67 [(0,[I8 a0,.slice a1_A a1_n a1_c,U1 a2]),(6,[P0 b1,P0 b2])]) (fun N nj=>?_) ?_
 clear h
 have h:=hj
 refine xs fun _ s7=>(xn 6 fun _ j8=>(qo 0 13 (I8 a0) ?_))
 obtain ⟨hc,h⟩|⟨hc,h⟩:=of_if h
 refine tb 1 14 (nf hc) ?_
 refine nq 2 [(15,.bool false),(16,undef),(17,undef),(18,.bool false)] (fj j8 s7 (cf (xk ?_)))
 obtain rfl:=of_some h
 exact exj_n (nj _ _ ⟨(zeroA 256),rfl,(hs.conv rfl),eg⟩)
 refine tb 1 14 (nt hc) (nq 2 [(15,.bool true),(16,I8 a0)] ?_)
 obtain ⟨hc,h⟩|⟨hc,h⟩:=of_if h
 refine tb 4 17 (nf hc) ?_
 refine qo 5 18 (.bool false) (fj j8 s7 (cf (xk ?_)))
 obtain rfl:=of_some h
 exact exj_n (nj _ _ ⟨(zeroA 256),rfl,(hs.conv rfl),eg⟩)
 refine tb 4 17 (nt hc) (qo 5 18 (.bool true) (fj j8 s7 (ct (xs fun _ s9=>(xn 2 fun _ j10=>(tkt 0 19 _ (yWe 70 hs 0 .grow) (so 1 (oWe 70 .i32 (zeroA 256) hs 1 fun w kp hs=>?_))))))))
 refine fj j10 s9 (xret ?_)
 obtain rfl:=of_some h
 have h:=hk_6
 refine exj_r ?_
 refine tr ?_
 obtain rfl:=of_some h
 exact qq _ _ (pr (rr [.cell 6 70] [ag .i32 (zeroA 256)] (.cons (rcN 256 hs 1 rfl (enc_len _ _)) .nil)) ⟨cr,hs.none⟩)
 clear hj hs
 rintro a w ⟨y3,rfl,hs,g5,rfl⟩
 have h:=hk_6
 refine T s6 (xs fun _ s11=>(xn 13 fun _ j12=>(nq 0 [(21,.slice a1_A a1_n a1_c),(22,U1 a2)] (so 2 (oLt (C:=CB) 23 24 5 1 (U1 0) #[(0,U1 a2)] [a2] hs rfl (by decide) (by decide) fun s4_A s4_n s4_c w gw hs=>(so 3 (oLt (C:=CS) 24 57 24 2 (.slice none 0 0) #[(0,.slice a1_A a1_n a1_c),(1,.slice s4_A s4_n s4_c)] ([(a1_A,a1_n,a1_c),(s4_A,s4_n,s4_c)]:List HS) hs rfl (by decide) (by decide) fun s5_A s5_n s5_c w gw hs=>?_)))))))
 obtain ⟨r6,hg,h⟩:=ob h
 refine wpS.only 4 (oH 25 hs (ref01_Join.ok hg _ (LLP.mk (rL 0 hs) (inn_cons (rR 0 hs) (inn_cons (rL 1 hs) inn_nil)))) ?_)
 rintro ⟨r6_A,r6_n,r6_c⟩ w gw hs
 have hs:=hs.conv (L':=[.ownL CB r6_A r6_n r6_c r6 5,.ownL CS s5_A s5_n s5_c ([(a1_A,a1_n,a1_c),(s4_A,s4_n,s4_c)]:List HS) 24,.ownL CB s4_A s4_n s4_c ([a2]:List Int) 5,.blk b2 (enc .i32 (zeroA 256)) 70,.blk b1 (enc .i32 y3) 70]) rfl
 refine ⟨fun _=>trivial,?_⟩
 refine nq 5 [(26,I8 a0),(27,I8 (imul .i64 64 a0))] ?_
 obtain ⟨⟨r7,r8⟩,hg,h⟩:=ob h
 refine wpS.only 7 (oH 28 hs (ref08_Sum.ok hg _ (rL 0 hs)) ?_)
 rintro ⟨r7_A,r7_n,r7_c⟩ w gw hs
 have hs:=hs.conv (L':=[.ownL CB r7_A r7_n r7_c r7 5,.ownL CB r6_A r6_n r6_c r6 5,.ownL CS s5_A s5_n s5_c ([(a1_A,a1_n,a1_c),(s4_A,s4_n,s4_c)]:List HS) 24,.ownL CB s4_A s4_n s4_c ([a2]:List Int) 5,.blk b2 (enc .i32 (zeroA 256)) 70,.blk b1 (enc .i32 y3) 70]) rfl
 refine ⟨fun _=>trivial,?_⟩
 refine nq 8 [(20,.tuple #[.slice r7_A r7_n r7_c,I8 r8]),(29,.slice r7_A r7_n r7_c),(30,I8 r8),(8,.slice r7_A r7_n r7_c),(9,I8 r8)] (fj j12 s11 (xs fun _ s13=>(xs fun _ s14=>(xn 1 fun _ j15=>(qo 0 10 (I8 0) (fj j15 s14 (?_)))))))
 obtain ⟨y11,hy,hk0⟩:=ob h
 refine wp_exq (N:=fun a w=>St w0 [] [.ownL CB r7_A r7_n r7_c r7 5,.ownL CB r6_A r6_n r6_c r6 5,.ownL CS s5_A s5_n s5_c ([(a1_A,a1_n,a1_c),(s4_A,s4_n,s4_c)]:List HS) 24,.ownL CB s4_A s4_n s4_c ([a2]:List Int) 5,.blk b2 (enc .i32 y11) 70,.blk b1 (enc .i32 y3) 70] [.rowL CB a1_A a1_n a1_c a1] w∧∃ g17,a=fr g17 67 [(6,[P0 b1,P0 b2])]) (fun N0 nn0=>?_) ?_
 clear hk0
 refine xb ?_
 refine wp_loop_k (fun n a w=>∃ z9 z10,ref26_Noise.l0 K n a0 r7 z9 z10=some y11∧St w0 [] [.ownL CB r7_A r7_n r7_c r7 5,.ownL CB r6_A r6_n r6_c r6 5,.ownL CS s5_A s5_n s5_c ([(a1_A,a1_n,a1_c),(s4_A,s4_n,s4_c)]:List HS) 24,.ownL CB s4_A s4_n s4_c ([a2]:List Int) 5,.blk b2 (enc .i32 z10) 70,.blk b1 (enc .i32 y3) 70] [.rowL CB a1_A a1_n a1_c a1] w∧∃ g16,a=fr g16 67 [(0,[I8 a0]),(6,[P0 b1,P0 b2,.slice r7_A r7_n r7_c]),(10,[I8 z9])]) K ⟨0,(zeroA 256),hy,hs.conv rfl,eg⟩ ?_
 clear hs h hy
 rintro n a w ⟨z9,z10,h,hs,g16,rfl⟩ KL0 kl0
 cases n with
 | zero=>exact nomatch (show none=some _ from h)
 | succ n=>
  refine xs fun _ s18=>(xs fun _ s19=>(xn 2 fun _ j20=>(qo 0 31 (I8 z9) ?_)))
  obtain ⟨hc,h⟩|⟨hc,h⟩:=of_if h
  refine tb 1 32 (dt hc) ?_
  refine fj j20 s19 (ct (xk (T s18 (xs fun _ s21=>(xb (xs fun _ s22=>(xn 1 fun _ j23=>(qo 0 11 (I4 0) (fj j23 s22 (xs fun _ s24=>(xs fun _ s25=>(xn 1 fun _ j26=>(qo 0 12 (I8 0) (fj j26 s25 (?_)))))))))))))))
  obtain ⟨y14,hy,hk1⟩:=ob h
  refine wp_exq (N:=fun a w=>St w0 [] [.ownL CB r7_A r7_n r7_c r7 5,.ownL CB r6_A r6_n r6_c r6 5,.ownL CS s5_A s5_n s5_c ([(a1_A,a1_n,a1_c),(s4_A,s4_n,s4_c)]:List HS) 24,.ownL CB s4_A s4_n s4_c ([a2]:List Int) 5,.blk b2 (enc .i32 z10) 70,.blk b1 (enc .i32 y3) 70] [.rowL CB a1_A a1_n a1_c a1] w∧∃ g28,a=fr g28 67 [(0,[I8 a0]),(6,[P0 b1,P0 b2,.slice r7_A r7_n r7_c]),(10,[I8 z9,I4 y14])]) (fun N1 nn1=>?_) ?_
  clear hk1
  refine xb ?_
  refine wp_loop_k (fun n a w=>∃ z12 z13,ref26_Noise.l1 K n a0 r7 z9 z12 z13=some y14∧St w0 [] [.ownL CB r7_A r7_n r7_c r7 5,.ownL CB r6_A r6_n r6_c r6 5,.ownL CS s5_A s5_n s5_c ([(a1_A,a1_n,a1_c),(s4_A,s4_n,s4_c)]:List HS) 24,.ownL CB s4_A s4_n s4_c ([a2]:List Int) 5,.blk b2 (enc .i32 z10) 70,.blk b1 (enc .i32 y3) 70] [.rowL CB a1_A a1_n a1_c a1] w∧∃ g27,a=fr g27 67 [(0,[I8 a0]),(6,[P0 b1,P0 b2,.slice r7_A r7_n r7_c]),(10,[I8 z9,I4 z12,I8 z13])]) K ⟨0,0,hy,hs.conv rfl,eg⟩ ?_
  clear hs h hy
  rintro n a w ⟨z12,z13,h,hs,g27,rfl⟩ KL1 kl1
  cases n with
  | zero=>exact nomatch (show none=some _ from h)
  | succ n=>
   refine xs fun _ s29=>(xs fun _ s30=>(xn 3 fun _ j31=>(nq 0 [(35,I8 z13),(36,I8 a0)] ?_)))
   obtain ⟨hc,h⟩|⟨hc,h⟩:=of_if h
   refine tb 2 37 (dt hc) ?_
   refine fj j31 s30 (ct (xk (T s29 (xs fun _ s32=>(xb (xn 22 fun _ j33=>(nq 0 [(40,I4 z12),(41,.slice r7_A r7_n r7_c),(42,I8 z9),(43,I8 (imul .i64 2 z9)),(44,I8 a0),(45,I8 (imul .i64 (imul .i64 2 z9) a0)),(46,I8 z13),(47,I8 (iadd .i64 (imul .i64 (imul .i64 2 z9) a0) z13))] ?_)))))))
   obtain ⟨r15,hg,h⟩:=ob h
   refine so 8 (oC 48 hs (ref26_bit.ok hg _ (rL 0 hs)) fun w gw hs=>?_)
   refine nq 9 [(49,I4 (iadd .i32 z12 r15)),(50,.slice r7_A r7_n r7_c),(51,I8 z9),(52,I8 (imul .i64 2 z9)),(53,I8 a0),(54,I8 (imul .i64 (imul .i64 2 z9) a0)),(55,I8 a0),(56,I8 (iadd .i64 (imul .i64 (imul .i64 2 z9) a0) a0)),(57,I8 z13),(58,I8 (iadd .i64 (iadd .i64 (imul .i64 (imul .i64 2 z9) a0) a0) z13))] ?_
   obtain ⟨r16,hg,h⟩:=ob h
   refine so 19 (oC 59 hs (ref26_bit.ok hg _ (rL 0 hs)) fun w gw hs=>?_)
   refine qo 20 60 (I4 (isub .i32 (iadd .i32 z12 r15) r16)) ?_
   obtain ⟨x17,hx,h⟩:=ob h
   refine tkf 21 11 (I4 x17) (yn hx) (fin (j33 _ _ (iN (T s32 (xn 3 fun _ j34=>(nq 0 [(38,I8 z13),(39,I8 (iadd .i64 z13 1))] ?_))))))
   obtain ⟨x18,hx,h⟩:=ob h
   refine tkf 2 12 (I8 x18) (yn hx) (fin (j34 _ _ ?_))
   exact tn (kl1 _ _ ⟨n,ls n,x17,x18,h,(hs.conv rfl),eg⟩)
   refine tb 2 37 (df hc) (fj j31 s30 (cf (xexit (tx (tx (iH ?_))))))
   obtain rfl:=of_some h
   exact exq_n (nn1 _ _ ⟨(hs.conv rfl),eg⟩)
  clear hs h hy
  rintro a w ⟨hs,g28,rfl⟩
  have h:=hk1
  refine T s24 (xn 6 fun _ j35=>(nq 0 [(61,I8 z9),(62,I4 y14),(63,I4 (iadd .i32 y14 3329)),(64,I4 (irem .i32 (iadd .i32 y14 3329) 3329))] ?_))
  obtain ⟨i0_36,i1_36,h⟩:=oc2 h
  refine tkf 4 65 (P1 b2 z9) (yi 70 21 256 1 .i64 z9 i0_36 i1_36) ?_
  obtain ⟨x19,hx,h⟩:=ob h
  refine so 5 (oA 21 x19 z9 hs 4 rfl (by cases hx; kernel_rfl) i0_36 i1_36 fun w kp hs=>?_)
  refine fin (j35 _ _ (iN (T s21 (xn 3 fun _ j37=>(nq 0 [(33,I8 z9),(34,I8 (iadd .i64 z9 1))] ?_)))))
  obtain ⟨x20,hx,h⟩:=ob h
  refine tkf 2 10 (I8 x20) (yn hx) (fin (j37 _ _ ?_))
  exact tn (kl0 _ _ ⟨n,ls n,x20,(wr z10 z9 x19),h,(hs.conv rfl),eg⟩)
  refine tb 1 32 (df hc) (fj j20 s19 (cf (xexit (tx (tx (iH ?_))))))
  obtain rfl:=of_some h
  exact exq_n (nn0 _ _ ⟨(hs.conv rfl),eg⟩)
 clear hs h hy
 rintro a w ⟨hs,g17,rfl⟩
 have h:=hk0
 refine T s13 (xs fun _ s38=>(xn 2 fun _ j39=>(tkt 0 66 _ (yWe 70 hs 4 .grow) (so 1 (oWe 70 .i32 y11 hs 5 fun w kp hs=>(fj j39 s38 (xret ?_)))))))
 obtain rfl:=of_some h
 exact qq _ _ (pr (rr [.cell 6 70] [ag .i32 y11] (.cons (rcN 256 hs 5 rfl (enc_len _ _)) .nil)) ⟨cr,hs.none⟩)
theorem ref26_row.ok {K:Nat}{a0 a1:Int}{a2:List Int}{a3:Int}{r0:List (Arr 256)}{a2_A:Option Addr}{a2_n a2_c:Nat}(h:ref26_row.f K a0 a1 a2 a3=some r0) (w0:World) (hp2:RowL CB w0 a2_A a2_n a2_c a2):Calls Tryz.prog 52 #[I8 a0,I8 a1,.slice a2_A a2_n a2_c,I8 a3] w0 fun e w'=>∃ h:(Option Addr × Nat × Nat),e = .returned (.slice h.1 h.2.1 h.2.2)∧St w0 [] [.ownL CZ h.1 h.2.1 h.2.2 r0 70] [] w':=by
 refine calls_k Tryz.func52 rfl fun Q qq=>?_
 have hs:=St.startR (all_cons (RowP.ent hp2) all_nil)
 refine wc (a':=(fu 23 [I8 a0,I8 a1,.slice a2_A a2_n a2_c,I8 a3])) (xs fun _ s1=>(xn 1 fun _ j2=>(qo 0 8 (.slice none 0 0) (fj j2 s1 (xs fun _ s3=>(xn 1 fun _ j4=>?_))))))
 refine qo 0 9 (.slice none 0 0) (fj j4 s3 (xs fun _ s5=>(xs fun _ s6=>(xn 1 fun _ j7=>(qo 0 10 (I8 0) (fj j7 s6 (?_)))))))
 have hs:=hs.addNilL CZ 70
 obtain ⟨y3,hy,hk0⟩:=ob h
 refine wp_exq (N:=fun a w=>∃ y3_A y3_n y3_c,St w0 [] [.ownL CZ y3_A y3_n y3_c y3 70] [.rowL CB a2_A a2_n a2_c a2] w∧∃ g9,a=fr g9 27 [(8,[.slice none 0 0,.slice y3_A y3_n y3_c])]) (fun N0 nn0=>?_) ?_
 clear hk0
 refine xb ?_
 refine wp_loop_k (fun n a w=>∃ z1 z2,∃ z2_A z2_n z2_c,ref26_row.l0 K n a0 a1 a2 a3 z1 z2=some y3∧St w0 [] [.ownL CZ z2_A z2_n z2_c z2 70] [.rowL CB a2_A a2_n a2_c a2] w∧∃ g8,a=fr g8 27 [(0,[I8 a0,I8 a1,.slice a2_A a2_n a2_c,I8 a3]),(8,[.slice none 0 0,.slice z2_A z2_n z2_c,I8 z1])]) K ⟨0,([]:List (Arr 256)),none,0,0,hy,hs.conv rfl,eg⟩ ?_
 clear hs h hy
 rintro n a w ⟨z1,z2,z2_A,z2_n,z2_c,h,hs,g8,rfl⟩ KL0 kl0
 cases n with
 | zero=>exact nomatch (show none=some _ from h)
 | succ n=>
  refine xs fun _ s10=>(xs fun _ s11=>(xn 3 fun _ j12=>(nq 0 [(11,I8 z1),(12,I8 a0)] ?_)))
  obtain ⟨hc,h⟩|⟨hc,h⟩:=of_if h
  refine tb 2 13 (dt hc) ?_
  refine fj j12 s11 (ct (xk (T s10 (xs fun _ s13=>(xb (xn 11 fun _ j14=>(nq 0 [(16,.slice z2_A z2_n z2_c),(17,I8 a1),(18,.slice a2_A a2_n a2_c),(19,I8 a3),(20,I8 z1),(21,I8 (iadd .i64 a3 z1)),(22,U1 (iconv .u8 (iadd .i64 a3 z1)))] ?_)))))))
  obtain ⟨r4,hg,h⟩:=ob h
  refine so 7 (oC 23 hs (ref26_Noise.ok hg _ (rR 0 hs)) fun w gw hs=>?_)
  refine so 8 (oLL (C:=CZ) 24 66 70 1 (ag .i32 (zeroA 256)) #[(0,ag .i32 r4)] [r4] hs rfl rfl (by decide) (by decide) fun s5_A s5_n s5_c w gw hs=>?_)
  obtain ⟨h0,h⟩:=oc h
  refine so 9 (oAp (C:=CZ) 25 66 66 70 1024 137438953472 hs 1 rfl (rL 0 hs) h0 (by decide) (by decide) fun s6_A s6_n s6_c w hs=>?_)
  refine qo 10 9 (.slice s6_A s6_n s6_c) (fin (j14 _ _ (iN (T s13 (xn 3 fun _ j15=>(nq 0 [(14,I8 z1),(15,I8 (iadd .i64 z1 1))] ?_))))))
  obtain ⟨x7,hx,h⟩:=ob h
  refine tkf 2 10 (I8 x7) (yn hx) (fin (j15 _ _ ?_))
  exact tn (kl0 _ _ ⟨n,ls n,x7,(z2++([r4]:List (Arr 256))),s6_A,s6_n,s6_c,h,(dr [0,1] hs),eg⟩)
  refine tb 2 13 (df hc) (fj j12 s11 (cf (xexit (tx (tx (iH ?_))))))
  obtain rfl:=of_some h
  exact exq_n (nn0 _ _ ⟨z2_A,z2_n,z2_c,(hs.conv rfl),eg⟩)
 clear hs h hy
 rintro a w ⟨y3_A,y3_n,y3_c,hs,g9,rfl⟩
 have h:=hk0
 refine T s5 (xs fun _ s16=>(xn 2 fun _ j17=>(nq 0 [(26,.slice y3_A y3_n y3_c),(8,.slice y3_A y3_n y3_c)] (fj j17 s16 (xret ?_)))))
 obtain rfl:=of_some h
 exact qq _ _ (pt [8] [.slice y3_A y3_n y3_c] ⟨⟨y3_A,y3_n,y3_c⟩,cr,(pz hs)⟩)
theorem ref26_matrix_s.ok {K:Nat}{ca0 ca1 ca2 ca3 ca4:Int}{ca5:List Int}{y1:List (List (Arr 256))}{y2:Int}{ca5_A:Option Addr}{ca5_n ca5_c:Nat}(h:ref26_matrix_s.f K ca0 ca1 ca2 ca3 ca4 ca5=some (y1,y2)){w0 w:World}{X:List Nat}{Lt Rt:List Ent}(hs:St w0 X Lt (.rowL CB ca5_A ca5_n ca5_c ca5::Rt) w):Calls Tryz.prog 50 #[.agg #[I8 ca0,I8 ca1,I8 ca2,I8 ca3,I8 ca4],.slice ca5_A ca5_n ca5_c] w fun e w'=>∃ (y1_A:Option Addr) (y1_n:Nat) (y1_c:Nat) (y1_H:List HS),e = .returned (.tuple #[.slice y1_A y1_n y1_c,I8 y2])∧St w0 X (.ownL CS y1_A y1_n y1_c y1_H 66::Lt) (.inn CZ y1_H y1::.rowL CB ca5_A ca5_n ca5_c ca5::Rt) w':=by
 refine calls_k Tryz.func50 rfl fun Q qq=>?_
 refine wc (a':=(fu 43 [.agg #[I8 ca0,I8 ca1,I8 ca2,I8 ca3,I8 ca4],.slice ca5_A ca5_n ca5_c])) (xs fun _ s1=>(xn 3 fun _ j2=>(so 0 (oBa 2 23 hs [I8 ca0,I8 ca1,I8 ca2,I8 ca3,I8 ca4] fun b3 w gw hs=>(nq 1 [(4,.slice none 0 0),(5,I8 0)] ?_)))))
 refine fj j2 s1 (xs fun _ s3=>(xn 1 fun _ j4=>(qo 0 6 (.slice none 0 0) (fj j4 s3 (xs fun _ s5=>(xs fun _ s6=>(xn 1 fun _ j7=>(qo 0 7 (I8 0) (fj j7 s6 (?_))))))))))
 have hs:=(hs.addNilL CS 66).addInn0 CZ
 obtain ⟨t0,hy,hk0⟩:=ob h
 refine wp_exq (N:=fun a w=>∃ y6,∃ (y6_A:Option Addr) (y6_n:Nat) (y6_c:Nat) (y6_H:List HS),t0 = .inl y6∧St w0 X (.ownL CS y6_A y6_n y6_c y6_H 66::.blk b3 ([I8 ca0,I8 ca1,I8 ca2,I8 ca3,I8 ca4]) 23::Lt) (.inn CZ y6_H y6::.rowL CB ca5_A ca5_n ca5_c ca5::Rt) w∧∃ g9,a=fr g9 45 [(6,[.slice y6_A y6_n y6_c])]) (fun N0 nn0=>?_) ?_
 refine xb ?_
 refine wp_loop_k (fun n a w=>∃ z4 z5,∃ (z5_A:Option Addr) (z5_n:Nat) (z5_c:Nat) (z5_H:List HS),ref26_matrix_s.l0 K n ca0 ca5 z4 z5=some t0∧St w0 X (.ownL CS z5_A z5_n z5_c z5_H 66::.blk b3 ([I8 ca0,I8 ca1,I8 ca2,I8 ca3,I8 ca4]) 23::Lt) (.inn CZ z5_H z5::.rowL CB ca5_A ca5_n ca5_c ca5::Rt) w∧∃ g8,a=fr g8 45 [(1,[.slice ca5_A ca5_n ca5_c,P0 b3]),(6,[.slice z5_A z5_n z5_c,I8 z4])]) K ⟨0,([]:List (List (Arr 256))),none,0,0,[],hy,hs.conv rfl,eg⟩ ?_
 clear hs h hy
 rintro n a w ⟨z4,z5,z5_A,z5_n,z5_c,z5_H,h,hs,g8,rfl⟩ KL0 kl0
 cases n with
 | zero=>exact nomatch (show none=some _ from h)
 | succ n=>
  refine xs fun _ s10=>(xs fun _ s11=>(xn 4 fun _ j12=>(nq 0 [(12,I8 z4),(13,P0 b3)] (tkt 2 14 _ (yv hs 1 0 3 rfl (by rfl) .grow) ?_))))
  obtain ⟨hc,h⟩|⟨hc,h⟩:=of_if h
  refine tb 3 15 (dt hc) ?_
  refine fj j12 s11 (ct (xk (T s10 (xs fun _ s13=>(xb (xs fun _ s14=>(xn 1 fun _ j15=>(qo 0 8 (.slice none 0 0) (fj j15 s14 (xs fun _ s16=>(xs fun _ s17=>(xn 1 fun _ j18=>(qo 0 9 (I8 0) (fj j18 s17 (?_)))))))))))))))
  have hs:=hs.addNilL CZ 70
  obtain ⟨t1,hy,hk1⟩:=ob h
  refine wp_exq (N:=fun a w=>∃ y9,∃ y9_A y9_n y9_c,t1 = .inl y9∧St w0 X (.ownL CZ y9_A y9_n y9_c y9 70::.ownL CS z5_A z5_n z5_c z5_H 66::.blk b3 ([I8 ca0,I8 ca1,I8 ca2,I8 ca3,I8 ca4]) 23::Lt) (.inn CZ z5_H z5::.rowL CB ca5_A ca5_n ca5_c ca5::Rt) w∧∃ g20,a=fr g20 45 [(1,[.slice ca5_A ca5_n ca5_c,P0 b3]),(6,[.slice z5_A z5_n z5_c,I8 z4,.slice y9_A y9_n y9_c])]) (fun N1 nn1=>?_) ?_
  refine xb ?_
  refine wp_loop_k (fun n a w=>∃ z7 z8,∃ z8_A z8_n z8_c,ref26_matrix_s.l1 K n ca0 ca5 z4 z7 z8=some t1∧St w0 X (.ownL CZ z8_A z8_n z8_c z8 70::.ownL CS z5_A z5_n z5_c z5_H 66::.blk b3 ([I8 ca0,I8 ca1,I8 ca2,I8 ca3,I8 ca4]) 23::Lt) (.inn CZ z5_H z5::.rowL CB ca5_A ca5_n ca5_c ca5::Rt) w∧∃ g19,a=fr g19 45 [(1,[.slice ca5_A ca5_n ca5_c,P0 b3]),(6,[.slice z5_A z5_n z5_c,I8 z4,.slice z8_A z8_n z8_c,I8 z7])]) K ⟨0,([]:List (Arr 256)),none,0,0,hy,hs.conv rfl,eg⟩ ?_
  clear hs h hy
  rintro n a w ⟨z7,z8,z8_A,z8_n,z8_c,h,hs,g19,rfl⟩ KL1 kl1
  cases n with
  | zero=>exact nomatch (show none=some _ from h)
  | succ n=>
   refine xs fun _ s21=>(xs fun _ s22=>(xn 4 fun _ j23=>(nq 0 [(18,I8 z7),(19,P0 b3)] (tkt 2 20 _ (yv hs 2 0 3 rfl (by rfl) .grow) ?_))))
   obtain ⟨hc,h⟩|⟨hc,h⟩:=of_if h
   refine tb 3 21 (dt hc) ?_
   refine fj j23 s22 (ct (xk (T s21 (xs fun _ s24=>(xb (xs fun _ s25=>(xn 12 fun _ j26=>(nq 0 [(25,.slice ca5_A ca5_n ca5_c),(26,I8 z4),(27,U1 (iconv .u8 z4)),(28,I8 z7),(29,U1 (iconv .u8 z7))] ?_))))))))
   obtain ⟨⟨r10,r11⟩,hg,h⟩:=ob h
   refine so 5 (oC 30 hs (ref26_Parts.ok hg _ (rR 1 hs)) fun w gw hs=>?_)
   refine nq 6 [(24,.tuple #[ag .i32 r10,I8 r11]),(31,ag .i32 r10),(32,I8 r11)] (so 9 (oNe 10 70 .i32 (zeroA 256) hs fun b12 w gw hs=>(so 10 (oWe 70 .i32 r10 hs 0 fun w kp hs=>(qo 11 11 (I8 r11) (fj j26 s25 (xs fun _ s27=>(xs fun _ s28=>(xn 2 fun _ j29=>?_)))))))))
   refine qo 0 33 (I8 r11) ?_
   obtain ⟨hc,h⟩|⟨hc,h⟩:=of_if h
   refine tb 1 34 (nf hc) ?_
   refine fj j29 s28 (cf (xk (T s27 (xn 5 fun _ j30=>(qo 0 36 (.slice z8_A z8_n z8_c) (tkt 1 37 _ (yWe 70 hs 0 .grow) (so 2 (oLL (C:=CZ) 38 66 70 1 (ag .i32 (zeroA 256)) #[(0,ag .i32 r10)] [r10] hs rfl rfl (by decide) (by decide) fun s13_A s13_n s13_c w gw hs=>?_))))))))
   obtain ⟨h0,h⟩:=oc h
   refine so 3 (oAp (C:=CZ) 39 66 66 70 1024 137438953472 hs 2 rfl (rL 0 hs) h0 (by decide) (by decide) fun s14_A s14_n s14_c w hs=>?_)
   refine qo 4 8 (.slice s14_A s14_n s14_c) (fin (j30 _ _ (iN (T s24 (xn 3 fun _ j31=>(nq 0 [(22,I8 z7),(23,I8 (iadd .i64 z7 1))] ?_))))))
   obtain ⟨x15,hx,h⟩:=ob h
   refine tkf 2 9 (I8 x15) (yn hx) (fin (j31 _ _ ?_))
   exact tn (kl1 _ _ ⟨n,ls n,x15,(z8++([r10]:List (Arr 256))),s14_A,s14_n,s14_c,h,(dr [0,0,1,1,1] hs),eg⟩)
   refine tb 1 34 (nt hc) (fj j29 s28 (ct (xs fun _ s32=>(xn 3 fun _ j33=>(nq 0 [(35,I8 r11),(4,.slice none 0 0),(5,I8 r11)] (fj j33 s32 (xret (tr (iR (tr (tr (iR (exq_r (tr (iR (tr (tr (iR (exq_r (tr ?_))))))))))))))))))))
   obtain rfl:=of_some h
   have q0:=of_some hk1
   subst q0
   obtain ⟨q0,qr0⟩:=Prod.mk.inj (of_some hk0)
   have q1:=qr0
   subst q0
   subst q1
   have hs:=(hs.addNilL CS 66).addInn0 CZ
   exact qq _ _ (pt [4,5] [.slice none 0 0,I8 r11] ⟨none,0,0,[],rfl,((dr [1,0,0,0,0] hs).pickR (pick_cons 0 rfl (pick_cons 2 rfl (fun _ he=>.tail _ (.tail _ (.tail _ he))))))⟩)
   refine tb 3 21 (df hc) (fj j23 s22 (cf (xexit (tx (tx (iH ?_))))))
   obtain rfl:=of_some h
   exact exq_n (nn1 _ _ ⟨z8,z8_A,z8_n,z8_c,rfl,(hs.conv rfl),eg⟩)
  clear hs h hy
  rintro a w ⟨y9,y9_A,y9_n,y9_c,rfl,hs,g20,rfl⟩
  have h:=hk1
  refine T s16 (xn 5 fun _ j34=>(nq 0 [(40,.slice z5_A z5_n z5_c),(41,.slice y9_A y9_n y9_c)] (so 2 (oLt (C:=CS) 42 78 66 1 (.slice none 0 0) #[(0,.slice y9_A y9_n y9_c)] ([(y9_A,y9_n,y9_c)]:List HS) hs rfl (by decide) (by decide) fun s16_A s16_n s16_c w gw hs=>?_))))
  have hs:=hs.freeze 1 rfl
  obtain ⟨h0,h⟩:=oc h
  refine wpS.only 3 (oAp (C:=CS) 43 78 78 66 24 5864062014805 hs 1 rfl (rL 0 hs) (by rw [(hs.innR 1 rfl).length]; exact h0) (by decide) (by decide) ?_)
  intro s17_A s17_n s17_c w hs
  have hs:=hs.innApp 1 0 rfl rfl
  refine ⟨fun _=>trivial,?_⟩
  refine qo 4 6 (.slice s17_A s17_n s17_c) (fin (j34 _ _ (iN (T s13 (xn 3 fun _ j35=>(nq 0 [(16,I8 z4),(17,I8 (iadd .i64 z4 1))] ?_))))))
  obtain ⟨x18,hx,h⟩:=ob h
  refine tkf 2 7 (I8 x18) (yn hx) (fin (j35 _ _ ?_))
  exact tn (kl0 _ _ ⟨n,ls n,x18,(z5++[y9]),s17_A,s17_n,s17_c,(z5_H++[(y9_A,y9_n,y9_c)]),h,((dr [0,1,1] hs).pickR (pick_cons 1 rfl (pick_cons 2 rfl (fun _ he=>.tail _ (.tail _ (.tail _ he)))))),eg⟩)
  refine tb 3 15 (df hc) (fj j12 s11 (cf (xexit (tx (tx (iH ?_))))))
  obtain rfl:=of_some h
  exact exq_n (nn0 _ _ ⟨z5,z5_A,z5_n,z5_c,z5_H,rfl,(hs.conv rfl),eg⟩)
 clear hs h hy
 rintro a w ⟨y6,y6_A,y6_n,y6_c,y6_H,rfl,hs,g9,rfl⟩
 have h:=hk0
 refine T s5 (xs fun _ s36=>(xn 3 fun _ j37=>(nq 0 [(44,.slice y6_A y6_n y6_c),(4,.slice y6_A y6_n y6_c),(5,I8 0)] (fj j37 s36 (xret ?_)))))
 obtain ⟨rfl,rfl⟩:=os2 h
 exact qq _ _ (pt [4,5] [.slice y6_A y6_n y6_c,I8 0] ⟨y6_A,y6_n,y6_c,y6_H,rfl,(dr [1,0] hs)⟩)
end Go.Proofs.YtemdbgmldljbpaaGreatDoor
