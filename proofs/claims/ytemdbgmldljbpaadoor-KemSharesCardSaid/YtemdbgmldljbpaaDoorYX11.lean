/- own -/
import Derived.Test.YtemdbgmldljbpaaDoorMh
import Derived.Test.YtemdbgmldljbpaaDoorProg
import Derived.Test.YtemdbgmldljbpaaDoorYFKemShares
import Derived.Test.YtemdbgmldljbpaaDoorYX10
set_option linter.unusedVariables false
set_option linter.unusedSimpArgs false
set_option maxRecDepth 100000
set_option maxHeartbeats 4000000
namespace Go.Proofs.YtemdbgmldljbpaaDoor
open Go.Mx
attribute [local irreducible] wpOp
theorem ref25_Mul.ok {K:Nat}{a0 a1 r0:Arr 256}(h:ref25_Mul.f K a0 a1=some r0) (w0:World):Ret Tryd.prog 91 #[ag .i32 a0,ag .i32 a1] w0 (ag .i32 r0):=by
 refine calls_k Tryd.func91 rfl fun Q qq=>?_
 have hs:=St.start w0
 refine wc (a':=(fu 73 [ag .i32 a0,ag .i32 a1])) ?_
 refine xs fun _ s1=>?_
 refine xn 3 fun _ j2=>?_
 refine so 0 (oBe 2 32 .i32 a0 hs fun b1 w gw hs=>?_)
 refine so 1 (oBe 3 32 .i32 a1 hs fun b2 w gw hs=>?_)
 refine so 2 (oNe 4 32 .i32 (zeroA 256) hs fun b3 w gw hs=>?_)
 refine fj j2 s1 (xs fun _ s3=>(xn 3 fun _ j4=>?_))
 obtain ⟨r4,hg,h⟩:=ob h
 refine so 0 (oC 9 hs (ref25_powers.ok hg _) fun w gw hs=>?_)
 refine so 1 (oNe 5 31 .i32 (zeroA 256) hs fun b5 w gw hs=>?_)
 refine so 2 (oWe 31 .i32 r4 hs 0 fun w kp hs=>?_)
 refine fj j4 s3 (xs fun _ s5=>(xn 1 fun _ j6=>?_))
 refine so 0 (oNe 6 32 .i32 (zeroA 256) hs fun b6 w gw hs=>?_)
 refine fj j6 s5 (xs fun _ s7=>(xs fun _ s8=>(xn 1 fun _ j9=>?_)))
 refine qo 0 7 (I8 0) ?_
 refine fj j9 s8 (?_)
 obtain ⟨y9,hy,hk0⟩:=ob h
 refine wp_exq (N:=fun a w=>St w0 [] [.blk b6 (enc .i32 y9) 32,.blk b5 (enc .i32 r4) 31,.blk b3 (enc .i32 (zeroA 256)) 32,.blk b2 (enc .i32 a1) 32,.blk b1 (enc .i32 a0) 32] [] w∧∃ g11,a=fr g11 75 [(4,[P0 b3]),(6,[P0 b6])]) (fun N0 nn0=>?_) ?_
 clear hk0
 refine xb ?_
 refine wp_loop_k (fun n a w=>∃ z7 z8,ref25_Mul.l0 K n a0 a1 r4 z7 z8=some y9∧St w0 [] [.blk b6 (enc .i32 z8) 32,.blk b5 (enc .i32 r4) 31,.blk b3 (enc .i32 (zeroA 256)) 32,.blk b2 (enc .i32 a1) 32,.blk b1 (enc .i32 a0) 32] [] w∧∃ g10,a=fr g10 75 [(2,[P0 b1,P0 b2,P0 b3,P0 b5,P0 b6,I8 z7])]) K ⟨0,(zeroA 256),hy,hs.conv rfl,eg⟩ ?_
 clear hs h hy
 rintro n a w ⟨z7,z8,h,hs,g10,rfl⟩ KL0 kl0
 cases n with
 | zero=>exact nomatch (show none=some _ from h)
 | succ n=>
  refine xs fun _ s12=>?_
  refine xs fun _ s13=>?_
  refine xn 2 fun _ j14=>?_
  refine qo 0 10 (I8 z7) ?_
  obtain ⟨hc,h⟩|⟨hc,h⟩:=of_if h
  refine tb 1 11 (dt hc) ?_
  refine fj j14 s13 (ct (xk (T s12 (xs fun _ s15=>(xb (xs fun _ s16=>(xn 7 fun _ j17=>?_)))))))
  refine qo 0 14 (I8 z7) ?_
  obtain ⟨r10,hg,h⟩:=ob h
  refine so 1 (oC 15 hs (ref25_turned.ok hg _) fun w gw hs=>?_)
  refine nq 2 [(16,I8 (imul .i64 2 r10)),(17,I8 (iadd .i64 (imul .i64 2 r10) 1))] ?_
  obtain ⟨x11,hx,h⟩:=ob h
  have hx:=of_some hx
  subst hx
  obtain ⟨i0_18,i1_18,h⟩:=oc2 h
  refine tkf 4 18 (.pointer (some ⟨b5,0+((iadd .i64 (imul .i64 2 r10) 1):Int).toNat*1,none⟩)) (yi 31 21 256 1 .i64 (iadd .i64 (imul .i64 2 r10) 1) i0_18 i1_18) ?_
  refine tkt 5 19 _ (yA hs 1 21 (iadd .i64 (imul .i64 2 r10) 1) rfl i0_18 i1_18 .grow) ?_
  obtain ⟨x12,hx,h⟩:=ob h
  refine tkf 6 8 (I4 x12) (yn hx) ?_
  refine fj j17 s16 (xs fun _ s19=>?_)
  refine rg [28] (fun k=>True) 29 fun _ j20=>?_
  have hs:=hs.drawn1
  refine gq 0 20 (I8 z7) ?_
  refine gq 1 21 (I8 (imul .i64 2 z7)) ?_
  refine gq 2 22 (I8 z7) ?_
  refine gq 3 23 (I8 (imul .i64 2 z7)) ?_
  obtain ⟨x13,hx,h⟩:=ob h
  have hx:=of_some hx
  subst hx
  obtain ⟨i0_21,i1_21,h⟩:=oc2 h
  refine tgf 4 24 (P1 b1 (imul .i64 2 z7)) (yi 32 21 256 1 .i64 (imul .i64 2 z7) i0_21 i1_21) ?_
  refine tgt 5 25 _ (yA hs 4 21 (imul .i64 2 z7) rfl i0_21 i1_21 .grow) ?_
  refine gq 6 26 (I8 z7) ?_
  refine gq 7 27 (I8 (imul .i64 2 z7)) ?_
  obtain ⟨x14,hx,h⟩:=ob h
  have hx:=of_some hx
  subst hx
  obtain ⟨i0_22,i1_22,h⟩:=oc2 h
  refine tgf 8 28 (P1 b2 (imul .i64 2 z7)) (yi 32 21 256 1 .i64 (imul .i64 2 z7) i0_22 i1_22) ?_
  refine tgt 9 29 _ (yA hs 3 21 (imul .i64 2 z7) rfl i0_22 i1_22 .grow) ?_
  refine gq 10 30 (I4 (imul .i32 (rd a0 (imul .i64 2 z7)) (rd a1 (imul .i64 2 z7)))) ?_
  refine gq 11 31 (I8 z7) ?_
  refine gq 12 32 (I8 (imul .i64 2 z7)) ?_
  refine gq 13 33 (I8 (iadd .i64 (imul .i64 2 z7) 1)) ?_
  obtain ⟨x15,hx,h⟩:=ob h
  have hx:=of_some hx
  subst hx
  obtain ⟨i0_23,i1_23,h⟩:=oc2 h
  refine tgf 14 34 (.pointer (some ⟨b1,0+((iadd .i64 (imul .i64 2 z7) 1):Int).toNat*1,none⟩)) (yi 32 21 256 1 .i64 (iadd .i64 (imul .i64 2 z7) 1) i0_23 i1_23) ?_
  refine tgt 15 35 _ (yA hs 4 21 (iadd .i64 (imul .i64 2 z7) 1) rfl i0_23 i1_23 .grow) ?_
  refine gq 16 36 (I8 z7) ?_
  refine gq 17 37 (I8 (imul .i64 2 z7)) ?_
  refine gq 18 38 (I8 (iadd .i64 (imul .i64 2 z7) 1)) ?_
  obtain ⟨x16,hx,h⟩:=ob h
  have hx:=of_some hx
  subst hx
  obtain ⟨i0_24,i1_24,h⟩:=oc2 h
  refine tgf 19 39 (.pointer (some ⟨b2,0+((iadd .i64 (imul .i64 2 z7) 1):Int).toNat*1,none⟩)) (yi 32 21 256 1 .i64 (iadd .i64 (imul .i64 2 z7) 1) i0_24 i1_24) ?_
  refine tgt 20 40 _ (yA hs 3 21 (iadd .i64 (imul .i64 2 z7) 1) rfl i0_24 i1_24 .grow) ?_
  refine gq 21 41 (I4 (imul .i32 (rd a0 (iadd .i64 (imul .i64 2 z7) 1)) (rd a1 (iadd .i64 (imul .i64 2 z7) 1)))) ?_
  refine gq 22 42 (I4 (irem .i32 (imul .i32 (rd a0 (iadd .i64 (imul .i64 2 z7) 1)) (rd a1 (iadd .i64 (imul .i64 2 z7) 1))) 3329)) ?_
  refine gq 23 43 (I4 x12) ?_
  refine gq 24 44 (I4 (imul .i32 (irem .i32 (imul .i32 (rd a0 (iadd .i64 (imul .i64 2 z7) 1)) (rd a1 (iadd .i64 (imul .i64 2 z7) 1))) 3329) x12)) ?_
  refine gq 25 45 (I4 (iadd .i32 (imul .i32 (rd a0 (imul .i64 2 z7)) (rd a1 (imul .i64 2 z7))) (imul .i32 (irem .i32 (imul .i32 (rd a0 (iadd .i64 (imul .i64 2 z7) 1)) (rd a1 (iadd .i64 (imul .i64 2 z7) 1))) 3329) x12))) ?_
  refine gq 26 46 (I4 (irem .i32 (iadd .i32 (imul .i32 (rd a0 (imul .i64 2 z7)) (rd a1 (imul .i64 2 z7))) (imul .i32 (irem .i32 (imul .i32 (rd a0 (iadd .i64 (imul .i64 2 z7) 1)) (rd a1 (iadd .i64 (imul .i64 2 z7) 1))) 3329) x12)) 3329)) ?_
  obtain ⟨x17,hx,h⟩:=ob h
  have hx:=of_some hx
  subst hx
  obtain ⟨i0_25,i1_25,h⟩:=oc2 h
  refine tgf 27 47 (P1 b6 (imul .i64 2 z7)) (yi 32 21 256 1 .i64 (imul .i64 2 z7) i0_25 i1_25) ?_
  obtain ⟨x18,hx,h⟩:=ob h
  refine go 28 (oA 21 x18 (imul .i64 2 z7) hs 0 rfl (by cases hx; kernel_rfl) i0_25 i1_25 fun w kp hs=>⟨⟨fun hf=>absurd hf (by decide),.all _ _⟩,?_⟩)
  refine gf (j20 _ _ ?_)
  refine T s19 (?_)
  refine rg [26] (fun k=>True) 27 fun _ j26=>?_
  have hs:=hs.drawn1
  refine gq 0 48 (I8 z7) ?_
  refine gq 1 49 (I8 (imul .i64 2 z7)) ?_
  refine gq 2 50 (I8 (iadd .i64 (imul .i64 2 z7) 1)) ?_
  refine gq 3 51 (I8 z7) ?_
  refine gq 4 52 (I8 (imul .i64 2 z7)) ?_
  obtain ⟨x19,hx,h⟩:=ob h
  have hx:=of_some hx
  subst hx
  obtain ⟨i0_27,i1_27,h⟩:=oc2 h
  refine tgf 5 53 (P1 b1 (imul .i64 2 z7)) (yi 32 21 256 1 .i64 (imul .i64 2 z7) i0_27 i1_27) ?_
  refine tgt 6 54 _ (yA hs 4 21 (imul .i64 2 z7) rfl i0_27 i1_27 .grow) ?_
  refine gq 7 55 (I8 z7) ?_
  refine gq 8 56 (I8 (imul .i64 2 z7)) ?_
  refine gq 9 57 (I8 (iadd .i64 (imul .i64 2 z7) 1)) ?_
  obtain ⟨x20,hx,h⟩:=ob h
  have hx:=of_some hx
  subst hx
  obtain ⟨i0_28,i1_28,h⟩:=oc2 h
  refine tgf 10 58 (.pointer (some ⟨b2,0+((iadd .i64 (imul .i64 2 z7) 1):Int).toNat*1,none⟩)) (yi 32 21 256 1 .i64 (iadd .i64 (imul .i64 2 z7) 1) i0_28 i1_28) ?_
  refine tgt 11 59 _ (yA hs 3 21 (iadd .i64 (imul .i64 2 z7) 1) rfl i0_28 i1_28 .grow) ?_
  refine gq 12 60 (I4 (imul .i32 (rd a0 (imul .i64 2 z7)) (rd a1 (iadd .i64 (imul .i64 2 z7) 1)))) ?_
  refine gq 13 61 (I8 z7) ?_
  refine gq 14 62 (I8 (imul .i64 2 z7)) ?_
  refine gq 15 63 (I8 (iadd .i64 (imul .i64 2 z7) 1)) ?_
  obtain ⟨x21,hx,h⟩:=ob h
  have hx:=of_some hx
  subst hx
  obtain ⟨i0_29,i1_29,h⟩:=oc2 h
  refine tgf 16 64 (.pointer (some ⟨b1,0+((iadd .i64 (imul .i64 2 z7) 1):Int).toNat*1,none⟩)) (yi 32 21 256 1 .i64 (iadd .i64 (imul .i64 2 z7) 1) i0_29 i1_29) ?_
  refine tgt 17 65 _ (yA hs 4 21 (iadd .i64 (imul .i64 2 z7) 1) rfl i0_29 i1_29 .grow) ?_
  refine gq 18 66 (I8 z7) ?_
  refine gq 19 67 (I8 (imul .i64 2 z7)) ?_
  obtain ⟨x22,hx,h⟩:=ob h
  have hx:=of_some hx
  subst hx
  obtain ⟨i0_30,i1_30,h⟩:=oc2 h
  refine tgf 20 68 (P1 b2 (imul .i64 2 z7)) (yi 32 21 256 1 .i64 (imul .i64 2 z7) i0_30 i1_30) ?_
  refine tgt 21 69 _ (yA hs 3 21 (imul .i64 2 z7) rfl i0_30 i1_30 .grow) ?_
  refine gq 22 70 (I4 (imul .i32 (rd a0 (iadd .i64 (imul .i64 2 z7) 1)) (rd a1 (imul .i64 2 z7)))) ?_
  refine gq 23 71 (I4 (iadd .i32 (imul .i32 (rd a0 (imul .i64 2 z7)) (rd a1 (iadd .i64 (imul .i64 2 z7) 1))) (imul .i32 (rd a0 (iadd .i64 (imul .i64 2 z7) 1)) (rd a1 (imul .i64 2 z7))))) ?_
  refine gq 24 72 (I4 (irem .i32 (iadd .i32 (imul .i32 (rd a0 (imul .i64 2 z7)) (rd a1 (iadd .i64 (imul .i64 2 z7) 1))) (imul .i32 (rd a0 (iadd .i64 (imul .i64 2 z7) 1)) (rd a1 (imul .i64 2 z7)))) 3329)) ?_
  obtain ⟨x23,hx,h⟩:=ob h
  have hx:=of_some hx
  subst hx
  obtain ⟨i0_31,i1_31,h⟩:=oc2 h
  refine tgf 25 73 (.pointer (some ⟨b6,0+((iadd .i64 (imul .i64 2 z7) 1):Int).toNat*1,none⟩)) (yi 32 21 256 1 .i64 (iadd .i64 (imul .i64 2 z7) 1) i0_31 i1_31) ?_
  obtain ⟨x24,hx,h⟩:=ob h
  refine go 26 (oA 21 x24 (iadd .i64 (imul .i64 2 z7) 1) hs 0 rfl (by cases hx; kernel_rfl) i0_31 i1_31 fun w kp hs=>⟨⟨fun hf=>absurd hf (by decide),.all _ _⟩,?_⟩)
  refine gf (j26 _ _ ?_)
  refine iN (T s15 (xn 3 fun _ j32=>?_))
  refine nq 0 [(12,I8 z7),(13,I8 (iadd .i64 z7 1))] ?_
  obtain ⟨x25,hx,h⟩:=ob h
  refine tkf 2 7 (I8 x25) (yn hx) ?_
  refine fin (j32 _ _ ?_)
  exact tn (kl0 _ _ ⟨n,ls n,x25,(wr (wr z8 (imul .i64 2 z7) x18) (iadd .i64 (imul .i64 2 z7) 1) x24),h,(hs.conv rfl),eg⟩)
  refine tb 1 11 (df hc) ?_
  refine fj j14 s13 (cf (xexit (tx (tx (iH ?_)))))
  obtain rfl:=of_some h
  exact exq_n (nn0 _ _ ⟨(hs.conv rfl),eg⟩)
 clear hs h hy
 rintro a w ⟨hs,g11,rfl⟩
 have h:=hk0
 refine T s7 (xs fun _ s33=>(xn 2 fun _ j34=>?_))
 refine tkt 0 74 _ (yWe 32 hs 0 .grow) ?_
 refine so 1 (oWe 32 .i32 y9 hs 2 fun w kp hs=>?_)
 refine fj j34 s33 (xret ?_)
 obtain rfl:=of_some h
 exact qq _ _ (pr (rr [.cell 4 32] [ag .i32 y9] (.cons (rcN 256 hs 2 rfl (enc_len _ _)) .nil)) ⟨cr,hs.none⟩)
theorem ref26_dot.ok {K:Nat}{a0 a1:List (Arr 256)}{r0:Arr 256}{a0_A:Option Addr}{a0_n a0_c:Nat}{a1_A:Option Addr}{a1_n a1_c:Nat}(h:ref26_dot.f K a0 a1=some r0) (w0:World) (hp0:RowL CZ w0 a0_A a0_n a0_c a0) (hp1:RowL CZ w0 a1_A a1_n a1_c a1):Ret Tryd.prog 54 #[.slice a0_A a0_n a0_c,.slice a1_A a1_n a1_c] w0 (ag .i32 r0):=by
 refine calls_k Tryd.func54 rfl fun Q qq=>?_
 have hs:=St.startR (all_cons (RowP.ent hp0) (all_cons (RowP.ent hp1) all_nil))
 refine wc (a':=(fu 23 [.slice a0_A a0_n a0_c,.slice a1_A a1_n a1_c])) ?_
 refine xs fun _ s1=>?_
 refine xn 1 fun _ j2=>?_
 refine so 0 (oNe 4 32 .i32 (zeroA 256) hs fun b1 w gw hs=>?_)
 refine fj j2 s1 (xs fun _ s3=>(xn 1 fun _ j4=>?_))
 refine so 0 (oNe 5 32 .i32 (zeroA 256) hs fun b2 w gw hs=>?_)
 refine fj j4 s3 (xs fun _ s5=>(xs fun _ s6=>(xn 1 fun _ j7=>?_)))
 refine qo 0 6 (I8 0) ?_
 refine fj j7 s6 (?_)
 obtain ⟨y5,hy,hk0⟩:=ob h
 refine wp_exq (N:=fun a w=>St w0 [] [.blk b2 (enc .i32 y5) 32,.blk b1 (enc .i32 (zeroA 256)) 32] [.rowL CZ a0_A a0_n a0_c a0,.rowL CZ a1_A a1_n a1_c a1] w∧∃ g9,a=fr g9 25 [(4,[P0 b1,P0 b2])]) (fun N0 nn0=>?_) ?_
 clear hk0
 refine xb ?_
 refine wp_loop_k (fun n a w=>∃ z3 z4,ref26_dot.l0 K n a0 a1 z3 z4=some y5∧St w0 [] [.blk b2 (enc .i32 z4) 32,.blk b1 (enc .i32 (zeroA 256)) 32] [.rowL CZ a0_A a0_n a0_c a0,.rowL CZ a1_A a1_n a1_c a1] w∧∃ g8,a=fr g8 25 [(0,[.slice a0_A a0_n a0_c,.slice a1_A a1_n a1_c]),(4,[P0 b1,P0 b2,I8 z3])]) K ⟨0,(zeroA 256),hy,hs.conv rfl,eg⟩ ?_
 clear hs h hy
 rintro n a w ⟨z3,z4,h,hs,g8,rfl⟩ KL0 kl0
 cases n with
 | zero=>exact nomatch (show none=some _ from h)
 | succ n=>
  refine xs fun _ s10=>?_
  refine xs fun _ s11=>?_
  refine xn 4 fun _ j12=>?_
  refine nq 0 [(7,I8 z3),(8,.slice a0_A a0_n a0_c)] ?_
  refine tkf 2 9 (I8 (a0.length:Int)) (yl (rR 0 hs)) ?_
  obtain ⟨hc,h⟩|⟨hc,h⟩:=of_if h
  refine tb 3 10 (dt hc) ?_
  refine fj j12 s11 (ct (xk (T s10 (xs fun _ s13=>(xb ?_)))))
  refine rg [11] (fun k=>True) 12 fun _ j14=>?_
  have hs:=hs.drawn1
  refine tgt 0 13 _ (yWe 32 hs 0 .grow) ?_
  refine gq 1 14 (.slice a0_A a0_n a0_c) ?_
  refine gq 2 15 (I8 z3) ?_
  obtain ⟨h0,h1,h⟩:=oc2 h
  have i0_15:=h0
  have i1_15:=h1
  refine tgf 3 16 (PA CZ a0_A z3) (yiL (C:=CZ) 77 32 .i64 z3 (rR 0 hs) h0 h1) ?_
  refine tgt 4 17 _ (yLA (C:=CZ) 32 z3 (rR 0 hs) rfl i0_15 i1_15) ?_
  refine gq 5 18 (.slice a1_A a1_n a1_c) ?_
  refine gq 6 19 (I8 z3) ?_
  obtain ⟨h0,h1,h⟩:=oc2 h
  have i0_16:=h0
  have i1_16:=h1
  refine tgf 7 20 (PA CZ a1_A z3) (yiL (C:=CZ) 77 32 .i64 z3 (rR 1 hs) h0 h1) ?_
  refine tgt 8 21 _ (yLA (C:=CZ) 32 z3 (rR 1 hs) rfl i0_16 i1_16) ?_
  obtain ⟨r6,hg,h⟩:=ob h
  refine go 9 (oC 22 hs (ref25_Mul.ok hg _) fun w gw hs=>⟨.of gw,?_⟩)
  obtain ⟨r7,hg,h⟩:=ob h
  refine go 10 (oC 23 hs (ref25_Add.ok hg _) fun w gw hs=>⟨.of gw,?_⟩)
  refine go 11 (oWe 32 .i32 r7 hs 0 fun w kp hs=>⟨⟨fun hf=>absurd hf (by decide),.all _ _⟩,?_⟩)
  refine gf (j14 _ _ ?_)
  refine iN (T s13 (xn 3 fun _ j17=>?_))
  refine nq 0 [(11,I8 z3),(12,I8 (iadd .i64 z3 1))] ?_
  obtain ⟨x8,hx,h⟩:=ob h
  refine tkf 2 6 (I8 x8) (yn hx) ?_
  refine fin (j17 _ _ ?_)
  exact tn (kl0 _ _ ⟨n,ls n,x8,r7,h,(hs.conv rfl),eg⟩)
  refine tb 3 10 (df hc) ?_
  refine fj j12 s11 (cf (xexit (tx (tx (iH ?_)))))
  obtain rfl:=of_some h
  exact exq_n (nn0 _ _ ⟨(hs.conv rfl),eg⟩)
 clear hs h hy
 rintro a w ⟨hs,g9,rfl⟩
 have h:=hk0
 refine T s5 (xs fun _ s18=>(xn 2 fun _ j19=>?_))
 refine tkt 0 24 _ (yWe 32 hs 0 .grow) ?_
 refine so 1 (oWe 32 .i32 y5 hs 1 fun w kp hs=>?_)
 refine fj j19 s18 (xret ?_)
 obtain rfl:=of_some h
 exact qq _ _ (pr (rr [.cell 4 32] [ag .i32 y5] (.cons (rcN 256 hs 1 rfl (enc_len _ _)) .nil)) ⟨cr,hs.none⟩)
theorem ref01_such.ok {K:Nat}{a0:List Int}{a1 a2:Int}{r0:Bool}{a0_A:Option Addr}{a0_n a0_c:Nat}(h:ref01_such.f K a0 a1 a2=some r0) (w0:World) (hp0:RowL CB w0 a0_A a0_n a0_c a0):Ret Tryd.prog 105 #[.slice a0_A a0_n a0_c,I8 a1,I8 a2] w0 (.bool r0):=by
 refine calls_k Tryd.func105 rfl fun Q qq=>?_
 have hs:=St.startR (all_cons (RowP.ent hp0) all_nil)
 refine wc (a':=(fu 23 [.slice a0_A a0_n a0_c,I8 a1,I8 a2])) ?_
 refine xs fun _ s1=>?_
 refine xn 1 fun _ j2=>?_
 refine qo 0 6 (.bool false) ?_
 refine fj j2 s1 (xs fun _ s3=>(xn 20 fun _ j4=>?_))
 refine qo 0 7 (I8 a1) ?_
 obtain ⟨hc,h⟩|⟨hc,h⟩:=of_if h
 refine tb 1 8 (dt hc) ?_
 refine nq 2 [(9,.bool true),(10,I8 a1)] ?_
 obtain ⟨hc,h⟩|⟨hc,h⟩:=of_if h
 refine tb 4 11 (dt hc) ?_
 refine nq 5 [(12,.bool true),(13,.bool true),(14,I8 a2)] ?_
 obtain ⟨hc,h⟩|⟨hc,h⟩:=of_if h
 refine tb 8 15 (dt hc) ?_
 refine nq 9 [(16,.bool true),(17,.bool true),(18,I8 a2),(19,.slice a0_A a0_n a0_c)] ?_
 refine tkf 13 20 (I8 (a0.length:Int)) (yl (rR 0 hs)) ?_
 refine nq 14 [(21,I8 (imul .i64 (a0.length:Int) 8)),(22,I8 a1)] ?_
 obtain ⟨h0,h⟩:=oc h
 refine tkf 16 23 (I8 (iquo .i64 (imul .i64 (a0.length:Int) 8) a1)) (yq 3 h0) ?_
 refine nq 17 [(24,.bool (decide (a2≤(iquo .i64 (imul .i64 (a0.length:Int) 8) a1)))),(25,.bool (decide (a2≤(iquo .i64 (imul .i64 (a0.length:Int) 8) a1)))),(6,.bool (decide (a2≤(iquo .i64 (imul .i64 (a0.length:Int) 8) a1))))] ?_
 refine fj j4 s3 (xret ?_)
 obtain rfl:=of_some h
 exact qq _ _ (pt [6] [.bool (decide (a2≤(iquo .i64 (imul .i64 (a0.length:Int) 8) a1)))] ⟨cr,hs.none⟩)
 refine tb 8 15 (df hc) ?_
 refine nq 9 [(16,.bool false),(17,.bool false),(18,undef),(19,undef),(20,undef),(21,undef),(22,undef),(23,undef),(24,undef),(25,.bool false),(6,.bool false)] ?_
 refine fj j4 s3 (xret ?_)
 obtain rfl:=of_some h
 exact qq _ _ (pt [6] [.bool false] ⟨cr,hs.none⟩)
 refine tb 4 11 (df hc) ?_
 refine nq 5 [(12,.bool false),(13,.bool false),(14,undef),(15,undef),(16,.bool false),(17,.bool false),(18,undef),(19,undef),(20,undef),(21,undef),(22,undef),(23,undef),(24,undef),(25,.bool false),(6,.bool false)] ?_
 refine fj j4 s3 (xret ?_)
 obtain rfl:=of_some h
 exact qq _ _ (pt [6] [.bool false] ⟨cr,hs.none⟩)
 refine tb 1 8 (df hc) ?_
 refine nq 2 [(9,.bool false),(10,undef),(11,undef),(12,.bool false),(13,.bool false),(14,undef),(15,undef),(16,.bool false),(17,.bool false),(18,undef),(19,undef),(20,undef),(21,undef),(22,undef),(23,undef),(24,undef),(25,.bool false),(6,.bool false)] ?_
 refine fj j4 s3 (xret ?_)
 obtain rfl:=of_some h
 exact qq _ _ (pt [6] [.bool false] ⟨cr,hs.none⟩)
theorem ref01_Unpack.ok {K:Nat}{a0:List Int}{a1 a2:Int}{r0:List Int}{a0_A:Option Addr}{a0_n a0_c:Nat}(h:ref01_Unpack.f K a0 a1 a2=some r0) (w0:World) (hp0:RowL CB w0 a0_A a0_n a0_c a0):Calls Tryd.prog 82 #[.slice a0_A a0_n a0_c,I8 a1,I8 a2] w0 fun e w'=>∃ h:(Option Addr × Nat × Nat),e = .returned (.slice h.1 h.2.1 h.2.2)∧St w0 [] [.ownL (CI .u32) h.1 h.2.1 h.2.2 r0 70] [] w':=by
 refine calls_k Tryd.func82 rfl fun Q qq=>?_
 have hs:=St.startR (all_cons (RowP.ent hp0) all_nil)
 refine wc (a':=(fu 48 [.slice a0_A a0_n a0_c,I8 a1,I8 a2])) ?_
 refine xs fun _ s1=>?_
 refine xn 1 fun _ j2=>?_
 refine qo 0 6 (.slice none 0 0) ?_
 refine fj j2 s1 (xs fun _ s3=>(xs fun _ s4=>(xn 5 fun _ j5=>?_)))
 refine nq 0 [(12,.slice a0_A a0_n a0_c),(13,I8 a1),(14,I8 a2)] ?_
 obtain ⟨r1,hg,h⟩:=ob h
 cases r1 with
 | true=>
  have h:=of_if_t h
  refine so 3 (oC 15 hs (ref01_such.ok hg _ (rR 0 hs)) fun w gw hs=>?_)
  refine qo 4 16 (.bool false) ?_
  refine fj j5 s4 (cf (xk (T s3 (xs fun _ s6=>(xn 1 fun _ j7=>?_)))))
  refine qo 0 7 (.slice none 0 0) ?_
  refine fj j7 s6 (xs fun _ s8=>(xs fun _ s9=>(xn 1 fun _ j10=>?_)))
  refine qo 0 8 (I8 0) ?_
  refine fj j10 s9 (?_)
  have hs:=hs.addNilL (CI .u32) 70
  obtain ⟨y4,hy,hk0⟩:=ob h
  refine wp_exq (N:=fun a w=>∃ y4_A y4_n y4_c,St w0 [] [.ownL (CI .u32) y4_A y4_n y4_c y4 70] [.rowL CB a0_A a0_n a0_c a0] w∧∃ g12,a=fr g12 51 [(6,[.slice none 0 0,.slice y4_A y4_n y4_c])]) (fun N0 nn0=>?_) ?_
  clear hk0
  refine xb ?_
  refine wp_loop_k (fun n a w=>∃ z2 z3,∃ z3_A z3_n z3_c,ref01_Unpack.l0 K n a0 a1 a2 z2 z3=some y4∧St w0 [] [.ownL (CI .u32) z3_A z3_n z3_c z3 70] [.rowL CB a0_A a0_n a0_c a0] w∧∃ g11,a=fr g11 51 [(0,[.slice a0_A a0_n a0_c,I8 a1,I8 a2]),(6,[.slice none 0 0,.slice z3_A z3_n z3_c,I8 z2])]) K ⟨0,([]:List Int),none,0,0,hy,hs.conv rfl,eg⟩ ?_
  clear hs h hy
  rintro n a w ⟨z2,z3,z3_A,z3_n,z3_c,h,hs,g11,rfl⟩ KL0 kl0
  cases n with
  | zero=>exact nomatch (show none=some _ from h)
  | succ n=>
   refine xs fun _ s13=>?_
   refine xs fun _ s14=>?_
   refine xn 3 fun _ j15=>?_
   refine nq 0 [(17,I8 z2),(18,I8 a2)] ?_
   obtain ⟨hc,h⟩|⟨hc,h⟩:=of_if h
   refine tb 2 19 (dt hc) ?_
   refine fj j15 s14 (ct (xk (T s13 (xs fun _ s16=>(xb (xs fun _ s17=>(xn 1 fun _ j18=>?_)))))))
   refine qo 0 9 (U4 0) ?_
   refine fj j18 s17 (xs fun _ s19=>(xs fun _ s20=>(xn 3 fun _ j21=>?_)))
   refine nq 0 [(22,I8 a1),(23,I8 (isub .i64 a1 1))] ?_
   obtain ⟨x5,hx,h⟩:=ob h
   refine tkf 2 10 (I8 x5) (yn hx) ?_
   refine fj j21 s20 (?_)
   obtain ⟨y8,hy,hk1⟩:=ob h
   refine wp_exq (N:=fun a w=>St w0 [] [.ownL (CI .u32) z3_A z3_n z3_c z3 70] [.rowL CB a0_A a0_n a0_c a0] w∧∃ g23,a=fr g23 51 [(0,[.slice a0_A a0_n a0_c,I8 a1,I8 a2]),(6,[.slice none 0 0,.slice z3_A z3_n z3_c,I8 z2,U4 y8])]) (fun N1 nn1=>?_) ?_
   clear hk1
   refine xb ?_
   refine wp_loop_k (fun n a w=>∃ z6 z7,ref01_Unpack.l1 K n a0 a1 z2 z6 z7=some y8∧St w0 [] [.ownL (CI .u32) z3_A z3_n z3_c z3 70] [.rowL CB a0_A a0_n a0_c a0] w∧∃ g22,a=fr g22 51 [(0,[.slice a0_A a0_n a0_c,I8 a1,I8 a2]),(6,[.slice none 0 0,.slice z3_A z3_n z3_c,I8 z2,U4 z6,I8 z7])]) K ⟨0,x5,hy,hs.conv rfl,eg⟩ ?_
   clear hs h hy
   rintro n a w ⟨z6,z7,h,hs,g22,rfl⟩ KL1 kl1
   cases n with
   | zero=>exact nomatch (show none=some _ from h)
   | succ n=>
    refine xs fun _ s24=>?_
    refine xs fun _ s25=>?_
    refine xn 2 fun _ j26=>?_
    refine qo 0 24 (I8 z7) ?_
    obtain ⟨hc,h⟩|⟨hc,h⟩:=of_if h
    refine tb 1 25 (dt hc) ?_
    refine fj j26 s25 (ct (xk (T s24 (xs fun _ s27=>(xb (xs fun _ s28=>(xn 6 fun _ j29=>?_)))))))
    refine nq 0 [(28,I8 z2),(29,I8 a1),(30,I8 (imul .i64 z2 a1)),(31,I8 z7),(32,I8 (iadd .i64 (imul .i64 z2 a1) z7))] ?_
    obtain ⟨x9,hx,h⟩:=ob h
    refine tkf 5 11 (I8 x9) (yn hx) ?_
    refine fj j29 s28 (xn 14 fun _ j30=>?_)
    refine nq 0 [(33,U4 z6),(34,U4 (imul .u32 z6 2)),(35,.slice a0_A a0_n a0_c),(36,I8 x9),(37,I8 (iquo .i64 x9 8))] ?_
    obtain ⟨x10,hx,h⟩:=ob h
    have hx:=of_some hx
    subst hx
    obtain ⟨h0,h1,h⟩:=oc2 h
    have i0_31:=h0
    have i1_31:=h1
    refine tkf 5 38 (PA CB a0_A (iquo .i64 x9 8)) (yiL (C:=CB) 24 5 .i64 (iquo .i64 x9 8) (rR 0 hs) h0 h1) ?_
    refine tkt 6 39 _ (yL (C:=CB) 5 (iquo .i64 x9 8) (rR 0 hs) rfl i0_31 i1_31) ?_
    refine nq 7 [(40,I8 x9),(41,I8 (irem .i64 x9 8))] ?_
    obtain ⟨h0,h⟩:=oc h
    refine tkf 9 42 (U1 (ishr .u8 (rdL CB a0 (iquo .i64 x9 8)) (irem .i64 x9 8))) (ysr 5 .i64 h0) ?_
    refine nq 10 [(43,U1 (iand .u8 (ishr .u8 (rdL CB a0 (iquo .i64 x9 8)) (irem .i64 x9 8)) 1)),(44,U4 (iconv .u32 (iand .u8 (ishr .u8 (rdL CB a0 (iquo .i64 x9 8)) (irem .i64 x9 8)) 1))),(45,U4 (iadd .u32 (imul .u32 z6 2) (iconv .u32 (iand .u8 (ishr .u8 (rdL CB a0 (iquo .i64 x9 8)) (irem .i64 x9 8)) 1))))] ?_
    obtain ⟨x11,hx,h⟩:=ob h
    refine tkf 13 9 (U4 x11) (yn hx) ?_
    refine fin (j30 _ _ (iN (T s27 (xn 3 fun _ j32=>?_))))
    refine nq 0 [(26,I8 z7),(27,I8 (isub .i64 z7 1))] ?_
    obtain ⟨x12,hx,h⟩:=ob h
    refine tkf 2 10 (I8 x12) (yn hx) ?_
    refine fin (j32 _ _ ?_)
    exact tn (kl1 _ _ ⟨n,ls n,x11,x12,h,(hs.conv rfl),eg⟩)
    refine tb 1 25 (df hc) ?_
    refine fj j26 s25 (cf (xexit (tx (tx (iH ?_)))))
    obtain rfl:=of_some h
    exact exq_n (nn1 _ _ ⟨(hs.conv rfl),eg⟩)
   clear hs h hy
   rintro a w ⟨hs,g23,rfl⟩
   have h:=hk1
   refine T s19 (xn 5 fun _ j33=>?_)
   refine nq 0 [(46,.slice z3_A z3_n z3_c),(47,U4 y8)] ?_
   refine so 2 (oLt (C:=(CI .u32)) 48 68 70 1 (U4 0) #[(0,U4 y8)] [y8] hs rfl (by decide) (by decide) fun s13_A s13_n s13_c w gw hs=>?_)
   obtain ⟨h0,h⟩:=oc h
   refine so 3 (oAp (C:=(CI .u32)) 49 68 68 70 4 35184372088832 hs 1 rfl (rL 0 hs) h0 (by decide) (by decide) fun s14_A s14_n s14_c w hs=>?_)
   refine qo 4 7 (.slice s14_A s14_n s14_c) ?_
   refine fin (j33 _ _ (iN (T s16 (xn 3 fun _ j34=>?_))))
   refine nq 0 [(20,I8 z2),(21,I8 (iadd .i64 z2 1))] ?_
   obtain ⟨x15,hx,h⟩:=ob h
   refine tkf 2 8 (I8 x15) (yn hx) ?_
   refine fin (j34 _ _ ?_)
   exact tn (kl0 _ _ ⟨n,ls n,x15,(z3++([y8]:List Int)),s14_A,s14_n,s14_c,h,(dr [0,1] hs),eg⟩)
   refine tb 2 19 (df hc) ?_
   refine fj j15 s14 (cf (xexit (tx (tx (iH ?_)))))
   obtain rfl:=of_some h
   exact exq_n (nn0 _ _ ⟨z3_A,z3_n,z3_c,(hs.conv rfl),eg⟩)
  clear hs h hy
  rintro a w ⟨y4_A,y4_n,y4_c,hs,g12,rfl⟩
  have h:=hk0
  refine T s8 (xs fun _ s35=>(xn 2 fun _ j36=>?_))
  refine nq 0 [(50,.slice y4_A y4_n y4_c),(6,.slice y4_A y4_n y4_c)] ?_
  refine fj j36 s35 (xret ?_)
  obtain rfl:=of_some h
  exact qq _ _ (pt [6] [.slice y4_A y4_n y4_c] ⟨⟨y4_A,y4_n,y4_c⟩,cr,(pz hs)⟩)
 | false=>
  have h:=of_if_f h
  refine so 3 (oC 15 hs (ref01_such.ok hg _ (rR 0 hs)) fun w gw hs=>?_)
  refine qo 4 16 (.bool true) ?_
  refine fj j5 s4 (ct (xs fun _ s37=>(xn 1 fun _ j38=>?_)))
  refine qo 0 6 (.slice none 0 0) ?_
  refine fj j38 s37 (xret (tr ?_))
  obtain rfl:=of_some h
  have hs:=hs.addNilL (CI .u32) 70
  exact qq _ _ (pt [6] [.slice none 0 0] ⟨⟨none,0,0⟩,cr,(pz hs)⟩)
theorem ref25_Unpack.ok {K:Nat}{a0:List Int}{a1:Int}{r0:Arr 256}{r1:Bool}{a0_A:Option Addr}{a0_n a0_c:Nat}(h:ref25_Unpack.f K a0 a1=some (r0,r1)) (w0:World) (hp0:RowL CB w0 a0_A a0_n a0_c a0):Ret Tryd.prog 68 #[.slice a0_A a0_n a0_c,I8 a1] w0 (.tuple #[ag .i32 r0,.bool r1]):=by
 refine calls_k Tryd.func68 rfl fun Q qq=>?_
 have hs:=St.startR (all_cons (RowP.ent hp0) all_nil)
 refine wc (a':=(fu 42 [.slice a0_A a0_n a0_c,I8 a1])) ?_
 refine xs fun _ s1=>?_
 refine xn 2 fun _ j2=>?_
 refine so 0 (oNe 4 32 .i32 (zeroA 256) hs fun b1 w gw hs=>?_)
 refine qo 1 5 (.bool false) ?_
 refine fj j2 s1 (xs fun _ s3=>(xs fun _ s4=>(xn 13 fun _ j5=>?_)))
 refine qo 0 9 (I8 a1) ?_
 obtain ⟨hc,h⟩|⟨hc,h⟩:=of_if h
 refine tb 1 10 (dt hc) ?_
 refine nq 2 [(11,.bool true),(12,undef),(13,undef),(14,.bool true),(15,.bool true),(16,undef),(17,undef),(18,undef),(19,undef),(20,undef),(21,.bool true)] ?_
 refine fj j5 s4 (ct (xs fun _ s6=>(xn 3 fun _ j7=>?_)))
 refine qo 0 22 (ag .i32 (zeroA 256)) ?_
 refine so 1 (oWe 32 .i32 (zeroA 256) hs 0 fun w kp hs=>?_)
 refine qo 2 5 (.bool false) ?_
 refine fj j7 s6 (xret (tr ?_))
 obtain ⟨rfl,rfl⟩:=os2 h
 exact qq _ _ (pr (rr [.cell 4 32,.tmp 5] [ag .i32 (zeroA 256),.bool false] (.cons (rcN 256 hs 0 rfl (enc_len _ _)) (.cons rt .nil))) ⟨cr,hs.none⟩)
 refine tb 1 10 (df hc) ?_
 refine nq 2 [(11,.bool false),(12,I8 a1)] ?_
 obtain ⟨hc,h⟩|⟨hc,h⟩:=of_if h
 refine tb 4 13 (dt hc) ?_
 refine nq 5 [(14,.bool true),(15,.bool true),(16,undef),(17,undef),(18,undef),(19,undef),(20,undef),(21,.bool true)] ?_
 refine fj j5 s4 (ct (xs fun _ s8=>(xn 3 fun _ j9=>?_)))
 refine qo 0 22 (ag .i32 (zeroA 256)) ?_
 refine so 1 (oWe 32 .i32 (zeroA 256) hs 0 fun w kp hs=>?_)
 refine qo 2 5 (.bool false) ?_
 refine fj j9 s8 (xret (tr ?_))
 obtain ⟨rfl,rfl⟩:=os2 h
 exact qq _ _ (pr (rr [.cell 4 32,.tmp 5] [ag .i32 (zeroA 256),.bool false] (.cons (rcN 256 hs 0 rfl (enc_len _ _)) (.cons rt .nil))) ⟨cr,hs.none⟩)
 refine tb 4 13 (df hc) ?_
 refine nq 5 [(14,.bool false),(15,.bool false),(16,.slice a0_A a0_n a0_c)] ?_
 refine tkf 8 17 (I8 (a0.length:Int)) (yl (rR 0 hs)) ?_
 refine nq 9 [(18,I8 a1),(19,I8 (imul .i64 32 a1))] ?_
 obtain ⟨hc,h⟩|⟨hc,h⟩:=of_if h
 refine tb 11 20 (nf hc) ?_
 refine qo 12 21 (.bool false) ?_
 refine fj j5 s4 (cf (xk (T s3 (xs fun _ s10=>(xn 4 fun _ j11=>?_)))))
 refine nq 0 [(23,.slice a0_A a0_n a0_c),(24,I8 a1)] ?_
 obtain ⟨r2,hg,h⟩:=ob h
 refine wpS.only 2 (oH 25 hs (ref01_Unpack.ok hg _ (rR 0 hs)) ?_)
 rintro ⟨r2_A,r2_n,r2_c⟩ w gw hs
 have hs:=hs.conv (L':=[.ownL (CI .u32) r2_A r2_n r2_c r2 70,.blk b1 (enc .i32 (zeroA 256)) 32]) rfl
 refine ⟨fun _=>trivial,?_⟩
 refine qo 3 6 (.slice r2_A r2_n r2_c) ?_
 refine fj j11 s10 (xs fun _ s12=>(xn 1 fun _ j13=>?_))
 refine so 0 (oNe 7 32 .i32 (zeroA 256) hs fun b3 w gw hs=>?_)
 refine fj j13 s12 (xs fun _ s14=>(xs fun _ s15=>(xn 1 fun _ j16=>?_)))
 refine qo 0 8 (I8 0) ?_
 refine fj j16 s15 (?_)
 obtain ⟨y6,hy,hk0⟩:=ob h
 refine wp_exq (N:=fun a w=>St w0 [] [.blk b3 (enc .i32 y6) 32,.ownL (CI .u32) r2_A r2_n r2_c r2 70,.blk b1 (enc .i32 (zeroA 256)) 32] [.rowL CB a0_A a0_n a0_c a0] w∧∃ g18,a=fr g18 44 [(1,[I8 a1]),(4,[P0 b1,.bool false]),(7,[P0 b3])]) (fun N0 nn0=>?_) ?_
 clear hk0
 refine xb ?_
 refine wp_loop_k (fun n a w=>∃ z4 z5,ref25_Unpack.l0 K n r2 z4 z5=some y6∧St w0 [] [.blk b3 (enc .i32 z5) 32,.ownL (CI .u32) r2_A r2_n r2_c r2 70,.blk b1 (enc .i32 (zeroA 256)) 32] [.rowL CB a0_A a0_n a0_c a0] w∧∃ g17,a=fr g17 44 [(1,[I8 a1]),(4,[P0 b1,.bool false,.slice r2_A r2_n r2_c,P0 b3,I8 z4])]) K ⟨0,(zeroA 256),hy,hs.conv rfl,eg⟩ ?_
 clear hs h hy
 rintro n a w ⟨z4,z5,h,hs,g17,rfl⟩ KL0 kl0
 cases n with
 | zero=>exact nomatch (show none=some _ from h)
 | succ n=>
  refine xs fun _ s19=>?_
  refine xs fun _ s20=>?_
  refine xn 2 fun _ j21=>?_
  refine qo 0 26 (I8 z4) ?_
  obtain ⟨hc,h⟩|⟨hc,h⟩:=of_if h
  refine tb 1 27 (dt hc) ?_
  refine fj j21 s20 (ct (xk (T s19 (xs fun _ s22=>(xb (xn 8 fun _ j23=>?_))))))
  refine nq 0 [(30,I8 z4),(31,.slice r2_A r2_n r2_c),(32,I8 z4)] ?_
  obtain ⟨h0,h1,h⟩:=oc2 h
  have i0_24:=h0
  have i1_24:=h1
  refine tkf 3 33 (PA (CI .u32) r2_A z4) (yiL (C:=(CI .u32)) 68 70 .i64 z4 (rL 1 hs) h0 h1) ?_
  refine tkt 4 34 _ (yL (C:=(CI .u32)) 70 z4 (rL 1 hs) rfl i0_24 i1_24) ?_
  refine qo 5 35 (I4 (iconv .i32 (rdL (CI .u32) r2 z4))) ?_
  obtain ⟨i0_25,i1_25,h⟩:=oc2 h
  refine tkf 6 36 (P1 b3 z4) (yi 32 21 256 1 .i64 z4 i0_25 i1_25) ?_
  obtain ⟨x7,hx,h⟩:=ob h
  refine so 7 (oA 21 x7 z4 hs 0 rfl (by cases hx; kernel_rfl) i0_25 i1_25 fun w kp hs=>?_)
  refine fin (j23 _ _ (iN (T s22 (xn 3 fun _ j26=>?_))))
  refine nq 0 [(28,I8 z4),(29,I8 (iadd .i64 z4 1))] ?_
  obtain ⟨x8,hx,h⟩:=ob h
  refine tkf 2 8 (I8 x8) (yn hx) ?_
  refine fin (j26 _ _ ?_)
  exact tn (kl0 _ _ ⟨n,ls n,x8,(wr z5 z4 x7),h,(hs.conv rfl),eg⟩)
  refine tb 1 27 (df hc) ?_
  refine fj j21 s20 (cf (xexit (tx (tx (iH ?_)))))
  obtain rfl:=of_some h
  exact exq_n (nn0 _ _ ⟨(hs.conv rfl),eg⟩)
 clear hs h hy
 rintro a w ⟨hs,g18,rfl⟩
 have h:=hk0
 refine T s14 (xs fun _ s27=>(xs fun _ s28=>?_))
 refine rg [] (fun k=>True) 5 fun _ j29=>?_
 have hs:=hs.drawn1
 refine tgt 0 37 _ (yWe 32 hs 0 .grow) ?_
 refine gq 1 38 (I8 a1) ?_
 obtain ⟨r9,hg,h⟩:=ob h
 refine go 2 (oC 39 hs (ref25_bound.ok hg _) fun w gw hs=>⟨.of gw,?_⟩)
 obtain ⟨r10,hg,h⟩:=ob h
 cases r10 with
 | true=>
  have h:=of_if_t h
  refine go 3 (oC 40 hs (ref25_Below.ok hg _) fun w gw hs=>⟨.of gw,?_⟩)
  refine gq 4 41 (.bool false) ?_
  refine gf (j29 _ _ ?_)
  refine T s28 (cf (xk (T s27 (xs fun _ s30=>(xn 3 fun _ j31=>?_)))))
  refine tkt 0 43 _ (yWe 32 hs 0 .grow) ?_
  refine so 1 (oWe 32 .i32 y6 hs 2 fun w kp hs=>?_)
  refine qo 2 5 (.bool true) ?_
  refine fj j31 s30 (xret ?_)
  obtain ⟨rfl,rfl⟩:=os2 h
  exact qq _ _ (pr (rr [.cell 4 32,.tmp 5] [ag .i32 y6,.bool true] (.cons (rcN 256 hs 2 rfl (enc_len _ _)) (.cons rt .nil))) ⟨cr,hs.none⟩)
 | false=>
  have h:=of_if_f h
  refine go 3 (oC 40 hs (ref25_Below.ok hg _) fun w gw hs=>⟨.of gw,?_⟩)
  refine gq 4 41 (.bool true) ?_
  refine gf (j29 _ _ ?_)
  refine T s28 (ct (xs fun _ s32=>(xn 3 fun _ j33=>?_)))
  refine qo 0 42 (ag .i32 (zeroA 256)) ?_
  refine so 1 (oWe 32 .i32 (zeroA 256) hs 2 fun w kp hs=>?_)
  refine qo 2 5 (.bool false) ?_
  refine fj j33 s32 (xret (tr ?_))
  obtain ⟨rfl,rfl⟩:=os2 h
  exact qq _ _ (pr (rr [.cell 4 32,.tmp 5] [ag .i32 (zeroA 256),.bool false] (.cons (rcN 256 hs 2 rfl (enc_len _ _)) (.cons rt .nil))) ⟨cr,hs.none⟩)
 refine tb 11 20 (nt hc) ?_
 refine qo 12 21 (.bool true) ?_
 refine fj j5 s4 (ct (xs fun _ s34=>(xn 3 fun _ j35=>?_)))
 refine qo 0 22 (ag .i32 (zeroA 256)) ?_
 refine so 1 (oWe 32 .i32 (zeroA 256) hs 0 fun w kp hs=>?_)
 refine qo 2 5 (.bool false) ?_
 refine fj j35 s34 (xret (tr ?_))
 obtain ⟨rfl,rfl⟩:=os2 h
 exact qq _ _ (pr (rr [.cell 4 32,.tmp 5] [ag .i32 (zeroA 256),.bool false] (.cons (rcN 256 hs 0 rfl (enc_len _ _)) (.cons rt .nil))) ⟨cr,hs.none⟩)
theorem ref26_read.ok {K:Nat}{a0:List Int}{a1 a2:Int}{r0:List (Arr 256)}{r1:Bool}{a0_A:Option Addr}{a0_n a0_c:Nat}(h:ref26_read.f K a0 a1 a2=some (r0,r1)) (w0:World) (hp0:RowL CB w0 a0_A a0_n a0_c a0):Calls Tryd.prog 60 #[.slice a0_A a0_n a0_c,I8 a1,I8 a2] w0 fun e w'=>∃ h:(Option Addr × Nat × Nat),e = .returned (.tuple #[.slice h.1 h.2.1 h.2.2,.bool r1])∧St w0 [] [.ownL CZ h.1 h.2.1 h.2.2 r0 32] [] w':=by
 refine calls_k Tryd.func60 rfl fun Q qq=>?_
 have hs:=St.startR (all_cons (RowP.ent hp0) all_nil)
 refine wc (a':=(fu 37 [.slice a0_A a0_n a0_c,I8 a1,I8 a2])) ?_
 refine xs fun _ s1=>?_
 refine xn 2 fun _ j2=>?_
 refine nq 0 [(6,.slice none 0 0),(7,.bool false)] ?_
 refine fj j2 s1 (xs fun _ s3=>(xn 1 fun _ j4=>?_))
 refine qo 0 8 (.slice none 0 0) ?_
 refine fj j4 s3 (xs fun _ s5=>(xs fun _ s6=>(xn 1 fun _ j7=>?_)))
 refine qo 0 9 (I8 0) ?_
 refine fj j7 s6 (?_)
 have hs:=hs.addNilL CZ 32
 obtain ⟨t0,hy,hk0⟩:=ob h
 refine wp_exq (N:=fun a w=>∃ y3,∃ y3_A y3_n y3_c,t0 = .inl y3∧St w0 [] [.ownL CZ y3_A y3_n y3_c y3 32] [.rowL CB a0_A a0_n a0_c a0] w∧∃ g9,a=fr g9 40 [(8,[.slice y3_A y3_n y3_c])]) (fun N0 nn0=>?_) ?_
 refine xb ?_
 refine wp_loop_k (fun n a w=>∃ z1 z2,∃ z2_A z2_n z2_c,ref26_read.l0 K n a0 a1 a2 z1 z2=some t0∧St w0 [] [.ownL CZ z2_A z2_n z2_c z2 32] [.rowL CB a0_A a0_n a0_c a0] w∧∃ g8,a=fr g8 40 [(0,[.slice a0_A a0_n a0_c,I8 a1,I8 a2]),(8,[.slice z2_A z2_n z2_c,I8 z1])]) K ⟨0,([]:List (Arr 256)),none,0,0,hy,hs.conv rfl,eg⟩ ?_
 clear hs h hy
 rintro n a w ⟨z1,z2,z2_A,z2_n,z2_c,h,hs,g8,rfl⟩ KL0 kl0
 cases n with
 | zero=>exact nomatch (show none=some _ from h)
 | succ n=>
  refine xs fun _ s10=>?_
  refine xs fun _ s11=>?_
  refine xn 3 fun _ j12=>?_
  refine nq 0 [(12,I8 z1),(13,I8 a1)] ?_
  obtain ⟨hc,h⟩|⟨hc,h⟩:=of_if h
  refine tb 2 14 (dt hc) ?_
  refine fj j12 s11 (ct (xk (T s10 (xs fun _ s13=>(xb (xs fun _ s14=>(xn 19 fun _ j15=>?_)))))))
  refine nq 0 [(18,.slice a0_A a0_n a0_c),(19,I8 a2),(20,I8 (imul .i64 32 a2)),(21,I8 z1),(22,I8 (imul .i64 (imul .i64 32 a2) z1)),(23,I8 a2),(24,I8 (imul .i64 32 a2)),(25,I8 z1),(26,I8 (iadd .i64 z1 1)),(27,I8 (imul .i64 (imul .i64 32 a2) (iadd .i64 z1 1)))] ?_
  obtain ⟨h0,h1,h⟩:=oc2 h
  obtain ⟨h2,h⟩:=oc h
  obtain ⟨s4_A,hA⟩ : ∃ A,A=if a0_c=((imul .i64 (imul .i64 32 a2) z1):Int).toNat then a0_A else adr a0_A (((imul .i64 (imul .i64 32 a2) z1):Int).toNat*Cod.size CB):=⟨_,rfl⟩
  obtain ⟨s4_n,hn⟩ : ∃ n,n=((imul .i64 (imul .i64 32 a2) (iadd .i64 z1 1)):Int).toNat-((imul .i64 (imul .i64 32 a2) z1):Int).toNat:=⟨_,rfl⟩
  obtain ⟨s4_c,hc⟩ : ∃ c,c=a0_c-((imul .i64 (imul .i64 32 a2) z1):Int).toNat:=⟨_,rfl⟩
  refine tkf 10 28 (.slice s4_A s4_n s4_c) (ysb (C:=CB) 24 5 (some (I8 (imul .i64 (imul .i64 32 a2) z1))) (some (I8 (imul .i64 (imul .i64 32 a2) (iadd .i64 z1 1)))) (imul .i64 (imul .i64 32 a2) z1) (imul .i64 (imul .i64 32 a2) (iadd .i64 z1 1)) (rR 0 hs) (.inr ⟨_,rfl⟩) (.inr ⟨_,rfl⟩) h0 h1 h2 hA hn hc) ?_
  have hs:=hs.addSub (C:=CB) 0 rfl h0 h1 h2 hA hn hc
  refine qo 11 29 (I8 a2) ?_
  obtain ⟨⟨r5,r6⟩,hg,h⟩:=ob h
  refine so 12 (oC 30 hs (ref25_Unpack.ok hg _ (rR 0 hs)) fun w gw hs=>?_)
  refine nq 13 [(17,.tuple #[ag .i32 r5,.bool r6]),(31,ag .i32 r5)] ?_
  cases r6 with
  | true=>
   have h:=of_if_t h
   refine qo 15 32 (.bool true) ?_
   refine so 16 (oNe 10 32 .i32 (zeroA 256) hs fun b7 w gw hs=>?_)
   refine so 17 (oWe 32 .i32 r5 hs 0 fun w kp hs=>?_)
   refine qo 18 11 (.bool true) ?_
   refine fj j15 s14 (xs fun _ s16=>(xs fun _ s17=>(xn 2 fun _ j18=>?_)))
   refine nq 0 [(33,.bool true),(34,.bool false)] ?_
   refine fj j18 s17 (cf (xk (T s16 (xn 5 fun _ j19=>?_))))
   refine qo 0 35 (.slice z2_A z2_n z2_c) ?_
   refine tkt 1 36 _ (yWe 32 hs 0 .grow) ?_
   refine so 2 (oLL (C:=CZ) 37 77 32 1 (ag .i32 (zeroA 256)) #[(0,ag .i32 r5)] [r5] hs rfl rfl (by decide) (by decide) fun s8_A s8_n s8_c w gw hs=>?_)
   obtain ⟨h0,h⟩:=oc h
   refine so 3 (oAp (C:=CZ) 38 77 77 32 1024 137438953472 hs 2 rfl (rL 0 hs) h0 (by decide) (by decide) fun s9_A s9_n s9_c w hs=>?_)
   refine qo 4 8 (.slice s9_A s9_n s9_c) ?_
   refine fin (j19 _ _ (iN (T s13 (xn 3 fun _ j20=>?_))))
   refine nq 0 [(15,I8 z1),(16,I8 (iadd .i64 z1 1))] ?_
   obtain ⟨x10,hx,h⟩:=ob h
   refine tkf 2 9 (I8 x10) (yn hx) ?_
   refine fin (j20 _ _ ?_)
   exact tn (kl0 _ _ ⟨n,ls n,x10,(z2++([r5]:List (Arr 256))),s9_A,s9_n,s9_c,h,(pk [1] (dr [0,0,1] hs)),eg⟩)
  | false=>
   have h:=of_if_f h
   refine qo 15 32 (.bool false) ?_
   refine so 16 (oNe 10 32 .i32 (zeroA 256) hs fun b11 w gw hs=>?_)
   refine so 17 (oWe 32 .i32 r5 hs 0 fun w kp hs=>?_)
   refine qo 18 11 (.bool false) ?_
   refine fj j15 s14 (xs fun _ s21=>(xs fun _ s22=>(xn 2 fun _ j23=>?_)))
   refine nq 0 [(33,.bool false),(34,.bool true)] ?_
   refine fj j23 s22 (ct (xs fun _ s24=>(xn 2 fun _ j25=>?_)))
   refine nq 0 [(6,.slice none 0 0),(7,.bool false)] ?_
   refine fj j25 s24 (xret (tr (iR (tr (tr (iR (exq_r (tr ?_))))))))
   obtain rfl:=of_some h
   obtain ⟨q0,qr0⟩:=Prod.mk.inj (of_some hk0)
   have q1:=qr0
   subst q0
   subst q1
   have hs:=hs.addNilL CZ 32
   exact qq _ _ (pt [6,7] [.slice none 0 0,.bool false] ⟨⟨none,0,0⟩,cr,(pz (dr [1,0,0] hs))⟩)
  refine tb 2 14 (df hc) ?_
  refine fj j12 s11 (cf (xexit (tx (tx (iH ?_)))))
  obtain rfl:=of_some h
  exact exq_n (nn0 _ _ ⟨z2,z2_A,z2_n,z2_c,rfl,(hs.conv rfl),eg⟩)
 clear hs h hy
 rintro a w ⟨y3,y3_A,y3_n,y3_c,rfl,hs,g9,rfl⟩
 have h:=hk0
 refine T s5 (xs fun _ s26=>(xn 3 fun _ j27=>?_))
 refine nq 0 [(39,.slice y3_A y3_n y3_c),(6,.slice y3_A y3_n y3_c),(7,.bool true)] ?_
 refine fj j27 s26 (xret ?_)
 obtain ⟨rfl,rfl⟩:=os2 h
 exact qq _ _ (pt [6,7] [.slice y3_A y3_n y3_c,.bool true] ⟨⟨y3_A,y3_n,y3_c⟩,cr,(pz hs)⟩)
theorem ref25_Back.ok {K:Nat}{a0 r0:Arr 256}(h:ref25_Back.f K a0=some r0) (w0:World):Ret Tryd.prog 61 #[ag .i32 a0] w0 (ag .i32 r0):=by
 refine calls_k Tryd.func61 rfl fun Q qq=>?_
 have hs:=St.start w0
 refine wc (a':=(fu 62 [ag .i32 a0])) ?_
 refine xs fun _ s1=>?_
 refine xn 2 fun _ j2=>?_
 refine so 0 (oBe 1 32 .i32 a0 hs fun b1 w gw hs=>?_)
 refine so 1 (oNe 2 32 .i32 (zeroA 256) hs fun b2 w gw hs=>?_)
 refine fj j2 s1 (xs fun _ s3=>(xn 3 fun _ j4=>?_))
 obtain ⟨r3,hg,h⟩:=ob h
 refine so 0 (oC 10 hs (ref25_powers.ok hg _) fun w gw hs=>?_)
 refine so 1 (oNe 3 31 .i32 (zeroA 256) hs fun b4 w gw hs=>?_)
 refine so 2 (oWe 31 .i32 r3 hs 0 fun w kp hs=>?_)
 refine fj j4 s3 (xs fun _ s5=>(xn 1 fun _ j6=>?_))
 refine so 0 (oNe 4 32 .i32 (zeroA 256) hs fun b5 w gw hs=>?_)
 refine fj j6 s5 (xs fun _ s7=>(xs fun _ s8=>(xn 1 fun _ j9=>?_)))
 refine qo 0 5 (I8 0) ?_
 refine fj j9 s8 (?_)
 obtain ⟨y8,hy,hk0⟩:=ob h
 refine wp_exq (N:=fun a w=>St w0 [] [.blk b5 (enc .i32 y8) 32,.blk b4 (enc .i32 r3) 31,.blk b2 (enc .i32 (zeroA 256)) 32,.blk b1 (enc .i32 a0) 32] [] w∧∃ g11,a=fr g11 63 [(2,[P0 b2]),(4,[P0 b5])]) (fun N0 nn0=>?_) ?_
 clear hk0
 refine xb ?_
 refine wp_loop_k (fun n a w=>∃ z6 z7,ref25_Back.l0 K n a0 r3 z6 z7=some y8∧St w0 [] [.blk b5 (enc .i32 z7) 32,.blk b4 (enc .i32 r3) 31,.blk b2 (enc .i32 (zeroA 256)) 32,.blk b1 (enc .i32 a0) 32] [] w∧∃ g10,a=fr g10 63 [(1,[P0 b1,P0 b2,P0 b4,P0 b5,I8 z6])]) K ⟨0,(zeroA 256),hy,hs.conv rfl,eg⟩ ?_
 clear hs h hy
 rintro n a w ⟨z6,z7,h,hs,g10,rfl⟩ KL0 kl0
 cases n with
 | zero=>exact nomatch (show none=some _ from h)
 | succ n=>
  refine xs fun _ s12=>?_
  refine xs fun _ s13=>?_
  refine xn 2 fun _ j14=>?_
  refine qo 0 11 (I8 z6) ?_
  obtain ⟨hc,h⟩|⟨hc,h⟩:=of_if h
  refine tb 1 12 (dt hc) ?_
  refine fj j14 s13 (ct (xk (T s12 (xs fun _ s15=>(xb (xs fun _ s16=>(xn 1 fun _ j17=>?_)))))))
  refine qo 0 6 (I4 0) ?_
  refine fj j17 s16 (xs fun _ s18=>(xn 1 fun _ j19=>?_))
  refine qo 0 7 (I4 0) ?_
  refine fj j19 s18 (xs fun _ s20=>(xs fun _ s21=>(xn 1 fun _ j22=>?_)))
  refine qo 0 8 (I8 0) ?_
  refine fj j22 s21 (?_)
  obtain ⟨⟨y12,y13⟩,hy,hk1⟩:=ob h
  refine wp_exq (N:=fun a w=>St w0 [] [.blk b5 (enc .i32 z7) 32,.blk b4 (enc .i32 r3) 31,.blk b2 (enc .i32 (zeroA 256)) 32,.blk b1 (enc .i32 a0) 32] [] w∧∃ g24,a=fr g24 63 [(1,[P0 b1,P0 b2,P0 b4,P0 b5,I8 z6,I4 y12,I4 y13])]) (fun N1 nn1=>?_) ?_
  clear hk1
  refine xb ?_
  refine wp_loop_k (fun n a w=>∃ z9 z10 z11,ref25_Back.l1 K n a0 r3 z6 z9 z10 z11=some (y12,y13)∧St w0 [] [.blk b5 (enc .i32 z7) 32,.blk b4 (enc .i32 r3) 31,.blk b2 (enc .i32 (zeroA 256)) 32,.blk b1 (enc .i32 a0) 32] [] w∧∃ g23,a=fr g23 63 [(1,[P0 b1,P0 b2,P0 b4,P0 b5,I8 z6,I4 z9,I4 z10,I8 z11])]) K ⟨0,0,0,hy,hs.conv rfl,eg⟩ ?_
  clear hs h hy
  rintro n a w ⟨z9,z10,z11,h,hs,g23,rfl⟩ KL1 kl1
  cases n with
  | zero=>exact nomatch (show none=some _ from h)
  | succ n=>
   refine xs fun _ s25=>?_
   refine xs fun _ s26=>?_
   refine xn 2 fun _ j27=>?_
   refine qo 0 15 (I8 z11) ?_
   obtain ⟨hc,h⟩|⟨hc,h⟩:=of_if h
   refine tb 1 16 (dt hc) ?_
   refine fj j27 s26 (ct (xk (T s25 (xs fun _ s28=>(xb (xs fun _ s29=>(xn 12 fun _ j30=>?_)))))))
   refine qo 0 19 (I8 z11) ?_
   obtain ⟨r14,hg,h⟩:=ob h
   refine so 1 (oC 20 hs (ref25_turned.ok hg _) fun w gw hs=>?_)
   refine nq 2 [(21,I8 (imul .i64 2 r14)),(22,I8 (iadd .i64 (imul .i64 2 r14) 1)),(23,I8 z6),(24,I8 (imul .i64 (iadd .i64 (imul .i64 2 r14) 1) z6)),(25,I8 (irem .i64 (imul .i64 (iadd .i64 (imul .i64 2 r14) 1) z6) 256)),(26,I8 (isub .i64 256 (irem .i64 (imul .i64 (iadd .i64 (imul .i64 2 r14) 1) z6) 256))),(27,I8 (irem .i64 (isub .i64 256 (irem .i64 (imul .i64 (iadd .i64 (imul .i64 2 r14) 1) z6) 256)) 256))] ?_
   obtain ⟨x15,hx,h⟩:=ob h
   have hx:=of_some hx
   subst hx
   obtain ⟨i0_31,i1_31,h⟩:=oc2 h
   refine tkf 9 28 (.pointer (some ⟨b4,0+((irem .i64 (isub .i64 256 (irem .i64 (imul .i64 (iadd .i64 (imul .i64 2 r14) 1) z6) 256)) 256):Int).toNat*1,none⟩)) (yi 31 21 256 1 .i64 (irem .i64 (isub .i64 256 (irem .i64 (imul .i64 (iadd .i64 (imul .i64 2 r14) 1) z6) 256)) 256) i0_31 i1_31) ?_
   refine tkt 10 29 _ (yA hs 1 21 (irem .i64 (isub .i64 256 (irem .i64 (imul .i64 (iadd .i64 (imul .i64 2 r14) 1) z6) 256)) 256) rfl i0_31 i1_31 .grow) ?_
   obtain ⟨x16,hx,h⟩:=ob h
   refine tkf 11 9 (I4 x16) (yn hx) ?_
   refine fj j30 s29 (xs fun _ s32=>(xn 10 fun _ j33=>?_))
   refine nq 0 [(30,I4 z9),(31,I8 z11),(32,I8 (imul .i64 2 z11))] ?_
   obtain ⟨x17,hx,h⟩:=ob h
   have hx:=of_some hx
   subst hx
   obtain ⟨i0_34,i1_34,h⟩:=oc2 h
   refine tkf 3 33 (P1 b1 (imul .i64 2 z11)) (yi 32 21 256 1 .i64 (imul .i64 2 z11) i0_34 i1_34) ?_
   refine tkt 4 34 _ (yA hs 3 21 (imul .i64 2 z11) rfl i0_34 i1_34 .grow) ?_
   refine nq 5 [(35,I4 x16),(36,I4 (imul .i32 (rd a0 (imul .i64 2 z11)) x16)),(37,I4 (iadd .i32 z9 (imul .i32 (rd a0 (imul .i64 2 z11)) x16))),(38,I4 (irem .i32 (iadd .i32 z9 (imul .i32 (rd a0 (imul .i64 2 z11)) x16)) 3329))] ?_
   obtain ⟨x18,hx,h⟩:=ob h
   refine tkf 9 6 (I4 x18) (yn hx) ?_
   refine fj j33 s32 (xn 11 fun _ j35=>?_)
   refine nq 0 [(39,I4 z10),(40,I8 z11),(41,I8 (imul .i64 2 z11)),(42,I8 (iadd .i64 (imul .i64 2 z11) 1))] ?_
   obtain ⟨x19,hx,h⟩:=ob h
   have hx:=of_some hx
   subst hx
   obtain ⟨i0_36,i1_36,h⟩:=oc2 h
   refine tkf 4 43 (.pointer (some ⟨b1,0+((iadd .i64 (imul .i64 2 z11) 1):Int).toNat*1,none⟩)) (yi 32 21 256 1 .i64 (iadd .i64 (imul .i64 2 z11) 1) i0_36 i1_36) ?_
   refine tkt 5 44 _ (yA hs 3 21 (iadd .i64 (imul .i64 2 z11) 1) rfl i0_36 i1_36 .grow) ?_
   refine nq 6 [(45,I4 x16),(46,I4 (imul .i32 (rd a0 (iadd .i64 (imul .i64 2 z11) 1)) x16)),(47,I4 (iadd .i32 z10 (imul .i32 (rd a0 (iadd .i64 (imul .i64 2 z11) 1)) x16))),(48,I4 (irem .i32 (iadd .i32 z10 (imul .i32 (rd a0 (iadd .i64 (imul .i64 2 z11) 1)) x16)) 3329))] ?_
   obtain ⟨x20,hx,h⟩:=ob h
   refine tkf 10 7 (I4 x20) (yn hx) ?_
   refine fin (j35 _ _ (iN (T s28 (xn 3 fun _ j37=>?_))))
   refine nq 0 [(17,I8 z11),(18,I8 (iadd .i64 z11 1))] ?_
   obtain ⟨x21,hx,h⟩:=ob h
   refine tkf 2 8 (I8 x21) (yn hx) ?_
   refine fin (j37 _ _ ?_)
   exact tn (kl1 _ _ ⟨n,ls n,x18,x20,x21,h,(hs.conv rfl),eg⟩)
   refine tb 1 16 (df hc) ?_
   refine fj j27 s26 (cf (xexit (tx (tx (iH ?_)))))
   obtain ⟨rfl,rfl⟩:=os2 h
   exact exq_n (nn1 _ _ ⟨(hs.conv rfl),eg⟩)
  clear hs h hy
  rintro a w ⟨hs,g24,rfl⟩
  have h:=hk1
  refine T s20 (xs fun _ s38=>(xn 7 fun _ j39=>?_))
  refine nq 0 [(49,I8 z6),(50,I8 (imul .i64 2 z6)),(51,I4 y12),(52,I4 (imul .i32 y12 3303)),(53,I4 (irem .i32 (imul .i32 y12 3303) 3329))] ?_
  obtain ⟨x22,hx,h⟩:=ob h
  have hx:=of_some hx
  subst hx
  obtain ⟨i0_40,i1_40,h⟩:=oc2 h
  refine tkf 5 54 (P1 b5 (imul .i64 2 z6)) (yi 32 21 256 1 .i64 (imul .i64 2 z6) i0_40 i1_40) ?_
  obtain ⟨x23,hx,h⟩:=ob h
  refine so 6 (oA 21 x23 (imul .i64 2 z6) hs 0 rfl (by cases hx; kernel_rfl) i0_40 i1_40 fun w kp hs=>?_)
  refine fj j39 s38 (xn 8 fun _ j41=>?_)
  refine nq 0 [(55,I8 z6),(56,I8 (imul .i64 2 z6)),(57,I8 (iadd .i64 (imul .i64 2 z6) 1)),(58,I4 y13),(59,I4 (imul .i32 y13 3303)),(60,I4 (irem .i32 (imul .i32 y13 3303) 3329))] ?_
  obtain ⟨x24,hx,h⟩:=ob h
  have hx:=of_some hx
  subst hx
  obtain ⟨i0_42,i1_42,h⟩:=oc2 h
  refine tkf 6 61 (.pointer (some ⟨b5,0+((iadd .i64 (imul .i64 2 z6) 1):Int).toNat*1,none⟩)) (yi 32 21 256 1 .i64 (iadd .i64 (imul .i64 2 z6) 1) i0_42 i1_42) ?_
  obtain ⟨x25,hx,h⟩:=ob h
  refine so 7 (oA 21 x25 (iadd .i64 (imul .i64 2 z6) 1) hs 0 rfl (by cases hx; kernel_rfl) i0_42 i1_42 fun w kp hs=>?_)
  refine fin (j41 _ _ (iN (T s15 (xn 3 fun _ j43=>?_))))
  refine nq 0 [(13,I8 z6),(14,I8 (iadd .i64 z6 1))] ?_
  obtain ⟨x26,hx,h⟩:=ob h
  refine tkf 2 5 (I8 x26) (yn hx) ?_
  refine fin (j43 _ _ ?_)
  exact tn (kl0 _ _ ⟨n,ls n,x26,(wr (wr z7 (imul .i64 2 z6) x23) (iadd .i64 (imul .i64 2 z6) 1) x25),h,(hs.conv rfl),eg⟩)
  refine tb 1 12 (df hc) ?_
  refine fj j14 s13 (cf (xexit (tx (tx (iH ?_)))))
  obtain rfl:=of_some h
  exact exq_n (nn0 _ _ ⟨(hs.conv rfl),eg⟩)
 clear hs h hy
 rintro a w ⟨hs,g11,rfl⟩
 have h:=hk0
 refine T s7 (xs fun _ s44=>(xn 2 fun _ j45=>?_))
 refine tkt 0 62 _ (yWe 32 hs 0 .grow) ?_
 refine so 1 (oWe 32 .i32 y8 hs 2 fun w kp hs=>?_)
 refine fj j45 s44 (xret ?_)
 obtain rfl:=of_some h
 exact qq _ _ (pr (rr [.cell 2 32] [ag .i32 y8] (.cons (rcN 256 hs 2 rfl (enc_len _ _)) .nil)) ⟨cr,hs.none⟩)
end Go.Proofs.YtemdbgmldljbpaaDoor
