/- Printed by this work's own program: the code of each function below comes to the answer that its plain form tells. -/
import Derived.Test.YtemdbgmldljbpaaDoorMf
import Derived.Test.YtemdbgmldljbpaaDoorProg
import Derived.Test.YtemdbgmldljbpaaDoorZF0
import Derived.Test.YtemdbgmldljbpaaDoorZX4
set_option linter.unusedVariables false
set_option linter.unusedSimpArgs false
set_option maxRecDepth 100000
set_option maxHeartbeats 4000000
namespace Go.Proofs.YtemdbgmldljbpaaDoor
open Go.Mx
attribute [local irreducible] wpOp

theorem kpke_vector_parts.ok {K : Nat} {a0 : List (Arr 256)} {r0 : List (Arr 256)} {a0_A : Option Addr} {a0_n : Nat} {a0_c : Nat} (h : kpke_vector_parts.f K a0 = some r0) (w0 : World) (hp0 : RowL (CA .i32 256 (by decide)) w0 a0_A a0_n a0_c a0) : Calls Tryd.prog 45 #[.slice a0_A a0_n a0_c] w0 fun e w' => ∃ h : (Option Addr × Nat × Nat), e = .returned (.slice h.1 h.2.1 h.2.2) ∧ St w0 [] [.ownL (CA .i32 256 (by decide)) h.1 h.2.1 h.2.2 r0 32] [] w' := by
 refine calls_k Tryd.func45 rfl fun Q qq => ?_
 have hs := St.startR (all_cons (RowP.ent hp0) all_nil)
 refine wp_conv (a' := ⟨#[.slice a0_A a0_n a0_c, undef, undef, undef, undef, undef, undef, undef, undef, undef, undef, undef, undef, undef, undef, undef, undef, undef, undef, undef, undef, undef, undef], []⟩) (by kernel_rfl) ?_
 refine xseq_k fun KS1 ks1 => ?_
 refine xregS [0] fun KR2 kr2 => ?_
 refine wpS.q 0 2 (.slice none 0 0) ?_
 refine wpS.fin rfl (kr2 _ _ (then_n (ks1 _ _ (xseq_k fun KS3 ks3 => (xregS [0, 1, 2, 3] fun KR4 kr4 => ?_)))))
 refine wpS.q 0 6 (.slice a0_A a0_n a0_c) ?_
 refine wpS.tk 1 false (some 7) (.int .i64 (a0.length : Int)) (yld_lenL (hs.rowR 0 rfl) (fun _ => by kernel_rfl)) ?_
 obtain ⟨h0, h⟩ := of_chk h
 obtain ⟨h1, h⟩ := of_chk h
 refine wpS.only 2 (op_makeT (C := (CA .i32 256 (by decide))) (t := 78) (e := 32) (bytes := 1024) (B := 137438953472) (kl := .i64) (kc := .i64) (x := (a0.length : Int)) (d := (some 8)) (by kernel_rfl) hs (by kernel_rfl) (by kernel_rfl) (by kernel_rfl) (by kernel_rfl) (by kernel_rfl) h0 h1 (by decide) (by decide) ?_)
 intro s1_A s1_n s1_c w gw hs
 refine ⟨fun _ => trivial, ?_⟩
 refine wpS.q 3 3 (.slice s1_A s1_n s1_c) ?_
 refine wpS.fin rfl (kr4 _ _ (then_n (ks3 _ _ (xseq_k fun KS5 ks5 => (xseq_k fun KS6 ks6 => (xregS [0, 1, 2] fun KR7 kr7 => ?_))))))
 refine wpS.q 0 9 (.slice a0_A a0_n a0_c) ?_
 refine wpS.tk 1 false (some 10) (.int .i64 (a0.length : Int)) (yld_lenL (hs.rowR 0 rfl) (fun _ => by kernel_rfl)) ?_
 refine wpS.q 2 11 (.int .i64 0) ?_
 refine wpS.fin rfl (kr7 _ _ (then_n (ks6 _ _ ?_)))
 obtain ⟨y4, hy, hk0⟩ := of_bind h
 refine wp_exq (N := fun a w => St w0 [] [.ownL (CA .i32 256 (by decide)) s1_A s1_n s1_c y4 32] [.rowL (CA .i32 256 (by decide)) a0_A a0_n a0_c a0] w ∧ ∃ g9 : Nat → Value, a = ⟨#[.slice a0_A a0_n a0_c, undef, .slice none 0 0, .slice s1_A s1_n s1_c, (g9 4), (g9 5), .slice a0_A a0_n a0_c, .int .i64 (a0.length : Int), .slice s1_A s1_n s1_c, .slice a0_A a0_n a0_c, .int .i64 (a0.length : Int), (g9 11), (g9 12), (g9 13), (g9 14), (g9 15), (g9 16), (g9 17), (g9 18), (g9 19), (g9 20), (g9 21), undef], []⟩) (fun N0 nn0 => ?_) ?_
 ·clear hk0
  refine xblock ?_
  refine wp_loop_k (fun n a w => ∃ z2 z3, kpke_vector_parts.l0 K n a0 z2 z3 = some y4 ∧ St w0 [] [.ownL (CA .i32 256 (by decide)) s1_A s1_n s1_c z3 32] [.rowL (CA .i32 256 (by decide)) a0_A a0_n a0_c a0] w ∧ ∃ g8 : Nat → Value, a = ⟨#[.slice a0_A a0_n a0_c, undef, .slice none 0 0, .slice s1_A s1_n s1_c, (g8 4), (g8 5), .slice a0_A a0_n a0_c, .int .i64 (a0.length : Int), .slice s1_A s1_n s1_c, .slice a0_A a0_n a0_c, .int .i64 (a0.length : Int), .int .i64 z2, (g8 12), (g8 13), (g8 14), (g8 15), (g8 16), (g8 17), (g8 18), (g8 19), (g8 20), (g8 21), undef], []⟩) K ⟨0, (List.replicate ((a0.length : Int) : Int).toNat (Cod.zero (CA .i32 256 (by decide)))), hy, hs.conv rfl, exg (by kernel_rfl)⟩ ?_
  clear hs h hy
  rintro n a w ⟨z2, z3, h, hs, g8, rfl⟩ KL0 kl0
  cases n with
  | zero => exact nomatch (show none = some _ from h)
  | succ n =>
   refine xseq_k fun KS10 ks10 => ?_
   refine xregS [0] fun KR11 kr11 => ?_
   rcases of_if h with ⟨hc, h⟩ | ⟨hc, h⟩
   ·refine wpS.tk 0 false (some 12) (.bool true) (yld_b (dt hc) (fun _ => by kernel_rfl)) ?_
    refine wpS.fin rfl (kr11 _ _ (then_n (ks10 _ _ (xseq_k fun KS12 ks12 => (wp_cond_t (by kernel_rfl) (xskip (then_n (ks12 _ _ (xseq_k fun KS13 ks13 => (xblock (xseq_k fun KS14 ks14 => (xregS [0, 1, 2, 3, 4, 5] fun KR15 kr15 => ?_))))))))))))
    refine wpS.q 0 13 (.int .i64 z2) ?_
    obtain ⟨h0, h⟩ := of_chk h
    obtain ⟨h1, h⟩ := of_chk h
    have i0_16 := h0
    have i1_16 := h1
    refine wpS.tk 1 false (some 14) (.pointer (adr a0_A ((z2 : Int).toNat * Cod.size (CA .i32 256 (by decide))))) (yld_idxL (C := (CA .i32 256 (by decide))) (t := 78) (e := 32) (k := .i64) (x := z2) (hs.rowR 0 rfl) (by kernel_rfl) (by kernel_rfl) (by kernel_rfl) h0 h1) ?_
    refine wpS.tk 2 true (some 15) (.agg (enc .i32 (rdL (CA .i32 256 (by decide)) a0 z2)).toArray) (yld_loadLA (C := (CA .i32 256 (by decide))) (e := 32) (x := z2) (hs.rowR 0 rfl) (by kernel_rfl) rfl (by kernel_rfl) (by kernel_rfl) i0_16 i1_16) ?_
    refine wpS.only 3 (op_alloc (t := 32) (d := (some 5)) (by kernel_rfl) hs (enc .i32 (zeroA 256)) (.agg (enc .i32 (zeroA 256)).toArray) (by kernel_rfl) (by kernel_rfl) (by kernel_rfl) ?_)
    intro b5 w gw hs
    refine ⟨fun _ => trivial, ?_⟩
    refine wpS.q 4 4 (.int .i64 z2) ?_
    refine wpS.only 5 (op_storeW (t := 32) (v := .agg (enc .i32 (rdL (CA .i32 256 (by decide)) a0 z2)).toArray) (d := none) (by kernel_rfl) hs 0 rfl (vs := enc .i32 (rdL (CA .i32 256 (by decide)) a0 z2)) (n := 256) (by kernel_rfl) (by kernel_rfl) (by kernel_rfl) (by simp [enc_len]) (by simp [enc_len]) (by intro u hu; exact enc_one _ _ u hu) ?_)
    intro w kp hs
    refine ⟨fun _ => trivial, ?_⟩
    refine wpS.fin rfl (kr15 _ _ (then_n (ks14 _ _ (xregS [0, 1, 2, 3, 4, 5] fun KR17 kr17 => ?_))))
    refine wpS.qs [(0, 16, .slice s1_A s1_n s1_c), (1, 17, .int .i64 z2)] ?_
    refine wpS.tk 2 true (some 18) (.agg (enc .i32 (rdL (CA .i32 256 (by decide)) a0 z2)).toArray) (yld_loadW (e := 32) (n := 256) hs 0 rfl (by kernel_rfl) (by kernel_rfl) (by kernel_rfl) (by exact enc_len _ _) .grow) ?_
    obtain ⟨r6, hg, h⟩ := of_bind h
    refine wpS.only 3 (op_call (d := (some 19)) (by kernel_rfl) hs (fun _ => by kernel_rfl) (kq_Ntt.ok hg _) ?_)
    intro w gw hs
    refine ⟨fun _ => trivial, ?_⟩
    obtain ⟨h0, h⟩ := of_chk h
    obtain ⟨h1, h⟩ := of_chk h
    have i0_18 := h0
    have i1_18 := h1
    refine wpS.tk 4 false (some 20) (.pointer (adr s1_A ((z2 : Int).toNat * Cod.size (CA .i32 256 (by decide))))) (yld_idxL (C := (CA .i32 256 (by decide))) (t := 78) (e := 32) (k := .i64) (x := z2) (hs.rowL 1 rfl) (by kernel_rfl) (by kernel_rfl) (by kernel_rfl) h0 h1) ?_
    refine wpS.only 5 (op_storeL (C := (CA .i32 256 (by decide))) (t := 32) (x := z2) (v := r6) (d := none) (by kernel_rfl) hs 1 rfl (by kernel_rfl) (by kernel_rfl) i0_18 i1_18 ?_)
    intro w hs
    refine ⟨fun _ => trivial, ?_⟩
    refine wpS.fin rfl (kr17 _ _ (inBlock_n (then_n (ks13 _ _ (xregS [0, 1] fun KR19 kr19 => ?_)))))
    refine wpS.qs [(0, 21, .int .i64 (iadd .i64 z2 1)), (1, 11, .int .i64 (iadd .i64 z2 1))] ?_
    refine wpS.fin rfl (kr19 _ _ ?_)
    exact then_n (kl0 _ _ ⟨n, Nat.lt_succ_self n, (iadd .i64 z2 1), (wrL z3 z2 r6), h, (hs.drop (.cons _ (.cons_cons _ .slnil))), exg (by kernel_rfl)⟩)
   refine wpS.tk 0 false (some 12) (.bool false) (yld_b (df hc) (fun _ => by kernel_rfl)) ?_
   refine wpS.fin rfl (kr11 _ _ (then_n (ks10 _ _ (xseq_k fun KS20 ks20 => (wp_cond_f (by kernel_rfl) (xexit (then_x (then_x (inBlock_hit ?_)))))))))
   have q0 := of_some h
   subst q0
   exact exq_n (nn0 _ _ ⟨(hs.conv rfl), exg (by kernel_rfl)⟩)
 clear hs h hy
 rintro a w ⟨hs, g9, rfl⟩
 have h := hk0
 refine then_n (ks5 _ _ (xseq_k fun KS21 ks21 => (xregS [0, 1] fun KR22 kr22 => ?_)))
 refine wpS.qs [(0, 22, .slice s1_A s1_n s1_c), (1, 2, .slice s1_A s1_n s1_c)] ?_
 refine wpS.fin rfl (kr22 _ _ (then_n (ks21 _ _ (xret ?_))))
 have q0 := of_some h
 subst q0
 exact qq _ _ (post_ret (by kernel_rfl) (run_results [.tmp 2] [.slice s1_A s1_n s1_c] (by kernel_rfl) (.cons (res_tmp (by kernel_rfl)) .nil)) ⟨⟨s1_A, s1_n, s1_c⟩, congrArg Ending.returned (by kernel_rfl), (hs.pickR pick_nil)⟩)

theorem kq_Add.ok {K : Nat} {a0 : Arr 256} {a1 : Arr 256} {r0 : Arr 256} (h : kq_Add.f K a0 a1 = some r0) (w0 : World) : Ret Tryd.prog 47 #[.agg (enc .i32 a0).toArray, .agg (enc .i32 a1).toArray] w0 (.agg (enc .i32 r0).toArray) := by
 refine calls_k Tryd.func47 rfl fun Q qq => ?_
 have hs := St.start w0
 refine wp_conv (a' := ⟨#[.agg (enc .i32 a0).toArray, .agg (enc .i32 a1).toArray, undef, undef, undef, undef, undef, undef, undef, undef, undef, undef, undef, undef, undef, undef, undef, undef, undef, undef, undef, undef, undef, undef, undef, undef, undef, undef], []⟩) (by kernel_rfl) ?_
 refine xseq_k fun KS1 ks1 => ?_
 refine xregS [0, 1, 2] fun KR2 kr2 => ?_
 refine wpS.only 0 (op_box (t := 32) (v := .agg (enc .i32 a0).toArray) (d := (some 2)) (by kernel_rfl) hs (enc .i32 a0) (by kernel_rfl) (by kernel_rfl) ?_)
 intro b1 w gw hs
 refine ⟨fun _ => trivial, ?_⟩
 refine wpS.only 1 (op_box (t := 32) (v := .agg (enc .i32 a1).toArray) (d := (some 3)) (by kernel_rfl) hs (enc .i32 a1) (by kernel_rfl) (by kernel_rfl) ?_)
 intro b2 w gw hs
 refine ⟨fun _ => trivial, ?_⟩
 refine wpS.only 2 (op_alloc (t := 32) (d := (some 4)) (by kernel_rfl) hs (enc .i32 (zeroA 256)) (.agg (enc .i32 (zeroA 256)).toArray) (by kernel_rfl) (by kernel_rfl) (by kernel_rfl) ?_)
 intro b3 w gw hs
 refine ⟨fun _ => trivial, ?_⟩
 refine wpS.fin rfl (kr2 _ _ (then_n (ks1 _ _ (xseq_k fun KS3 ks3 => (xseq_k fun KS4 ks4 => (xregS [0] fun KR5 kr5 => ?_))))))
 refine wpS.q 0 6 (.int .i64 0) ?_
 refine wpS.fin rfl (kr5 _ _ (then_n (ks4 _ _ ?_)))
 obtain ⟨y6, hy, hk0⟩ := of_bind h
 refine wp_exq (N := fun a w => St w0 [] [.blk b3 (enc .i32 (zeroA 256)) 32, .blk b2 (enc .i32 a1) 32, .blk b1 (enc .i32 y6) 32] [] w ∧ ∃ g7 : Nat → Value, a = ⟨#[.agg (enc .i32 a0).toArray, .agg (enc .i32 a1).toArray, .pointer (some ⟨b1, 0, none⟩), .pointer (some ⟨b2, 0, none⟩), .pointer (some ⟨b3, 0, none⟩), (g7 5), (g7 6), (g7 7), (g7 8), (g7 9), (g7 10), (g7 11), (g7 12), (g7 13), (g7 14), (g7 15), (g7 16), (g7 17), (g7 18), (g7 19), (g7 20), (g7 21), (g7 22), (g7 23), (g7 24), (g7 25), (g7 26), undef], []⟩) (fun N0 nn0 => ?_) ?_
 ·clear hk0
  refine xblock ?_
  refine wp_loop_k (fun n a w => ∃ z4 z5, kq_Add.l0 K n a1 z4 z5 = some y6 ∧ St w0 [] [.blk b3 (enc .i32 (zeroA 256)) 32, .blk b2 (enc .i32 a1) 32, .blk b1 (enc .i32 z5) 32] [] w ∧ ∃ g6 : Nat → Value, a = ⟨#[.agg (enc .i32 a0).toArray, .agg (enc .i32 a1).toArray, .pointer (some ⟨b1, 0, none⟩), .pointer (some ⟨b2, 0, none⟩), .pointer (some ⟨b3, 0, none⟩), (g6 5), .int .i64 z4, (g6 7), (g6 8), (g6 9), (g6 10), (g6 11), (g6 12), (g6 13), (g6 14), (g6 15), (g6 16), (g6 17), (g6 18), (g6 19), (g6 20), (g6 21), (g6 22), (g6 23), (g6 24), (g6 25), (g6 26), undef], []⟩) K ⟨0, a0, hy, hs.conv rfl, exg (by kernel_rfl)⟩ ?_
  clear hs h hy
  rintro n a w ⟨z4, z5, h, hs, g6, rfl⟩ KL0 kl0
  cases n with
  | zero => exact nomatch (show none = some _ from h)
  | succ n =>
   refine xseq_k fun KS8 ks8 => ?_
   refine xregS [0] fun KR9 kr9 => ?_
   rcases of_if h with ⟨hc, h⟩ | ⟨hc, h⟩
   ·refine wpS.tk 0 false (some 7) (.bool true) (yld_b (dt hc) (fun _ => by kernel_rfl)) ?_
    refine wpS.fin rfl (kr9 _ _ (then_n (ks8 _ _ (xseq_k fun KS10 ks10 => (wp_cond_t (by kernel_rfl) (xskip (then_n (ks10 _ _ ?_))))))))
    obtain ⟨y7, hj, h⟩ := of_bind h
    refine xseq_k fun KS12 ks12 => wp_join (N := fun a w => St w0 [] [.blk b3 (enc .i32 (zeroA 256)) 32, .blk b2 (enc .i32 a1) 32, .blk b1 (enc .i32 y7) 32] [] w ∧ ∃ g11 : Nat → Value, a = ⟨#[.agg (enc .i32 a0).toArray, .agg (enc .i32 a1).toArray, .pointer (some ⟨b1, 0, none⟩), .pointer (some ⟨b2, 0, none⟩), .pointer (some ⟨b3, 0, none⟩), (g11 5), .int .i64 z4, .bool true, (g11 8), (g11 9), (g11 10), (g11 11), (g11 12), (g11 13), (g11 14), (g11 15), (g11 16), (g11 17), (g11 18), (g11 19), (g11 20), (g11 21), (g11 22), (g11 23), (g11 24), (g11 25), (g6 26), undef], []⟩) (fun N nj => ?_) ?_
    ·clear h
     have h := hj
     refine xblock (xseq_k fun KS13 ks13 => (xregS [0, 1] fun KR14 kr14 => ?_))
     refine wpS.qs [(0, 8, .int .i64 z4), (1, 5, .int .i64 z4)] ?_
     refine wpS.fin rfl (kr14 _ _ (then_n (ks13 _ _ (xseq_k fun KS15 ks15 => ?_))))
     refine wp_regG [8] (fun k => True) 9 (by kernel_rfl) (by kernel_rfl) (by kernel_rfl) fun KR16 kr16 => ?_
     have hs := hs.drawn1
     refine wpG.q 0 9 (.int .i64 z4) ?_
     obtain ⟨i0_17, h⟩ := of_chk h
     obtain ⟨i1_17, h⟩ := of_chk h
     refine wpG.tD 1 false (some 10) (.pointer (some ⟨b1, 0 + (z4 : Int).toNat * 1, none⟩)) (yld_idx (t := 32) (e := 21) (n := 256) (sz := 1) (k := .i64) (x := z4) (by kernel_rfl) (by kernel_rfl) (by kernel_rfl) i0_17 i1_17) ?_
     refine wpG.tD 2 true (some 11) (.int .i32 (rd z5 z4)) (yld_loadA (e := 21) (x := z4) hs 2 rfl (by kernel_rfl) (by kernel_rfl) i0_17 i1_17 .grow) ?_
     refine wpG.q 3 12 (.int .i64 z4) ?_
     obtain ⟨i0_18, h⟩ := of_chk h
     obtain ⟨i1_18, h⟩ := of_chk h
     refine wpG.tD 4 false (some 13) (.pointer (some ⟨b2, 0 + (z4 : Int).toNat * 1, none⟩)) (yld_idx (t := 32) (e := 21) (n := 256) (sz := 1) (k := .i64) (x := z4) (by kernel_rfl) (by kernel_rfl) (by kernel_rfl) i0_18 i1_18) ?_
     refine wpG.tD 5 true (some 14) (.int .i32 (rd a1 z4)) (yld_loadA (e := 21) (x := z4) hs 1 rfl (by kernel_rfl) (by kernel_rfl) i0_18 i1_18 .grow) ?_
     refine wpG.q 6 15 (.int .i32 (iadd .i32 (rd z5 z4) (rd a1 z4))) ?_
     obtain ⟨i0_19, h⟩ := of_chk h
     obtain ⟨i1_19, h⟩ := of_chk h
     refine wpG.tD 7 false (some 16) (.pointer (some ⟨b1, 0 + (z4 : Int).toNat * 1, none⟩)) (yld_idx (t := 32) (e := 21) (n := 256) (sz := 1) (k := .i64) (x := z4) (by kernel_rfl) (by kernel_rfl) (by kernel_rfl) i0_19 i1_19) ?_
     obtain ⟨x8, hx, h⟩ := of_bind h
     refine wpG.only 8 (by kernel_rfl) (op_storeA (t := 21) (x := z4) (v := x8) (d := none) (by kernel_rfl) hs 2 rfl (by cases hx; kernel_rfl) (by kernel_rfl) i0_19 i1_19 ?_)
     intro w kp hs
     refine ⟨⟨fun hf => absurd hf (by decide), .all _ _⟩, ?_⟩
     refine wpG.fin (by kernel_rfl) rfl (kr16 _ _ ?_)
     refine then_n (ks15 _ _ (xseq_k fun KS20 ks20 => (xregS [0, 1, 2, 3] fun KR21 kr21 => ?_)))
     refine wpS.q 0 17 (.int .i64 z4) ?_
     obtain ⟨i0_22, h⟩ := of_chk h
     obtain ⟨i1_22, h⟩ := of_chk h
     refine wpS.tk 1 false (some 18) (.pointer (some ⟨b1, 0 + (z4 : Int).toNat * 1, none⟩)) (yld_idx (t := 32) (e := 21) (n := 256) (sz := 1) (k := .i64) (x := z4) (by kernel_rfl) (by kernel_rfl) (by kernel_rfl) i0_22 i1_22) ?_
     refine wpS.tk 2 true (some 19) (.int .i32 (rd (wr z5 z4 x8) z4)) (yld_loadA (e := 21) (x := z4) hs 2 rfl (by kernel_rfl) (by kernel_rfl) i0_22 i1_22 .grow) ?_
     rcases of_if h with ⟨hc, h⟩ | ⟨hc, h⟩
     ·refine wpS.tk 3 false (some 20) (.bool true) (yld_b (dt hc) (fun _ => by kernel_rfl)) ?_
      refine wpS.fin rfl (kr21 _ _ (then_n (ks20 _ _ (wp_cond_t (by kernel_rfl) (xregS [0, 1, 2, 3, 4, 5] fun KR23 kr23 => ?_)))))
      refine wpS.q 0 21 (.int .i64 z4) ?_
      obtain ⟨i0_24, h⟩ := of_chk h
      obtain ⟨i1_24, h⟩ := of_chk h
      refine wpS.tk 1 false (some 22) (.pointer (some ⟨b1, 0 + (z4 : Int).toNat * 1, none⟩)) (yld_idx (t := 32) (e := 21) (n := 256) (sz := 1) (k := .i64) (x := z4) (by kernel_rfl) (by kernel_rfl) (by kernel_rfl) i0_24 i1_24) ?_
      refine wpS.tk 2 true (some 23) (.int .i32 (rd (wr z5 z4 x8) z4)) (yld_loadA (e := 21) (x := z4) hs 2 rfl (by kernel_rfl) (by kernel_rfl) i0_24 i1_24 .grow) ?_
      refine wpS.q 3 24 (.int .i32 (isub .i32 (rd (wr z5 z4 x8) z4) 3329)) ?_
      obtain ⟨i0_25, h⟩ := of_chk h
      obtain ⟨i1_25, h⟩ := of_chk h
      refine wpS.tk 4 false (some 25) (.pointer (some ⟨b1, 0 + (z4 : Int).toNat * 1, none⟩)) (yld_idx (t := 32) (e := 21) (n := 256) (sz := 1) (k := .i64) (x := z4) (by kernel_rfl) (by kernel_rfl) (by kernel_rfl) i0_25 i1_25) ?_
      obtain ⟨x9, hx, h⟩ := of_bind h
      refine wpS.only 5 (op_storeA (t := 21) (x := z4) (v := x9) (d := none) (by kernel_rfl) hs 2 rfl (by cases hx; kernel_rfl) (by kernel_rfl) i0_25 i1_25 ?_)
      intro w kp hs
      refine ⟨fun _ => trivial, ?_⟩
      refine wpS.fin rfl (kr23 _ _ (inBlock_n ?_))
      have q0 := of_some h
      subst q0
      exact nj _ _ ⟨(hs.conv rfl), exg (by kernel_rfl)⟩
     refine wpS.tk 3 false (some 20) (.bool false) (yld_b (df hc) (fun _ => by kernel_rfl)) ?_
     refine wpS.fin rfl (kr21 _ _ (then_n (ks20 _ _ (wp_cond_f (by kernel_rfl) (xskip (inBlock_n ?_))))))
     have q0 := of_some h
     subst q0
     exact nj _ _ ⟨(hs.conv rfl), exg (by kernel_rfl)⟩
    clear hj hs
    rintro a w ⟨hs, g11, rfl⟩
    refine then_n (ks12 _ _ (xregS [0, 1] fun KR26 kr26 => ?_))
    refine wpS.qs [(0, 26, .int .i64 (iadd .i64 z4 1)), (1, 6, .int .i64 (iadd .i64 z4 1))] ?_
    refine wpS.fin rfl (kr26 _ _ ?_)
    exact then_n (kl0 _ _ ⟨n, Nat.lt_succ_self n, (iadd .i64 z4 1), y7, h, (hs.conv rfl), exg (by kernel_rfl)⟩)
   refine wpS.tk 0 false (some 7) (.bool false) (yld_b (df hc) (fun _ => by kernel_rfl)) ?_
   refine wpS.fin rfl (kr9 _ _ (then_n (ks8 _ _ (xseq_k fun KS27 ks27 => (wp_cond_f (by kernel_rfl) (xexit (then_x (then_x (inBlock_hit ?_)))))))))
   have q0 := of_some h
   subst q0
   exact exq_n (nn0 _ _ ⟨(hs.conv rfl), exg (by kernel_rfl)⟩)
 clear hs h hy
 rintro a w ⟨hs, g7, rfl⟩
 have h := hk0
 refine then_n (ks3 _ _ (xseq_k fun KS28 ks28 => (xregS [0, 1] fun KR29 kr29 => ?_)))
 refine wpS.tk 0 true (some 27) (.agg (enc .i32 y6).toArray) (yld_loadW (e := 32) (n := 256) hs 2 rfl (by kernel_rfl) (by kernel_rfl) (by kernel_rfl) (by exact enc_len _ _) .grow) ?_
 refine wpS.only 1 (op_storeW (t := 32) (v := .agg (enc .i32 y6).toArray) (d := none) (by kernel_rfl) hs 0 rfl (vs := enc .i32 y6) (n := 256) (by kernel_rfl) (by kernel_rfl) (by kernel_rfl) (by simp [enc_len]) (by simp [enc_len]) (by intro u hu; exact enc_one _ _ u hu) ?_)
 intro w kp hs
 refine ⟨fun _ => trivial, ?_⟩
 refine wpS.fin rfl (kr29 _ _ (then_n (ks28 _ _ (xret ?_))))
 have q0 := of_some h
 subst q0
 exact qq _ _ (post_ret (by kernel_rfl) (run_results [.cell 4 32] [.agg (enc .i32 y6).toArray] (by kernel_rfl) (.cons (res_cellN (n := 256) hs 0 rfl (by kernel_rfl) (by kernel_rfl) (by kernel_rfl) (by exact enc_len _ _)) .nil)) ⟨congrArg Ending.returned (by kernel_rfl), hs.none⟩)

theorem kq_pair_times.ok {K : Nat} {a0_0 : Int} {a0_1 : Int} {a1_0 : Int} {a1_1 : Int} {a2 : Int} {r0_0 : Int} {r0_1 : Int} (h : kq_pair_times.f K a0_0 a0_1 a1_0 a1_1 a2 = some (r0_0, r0_1)) (w0 : World) : Ret Tryd.prog 109 #[.agg #[.int .i32 a0_0, .int .i32 a0_1], .agg #[.int .i32 a1_0, .int .i32 a1_1], .int .i32 a2] w0 (.agg #[.int .i32 r0_0, .int .i32 r0_1]) := by
 refine calls_k Tryd.func109 rfl fun Q qq => ?_
 have hs := St.start w0
 refine wp_conv (a' := ⟨#[.agg #[.int .i32 a0_0, .int .i32 a0_1], .agg #[.int .i32 a1_0, .int .i32 a1_1], .int .i32 a2, undef, undef, undef, undef, undef, undef, undef, undef, undef, undef, undef, undef, undef, undef, undef, undef, undef, undef, undef, undef, undef, undef, undef, undef, undef, undef, undef, undef, undef, undef, undef, undef], []⟩) (by kernel_rfl) ?_
 refine xseq_k fun KS1 ks1 => ?_
 refine xregS [0, 1, 2] fun KR2 kr2 => ?_
 refine wpS.only 0 (op_box (t := 139) (v := .agg #[.int .i32 a0_0, .int .i32 a0_1]) (d := (some 3)) (by kernel_rfl) hs ([.int .i32 a0_0, .int .i32 a0_1]) (by kernel_rfl) (by kernel_rfl) ?_)
 intro b1 w gw hs
 refine ⟨fun _ => trivial, ?_⟩
 refine wpS.only 1 (op_box (t := 139) (v := .agg #[.int .i32 a1_0, .int .i32 a1_1]) (d := (some 4)) (by kernel_rfl) hs ([.int .i32 a1_0, .int .i32 a1_1]) (by kernel_rfl) (by kernel_rfl) ?_)
 intro b2 w gw hs
 refine ⟨fun _ => trivial, ?_⟩
 refine wpS.only 2 (op_alloc (t := 139) (d := (some 6)) (by kernel_rfl) hs ([.int .i32 0, .int .i32 0]) (.agg #[.int .i32 0, .int .i32 0]) (by kernel_rfl) (by kernel_rfl) (by kernel_rfl) ?_)
 intro b3 w gw hs
 refine ⟨fun _ => trivial, ?_⟩
 refine wpS.fin rfl (kr2 _ _ (then_n (ks1 _ _ (xseq_k fun KS3 ks3 => (xregS [0, 1, 2, 3, 4, 5, 6, 7, 8, 9, 10, 11, 12, 13, 14, 15, 16, 17, 18, 19, 20, 21, 22, 23, 24, 25, 26, 27, 28] fun KR4 kr4 => ?_)))))
 refine wpS.q 0 7 (.pointer (some ⟨b1, 0, none⟩)) ?_
 refine wpS.tk 1 true (some 8) (.int .i32 a0_0) (yld_load1 (e := 21) (o := 0) hs 2 rfl (by kernel_rfl) (by kernel_rfl) (by rfl) .grow) ?_
 refine wpS.q 2 9 (.pointer (some ⟨b2, 0, none⟩)) ?_
 refine wpS.tk 3 true (some 10) (.int .i32 a1_0) (yld_load1 (e := 21) (o := 0) hs 1 rfl (by kernel_rfl) (by kernel_rfl) (by rfl) .grow) ?_
 refine wpS.qs [(4, 11, .int .i32 (imul .i32 a0_0 a1_0)), (5, 12, .pointer (some ⟨b1, 1, none⟩))] ?_
 refine wpS.tk 6 true (some 13) (.int .i32 a0_1) (yld_load1 (e := 21) (o := 1) hs 2 rfl (by kernel_rfl) (by kernel_rfl) (by rfl) .grow) ?_
 refine wpS.q 7 14 (.pointer (some ⟨b2, 1, none⟩)) ?_
 refine wpS.tk 8 true (some 15) (.int .i32 a1_1) (yld_load1 (e := 21) (o := 1) hs 1 rfl (by kernel_rfl) (by kernel_rfl) (by rfl) .grow) ?_
 refine wpS.qs [(9, 16, .int .i32 (imul .i32 a0_1 a1_1)), (10, 17, .int .i32 (irem .i32 (imul .i32 a0_1 a1_1) 3329)), (11, 18, .int .i32 a2), (12, 19, .int .i32 (imul .i32 (irem .i32 (imul .i32 a0_1 a1_1) 3329) a2)), (13, 20, .int .i32 (iadd .i32 (imul .i32 a0_0 a1_0) (imul .i32 (irem .i32 (imul .i32 a0_1 a1_1) 3329) a2))), (14, 21, .int .i32 (irem .i32 (iadd .i32 (imul .i32 a0_0 a1_0) (imul .i32 (irem .i32 (imul .i32 a0_1 a1_1) 3329) a2)) 3329)), (15, 22, .pointer (some ⟨b1, 0, none⟩))] ?_
 refine wpS.tk 16 true (some 23) (.int .i32 a0_0) (yld_load1 (e := 21) (o := 0) hs 2 rfl (by kernel_rfl) (by kernel_rfl) (by rfl) .grow) ?_
 refine wpS.q 17 24 (.pointer (some ⟨b2, 1, none⟩)) ?_
 refine wpS.tk 18 true (some 25) (.int .i32 a1_1) (yld_load1 (e := 21) (o := 1) hs 1 rfl (by kernel_rfl) (by kernel_rfl) (by rfl) .grow) ?_
 refine wpS.qs [(19, 26, .int .i32 (imul .i32 a0_0 a1_1)), (20, 27, .pointer (some ⟨b1, 1, none⟩))] ?_
 refine wpS.tk 21 true (some 28) (.int .i32 a0_1) (yld_load1 (e := 21) (o := 1) hs 2 rfl (by kernel_rfl) (by kernel_rfl) (by rfl) .grow) ?_
 refine wpS.q 22 29 (.pointer (some ⟨b2, 0, none⟩)) ?_
 refine wpS.tk 23 true (some 30) (.int .i32 a1_0) (yld_load1 (e := 21) (o := 0) hs 1 rfl (by kernel_rfl) (by kernel_rfl) (by rfl) .grow) ?_
 refine wpS.qs [(24, 31, .int .i32 (imul .i32 a0_1 a1_0)), (25, 32, .int .i32 (iadd .i32 (imul .i32 a0_0 a1_1) (imul .i32 a0_1 a1_0))), (26, 33, .int .i32 (irem .i32 (iadd .i32 (imul .i32 a0_0 a1_1) (imul .i32 a0_1 a1_0)) 3329)), (27, 34, .agg #[.int .i32 (irem .i32 (iadd .i32 (imul .i32 a0_0 a1_0) (imul .i32 (irem .i32 (imul .i32 a0_1 a1_1) 3329) a2)) 3329), .int .i32 (irem .i32 (iadd .i32 (imul .i32 a0_0 a1_1) (imul .i32 a0_1 a1_0)) 3329)])] ?_
 refine wpS.only 28 (op_storeW (t := 139) (v := .agg #[.int .i32 (irem .i32 (iadd .i32 (imul .i32 a0_0 a1_0) (imul .i32 (irem .i32 (imul .i32 a0_1 a1_1) 3329) a2)) 3329), .int .i32 (irem .i32 (iadd .i32 (imul .i32 a0_0 a1_1) (imul .i32 a0_1 a1_0)) 3329)]) (d := none) (by kernel_rfl) hs 0 rfl (vs := [.int .i32 (irem .i32 (iadd .i32 (imul .i32 a0_0 a1_0) (imul .i32 (irem .i32 (imul .i32 a0_1 a1_1) 3329) a2)) 3329), .int .i32 (irem .i32 (iadd .i32 (imul .i32 a0_0 a1_1) (imul .i32 a0_1 a1_0)) 3329)]) (n := 2) (by kernel_rfl) (by kernel_rfl) (by kernel_rfl) (by simp [enc_len]) (by simp [enc_len]) (by simp [Value.oneCell']) ?_)
 intro w kp hs
 refine ⟨fun _ => trivial, ?_⟩
 refine wpS.fin rfl (kr4 _ _ (then_n (ks3 _ _ (xret ?_))))
 obtain ⟨q0, qr0⟩ := Prod.mk.inj (of_some h)
 have q1 := qr0
 subst q0
 subst q1
 exact qq _ _ (post_ret (by kernel_rfl) (run_results [.cell 6 139] [.agg #[.int .i32 (irem .i32 (iadd .i32 (imul .i32 a0_0 a1_0) (imul .i32 (irem .i32 (imul .i32 a0_1 a1_1) 3329) a2)) 3329), .int .i32 (irem .i32 (iadd .i32 (imul .i32 a0_0 a1_1) (imul .i32 a0_1 a1_0)) 3329)]] (by kernel_rfl) (.cons (res_cellN (n := 2) hs 0 rfl (by kernel_rfl) (by kernel_rfl) (by kernel_rfl) (by simp [enc_len])) .nil)) ⟨congrArg Ending.returned (by kernel_rfl), hs.none⟩)

theorem kq_Mul.ok {K : Nat} {a0 : Arr 256} {a1 : Arr 256} {r0 : Arr 256} (h : kq_Mul.f K a0 a1 = some r0) (w0 : World) : Ret Tryd.prog 88 #[.agg (enc .i32 a0).toArray, .agg (enc .i32 a1).toArray] w0 (.agg (enc .i32 r0).toArray) := by
 refine calls_k Tryd.func88 rfl fun Q qq => ?_
 have hs := St.start w0
 refine wp_conv (a' := ⟨#[.agg (enc .i32 a0).toArray, .agg (enc .i32 a1).toArray, undef, undef, undef, undef, undef, undef, undef, undef, undef, undef, undef, undef, undef, undef, undef, undef, undef, undef, undef, undef, undef, undef, undef, undef, undef, undef, undef, undef, undef, undef, undef, undef, undef, undef, undef, undef, undef, undef, undef, undef, undef, undef, undef, undef, undef, undef, undef, undef, undef, undef, undef, undef, undef, undef, undef, undef, undef, undef, undef, undef, undef, undef, undef, undef, undef, undef, undef, undef, undef, undef, undef, undef, undef, undef, undef, undef, undef, undef, undef, undef], []⟩) (by kernel_rfl) ?_
 refine xseq_k fun KS1 ks1 => ?_
 refine xregS [0, 1, 2] fun KR2 kr2 => ?_
 refine wpS.only 0 (op_box (t := 32) (v := .agg (enc .i32 a0).toArray) (d := (some 2)) (by kernel_rfl) hs (enc .i32 a0) (by kernel_rfl) (by kernel_rfl) ?_)
 intro b1 w gw hs
 refine ⟨fun _ => trivial, ?_⟩
 refine wpS.only 1 (op_box (t := 32) (v := .agg (enc .i32 a1).toArray) (d := (some 3)) (by kernel_rfl) hs (enc .i32 a1) (by kernel_rfl) (by kernel_rfl) ?_)
 intro b2 w gw hs
 refine ⟨fun _ => trivial, ?_⟩
 refine wpS.only 2 (op_alloc (t := 32) (d := (some 4)) (by kernel_rfl) hs (enc .i32 (zeroA 256)) (.agg (enc .i32 (zeroA 256)).toArray) (by kernel_rfl) (by kernel_rfl) (by kernel_rfl) ?_)
 intro b3 w gw hs
 refine ⟨fun _ => trivial, ?_⟩
 refine wpS.fin rfl (kr2 _ _ (then_n (ks1 _ _ (xseq_k fun KS3 ks3 => (xregS [0, 1] fun KR4 kr4 => ?_)))))
 obtain ⟨r4, hg, h⟩ := of_bind h
 refine wpS.only 0 (op_callB (d := (some 11)) (by kernel_rfl) hs (fun _ => by kernel_rfl) (kq_roots.ok hg _) ?_)
 intro b5 w gw hs
 refine ⟨fun _ => trivial, ?_⟩
 refine wpS.q 1 5 (.pointer (some ⟨b5, 0, none⟩)) ?_
 refine wpS.fin rfl (kr4 _ _ (then_n (ks3 _ _ (xseq_k fun KS5 ks5 => (xregS [0] fun KR6 kr6 => ?_)))))
 refine wpS.only 0 (op_alloc (t := 32) (d := (some 6)) (by kernel_rfl) hs (enc .i32 (zeroA 256)) (.agg (enc .i32 (zeroA 256)).toArray) (by kernel_rfl) (by kernel_rfl) (by kernel_rfl) ?_)
 intro b6 w gw hs
 refine ⟨fun _ => trivial, ?_⟩
 refine wpS.fin rfl (kr6 _ _ (then_n (ks5 _ _ (xseq_k fun KS7 ks7 => (xseq_k fun KS8 ks8 => (xregS [0] fun KR9 kr9 => ?_))))))
 refine wpS.q 0 7 (.int .i64 0) ?_
 refine wpS.fin rfl (kr9 _ _ (then_n (ks8 _ _ ?_)))
 obtain ⟨y9, hy, hk0⟩ := of_bind h
 refine wp_exq (N := fun a w => St w0 [] [.blk b6 (enc .i32 y9) 32, .blk b5 (enc .i32 r4) 142, .blk b3 (enc .i32 (zeroA 256)) 32, .blk b2 (enc .i32 a1) 32, .blk b1 (enc .i32 a0) 32] [] w ∧ ∃ g11 : Nat → Value, a = ⟨#[.agg (enc .i32 a0).toArray, .agg (enc .i32 a1).toArray, .pointer (some ⟨b1, 0, none⟩), .pointer (some ⟨b2, 0, none⟩), .pointer (some ⟨b3, 0, none⟩), .pointer (some ⟨b5, 0, none⟩), .pointer (some ⟨b6, 0, none⟩), (g11 7), (g11 8), (g11 9), (g11 10), .pointer (some ⟨b5, 0, none⟩), (g11 12), (g11 13), (g11 14), (g11 15), (g11 16), (g11 17), (g11 18), (g11 19), (g11 20), (g11 21), (g11 22), (g11 23), (g11 24), (g11 25), (g11 26), (g11 27), (g11 28), (g11 29), (g11 30), (g11 31), (g11 32), (g11 33), (g11 34), (g11 35), (g11 36), (g11 37), (g11 38), (g11 39), (g11 40), (g11 41), (g11 42), (g11 43), (g11 44), (g11 45), (g11 46), (g11 47), (g11 48), (g11 49), (g11 50), (g11 51), (g11 52), (g11 53), (g11 54), (g11 55), (g11 56), (g11 57), (g11 58), (g11 59), (g11 60), (g11 61), (g11 62), (g11 63), (g11 64), (g11 65), (g11 66), (g11 67), (g11 68), (g11 69), (g11 70), (g11 71), (g11 72), (g11 73), (g11 74), (g11 75), (g11 76), (g11 77), (g11 78), (g11 79), (g11 80), undef], []⟩) (fun N0 nn0 => ?_) ?_
 ·clear hk0
  refine xblock ?_
  refine wp_loop_k (fun n a w => ∃ z7 z8, kq_Mul.l0 K n a0 a1 r4 z7 z8 = some y9 ∧ St w0 [] [.blk b6 (enc .i32 z8) 32, .blk b5 (enc .i32 r4) 142, .blk b3 (enc .i32 (zeroA 256)) 32, .blk b2 (enc .i32 a1) 32, .blk b1 (enc .i32 a0) 32] [] w ∧ ∃ g10 : Nat → Value, a = ⟨#[.agg (enc .i32 a0).toArray, .agg (enc .i32 a1).toArray, .pointer (some ⟨b1, 0, none⟩), .pointer (some ⟨b2, 0, none⟩), .pointer (some ⟨b3, 0, none⟩), .pointer (some ⟨b5, 0, none⟩), .pointer (some ⟨b6, 0, none⟩), .int .i64 z7, (g10 8), (g10 9), (g10 10), .pointer (some ⟨b5, 0, none⟩), (g10 12), (g10 13), (g10 14), (g10 15), (g10 16), (g10 17), (g10 18), (g10 19), (g10 20), (g10 21), (g10 22), (g10 23), (g10 24), (g10 25), (g10 26), (g10 27), (g10 28), (g10 29), (g10 30), (g10 31), (g10 32), (g10 33), (g10 34), (g10 35), (g10 36), (g10 37), (g10 38), (g10 39), (g10 40), (g10 41), (g10 42), (g10 43), (g10 44), (g10 45), (g10 46), (g10 47), (g10 48), (g10 49), (g10 50), (g10 51), (g10 52), (g10 53), (g10 54), (g10 55), (g10 56), (g10 57), (g10 58), (g10 59), (g10 60), (g10 61), (g10 62), (g10 63), (g10 64), (g10 65), (g10 66), (g10 67), (g10 68), (g10 69), (g10 70), (g10 71), (g10 72), (g10 73), (g10 74), (g10 75), (g10 76), (g10 77), (g10 78), (g10 79), (g10 80), undef], []⟩) K ⟨0, (zeroA 256), hy, hs.conv rfl, exg (by kernel_rfl)⟩ ?_
  clear hs h hy
  rintro n a w ⟨z7, z8, h, hs, g10, rfl⟩ KL0 kl0
  cases n with
  | zero => exact nomatch (show none = some _ from h)
  | succ n =>
   refine xseq_k fun KS12 ks12 => ?_
   refine xseq_k fun KS13 ks13 => ?_
   refine xregS [0, 1] fun KR14 kr14 => ?_
   refine wpS.q 0 12 (.int .i64 z7) ?_
   rcases of_if h with ⟨hc, h⟩ | ⟨hc, h⟩
   ·refine wpS.tk 1 false (some 13) (.bool true) (yld_b (dt hc) (fun _ => by kernel_rfl)) ?_
    refine wpS.fin rfl (kr14 _ _ (then_n (ks13 _ _ (wp_cond_t (by kernel_rfl) (xskip (then_n (ks12 _ _ (xseq_k fun KS15 ks15 => (xblock (xseq_k fun KS16 ks16 => (xregS [0, 1, 2, 3, 4, 5, 6, 7] fun KR17 kr17 => ?_)))))))))))
    refine wpS.qs [(0, 16, .pointer (some ⟨b5, 0, none⟩)), (1, 17, .int .i64 z7), (2, 18, .int .i64 (iquo .i64 z7 4)), (3, 19, .int .i64 (iadd .i64 64 (iquo .i64 z7 4))), (4, 20, .pointer (some ⟨b5, 0, none⟩))] ?_
    obtain ⟨x10, hx, h⟩ := of_bind h
    have hx := of_some hx
    subst hx
    obtain ⟨i0_18, h⟩ := of_chk h
    obtain ⟨i1_18, h⟩ := of_chk h
    refine wpS.tk 5 false (some 21) (.pointer (some ⟨b5, 0 + ((iadd .i64 64 (iquo .i64 z7 4)) : Int).toNat * 1, none⟩)) (yld_idx (t := 142) (e := 21) (n := 128) (sz := 1) (k := .i64) (x := (iadd .i64 64 (iquo .i64 z7 4))) (by kernel_rfl) (by kernel_rfl) (by kernel_rfl) i0_18 i1_18) ?_
    refine wpS.tk 6 true (some 22) (.int .i32 (rd r4 (iadd .i64 64 (iquo .i64 z7 4)))) (yld_loadA (e := 21) (x := (iadd .i64 64 (iquo .i64 z7 4))) hs 1 rfl (by kernel_rfl) (by kernel_rfl) i0_18 i1_18 .grow) ?_
    obtain ⟨x11, hx, h⟩ := of_bind h
    refine wpS.tk 7 false (some 8) (.int .i32 x11) (yld_int hx (fun _ => by kernel_rfl)) ?_
    refine wpS.fin rfl (kr17 _ _ (then_n (ks16 _ _ (xseq_k fun KS19 ks19 => ?_))))
    obtain ⟨⟨y13_0, y13_1⟩, hj, h⟩ := of_bind h
    refine wp_join (N := fun a w => ∃ (b12 : Nat), St w0 [] [.blk b12 ([.int .i32 y13_0, .int .i32 y13_1]) 139, .blk b6 (enc .i32 z8) 32, .blk b5 (enc .i32 r4) 142, .blk b3 (enc .i32 (zeroA 256)) 32, .blk b2 (enc .i32 a1) 32, .blk b1 (enc .i32 a0) 32] [] w ∧ ∃ g20 : Nat → Value, a = ⟨#[.agg (enc .i32 a0).toArray, .agg (enc .i32 a1).toArray, .pointer (some ⟨b1, 0, none⟩), .pointer (some ⟨b2, 0, none⟩), .pointer (some ⟨b3, 0, none⟩), .pointer (some ⟨b5, 0, none⟩), .pointer (some ⟨b6, 0, none⟩), .int .i64 z7, .int .i32 x11, .pointer (some ⟨b12, 0, none⟩), (g10 10), .pointer (some ⟨b5, 0, none⟩), .int .i64 z7, .bool true, (g10 14), (g10 15), .pointer (some ⟨b5, 0, none⟩), .int .i64 z7, .int .i64 (iquo .i64 z7 4), .int .i64 (iadd .i64 64 (iquo .i64 z7 4)), .pointer (some ⟨b5, 0, none⟩), .pointer (some ⟨b5, 0 + ((iadd .i64 64 (iquo .i64 z7 4)) : Int).toNat * 1, none⟩), .int .i32 (rd r4 (iadd .i64 64 (iquo .i64 z7 4))), (g20 23), (g20 24), (g20 25), (g20 26), (g20 27), (g20 28), (g20 29), (g20 30), (g20 31), (g20 32), (g20 33), (g20 34), (g20 35), (g20 36), (g20 37), (g20 38), (g20 39), (g20 40), (g10 41), (g10 42), (g10 43), (g10 44), (g10 45), (g10 46), (g10 47), (g10 48), (g10 49), (g10 50), (g10 51), (g10 52), (g10 53), (g10 54), (g10 55), (g10 56), (g10 57), (g10 58), (g10 59), (g10 60), (g10 61), (g10 62), (g10 63), (g10 64), (g10 65), (g10 66), (g10 67), (g10 68), (g10 69), (g10 70), (g10 71), (g10 72), (g10 73), (g10 74), (g10 75), (g10 76), (g10 77), (g10 78), (g10 79), (g10 80), undef], []⟩) (fun N nj => ?_) ?_
    ·clear h
     have h := hj
     refine wp_regG [19] (fun k => True) 20 (by kernel_rfl) (by kernel_rfl) (by kernel_rfl) fun KR21 kr21 => ?_
     have hs := hs.drawn1
     refine wpG.q 0 23 (.int .i64 z7) ?_
     obtain ⟨i0_22, h⟩ := of_chk h
     obtain ⟨i1_22, h⟩ := of_chk h
     refine wpG.tD 1 false (some 24) (.pointer (some ⟨b1, 0 + (z7 : Int).toNat * 1, none⟩)) (yld_idx (t := 32) (e := 21) (n := 256) (sz := 1) (k := .i64) (x := z7) (by kernel_rfl) (by kernel_rfl) (by kernel_rfl) i0_22 i1_22) ?_
     refine wpG.tD 2 true (some 25) (.int .i32 (rd a0 z7)) (yld_loadA (e := 21) (x := z7) hs 4 rfl (by kernel_rfl) (by kernel_rfl) i0_22 i1_22 .grow) ?_
     refine wpG.q 3 26 (.int .i64 z7) ?_
     refine wpG.q 4 27 (.int .i64 (iadd .i64 z7 1)) ?_
     obtain ⟨x14, hx, h⟩ := of_bind h
     have hx := of_some hx
     subst hx
     obtain ⟨i0_23, h⟩ := of_chk h
     obtain ⟨i1_23, h⟩ := of_chk h
     refine wpG.tD 5 false (some 28) (.pointer (some ⟨b1, 0 + ((iadd .i64 z7 1) : Int).toNat * 1, none⟩)) (yld_idx (t := 32) (e := 21) (n := 256) (sz := 1) (k := .i64) (x := (iadd .i64 z7 1)) (by kernel_rfl) (by kernel_rfl) (by kernel_rfl) i0_23 i1_23) ?_
     refine wpG.tD 6 true (some 29) (.int .i32 (rd a0 (iadd .i64 z7 1))) (yld_loadA (e := 21) (x := (iadd .i64 z7 1)) hs 4 rfl (by kernel_rfl) (by kernel_rfl) i0_23 i1_23 .grow) ?_
     refine wpG.q 7 30 (.agg #[.int .i32 (rd a0 z7), .int .i32 (rd a0 (iadd .i64 z7 1))]) ?_
     refine wpG.q 8 31 (.int .i64 z7) ?_
     obtain ⟨i0_24, h⟩ := of_chk h
     obtain ⟨i1_24, h⟩ := of_chk h
     refine wpG.tD 9 false (some 32) (.pointer (some ⟨b2, 0 + (z7 : Int).toNat * 1, none⟩)) (yld_idx (t := 32) (e := 21) (n := 256) (sz := 1) (k := .i64) (x := z7) (by kernel_rfl) (by kernel_rfl) (by kernel_rfl) i0_24 i1_24) ?_
     refine wpG.tD 10 true (some 33) (.int .i32 (rd a1 z7)) (yld_loadA (e := 21) (x := z7) hs 3 rfl (by kernel_rfl) (by kernel_rfl) i0_24 i1_24 .grow) ?_
     refine wpG.q 11 34 (.int .i64 z7) ?_
     refine wpG.q 12 35 (.int .i64 (iadd .i64 z7 1)) ?_
     obtain ⟨x15, hx, h⟩ := of_bind h
     have hx := of_some hx
     subst hx
     obtain ⟨i0_25, h⟩ := of_chk h
     obtain ⟨i1_25, h⟩ := of_chk h
     refine wpG.tD 13 false (some 36) (.pointer (some ⟨b2, 0 + ((iadd .i64 z7 1) : Int).toNat * 1, none⟩)) (yld_idx (t := 32) (e := 21) (n := 256) (sz := 1) (k := .i64) (x := (iadd .i64 z7 1)) (by kernel_rfl) (by kernel_rfl) (by kernel_rfl) i0_25 i1_25) ?_
     refine wpG.tD 14 true (some 37) (.int .i32 (rd a1 (iadd .i64 z7 1))) (yld_loadA (e := 21) (x := (iadd .i64 z7 1)) hs 3 rfl (by kernel_rfl) (by kernel_rfl) i0_25 i1_25 .grow) ?_
     refine wpG.q 15 38 (.agg #[.int .i32 (rd a1 z7), .int .i32 (rd a1 (iadd .i64 z7 1))]) ?_
     refine wpG.q 16 39 (.int .i32 x11) ?_
     refine wpG.many [17, 18] (by kernel_rfl) (by decide) (forall_cons ?_ (forall_cons ?_ forall_nil))
     ·obtain ⟨⟨r16_0, r16_1⟩, hg, h⟩ := of_bind h
      refine (op_call (d := (some 40)) (by kernel_rfl) hs (fun _ => by kernel_rfl) (kq_pair_times.ok hg _) ?_)
      intro w gw hs
      refine ⟨.of gw, ?_⟩
      refine wpG.only 18 (by kernel_rfl) (op_alloc (t := 139) (d := (some 9)) (by kernel_rfl) hs ([.int .i32 0, .int .i32 0]) (.agg #[.int .i32 0, .int .i32 0]) (by kernel_rfl) (by kernel_rfl) (by kernel_rfl) ?_)
      intro b17 w gw hs
      refine ⟨.of gw, ?_⟩
      refine wpG.only 19 (by kernel_rfl) (op_storeW (t := 139) (v := .agg #[.int .i32 r16_0, .int .i32 r16_1]) (d := none) (by kernel_rfl) hs 0 rfl (vs := [.int .i32 r16_0, .int .i32 r16_1]) (n := 2) (by kernel_rfl) (by kernel_rfl) (by kernel_rfl) (by simp [enc_len]) (by simp [enc_len]) (by simp [Value.oneCell']) ?_)
      intro w kp hs
      refine ⟨⟨fun hf => absurd hf (by decide), .all _ _⟩, ?_⟩
      refine wpG.fin (by kernel_rfl) rfl (kr21 _ _ ?_)
      obtain ⟨q0, qr0⟩ := Prod.mk.inj (of_some h)
      have q1 := qr0
      subst q0
      subst q1
      exact nj _ _ ⟨b17, (hs.conv rfl), exg (by kernel_rfl)⟩
     refine (op_alloc (t := 139) (d := (some 9)) (by kernel_rfl) hs ([.int .i32 0, .int .i32 0]) (.agg #[.int .i32 0, .int .i32 0]) (by kernel_rfl) (by kernel_rfl) (by kernel_rfl) ?_)
     intro b18 w gw hs
     refine ⟨.of gw, ?_⟩
     obtain ⟨⟨r19_0, r19_1⟩, hg, h⟩ := of_bind h
     refine wpG.only 17 (by kernel_rfl) (op_call (d := (some 40)) (by kernel_rfl) hs (fun _ => by kernel_rfl) (kq_pair_times.ok hg _) ?_)
     intro w gw hs
     refine ⟨.of gw, ?_⟩
     refine wpG.only 19 (by kernel_rfl) (op_storeW (t := 139) (v := .agg #[.int .i32 r19_0, .int .i32 r19_1]) (d := none) (by kernel_rfl) hs 0 rfl (vs := [.int .i32 r19_0, .int .i32 r19_1]) (n := 2) (by kernel_rfl) (by kernel_rfl) (by kernel_rfl) (by simp [enc_len]) (by simp [enc_len]) (by simp [Value.oneCell']) ?_)
     intro w kp hs
     refine ⟨⟨fun hf => absurd hf (by decide), .all _ _⟩, ?_⟩
     refine wpG.fin (by kernel_rfl) rfl (kr21 _ _ ?_)
     obtain ⟨q0, qr0⟩ := Prod.mk.inj (of_some h)
     have q1 := qr0
     subst q0
     subst q1
     exact nj _ _ ⟨b18, (hs.conv rfl), exg (by kernel_rfl)⟩
    clear hj hs
    rintro a w ⟨b12, hs, g20, rfl⟩
    refine then_n (ks19 _ _ (xseq_k fun KS26 ks26 => ?_))
    obtain ⟨⟨y21_0, y21_1⟩, hj, h⟩ := of_bind h
    refine wp_join (N := fun a w => ∃ (b20 : Nat), St w0 [] [.blk b20 ([.int .i32 y21_0, .int .i32 y21_1]) 139, .blk b12 ([.int .i32 y13_0, .int .i32 y13_1]) 139, .blk b6 (enc .i32 z8) 32, .blk b5 (enc .i32 r4) 142, .blk b3 (enc .i32 (zeroA 256)) 32, .blk b2 (enc .i32 a1) 32, .blk b1 (enc .i32 a0) 32] [] w ∧ ∃ g27 : Nat → Value, a = ⟨#[.agg (enc .i32 a0).toArray, .agg (enc .i32 a1).toArray, .pointer (some ⟨b1, 0, none⟩), .pointer (some ⟨b2, 0, none⟩), .pointer (some ⟨b3, 0, none⟩), .pointer (some ⟨b5, 0, none⟩), .pointer (some ⟨b6, 0, none⟩), .int .i64 z7, .int .i32 x11, .pointer (some ⟨b12, 0, none⟩), .pointer (some ⟨b20, 0, none⟩), .pointer (some ⟨b5, 0, none⟩), .int .i64 z7, .bool true, (g10 14), (g10 15), .pointer (some ⟨b5, 0, none⟩), .int .i64 z7, .int .i64 (iquo .i64 z7 4), .int .i64 (iadd .i64 64 (iquo .i64 z7 4)), .pointer (some ⟨b5, 0, none⟩), .pointer (some ⟨b5, 0 + ((iadd .i64 64 (iquo .i64 z7 4)) : Int).toNat * 1, none⟩), .int .i32 (rd r4 (iadd .i64 64 (iquo .i64 z7 4))), (g20 23), (g20 24), (g20 25), (g20 26), (g20 27), (g20 28), (g20 29), (g20 30), (g20 31), (g20 32), (g20 33), (g20 34), (g20 35), (g20 36), (g20 37), (g20 38), (g20 39), (g20 40), (g27 41), (g27 42), (g27 43), (g27 44), (g27 45), (g27 46), (g27 47), (g27 48), (g27 49), (g27 50), (g27 51), (g27 52), (g27 53), (g27 54), (g27 55), (g27 56), (g27 57), (g27 58), (g27 59), (g27 60), (g27 61), (g10 62), (g10 63), (g10 64), (g10 65), (g10 66), (g10 67), (g10 68), (g10 69), (g10 70), (g10 71), (g10 72), (g10 73), (g10 74), (g10 75), (g10 76), (g10 77), (g10 78), (g10 79), (g10 80), undef], []⟩) (fun N nj => ?_) ?_
    ·clear h
     have h := hj
     refine wp_regG [22] (fun k => True) 23 (by kernel_rfl) (by kernel_rfl) (by kernel_rfl) fun KR28 kr28 => ?_
     have hs := hs.drawn1
     refine wpG.q 0 41 (.int .i64 z7) ?_
     refine wpG.q 1 42 (.int .i64 (iadd .i64 z7 2)) ?_
     obtain ⟨x22, hx, h⟩ := of_bind h
     have hx := of_some hx
     subst hx
     obtain ⟨i0_29, h⟩ := of_chk h
     obtain ⟨i1_29, h⟩ := of_chk h
     refine wpG.tD 2 false (some 43) (.pointer (some ⟨b1, 0 + ((iadd .i64 z7 2) : Int).toNat * 1, none⟩)) (yld_idx (t := 32) (e := 21) (n := 256) (sz := 1) (k := .i64) (x := (iadd .i64 z7 2)) (by kernel_rfl) (by kernel_rfl) (by kernel_rfl) i0_29 i1_29) ?_
     refine wpG.tD 3 true (some 44) (.int .i32 (rd a0 (iadd .i64 z7 2))) (yld_loadA (e := 21) (x := (iadd .i64 z7 2)) hs 5 rfl (by kernel_rfl) (by kernel_rfl) i0_29 i1_29 .grow) ?_
     refine wpG.q 4 45 (.int .i64 z7) ?_
     refine wpG.q 5 46 (.int .i64 (iadd .i64 z7 3)) ?_
     obtain ⟨x23, hx, h⟩ := of_bind h
     have hx := of_some hx
     subst hx
     obtain ⟨i0_30, h⟩ := of_chk h
     obtain ⟨i1_30, h⟩ := of_chk h
     refine wpG.tD 6 false (some 47) (.pointer (some ⟨b1, 0 + ((iadd .i64 z7 3) : Int).toNat * 1, none⟩)) (yld_idx (t := 32) (e := 21) (n := 256) (sz := 1) (k := .i64) (x := (iadd .i64 z7 3)) (by kernel_rfl) (by kernel_rfl) (by kernel_rfl) i0_30 i1_30) ?_
     refine wpG.tD 7 true (some 48) (.int .i32 (rd a0 (iadd .i64 z7 3))) (yld_loadA (e := 21) (x := (iadd .i64 z7 3)) hs 5 rfl (by kernel_rfl) (by kernel_rfl) i0_30 i1_30 .grow) ?_
     refine wpG.q 8 49 (.agg #[.int .i32 (rd a0 (iadd .i64 z7 2)), .int .i32 (rd a0 (iadd .i64 z7 3))]) ?_
     refine wpG.q 9 50 (.int .i64 z7) ?_
     refine wpG.q 10 51 (.int .i64 (iadd .i64 z7 2)) ?_
     obtain ⟨x24, hx, h⟩ := of_bind h
     have hx := of_some hx
     subst hx
     obtain ⟨i0_31, h⟩ := of_chk h
     obtain ⟨i1_31, h⟩ := of_chk h
     refine wpG.tD 11 false (some 52) (.pointer (some ⟨b2, 0 + ((iadd .i64 z7 2) : Int).toNat * 1, none⟩)) (yld_idx (t := 32) (e := 21) (n := 256) (sz := 1) (k := .i64) (x := (iadd .i64 z7 2)) (by kernel_rfl) (by kernel_rfl) (by kernel_rfl) i0_31 i1_31) ?_
     refine wpG.tD 12 true (some 53) (.int .i32 (rd a1 (iadd .i64 z7 2))) (yld_loadA (e := 21) (x := (iadd .i64 z7 2)) hs 4 rfl (by kernel_rfl) (by kernel_rfl) i0_31 i1_31 .grow) ?_
     refine wpG.q 13 54 (.int .i64 z7) ?_
     refine wpG.q 14 55 (.int .i64 (iadd .i64 z7 3)) ?_
     obtain ⟨x25, hx, h⟩ := of_bind h
     have hx := of_some hx
     subst hx
     obtain ⟨i0_32, h⟩ := of_chk h
     obtain ⟨i1_32, h⟩ := of_chk h
     refine wpG.tD 15 false (some 56) (.pointer (some ⟨b2, 0 + ((iadd .i64 z7 3) : Int).toNat * 1, none⟩)) (yld_idx (t := 32) (e := 21) (n := 256) (sz := 1) (k := .i64) (x := (iadd .i64 z7 3)) (by kernel_rfl) (by kernel_rfl) (by kernel_rfl) i0_32 i1_32) ?_
     refine wpG.tD 16 true (some 57) (.int .i32 (rd a1 (iadd .i64 z7 3))) (yld_loadA (e := 21) (x := (iadd .i64 z7 3)) hs 4 rfl (by kernel_rfl) (by kernel_rfl) i0_32 i1_32 .grow) ?_
     refine wpG.q 17 58 (.agg #[.int .i32 (rd a1 (iadd .i64 z7 2)), .int .i32 (rd a1 (iadd .i64 z7 3))]) ?_
     refine wpG.q 18 59 (.int .i32 x11) ?_
     refine wpG.q 19 60 (.int .i32 (isub .i32 3329 x11)) ?_
     refine wpG.many [20, 21] (by kernel_rfl) (by decide) (forall_cons ?_ (forall_cons ?_ forall_nil))
     ·obtain ⟨⟨r26_0, r26_1⟩, hg, h⟩ := of_bind h
      refine (op_call (d := (some 61)) (by kernel_rfl) hs (fun _ => by kernel_rfl) (kq_pair_times.ok hg _) ?_)
      intro w gw hs
      refine ⟨.of gw, ?_⟩
      refine wpG.only 21 (by kernel_rfl) (op_alloc (t := 139) (d := (some 10)) (by kernel_rfl) hs ([.int .i32 0, .int .i32 0]) (.agg #[.int .i32 0, .int .i32 0]) (by kernel_rfl) (by kernel_rfl) (by kernel_rfl) ?_)
      intro b27 w gw hs
      refine ⟨.of gw, ?_⟩
      refine wpG.only 22 (by kernel_rfl) (op_storeW (t := 139) (v := .agg #[.int .i32 r26_0, .int .i32 r26_1]) (d := none) (by kernel_rfl) hs 0 rfl (vs := [.int .i32 r26_0, .int .i32 r26_1]) (n := 2) (by kernel_rfl) (by kernel_rfl) (by kernel_rfl) (by simp [enc_len]) (by simp [enc_len]) (by simp [Value.oneCell']) ?_)
      intro w kp hs
      refine ⟨⟨fun hf => absurd hf (by decide), .all _ _⟩, ?_⟩
      refine wpG.fin (by kernel_rfl) rfl (kr28 _ _ ?_)
      obtain ⟨q0, qr0⟩ := Prod.mk.inj (of_some h)
      have q1 := qr0
      subst q0
      subst q1
      exact nj _ _ ⟨b27, (hs.conv rfl), exg (by kernel_rfl)⟩
     refine (op_alloc (t := 139) (d := (some 10)) (by kernel_rfl) hs ([.int .i32 0, .int .i32 0]) (.agg #[.int .i32 0, .int .i32 0]) (by kernel_rfl) (by kernel_rfl) (by kernel_rfl) ?_)
     intro b28 w gw hs
     refine ⟨.of gw, ?_⟩
     obtain ⟨⟨r29_0, r29_1⟩, hg, h⟩ := of_bind h
     refine wpG.only 20 (by kernel_rfl) (op_call (d := (some 61)) (by kernel_rfl) hs (fun _ => by kernel_rfl) (kq_pair_times.ok hg _) ?_)
     intro w gw hs
     refine ⟨.of gw, ?_⟩
     refine wpG.only 22 (by kernel_rfl) (op_storeW (t := 139) (v := .agg #[.int .i32 r29_0, .int .i32 r29_1]) (d := none) (by kernel_rfl) hs 0 rfl (vs := [.int .i32 r29_0, .int .i32 r29_1]) (n := 2) (by kernel_rfl) (by kernel_rfl) (by kernel_rfl) (by simp [enc_len]) (by simp [enc_len]) (by simp [Value.oneCell']) ?_)
     intro w kp hs
     refine ⟨⟨fun hf => absurd hf (by decide), .all _ _⟩, ?_⟩
     refine wpG.fin (by kernel_rfl) rfl (kr28 _ _ ?_)
     obtain ⟨q0, qr0⟩ := Prod.mk.inj (of_some h)
     have q1 := qr0
     subst q0
     subst q1
     exact nj _ _ ⟨b28, (hs.conv rfl), exg (by kernel_rfl)⟩
    clear hj hs
    rintro a w ⟨b20, hs, g27, rfl⟩
    refine then_n (ks26 _ _ ?_)
    refine wp_regG [16, 18, 20, 22] (fun k => ¬ (k = b20 ∨ k = b12)) 23 (by kernel_rfl) (by kernel_rfl) (by kernel_rfl) fun KR33 kr33 => ?_
    have hs := hs.drawn1
    refine wpG.q 0 62 (.int .i64 z7) ?_
    refine wpG.q 1 63 (.int .i64 z7) ?_
    refine wpG.q 2 64 (.int .i64 (iadd .i64 z7 1)) ?_
    refine wpG.q 3 65 (.int .i64 z7) ?_
    refine wpG.q 4 66 (.int .i64 (iadd .i64 z7 2)) ?_
    refine wpG.q 5 67 (.int .i64 z7) ?_
    refine wpG.q 6 68 (.int .i64 (iadd .i64 z7 3)) ?_
    refine wpG.q 7 69 (.pointer (some ⟨b12, 0, none⟩)) ?_
    refine wpG.tD 8 true (some 70) (.int .i32 y13_0) (yld_load1 (e := 21) (o := 0) hs 1 rfl (by kernel_rfl) (by kernel_rfl) (by rfl) .grow) ?_
    refine wpG.q 9 71 (.pointer (some ⟨b12, 1, none⟩)) ?_
    refine wpG.takeK [10, 17, 18, 19, 20, 21, 22] 10 (some 72) (.int .i32 y13_1) (by kernel_rfl) (by kernel_rfl) (yld_load1 (e := 21) (o := 1) hs 1 rfl (by kernel_rfl) (by kernel_rfl) (by rfl) (.keep (fun hn => hn (.inr rfl)))) ?_
    refine wpG.q 11 73 (.pointer (some ⟨b20, 0, none⟩)) ?_
    refine wpG.takeK [12, 19, 20, 21, 22] 12 (some 74) (.int .i32 y21_0) (by kernel_rfl) (by kernel_rfl) (yld_load1 (e := 21) (o := 0) hs 0 rfl (by kernel_rfl) (by kernel_rfl) (by rfl) (.keep (fun hn => hn (.inl rfl)))) ?_
    refine wpG.q 13 75 (.pointer (some ⟨b20, 1, none⟩)) ?_
    refine wpG.takeK [14, 21, 22] 14 (some 76) (.int .i32 y21_1) (by kernel_rfl) (by kernel_rfl) (yld_load1 (e := 21) (o := 1) hs 0 rfl (by kernel_rfl) (by kernel_rfl) (by rfl) (.keep (fun hn => hn (.inl rfl)))) ?_
    obtain ⟨i0_34, h⟩ := of_chk h
    obtain ⟨i1_34, h⟩ := of_chk h
    refine wpG.tD 15 false (some 77) (.pointer (some ⟨b6, 0 + (z7 : Int).toNat * 1, none⟩)) (yld_idx (t := 32) (e := 21) (n := 256) (sz := 1) (k := .i64) (x := z7) (by kernel_rfl) (by kernel_rfl) (by kernel_rfl) i0_34 i1_34) ?_
    have hsB42 := hs
    refine wpG.only 16 (by kernel_rfl) (op_storeA (t := 21) (x := z7) (v := y13_0) (d := none) (by kernel_rfl) hs 2 rfl (by kernel_rfl) (by kernel_rfl) i0_34 i1_34 ?_)
    intro w kp hs
    refine ⟨⟨fun hf => absurd hf (by decide), (keepB2 (hsB42.blkAt 0 rfl) (hs.blkAt 0 rfl) (keepB1 (hsB42.blkAt 1 rfl) (hs.blkAt 1 rfl)))⟩, ?_⟩
    obtain ⟨x30, hx, h⟩ := of_bind h
    have hx := of_some hx
    subst hx
    obtain ⟨i0_35, h⟩ := of_chk h
    obtain ⟨i1_35, h⟩ := of_chk h
    refine wpG.tD 17 false (some 78) (.pointer (some ⟨b6, 0 + ((iadd .i64 z7 1) : Int).toNat * 1, none⟩)) (yld_idx (t := 32) (e := 21) (n := 256) (sz := 1) (k := .i64) (x := (iadd .i64 z7 1)) (by kernel_rfl) (by kernel_rfl) (by kernel_rfl) i0_35 i1_35) ?_
    have hsB41 := hs
    refine wpG.only 18 (by kernel_rfl) (op_storeA (t := 21) (x := (iadd .i64 z7 1)) (v := y13_1) (d := none) (by kernel_rfl) hs 2 rfl (by kernel_rfl) (by kernel_rfl) i0_35 i1_35 ?_)
    intro w kp hs
    refine ⟨⟨fun hf => absurd hf (by decide), (keepB2 (hsB41.blkAt 0 rfl) (hs.blkAt 0 rfl) (keepB1 (hsB41.blkAt 1 rfl) (hs.blkAt 1 rfl)))⟩, ?_⟩
    obtain ⟨x31, hx, h⟩ := of_bind h
    have hx := of_some hx
    subst hx
    obtain ⟨i0_36, h⟩ := of_chk h
    obtain ⟨i1_36, h⟩ := of_chk h
    refine wpG.tD 19 false (some 79) (.pointer (some ⟨b6, 0 + ((iadd .i64 z7 2) : Int).toNat * 1, none⟩)) (yld_idx (t := 32) (e := 21) (n := 256) (sz := 1) (k := .i64) (x := (iadd .i64 z7 2)) (by kernel_rfl) (by kernel_rfl) (by kernel_rfl) i0_36 i1_36) ?_
    have hsB40 := hs
    refine wpG.only 20 (by kernel_rfl) (op_storeA (t := 21) (x := (iadd .i64 z7 2)) (v := y21_0) (d := none) (by kernel_rfl) hs 2 rfl (by kernel_rfl) (by kernel_rfl) i0_36 i1_36 ?_)
    intro w kp hs
    refine ⟨⟨fun hf => absurd hf (by decide), (keepB2 (hsB40.blkAt 0 rfl) (hs.blkAt 0 rfl) (keepB1 (hsB40.blkAt 1 rfl) (hs.blkAt 1 rfl)))⟩, ?_⟩
    obtain ⟨x32, hx, h⟩ := of_bind h
    have hx := of_some hx
    subst hx
    obtain ⟨i0_37, h⟩ := of_chk h
    obtain ⟨i1_37, h⟩ := of_chk h
    refine wpG.tD 21 false (some 80) (.pointer (some ⟨b6, 0 + ((iadd .i64 z7 3) : Int).toNat * 1, none⟩)) (yld_idx (t := 32) (e := 21) (n := 256) (sz := 1) (k := .i64) (x := (iadd .i64 z7 3)) (by kernel_rfl) (by kernel_rfl) (by kernel_rfl) i0_37 i1_37) ?_
    have hsB39 := hs
    refine wpG.only 22 (by kernel_rfl) (op_storeA (t := 21) (x := (iadd .i64 z7 3)) (v := y21_1) (d := none) (by kernel_rfl) hs 2 rfl (by kernel_rfl) (by kernel_rfl) i0_37 i1_37 ?_)
    intro w kp hs
    refine ⟨⟨fun hf => absurd hf (by decide), (keepB2 (hsB39.blkAt 0 rfl) (hs.blkAt 0 rfl) (keepB1 (hsB39.blkAt 1 rfl) (hs.blkAt 1 rfl)))⟩, ?_⟩
    refine wpG.fin (by kernel_rfl) rfl (kr33 _ _ ?_)
    refine inBlock_n (then_n (ks15 _ _ (xregS [0, 1, 2] fun KR38 kr38 => ?_)))
    refine wpS.qs [(0, 14, .int .i64 z7), (1, 15, .int .i64 (iadd .i64 z7 4))] ?_
    obtain ⟨x33, hx, h⟩ := of_bind h
    refine wpS.tk 2 false (some 7) (.int .i64 x33) (yld_int hx (fun _ => by kernel_rfl)) ?_
    refine wpS.fin rfl (kr38 _ _ ?_)
    exact then_n (kl0 _ _ ⟨n, Nat.lt_succ_self n, x33, (wr (wr (wr (wr z8 z7 y13_0) (iadd .i64 z7 1) y13_1) (iadd .i64 z7 2) y21_0) (iadd .i64 z7 3) y21_1), h, (hs.drop (.cons _ (.cons _ (.cons_cons _ (.cons_cons _ (.cons_cons _ (.cons_cons _ (.cons_cons _ .slnil)))))))), exg (by kernel_rfl)⟩)
   refine wpS.tk 1 false (some 13) (.bool false) (yld_b (df hc) (fun _ => by kernel_rfl)) ?_
   refine wpS.fin rfl (kr14 _ _ (then_n (ks13 _ _ (wp_cond_f (by kernel_rfl) (xexit (then_x (then_x (inBlock_hit ?_))))))))
   have q0 := of_some h
   subst q0
   exact exq_n (nn0 _ _ ⟨(hs.conv rfl), exg (by kernel_rfl)⟩)
 clear hs h hy
 rintro a w ⟨hs, g11, rfl⟩
 have h := hk0
 refine then_n (ks7 _ _ (xseq_k fun KS43 ks43 => (xregS [0, 1] fun KR44 kr44 => ?_)))
 refine wpS.tk 0 true (some 81) (.agg (enc .i32 y9).toArray) (yld_loadW (e := 32) (n := 256) hs 0 rfl (by kernel_rfl) (by kernel_rfl) (by kernel_rfl) (by exact enc_len _ _) .grow) ?_
 refine wpS.only 1 (op_storeW (t := 32) (v := .agg (enc .i32 y9).toArray) (d := none) (by kernel_rfl) hs 2 rfl (vs := enc .i32 y9) (n := 256) (by kernel_rfl) (by kernel_rfl) (by kernel_rfl) (by simp [enc_len]) (by simp [enc_len]) (by intro u hu; exact enc_one _ _ u hu) ?_)
 intro w kp hs
 refine ⟨fun _ => trivial, ?_⟩
 refine wpS.fin rfl (kr44 _ _ (then_n (ks43 _ _ (xret ?_))))
 have q0 := of_some h
 subst q0
 exact qq _ _ (post_ret (by kernel_rfl) (run_results [.cell 4 32] [.agg (enc .i32 y9).toArray] (by kernel_rfl) (.cons (res_cellN (n := 256) hs 2 rfl (by kernel_rfl) (by kernel_rfl) (by kernel_rfl) (by exact enc_len _ _)) .nil)) ⟨congrArg Ending.returned (by kernel_rfl), hs.none⟩)

theorem kpke_vector_dot.ok {K : Nat} {a0 : List (Arr 256)} {a1 : List (Arr 256)} {r0 : Arr 256} {a0_A : Option Addr} {a0_n : Nat} {a0_c : Nat} {a1_A : Option Addr} {a1_n : Nat} {a1_c : Nat} (h : kpke_vector_dot.f K a0 a1 = some r0) (w0 : World) (hp0 : RowL (CA .i32 256 (by decide)) w0 a0_A a0_n a0_c a0) (hp1 : RowL (CA .i32 256 (by decide)) w0 a1_A a1_n a1_c a1) : Ret Tryd.prog 46 #[.slice a0_A a0_n a0_c, .slice a1_A a1_n a1_c] w0 (.agg (enc .i32 r0).toArray) := by
 refine calls_k Tryd.func46 rfl fun Q qq => ?_
 have hs := St.startR (all_cons (RowP.ent hp0) (all_cons (RowP.ent hp1) all_nil))
 refine wp_conv (a' := ⟨#[.slice a0_A a0_n a0_c, .slice a1_A a1_n a1_c, undef, undef, undef, undef, undef, undef, undef, undef, undef, undef, undef, undef, undef, undef, undef, undef, undef, undef, undef, undef, undef, undef, undef], []⟩) (by kernel_rfl) ?_
 refine xseq_k fun KS1 ks1 => ?_
 refine xregS [0] fun KR2 kr2 => ?_
 refine wpS.only 0 (op_alloc (t := 32) (d := (some 4)) (by kernel_rfl) hs (enc .i32 (zeroA 256)) (.agg (enc .i32 (zeroA 256)).toArray) (by kernel_rfl) (by kernel_rfl) (by kernel_rfl) ?_)
 intro b1 w gw hs
 refine ⟨fun _ => trivial, ?_⟩
 refine wpS.fin rfl (kr2 _ _ (then_n (ks1 _ _ (xseq_k fun KS3 ks3 => (xregS [0] fun KR4 kr4 => ?_)))))
 refine wpS.only 0 (op_alloc (t := 32) (d := (some 5)) (by kernel_rfl) hs (enc .i32 (zeroA 256)) (.agg (enc .i32 (zeroA 256)).toArray) (by kernel_rfl) (by kernel_rfl) (by kernel_rfl) ?_)
 intro b2 w gw hs
 refine ⟨fun _ => trivial, ?_⟩
 refine wpS.fin rfl (kr4 _ _ (then_n (ks3 _ _ (xseq_k fun KS5 ks5 => (xseq_k fun KS6 ks6 => (xregS [0, 1, 2] fun KR7 kr7 => ?_))))))
 refine wpS.q 0 8 (.slice a0_A a0_n a0_c) ?_
 refine wpS.tk 1 false (some 9) (.int .i64 (a0.length : Int)) (yld_lenL (hs.rowR 0 rfl) (fun _ => by kernel_rfl)) ?_
 refine wpS.q 2 10 (.int .i64 0) ?_
 refine wpS.fin rfl (kr7 _ _ (then_n (ks6 _ _ ?_)))
 obtain ⟨y5, hy, hk0⟩ := of_bind h
 refine wp_exq (N := fun a w => St w0 [] [.blk b2 (enc .i32 y5) 32, .blk b1 (enc .i32 (zeroA 256)) 32] [.rowL (CA .i32 256 (by decide)) a0_A a0_n a0_c a0, .rowL (CA .i32 256 (by decide)) a1_A a1_n a1_c a1] w ∧ ∃ g9 : Nat → Value, a = ⟨#[.slice a0_A a0_n a0_c, .slice a1_A a1_n a1_c, undef, undef, .pointer (some ⟨b1, 0, none⟩), .pointer (some ⟨b2, 0, none⟩), (g9 6), (g9 7), .slice a0_A a0_n a0_c, .int .i64 (a0.length : Int), (g9 10), (g9 11), (g9 12), (g9 13), (g9 14), (g9 15), (g9 16), (g9 17), (g9 18), (g9 19), (g9 20), (g9 21), (g9 22), (g9 23), undef], []⟩) (fun N0 nn0 => ?_) ?_
 ·clear hk0
  refine xblock ?_
  refine wp_loop_k (fun n a w => ∃ z3 z4, kpke_vector_dot.l0 K n a0 a1 z3 z4 = some y5 ∧ St w0 [] [.blk b2 (enc .i32 z4) 32, .blk b1 (enc .i32 (zeroA 256)) 32] [.rowL (CA .i32 256 (by decide)) a0_A a0_n a0_c a0, .rowL (CA .i32 256 (by decide)) a1_A a1_n a1_c a1] w ∧ ∃ g8 : Nat → Value, a = ⟨#[.slice a0_A a0_n a0_c, .slice a1_A a1_n a1_c, undef, undef, .pointer (some ⟨b1, 0, none⟩), .pointer (some ⟨b2, 0, none⟩), (g8 6), (g8 7), .slice a0_A a0_n a0_c, .int .i64 (a0.length : Int), .int .i64 z3, (g8 11), (g8 12), (g8 13), (g8 14), (g8 15), (g8 16), (g8 17), (g8 18), (g8 19), (g8 20), (g8 21), (g8 22), (g8 23), undef], []⟩) K ⟨0, (zeroA 256), hy, hs.conv rfl, exg (by kernel_rfl)⟩ ?_
  clear hs h hy
  rintro n a w ⟨z3, z4, h, hs, g8, rfl⟩ KL0 kl0
  cases n with
  | zero => exact nomatch (show none = some _ from h)
  | succ n =>
   refine xseq_k fun KS10 ks10 => ?_
   refine xregS [0] fun KR11 kr11 => ?_
   rcases of_if h with ⟨hc, h⟩ | ⟨hc, h⟩
   ·refine wpS.tk 0 false (some 11) (.bool true) (yld_b (dt hc) (fun _ => by kernel_rfl)) ?_
    refine wpS.fin rfl (kr11 _ _ (then_n (ks10 _ _ (xseq_k fun KS12 ks12 => (wp_cond_t (by kernel_rfl) (xskip (then_n (ks12 _ _ (xseq_k fun KS13 ks13 => (xblock (xseq_k fun KS14 ks14 => (xregS [0, 1, 2, 3, 4, 5] fun KR15 kr15 => ?_))))))))))))
    refine wpS.q 0 12 (.int .i64 z3) ?_
    obtain ⟨h0, h⟩ := of_chk h
    obtain ⟨h1, h⟩ := of_chk h
    have i0_16 := h0
    have i1_16 := h1
    refine wpS.tk 1 false (some 13) (.pointer (adr a0_A ((z3 : Int).toNat * Cod.size (CA .i32 256 (by decide))))) (yld_idxL (C := (CA .i32 256 (by decide))) (t := 78) (e := 32) (k := .i64) (x := z3) (hs.rowR 0 rfl) (by kernel_rfl) (by kernel_rfl) (by kernel_rfl) h0 h1) ?_
    refine wpS.tk 2 true (some 14) (.agg (enc .i32 (rdL (CA .i32 256 (by decide)) a0 z3)).toArray) (yld_loadLA (C := (CA .i32 256 (by decide))) (e := 32) (x := z3) (hs.rowR 0 rfl) (by kernel_rfl) rfl (by kernel_rfl) (by kernel_rfl) i0_16 i1_16) ?_
    refine wpS.only 3 (op_alloc (t := 32) (d := (some 7)) (by kernel_rfl) hs (enc .i32 (zeroA 256)) (.agg (enc .i32 (zeroA 256)).toArray) (by kernel_rfl) (by kernel_rfl) (by kernel_rfl) ?_)
    intro b6 w gw hs
    refine ⟨fun _ => trivial, ?_⟩
    refine wpS.q 4 6 (.int .i64 z3) ?_
    refine wpS.only 5 (op_storeW (t := 32) (v := .agg (enc .i32 (rdL (CA .i32 256 (by decide)) a0 z3)).toArray) (d := none) (by kernel_rfl) hs 0 rfl (vs := enc .i32 (rdL (CA .i32 256 (by decide)) a0 z3)) (n := 256) (by kernel_rfl) (by kernel_rfl) (by kernel_rfl) (by simp [enc_len]) (by simp [enc_len]) (by intro u hu; exact enc_one _ _ u hu) ?_)
    intro w kp hs
    refine ⟨fun _ => trivial, ?_⟩
    refine wpS.fin rfl (kr15 _ _ (then_n (ks14 _ _ ?_)))
    refine wp_regG [8] (fun k => True) 9 (by kernel_rfl) (by kernel_rfl) (by kernel_rfl) fun KR17 kr17 => ?_
    have hs := hs.drawn1
    refine wpG.tD 0 true (some 15) (.agg (enc .i32 z4).toArray) (yld_loadW (e := 32) (n := 256) hs 1 rfl (by kernel_rfl) (by kernel_rfl) (by kernel_rfl) (by exact enc_len _ _) .grow) ?_
    refine wpG.tD 1 true (some 16) (.agg (enc .i32 (rdL (CA .i32 256 (by decide)) a0 z3)).toArray) (yld_loadW (e := 32) (n := 256) hs 0 rfl (by kernel_rfl) (by kernel_rfl) (by kernel_rfl) (by exact enc_len _ _) .grow) ?_
    refine wpG.q 2 17 (.slice a1_A a1_n a1_c) ?_
    refine wpG.q 3 18 (.int .i64 z3) ?_
    obtain ⟨h0, h⟩ := of_chk h
    obtain ⟨h1, h⟩ := of_chk h
    have i0_18 := h0
    have i1_18 := h1
    refine wpG.tD 4 false (some 19) (.pointer (adr a1_A ((z3 : Int).toNat * Cod.size (CA .i32 256 (by decide))))) (yld_idxL (C := (CA .i32 256 (by decide))) (t := 78) (e := 32) (k := .i64) (x := z3) (hs.rowR 1 rfl) (by kernel_rfl) (by kernel_rfl) (by kernel_rfl) h0 h1) ?_
    refine wpG.tD 5 true (some 20) (.agg (enc .i32 (rdL (CA .i32 256 (by decide)) a1 z3)).toArray) (yld_loadLA (C := (CA .i32 256 (by decide))) (e := 32) (x := z3) (hs.rowR 1 rfl) (by kernel_rfl) rfl (by kernel_rfl) (by kernel_rfl) i0_18 i1_18) ?_
    obtain ⟨r7, hg, h⟩ := of_bind h
    refine wpG.only 6 (by kernel_rfl) (op_call (d := (some 21)) (by kernel_rfl) hs (fun _ => by kernel_rfl) (kq_Mul.ok hg _) ?_)
    intro w gw hs
    refine ⟨.of gw, ?_⟩
    obtain ⟨r8, hg, h⟩ := of_bind h
    refine wpG.only 7 (by kernel_rfl) (op_call (d := (some 22)) (by kernel_rfl) hs (fun _ => by kernel_rfl) (kq_Add.ok hg _) ?_)
    intro w gw hs
    refine ⟨.of gw, ?_⟩
    refine wpG.only 8 (by kernel_rfl) (op_storeW (t := 32) (v := .agg (enc .i32 r8).toArray) (d := none) (by kernel_rfl) hs 1 rfl (vs := enc .i32 r8) (n := 256) (by kernel_rfl) (by kernel_rfl) (by kernel_rfl) (by simp [enc_len]) (by simp [enc_len]) (by intro u hu; exact enc_one _ _ u hu) ?_)
    intro w kp hs
    refine ⟨⟨fun hf => absurd hf (by decide), .all _ _⟩, ?_⟩
    refine wpG.fin (by kernel_rfl) rfl (kr17 _ _ ?_)
    refine inBlock_n (then_n (ks13 _ _ (xregS [0, 1] fun KR19 kr19 => ?_)))
    refine wpS.qs [(0, 23, .int .i64 (iadd .i64 z3 1)), (1, 10, .int .i64 (iadd .i64 z3 1))] ?_
    refine wpS.fin rfl (kr19 _ _ ?_)
    exact then_n (kl0 _ _ ⟨n, Nat.lt_succ_self n, (iadd .i64 z3 1), r8, h, (hs.drop (.cons _ (.cons_cons _ (.cons_cons _ .slnil)))), exg (by kernel_rfl)⟩)
   refine wpS.tk 0 false (some 11) (.bool false) (yld_b (df hc) (fun _ => by kernel_rfl)) ?_
   refine wpS.fin rfl (kr11 _ _ (then_n (ks10 _ _ (xseq_k fun KS20 ks20 => (wp_cond_f (by kernel_rfl) (xexit (then_x (then_x (inBlock_hit ?_)))))))))
   have q0 := of_some h
   subst q0
   exact exq_n (nn0 _ _ ⟨(hs.conv rfl), exg (by kernel_rfl)⟩)
 clear hs h hy
 rintro a w ⟨hs, g9, rfl⟩
 have h := hk0
 refine then_n (ks5 _ _ (xseq_k fun KS21 ks21 => (xregS [0, 1] fun KR22 kr22 => ?_)))
 refine wpS.tk 0 true (some 24) (.agg (enc .i32 y5).toArray) (yld_loadW (e := 32) (n := 256) hs 0 rfl (by kernel_rfl) (by kernel_rfl) (by kernel_rfl) (by exact enc_len _ _) .grow) ?_
 refine wpS.only 1 (op_storeW (t := 32) (v := .agg (enc .i32 y5).toArray) (d := none) (by kernel_rfl) hs 1 rfl (vs := enc .i32 y5) (n := 256) (by kernel_rfl) (by kernel_rfl) (by kernel_rfl) (by simp [enc_len]) (by simp [enc_len]) (by intro u hu; exact enc_one _ _ u hu) ?_)
 intro w kp hs
 refine ⟨fun _ => trivial, ?_⟩
 refine wpS.fin rfl (kr22 _ _ (then_n (ks21 _ _ (xret ?_))))
 have q0 := of_some h
 subst q0
 exact qq _ _ (post_ret (by kernel_rfl) (run_results [.cell 4 32] [.agg (enc .i32 y5).toArray] (by kernel_rfl) (.cons (res_cellN (n := 256) hs 1 rfl (by kernel_rfl) (by kernel_rfl) (by kernel_rfl) (by exact enc_len _ _)) .nil)) ⟨congrArg Ending.returned (by kernel_rfl), hs.none⟩)

theorem kq_below.ok {K : Nat} {a0 : Arr 256} {a1 : Int} {r0 : Bool} (h : kq_below.f K a0 a1 = some r0) (w0 : World) : Ret Tryd.prog 93 #[.agg (enc .i32 a0).toArray, .int .i32 a1] w0 (.bool r0) := by
 refine calls_k Tryd.func93 rfl fun Q qq => ?_
 have hs := St.start w0
 refine wp_conv (a' := ⟨#[.agg (enc .i32 a0).toArray, .int .i32 a1, undef, undef, undef, undef, undef, undef, undef, undef, undef, undef, undef, undef, undef, undef, undef, undef, undef], []⟩) (by kernel_rfl) ?_
 refine xseq_k fun KS1 ks1 => ?_
 refine xregS [0, 1] fun KR2 kr2 => ?_
 refine wpS.only 0 (op_box (t := 32) (v := .agg (enc .i32 a0).toArray) (d := (some 2)) (by kernel_rfl) hs (enc .i32 a0) (by kernel_rfl) (by kernel_rfl) ?_)
 intro b1 w gw hs
 refine ⟨fun _ => trivial, ?_⟩
 refine wpS.q 1 4 (.bool false) ?_
 refine wpS.fin rfl (kr2 _ _ (then_n (ks1 _ _ (xseq_k fun KS3 ks3 => (xseq_k fun KS4 ks4 => (xregS [0, 1] fun KR5 kr5 => ?_))))))
 refine wpS.tk 0 true (some 7) (.agg (enc .i32 a0).toArray) (yld_loadW (e := 32) (n := 256) hs 0 rfl (by kernel_rfl) (by kernel_rfl) (by kernel_rfl) (by exact enc_len _ _) .grow) ?_
 refine wpS.q 1 8 (.int .i64 0) ?_
 refine wpS.fin rfl (kr5 _ _ (then_n (ks4 _ _ ?_)))
 obtain ⟨t0, hy, hk0⟩ := of_bind h
 refine wp_exq (N := fun a w => t0 = .inl () ∧ St w0 [] [.blk b1 (enc .i32 a0) 32] [] w ∧ ∃ g7 : Nat → Value, a = ⟨#[.agg (enc .i32 a0).toArray, .int .i32 a1, .pointer (some ⟨b1, 0, none⟩), undef, (g7 4), undef, (g7 6), .agg (enc .i32 a0).toArray, (g7 8), (g7 9), (g7 10), (g7 11), (g7 12), (g7 13), (g7 14), (g7 15), (g7 16), (g7 17), (g7 18)], []⟩) (fun N0 nn0 => ?_) ?_
 ·refine xblock ?_
  refine wp_loop_k (fun n a w => ∃ z2, kq_below.l0 K n a0 a1 z2 = some t0 ∧ St w0 [] [.blk b1 (enc .i32 a0) 32] [] w ∧ ∃ g6 : Nat → Value, a = ⟨#[.agg (enc .i32 a0).toArray, .int .i32 a1, .pointer (some ⟨b1, 0, none⟩), undef, (g6 4), undef, (g6 6), .agg (enc .i32 a0).toArray, .int .i64 z2, (g6 9), (g6 10), (g6 11), (g6 12), (g6 13), (g6 14), (g6 15), (g6 16), (g6 17), (g6 18)], []⟩) K ⟨0, hy, hs.conv rfl, exg (by kernel_rfl)⟩ ?_
  clear hs h hy
  rintro n a w ⟨z2, h, hs, g6, rfl⟩ KL0 kl0
  cases n with
  | zero => exact nomatch (show none = some _ from h)
  | succ n =>
   refine xseq_k fun KS8 ks8 => ?_
   refine xregS [0] fun KR9 kr9 => ?_
   rcases of_if h with ⟨hc, h⟩ | ⟨hc, h⟩
   ·refine wpS.tk 0 false (some 9) (.bool true) (yld_b (dt hc) (fun _ => by kernel_rfl)) ?_
    refine wpS.fin rfl (kr9 _ _ (then_n (ks8 _ _ (xseq_k fun KS10 ks10 => (wp_cond_t (by kernel_rfl) (xskip (then_n (ks10 _ _ (xseq_k fun KS11 ks11 => (xblock (xseq_k fun KS12 ks12 => (xregS [0, 1] fun KR13 kr13 => ?_))))))))))))
    obtain ⟨h0, h⟩ := of_chk h
    obtain ⟨h1, h⟩ := of_chk h
    refine wpS.tk 0 false (some 10) (.int .i32 (rd a0 z2)) (yld_at (t := 32) (e := 21) (k' := .i64) (by kernel_rfl) (by kernel_rfl) (by kernel_rfl) (by kernel_rfl) h0 h1) ?_
    obtain ⟨x3, hx, h⟩ := of_bind h
    refine wpS.tk 1 false (some 6) (.int .i32 x3) (yld_int hx (fun _ => by kernel_rfl)) ?_
    refine wpS.fin rfl (kr13 _ _ (then_n (ks12 _ _ (xseq_k fun KS14 ks14 => (xregS [0, 1, 2, 3, 4, 5, 6] fun KR15 kr15 => ?_)))))
    refine wpS.q 0 11 (.int .i32 x3) ?_
    rcases of_if h with ⟨hc, h⟩ | ⟨hc, h⟩
    ·refine wpS.tk 1 false (some 12) (.bool true) (yld_b (dt hc) (fun _ => by kernel_rfl)) ?_
     refine wpS.qs [(2, 13, .bool true), (3, 14, undef), (4, 15, undef), (5, 16, undef), (6, 17, .bool true)] ?_
     refine wpS.fin rfl (kr15 _ _ (then_n (ks14 _ _ (wp_cond_t (by kernel_rfl) (xseq_k fun KS16 ks16 => (xregS [0] fun KR17 kr17 => ?_))))))
     refine wpS.q 0 4 (.bool false) ?_
     refine wpS.fin rfl (kr17 _ _ (then_n (ks16 _ _ (xret (inBlock_r (then_r (then_r (inBlock_r (exq_r (then_r ?_))))))))))
     have q0 := of_some h
     subst q0
     have q0 := of_some hk0
     subst q0
     exact qq _ _ (post_ret (by kernel_rfl) (run_results [.tmp 4] [.bool false] (by kernel_rfl) (.cons (res_tmp (by kernel_rfl)) .nil)) ⟨congrArg Ending.returned (by kernel_rfl), hs.none⟩)
    refine wpS.tk 1 false (some 12) (.bool false) (yld_b (df hc) (fun _ => by kernel_rfl)) ?_
    refine wpS.qs [(2, 13, .bool false), (3, 14, .int .i32 x3), (4, 15, .int .i32 a1)] ?_
    rcases of_if h with ⟨hc, h⟩ | ⟨hc, h⟩
    ·refine wpS.tk 5 false (some 16) (.bool true) (yld_b (dt hc) (fun _ => by kernel_rfl)) ?_
     refine wpS.q 6 17 (.bool true) ?_
     refine wpS.fin rfl (kr15 _ _ (then_n (ks14 _ _ (wp_cond_t (by kernel_rfl) (xseq_k fun KS18 ks18 => (xregS [0] fun KR19 kr19 => ?_))))))
     refine wpS.q 0 4 (.bool false) ?_
     refine wpS.fin rfl (kr19 _ _ (then_n (ks18 _ _ (xret (inBlock_r (then_r (then_r (inBlock_r (exq_r (then_r ?_))))))))))
     have q0 := of_some h
     subst q0
     have q0 := of_some hk0
     subst q0
     exact qq _ _ (post_ret (by kernel_rfl) (run_results [.tmp 4] [.bool false] (by kernel_rfl) (.cons (res_tmp (by kernel_rfl)) .nil)) ⟨congrArg Ending.returned (by kernel_rfl), hs.none⟩)
    refine wpS.tk 5 false (some 16) (.bool false) (yld_b (df hc) (fun _ => by kernel_rfl)) ?_
    refine wpS.q 6 17 (.bool false) ?_
    refine wpS.fin rfl (kr15 _ _ (then_n (ks14 _ _ (wp_cond_f (by kernel_rfl) (xskip (inBlock_n (then_n (ks11 _ _ (xregS [0, 1] fun KR20 kr20 => ?_)))))))))
    refine wpS.qs [(0, 18, .int .i64 (iadd .i64 z2 1)), (1, 8, .int .i64 (iadd .i64 z2 1))] ?_
    refine wpS.fin rfl (kr20 _ _ ?_)
    exact then_n (kl0 _ _ ⟨n, Nat.lt_succ_self n, (iadd .i64 z2 1), h, (hs.conv rfl), exg (by kernel_rfl)⟩)
   refine wpS.tk 0 false (some 9) (.bool false) (yld_b (df hc) (fun _ => by kernel_rfl)) ?_
   refine wpS.fin rfl (kr9 _ _ (then_n (ks8 _ _ (xseq_k fun KS21 ks21 => (wp_cond_f (by kernel_rfl) (xexit (then_x (then_x (inBlock_hit ?_)))))))))
   have q0 := of_some h
   subst q0
   exact exq_n (nn0 _ _ ⟨rfl, (hs.conv rfl), exg (by kernel_rfl)⟩)
 clear hs h hy
 rintro a w ⟨rfl, hs, g7, rfl⟩
 have h := hk0
 refine then_n (ks3 _ _ (xseq_k fun KS22 ks22 => (xregS [0] fun KR23 kr23 => ?_)))
 refine wpS.q 0 4 (.bool true) ?_
 refine wpS.fin rfl (kr23 _ _ (then_n (ks22 _ _ (xret ?_))))
 have q0 := of_some h
 subst q0
 exact qq _ _ (post_ret (by kernel_rfl) (run_results [.tmp 4] [.bool true] (by kernel_rfl) (.cons (res_tmp (by kernel_rfl)) .nil)) ⟨congrArg Ending.returned (by kernel_rfl), hs.none⟩)

theorem kq_bound.ok {K : Nat} {a0 : Int} {r0 : Int} (h : kq_bound.f K a0 = some r0) (w0 : World) : Ret Tryd.prog 94 #[.int .i64 a0] w0 (.int .i32 r0) := by
 refine calls_k Tryd.func94 rfl fun Q qq => ?_
 have hs := St.start w0
 refine wp_conv (a' := ⟨#[.int .i64 a0, undef, undef, undef, undef, undef, undef], []⟩) (by kernel_rfl) ?_
 refine xseq_k fun KS1 ks1 => ?_
 refine xregS [0] fun KR2 kr2 => ?_
 refine wpS.q 0 2 (.int .i32 0) ?_
 refine wpS.fin rfl (kr2 _ _ (then_n (ks1 _ _ (xseq_k fun KS3 ks3 => (xseq_k fun KS4 ks4 => (xregS [0, 1] fun KR5 kr5 => ?_))))))
 refine wpS.q 0 3 (.int .i64 a0) ?_
 rcases of_if h with ⟨hc, h⟩ | ⟨hc, h⟩
 ·refine wpS.tk 1 false (some 4) (.bool true) (yld_b (et hc) (fun _ => by kernel_rfl)) ?_
  refine wpS.fin rfl (kr5 _ _ (then_n (ks4 _ _ (wp_cond_t (by kernel_rfl) (xseq_k fun KS6 ks6 => (xregS [0] fun KR7 kr7 => ?_))))))
  refine wpS.q 0 2 (.int .i32 3329) ?_
  refine wpS.fin rfl (kr7 _ _ (then_n (ks6 _ _ (xret (then_r ?_)))))
  have q0 := of_some h
  subst q0
  exact qq _ _ (post_ret (by kernel_rfl) (run_results [.tmp 2] [.int .i32 3329] (by kernel_rfl) (.cons (res_tmp (by kernel_rfl)) .nil)) ⟨congrArg Ending.returned (by kernel_rfl), hs.none⟩)
 refine wpS.tk 1 false (some 4) (.bool false) (yld_b (ef hc) (fun _ => by kernel_rfl)) ?_
 refine wpS.fin rfl (kr5 _ _ (then_n (ks4 _ _ (wp_cond_f (by kernel_rfl) (xskip (then_n (ks3 _ _ (xseq_k fun KS8 ks8 => (xregS [0, 1, 2] fun KR9 kr9 => ?_)))))))))
 refine wpS.q 0 5 (.int .i64 a0) ?_
 obtain ⟨h0, h⟩ := of_chk h
 refine wpS.tk 1 false (some 6) (.int .i32 (ishl .i32 1 a0)) (yld_shl (t := 21) (k' := .i64) (by kernel_rfl) h0) ?_
 obtain ⟨x1, hx, h⟩ := of_bind h
 refine wpS.tk 2 false (some 2) (.int .i32 x1) (yld_int hx (fun _ => by kernel_rfl)) ?_
 refine wpS.fin rfl (kr9 _ _ (then_n (ks8 _ _ (xret ?_))))
 have q0 := of_some h
 subst q0
 exact qq _ _ (post_ret (by kernel_rfl) (run_results [.tmp 2] [.int .i32 x1] (by kernel_rfl) (.cons (res_tmp (by kernel_rfl)) .nil)) ⟨congrArg Ending.returned (by kernel_rfl), hs.none⟩)

theorem bits_Pack.ok {K : Nat} {a0 : List Int} {a1 : Int} {r0 : List Int} {a0_A : Option Addr} {a0_n : Nat} {a0_c : Nat} (h : bits_Pack.f K a0 a1 = some r0) (w0 : World) (hp0 : RowL (CI .u32) w0 a0_A a0_n a0_c a0) : Calls Tryd.prog 95 #[.slice a0_A a0_n a0_c, .int .i64 a1] w0 fun e w' => ∃ h : (Option Addr × Nat × Nat), e = .returned (.slice h.1 h.2.1 h.2.2) ∧ St w0 [] [.ownL (CI .u8) h.1 h.2.1 h.2.2 r0 5] [] w' := by
 refine calls_k Tryd.func95 rfl fun Q qq => ?_
 have hs := St.startR (all_cons (RowP.ent hp0) all_nil)
 refine wp_conv (a' := ⟨#[.slice a0_A a0_n a0_c, .int .i64 a1, undef, undef, undef, undef, undef, undef, undef, undef, undef, undef, undef, undef, undef, undef, undef, undef, undef, undef, undef, undef, undef, undef, undef, undef, undef, undef, undef, undef, undef, undef, undef, undef, undef, undef, undef, undef, undef, undef, undef, undef, undef, undef, undef, undef, undef, undef, undef, undef, undef, undef, undef, undef, undef, undef, undef, undef, undef, undef, undef, undef], []⟩) (by kernel_rfl) ?_
 refine xseq_k fun KS1 ks1 => ?_
 refine xregS [0] fun KR2 kr2 => ?_
 refine wpS.q 0 4 (.slice none 0 0) ?_
 refine wpS.fin rfl (kr2 _ _ (then_n (ks1 _ _ (xseq_k fun KS3 ks3 => (xseq_k fun KS4 ks4 => (xregS [0, 1, 2, 3, 4, 5] fun KR5 kr5 => ?_))))))
 refine wpS.q 0 10 (.int .i64 a1) ?_
 rcases of_if h with ⟨hc, h⟩ | ⟨hc, h⟩
 ·refine wpS.tk 1 false (some 11) (.bool true) (yld_b (dt hc) (fun _ => by kernel_rfl)) ?_
  refine wpS.qs [(2, 12, .bool true), (3, 13, undef), (4, 14, undef), (5, 15, .bool true)] ?_
  refine wpS.fin rfl (kr5 _ _ (then_n (ks4 _ _ (wp_cond_t (by kernel_rfl) (xseq_k fun KS6 ks6 => (xregS [0] fun KR7 kr7 => ?_))))))
  refine wpS.q 0 4 (.slice none 0 0) ?_
  refine wpS.fin rfl (kr7 _ _ (then_n (ks6 _ _ (xret (then_r ?_)))))
  have q0 := of_some h
  subst q0
  have hs := hs.addNilL (CI .u8) 5
  exact qq _ _ (post_ret (by kernel_rfl) (run_results [.tmp 4] [.slice none 0 0] (by kernel_rfl) (.cons (res_tmp (by kernel_rfl)) .nil)) ⟨⟨none, 0, 0⟩, congrArg Ending.returned (by kernel_rfl), (hs.pickR pick_nil)⟩)
 refine wpS.tk 1 false (some 11) (.bool false) (yld_b (df hc) (fun _ => by kernel_rfl)) ?_
 refine wpS.qs [(2, 12, .bool false), (3, 13, .int .i64 a1)] ?_
 rcases of_if h with ⟨hc, h⟩ | ⟨hc, h⟩
 ·refine wpS.tk 4 false (some 14) (.bool true) (yld_b (dt hc) (fun _ => by kernel_rfl)) ?_
  refine wpS.q 5 15 (.bool true) ?_
  refine wpS.fin rfl (kr5 _ _ (then_n (ks4 _ _ (wp_cond_t (by kernel_rfl) (xseq_k fun KS8 ks8 => (xregS [0] fun KR9 kr9 => ?_))))))
  refine wpS.q 0 4 (.slice none 0 0) ?_
  refine wpS.fin rfl (kr9 _ _ (then_n (ks8 _ _ (xret (then_r ?_)))))
  have q0 := of_some h
  subst q0
  have hs := hs.addNilL (CI .u8) 5
  exact qq _ _ (post_ret (by kernel_rfl) (run_results [.tmp 4] [.slice none 0 0] (by kernel_rfl) (.cons (res_tmp (by kernel_rfl)) .nil)) ⟨⟨none, 0, 0⟩, congrArg Ending.returned (by kernel_rfl), (hs.pickR pick_nil)⟩)
 refine wpS.tk 4 false (some 14) (.bool false) (yld_b (df hc) (fun _ => by kernel_rfl)) ?_
 refine wpS.q 5 15 (.bool false) ?_
 refine wpS.fin rfl (kr5 _ _ (then_n (ks4 _ _ (wp_cond_f (by kernel_rfl) (xskip (then_n (ks3 _ _ (xseq_k fun KS10 ks10 => (xregS [0, 1, 2, 3, 4, 5, 6, 7] fun KR11 kr11 => ?_)))))))))
 refine wpS.q 0 16 (.slice a0_A a0_n a0_c) ?_
 refine wpS.tk 1 false (some 17) (.int .i64 (a0.length : Int)) (yld_lenL (hs.rowR 0 rfl) (fun _ => by kernel_rfl)) ?_
 refine wpS.qs [(2, 18, .int .i64 a1), (3, 19, .int .i64 (imul .i64 (a0.length : Int) a1)), (4, 20, .int .i64 (iadd .i64 (imul .i64 (a0.length : Int) a1) 7)), (5, 21, .int .i64 (iquo .i64 (iadd .i64 (imul .i64 (a0.length : Int) a1) 7) 8))] ?_
 obtain ⟨h0, h⟩ := of_chk h
 obtain ⟨h1, h⟩ := of_chk h
 refine wpS.only 6 (op_makeT0 (C := (CI .u8)) (t := 24) (e := 5) (bytes := 1) (B := 140737488355328) (kl := .i64) (kc := .i64) (x := (iquo .i64 (iadd .i64 (imul .i64 (a0.length : Int) a1) 7) 8)) (d := (some 22)) (by kernel_rfl) hs (by kernel_rfl) (by kernel_rfl) (by kernel_rfl) (by kernel_rfl) (by kernel_rfl) h0 h1 (by decide) (by decide) ?_)
 intro s1_A s1_n s1_c w gw hs
 refine ⟨fun _ => trivial, ?_⟩
 refine wpS.q 7 5 (.slice s1_A s1_n s1_c) ?_
 refine wpS.fin rfl (kr11 _ _ (then_n (ks10 _ _ (xseq_k fun KS12 ks12 => (xregS [0, 1] fun KR13 kr13 => ?_)))))
 refine wpS.qs [(0, 6, .int .u64 0), (1, 7, .int .i64 0)] ?_
 refine wpS.fin rfl (kr13 _ _ (then_n (ks12 _ _ (xseq_k fun KS14 ks14 => (xseq_k fun KS15 ks15 => (xregS [0, 1, 2] fun KR16 kr16 => ?_))))))
 refine wpS.q 0 23 (.slice a0_A a0_n a0_c) ?_
 refine wpS.tk 1 false (some 24) (.int .i64 (a0.length : Int)) (yld_lenL (hs.rowR 0 rfl) (fun _ => by kernel_rfl)) ?_
 refine wpS.q 2 25 (.int .i64 0) ?_
 refine wpS.fin rfl (kr16 _ _ (then_n (ks15 _ _ ?_)))
 obtain ⟨⟨y6, y7, y8⟩, hy, hk0⟩ := of_bind h
 refine wp_exq (N := fun a w => ∃ (y8_A : Option Addr) (y8_n : Nat) (y8_c : Nat), St w0 [] [.ownL (CI .u8) y8_A y8_n y8_c y8 5] [.rowL (CI .u32) a0_A a0_n a0_c a0] w ∧ ∃ g18 : Nat → Value, a = ⟨#[.slice a0_A a0_n a0_c, .int .i64 a1, undef, undef, .slice none 0 0, .slice y8_A y8_n y8_c, .int .u64 y6, .int .i64 y7, undef, (g18 9), .int .i64 a1, .bool false, .bool false, .int .i64 a1, .bool false, .bool false, .slice a0_A a0_n a0_c, .int .i64 (a0.length : Int), .int .i64 a1, .int .i64 (imul .i64 (a0.length : Int) a1), .int .i64 (iadd .i64 (imul .i64 (a0.length : Int) a1) 7), .int .i64 (iquo .i64 (iadd .i64 (imul .i64 (a0.length : Int) a1) 7) 8), .slice s1_A s1_n s1_c, .slice a0_A a0_n a0_c, .int .i64 (a0.length : Int), (g18 25), (g18 26), (g18 27), (g18 28), (g18 29), (g18 30), (g18 31), (g18 32), (g18 33), (g18 34), (g18 35), (g18 36), (g18 37), (g18 38), (g18 39), (g18 40), (g18 41), (g18 42), (g18 43), (g18 44), (g18 45), (g18 46), (g18 47), (g18 48), (g18 49), (g18 50), (g18 51), (g18 52), (g18 53), undef, undef, undef, undef, undef, undef, undef, undef], []⟩) (fun N0 nn0 => ?_) ?_
 ·clear hk0
  refine xblock ?_
  refine wp_loop_k (fun n a w => ∃ z2 z3 z4 z5, ∃ (z5_A : Option Addr) (z5_n : Nat) (z5_c : Nat), bits_Pack.l0 K n a0 a1 z2 z3 z4 z5 = some (y6, y7, y8) ∧ St w0 [] [.ownL (CI .u8) z5_A z5_n z5_c z5 5] [.rowL (CI .u32) a0_A a0_n a0_c a0] w ∧ ∃ g17 : Nat → Value, a = ⟨#[.slice a0_A a0_n a0_c, .int .i64 a1, undef, undef, .slice none 0 0, .slice z5_A z5_n z5_c, .int .u64 z2, .int .i64 z3, undef, (g17 9), .int .i64 a1, .bool false, .bool false, .int .i64 a1, .bool false, .bool false, .slice a0_A a0_n a0_c, .int .i64 (a0.length : Int), .int .i64 a1, .int .i64 (imul .i64 (a0.length : Int) a1), .int .i64 (iadd .i64 (imul .i64 (a0.length : Int) a1) 7), .int .i64 (iquo .i64 (iadd .i64 (imul .i64 (a0.length : Int) a1) 7) 8), .slice s1_A s1_n s1_c, .slice a0_A a0_n a0_c, .int .i64 (a0.length : Int), .int .i64 z4, (g17 26), (g17 27), (g17 28), (g17 29), (g17 30), (g17 31), (g17 32), (g17 33), (g17 34), (g17 35), (g17 36), (g17 37), (g17 38), (g17 39), (g17 40), (g17 41), (g17 42), (g17 43), (g17 44), (g17 45), (g17 46), (g17 47), (g17 48), (g17 49), (g17 50), (g17 51), (g17 52), (g17 53), undef, undef, undef, undef, undef, undef, undef, undef], []⟩) K ⟨0, 0, 0, ([] : List Int), s1_A, s1_n, s1_c, hy, hs.conv rfl, exg (by kernel_rfl)⟩ ?_
  clear hs h hy
  rintro n a w ⟨z2, z3, z4, z5, z5_A, z5_n, z5_c, h, hs, g17, rfl⟩ KL0 kl0
  cases n with
  | zero => exact nomatch (show none = some _ from h)
  | succ n =>
   refine xseq_k fun KS19 ks19 => ?_
   refine xregS [0] fun KR20 kr20 => ?_
   rcases of_if h with ⟨hc, h⟩ | ⟨hc, h⟩
   ·refine wpS.tk 0 false (some 26) (.bool true) (yld_b (dt hc) (fun _ => by kernel_rfl)) ?_
    refine wpS.fin rfl (kr20 _ _ (then_n (ks19 _ _ (xseq_k fun KS21 ks21 => (wp_cond_t (by kernel_rfl) (xskip (then_n (ks21 _ _ (xseq_k fun KS22 ks22 => (xblock (xseq_k fun KS23 ks23 => (xregS [0, 1, 2] fun KR24 kr24 => ?_))))))))))))
    obtain ⟨h0, h⟩ := of_chk h
    obtain ⟨h1, h⟩ := of_chk h
    have i0_25 := h0
    have i1_25 := h1
    refine wpS.tk 0 false (some 27) (.pointer (adr a0_A ((z4 : Int).toNat * Cod.size (CI .u32)))) (yld_idxL (C := (CI .u32)) (t := 68) (e := 70) (k := .i64) (x := z4) (hs.rowR 0 rfl) (by kernel_rfl) (by kernel_rfl) (by kernel_rfl) h0 h1) ?_
    refine wpS.tk 1 true (some 28) (.int .u32 (rdL (CI .u32) a0 z4)) (yld_loadL (C := (CI .u32)) (e := 70) (x := z4) (hs.rowR 0 rfl) (by kernel_rfl) rfl (by kernel_rfl) i0_25 i1_25) ?_
    obtain ⟨x9, hx, h⟩ := of_bind h
    refine wpS.tk 2 false (some 9) (.int .u32 x9) (yld_int hx (fun _ => by kernel_rfl)) ?_
    refine wpS.fin rfl (kr24 _ _ (then_n (ks23 _ _ (xseq_k fun KS26 ks26 => (xregS [0, 1, 2, 3, 4, 5, 6, 7, 8, 9, 10] fun KR27 kr27 => ?_)))))
    refine wpS.qs [(0, 29, .int .u64 z2), (1, 30, .int .u32 x9), (2, 31, .int .i64 a1)] ?_
    obtain ⟨h0, h⟩ := of_chk h
    refine wpS.tk 3 false (some 32) (.int .u32 (ishl .u32 1 a1)) (yld_shl (t := 70) (k' := .i64) (by kernel_rfl) h0) ?_
    refine wpS.qs [(4, 33, .int .u32 (isub .u32 (ishl .u32 1 a1) 1)), (5, 34, .int .u32 (iand .u32 x9 (isub .u32 (ishl .u32 1 a1) 1))), (6, 35, .int .u64 (iconv .u64 (iand .u32 x9 (isub .u32 (ishl .u32 1 a1) 1)))), (7, 36, .int .i64 z3)] ?_
    obtain ⟨h0, h⟩ := of_chk h
    refine wpS.tk 8 false (some 37) (.int .u64 (ishl .u64 (iconv .u64 (iand .u32 x9 (isub .u32 (ishl .u32 1 a1) 1))) z3)) (yld_shl (t := 112) (k' := .i64) (by kernel_rfl) h0) ?_
    refine wpS.q 9 38 (.int .u64 (ior .u64 z2 (ishl .u64 (iconv .u64 (iand .u32 x9 (isub .u32 (ishl .u32 1 a1) 1))) z3))) ?_
    obtain ⟨x10, hx, h⟩ := of_bind h
    refine wpS.tk 10 false (some 6) (.int .u64 x10) (yld_int hx (fun _ => by kernel_rfl)) ?_
    refine wpS.fin rfl (kr27 _ _ (then_n (ks26 _ _ (xseq_k fun KS28 ks28 => (xregS [0, 1, 2, 3] fun KR29 kr29 => ?_)))))
    refine wpS.qs [(0, 39, .int .i64 z3), (1, 40, .int .i64 a1), (2, 41, .int .i64 (iadd .i64 z3 a1))] ?_
    obtain ⟨x11, hx, h⟩ := of_bind h
    refine wpS.tk 3 false (some 7) (.int .i64 x11) (yld_int hx (fun _ => by kernel_rfl)) ?_
    refine wpS.fin rfl (kr29 _ _ (then_n (ks28 _ _ ?_)))
    obtain ⟨⟨y15, y16, y17⟩, hy, hk1⟩ := of_bind h
    refine wp_exq (N := fun a w => ∃ (y17_A : Option Addr) (y17_n : Nat) (y17_c : Nat), St w0 [] [.ownL (CI .u8) y17_A y17_n y17_c y17 5] [.rowL (CI .u32) a0_A a0_n a0_c a0] w ∧ ∃ g31 : Nat → Value, a = ⟨#[.slice a0_A a0_n a0_c, .int .i64 a1, undef, undef, .slice none 0 0, .slice y17_A y17_n y17_c, .int .u64 y15, .int .i64 y16, undef, .int .u32 x9, .int .i64 a1, .bool false, .bool false, .int .i64 a1, .bool false, .bool false, .slice a0_A a0_n a0_c, .int .i64 (a0.length : Int), .int .i64 a1, .int .i64 (imul .i64 (a0.length : Int) a1), .int .i64 (iadd .i64 (imul .i64 (a0.length : Int) a1) 7), .int .i64 (iquo .i64 (iadd .i64 (imul .i64 (a0.length : Int) a1) 7) 8), .slice s1_A s1_n s1_c, .slice a0_A a0_n a0_c, .int .i64 (a0.length : Int), .int .i64 z4, .bool true, .pointer (adr a0_A ((z4 : Int).toNat * Cod.size (CI .u32))), .int .u32 (rdL (CI .u32) a0 z4), .int .u64 z2, .int .u32 x9, .int .i64 a1, .int .u32 (ishl .u32 1 a1), .int .u32 (isub .u32 (ishl .u32 1 a1) 1), .int .u32 (iand .u32 x9 (isub .u32 (ishl .u32 1 a1) 1)), .int .u64 (iconv .u64 (iand .u32 x9 (isub .u32 (ishl .u32 1 a1) 1))), .int .i64 z3, .int .u64 (ishl .u64 (iconv .u64 (iand .u32 x9 (isub .u32 (ishl .u32 1 a1) 1))) z3), .int .u64 (ior .u64 z2 (ishl .u64 (iconv .u64 (iand .u32 x9 (isub .u32 (ishl .u32 1 a1) 1))) z3)), .int .i64 z3, .int .i64 a1, .int .i64 (iadd .i64 z3 a1), (g31 42), (g31 43), (g31 44), (g31 45), (g31 46), (g31 47), (g31 48), (g31 49), (g31 50), (g31 51), (g31 52), (g17 53), undef, undef, undef, undef, undef, undef, undef, undef], []⟩) (fun N1 nn1 => ?_) ?_
    ·clear hk1
     refine xblock ?_
     refine wp_loop_k (fun n a w => ∃ z12 z13 z14, ∃ (z14_A : Option Addr) (z14_n : Nat) (z14_c : Nat), bits_Pack.l1 K n z12 z13 z14 = some (y15, y16, y17) ∧ St w0 [] [.ownL (CI .u8) z14_A z14_n z14_c z14 5] [.rowL (CI .u32) a0_A a0_n a0_c a0] w ∧ ∃ g30 : Nat → Value, a = ⟨#[.slice a0_A a0_n a0_c, .int .i64 a1, undef, undef, .slice none 0 0, .slice z14_A z14_n z14_c, .int .u64 z12, .int .i64 z13, undef, .int .u32 x9, .int .i64 a1, .bool false, .bool false, .int .i64 a1, .bool false, .bool false, .slice a0_A a0_n a0_c, .int .i64 (a0.length : Int), .int .i64 a1, .int .i64 (imul .i64 (a0.length : Int) a1), .int .i64 (iadd .i64 (imul .i64 (a0.length : Int) a1) 7), .int .i64 (iquo .i64 (iadd .i64 (imul .i64 (a0.length : Int) a1) 7) 8), .slice s1_A s1_n s1_c, .slice a0_A a0_n a0_c, .int .i64 (a0.length : Int), .int .i64 z4, .bool true, .pointer (adr a0_A ((z4 : Int).toNat * Cod.size (CI .u32))), .int .u32 (rdL (CI .u32) a0 z4), .int .u64 z2, .int .u32 x9, .int .i64 a1, .int .u32 (ishl .u32 1 a1), .int .u32 (isub .u32 (ishl .u32 1 a1) 1), .int .u32 (iand .u32 x9 (isub .u32 (ishl .u32 1 a1) 1)), .int .u64 (iconv .u64 (iand .u32 x9 (isub .u32 (ishl .u32 1 a1) 1))), .int .i64 z3, .int .u64 (ishl .u64 (iconv .u64 (iand .u32 x9 (isub .u32 (ishl .u32 1 a1) 1))) z3), .int .u64 (ior .u64 z2 (ishl .u64 (iconv .u64 (iand .u32 x9 (isub .u32 (ishl .u32 1 a1) 1))) z3)), .int .i64 z3, .int .i64 a1, .int .i64 (iadd .i64 z3 a1), (g30 42), (g30 43), (g30 44), (g30 45), (g30 46), (g30 47), (g30 48), (g30 49), (g30 50), (g30 51), (g30 52), (g17 53), undef, undef, undef, undef, undef, undef, undef, undef], []⟩) K ⟨x10, x11, z5, z5_A, z5_n, z5_c, hy, hs.conv rfl, exg (by kernel_rfl)⟩ ?_
     clear hs h hy
     rintro n a w ⟨z12, z13, z14, z14_A, z14_n, z14_c, h, hs, g30, rfl⟩ KL1 kl1
     cases n with
     | zero => exact nomatch (show none = some _ from h)
     | succ n =>
      refine xseq_k fun KS32 ks32 => ?_
      refine xseq_k fun KS33 ks33 => ?_
      refine xregS [0, 1] fun KR34 kr34 => ?_
      refine wpS.q 0 42 (.int .i64 z13) ?_
      rcases of_if h with ⟨hc, h⟩ | ⟨hc, h⟩
      ·refine wpS.tk 1 false (some 43) (.bool true) (yld_b (dt hc) (fun _ => by kernel_rfl)) ?_
       refine wpS.fin rfl (kr34 _ _ (then_n (ks33 _ _ (wp_cond_t (by kernel_rfl) (xskip (then_n (ks32 _ _ (xseq_k fun KS35 ks35 => (xblock (xseq_k fun KS36 ks36 => (xregS [0, 1, 2, 3, 4, 5] fun KR37 kr37 => ?_)))))))))))
       refine wpS.qs [(0, 46, .slice z14_A z14_n z14_c), (1, 47, .int .u64 z12), (2, 48, .int .u8 (iconv .u8 z12))] ?_
       refine wpS.only 3 (op_lit (C := (CI .u8)) (t := 24) (e := 5) (len := 1) (parts := #[(0, .int .u8 (iconv .u8 z12))]) (l := [(iconv .u8 z12)]) (d := (some 49)) (by kernel_rfl) hs (by kernel_rfl) (by kernel_rfl) (by kernel_rfl) (z := .int .u8 0) (by kernel_rfl) rfl (by decide) (by decide) (by kernel_rfl) ?_)
       intro s18_A s18_n s18_c w gw hs
       refine ⟨fun _ => trivial, ?_⟩
       obtain ⟨h0, h⟩ := of_chk h
       refine wpS.only 4 (op_appendT (C := (CI .u8)) (t := 24) (ty := 24) (e := 5) (bytes := 1) (B := 140737488355328) (d := (some 50)) (by kernel_rfl) hs 1 rfl (hs.rowL 0 rfl) (by kernel_rfl) (by kernel_rfl) (by kernel_rfl) (by kernel_rfl) (by kernel_rfl) h0 (by decide) (by decide) ?_)
       intro s19_A s19_n s19_c w hs
       refine ⟨fun _ => trivial, ?_⟩
       refine wpS.q 5 5 (.slice s19_A s19_n s19_c) ?_
       refine wpS.fin rfl (kr37 _ _ (then_n (ks36 _ _ (xregS [0, 1, 2] fun KR38 kr38 => ?_))))
       refine wpS.qs [(0, 51, .int .u64 z12), (1, 52, .int .u64 (ishr .u64 z12 8))] ?_
       obtain ⟨x20, hx, h⟩ := of_bind h
       refine wpS.tk 2 false (some 6) (.int .u64 x20) (yld_int hx (fun _ => by kernel_rfl)) ?_
       refine wpS.fin rfl (kr38 _ _ (inBlock_n (then_n (ks35 _ _ (xregS [0, 1, 2] fun KR39 kr39 => ?_)))))
       refine wpS.qs [(0, 44, .int .i64 z13), (1, 45, .int .i64 (isub .i64 z13 8))] ?_
       obtain ⟨x21, hx, h⟩ := of_bind h
       refine wpS.tk 2 false (some 7) (.int .i64 x21) (yld_int hx (fun _ => by kernel_rfl)) ?_
       refine wpS.fin rfl (kr39 _ _ ?_)
       exact then_n (kl1 _ _ ⟨n, Nat.lt_succ_self n, x20, x21, (z14 ++ ([(iconv .u8 z12)] : List Int)), s19_A, s19_n, s19_c, h, (hs.drop (.cons _ (.cons_cons _ .slnil))), exg (by kernel_rfl)⟩)
      refine wpS.tk 1 false (some 43) (.bool false) (yld_b (df hc) (fun _ => by kernel_rfl)) ?_
      refine wpS.fin rfl (kr34 _ _ (then_n (ks33 _ _ (wp_cond_f (by kernel_rfl) (xexit (then_x (then_x (inBlock_hit ?_))))))))
      obtain ⟨q0, qr0⟩ := Prod.mk.inj (of_some h)
      obtain ⟨q1, qr1⟩ := Prod.mk.inj (qr0)
      have q2 := qr1
      subst q0
      subst q1
      subst q2
      exact exq_n (nn1 _ _ ⟨z14_A, z14_n, z14_c, (hs.conv rfl), exg (by kernel_rfl)⟩)
    clear hs h hy
    rintro a w ⟨y17_A, y17_n, y17_c, hs, g31, rfl⟩
    have h := hk1
    refine inBlock_n (then_n (ks22 _ _ (xregS [0, 1] fun KR40 kr40 => ?_)))
    refine wpS.qs [(0, 53, .int .i64 (iadd .i64 z4 1)), (1, 25, .int .i64 (iadd .i64 z4 1))] ?_
    refine wpS.fin rfl (kr40 _ _ ?_)
    exact then_n (kl0 _ _ ⟨n, Nat.lt_succ_self n, y15, y16, (iadd .i64 z4 1), y17, y17_A, y17_n, y17_c, h, (hs.conv rfl), exg (by kernel_rfl)⟩)
   refine wpS.tk 0 false (some 26) (.bool false) (yld_b (df hc) (fun _ => by kernel_rfl)) ?_
   refine wpS.fin rfl (kr20 _ _ (then_n (ks19 _ _ (xseq_k fun KS41 ks41 => (wp_cond_f (by kernel_rfl) (xexit (then_x (then_x (inBlock_hit ?_)))))))))
   obtain ⟨q0, qr0⟩ := Prod.mk.inj (of_some h)
   obtain ⟨q1, qr1⟩ := Prod.mk.inj (qr0)
   have q2 := qr1
   subst q0
   subst q1
   subst q2
   exact exq_n (nn0 _ _ ⟨z5_A, z5_n, z5_c, (hs.conv rfl), exg (by kernel_rfl)⟩)
 clear hs h hy
 rintro a w ⟨y8_A, y8_n, y8_c, hs, g18, rfl⟩
 have h := hk0
 refine then_n (ks14 _ _ ?_)
 obtain ⟨y22, hj, h⟩ := of_bind h
 refine xseq_k fun KS43 ks43 => wp_join (N := fun a w => ∃ (y22_A : Option Addr) (y22_n : Nat) (y22_c : Nat), St w0 [] [.ownL (CI .u8) y22_A y22_n y22_c y22 5] [.rowL (CI .u32) a0_A a0_n a0_c a0] w ∧ ∃ g42 : Nat → Value, a = ⟨#[.slice a0_A a0_n a0_c, .int .i64 a1, undef, undef, .slice none 0 0, .slice y22_A y22_n y22_c, .int .u64 y6, .int .i64 y7, undef, (g18 9), .int .i64 a1, .bool false, .bool false, .int .i64 a1, .bool false, .bool false, .slice a0_A a0_n a0_c, .int .i64 (a0.length : Int), .int .i64 a1, .int .i64 (imul .i64 (a0.length : Int) a1), .int .i64 (iadd .i64 (imul .i64 (a0.length : Int) a1) 7), .int .i64 (iquo .i64 (iadd .i64 (imul .i64 (a0.length : Int) a1) 7) 8), .slice s1_A s1_n s1_c, .slice a0_A a0_n a0_c, .int .i64 (a0.length : Int), (g18 25), (g18 26), (g18 27), (g18 28), (g18 29), (g18 30), (g18 31), (g18 32), (g18 33), (g18 34), (g18 35), (g18 36), (g18 37), (g18 38), (g18 39), (g18 40), (g18 41), (g18 42), (g18 43), (g18 44), (g18 45), (g18 46), (g18 47), (g18 48), (g18 49), (g18 50), (g18 51), (g18 52), (g18 53), (g42 54), (g42 55), (g42 56), (g42 57), (g42 58), (g42 59), (g42 60), undef], []⟩) (fun N nj => ?_) ?_
 ·clear h
  have h := hj
  refine xseq_k fun KS44 ks44 => ?_
  refine xregS [0, 1] fun KR45 kr45 => ?_
  refine wpS.q 0 54 (.int .i64 y7) ?_
  rcases of_if h with ⟨hc, h⟩ | ⟨hc, h⟩
  ·refine wpS.tk 1 false (some 55) (.bool true) (yld_b (dt hc) (fun _ => by kernel_rfl)) ?_
   refine wpS.fin rfl (kr45 _ _ (then_n (ks44 _ _ (wp_cond_t (by kernel_rfl) (xregS [0, 1, 2, 3, 4, 5] fun KR46 kr46 => ?_)))))
   refine wpS.qs [(0, 56, .slice y8_A y8_n y8_c), (1, 57, .int .u64 y6), (2, 58, .int .u8 (iconv .u8 y6))] ?_
   refine wpS.only 3 (op_lit (C := (CI .u8)) (t := 24) (e := 5) (len := 1) (parts := #[(0, .int .u8 (iconv .u8 y6))]) (l := [(iconv .u8 y6)]) (d := (some 59)) (by kernel_rfl) hs (by kernel_rfl) (by kernel_rfl) (by kernel_rfl) (z := .int .u8 0) (by kernel_rfl) rfl (by decide) (by decide) (by kernel_rfl) ?_)
   intro s23_A s23_n s23_c w gw hs
   refine ⟨fun _ => trivial, ?_⟩
   obtain ⟨h0, h⟩ := of_chk h
   refine wpS.only 4 (op_appendT (C := (CI .u8)) (t := 24) (ty := 24) (e := 5) (bytes := 1) (B := 140737488355328) (d := (some 60)) (by kernel_rfl) hs 1 rfl (hs.rowL 0 rfl) (by kernel_rfl) (by kernel_rfl) (by kernel_rfl) (by kernel_rfl) (by kernel_rfl) h0 (by decide) (by decide) ?_)
   intro s24_A s24_n s24_c w hs
   refine ⟨fun _ => trivial, ?_⟩
   refine wpS.q 5 5 (.slice s24_A s24_n s24_c) ?_
   refine wpS.fin rfl (kr46 _ _ ?_)
   have q0 := of_some h
   subst q0
   exact nj _ _ ⟨s24_A, s24_n, s24_c, (hs.drop (.cons _ (.cons_cons _ .slnil))), exg (by kernel_rfl)⟩
  refine wpS.tk 1 false (some 55) (.bool false) (yld_b (df hc) (fun _ => by kernel_rfl)) ?_
  refine wpS.fin rfl (kr45 _ _ (then_n (ks44 _ _ (wp_cond_f (by kernel_rfl) (xskip ?_)))))
  have q0 := of_some h
  subst q0
  exact nj _ _ ⟨y8_A, y8_n, y8_c, (hs.conv rfl), exg (by kernel_rfl)⟩
 clear hj hs
 rintro a w ⟨y22_A, y22_n, y22_c, hs, g42, rfl⟩
 refine then_n (ks43 _ _ (xseq_k fun KS47 ks47 => (xregS [0, 1] fun KR48 kr48 => ?_)))
 refine wpS.qs [(0, 61, .slice y22_A y22_n y22_c), (1, 4, .slice y22_A y22_n y22_c)] ?_
 refine wpS.fin rfl (kr48 _ _ (then_n (ks47 _ _ (xret ?_))))
 have q0 := of_some h
 subst q0
 exact qq _ _ (post_ret (by kernel_rfl) (run_results [.tmp 4] [.slice y22_A y22_n y22_c] (by kernel_rfl) (.cons (res_tmp (by kernel_rfl)) .nil)) ⟨⟨y22_A, y22_n, y22_c⟩, congrArg Ending.returned (by kernel_rfl), (hs.pickR pick_nil)⟩)
end Go.Proofs.YtemdbgmldljbpaaDoor
