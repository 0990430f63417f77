/- Printed by this work's own program: the code of each function below comes to the answer that its plain form tells. -/
import Derived.Test.YtemdbgmldljbpaaDoorMd
import Derived.Test.YtemdbgmldljbpaaDoorProg
import Derived.Test.YtemdbgmldljbpaaDoorYF0
import Derived.Test.YtemdbgmldljbpaaDoorYX6
set_option linter.unusedVariables false
set_option linter.unusedSimpArgs false
set_option maxRecDepth 100000
set_option maxHeartbeats 4000000
namespace Go.Proofs.YtemdbgmldljbpaaDoor
open Go.Mx
attribute [local irreducible] wpOp

theorem ref08_constants.ok {K : Nat} {r0 : Arr 24} (h : ref08_constants.f K = some r0) (w0 : World) : Ret Tryd.prog 112 #[] w0 (.agg (enc .u64 r0).toArray) := by
 refine calls_k Tryd.func112 rfl fun Q qq => ?_
 have hs := St.start w0
 refine wp_conv (a' := ⟨#[undef, undef, undef, undef, undef, undef, undef, undef, undef, undef, undef, undef, undef, undef, undef, undef, undef, undef, undef, undef, undef, undef, undef, undef, undef, undef, undef, undef, undef, undef, undef, undef], []⟩) (by kernel_rfl) ?_
 refine xseq_k fun KS1 ks1 => ?_
 refine xregS [0] fun KR2 kr2 => ?_
 refine wpS.only 0 (op_alloc (t := 144) (d := (some 0)) (by kernel_rfl) hs (enc .u64 (zeroA 24)) (.agg (enc .u64 (zeroA 24)).toArray) (by kernel_rfl) (by kernel_rfl) (by kernel_rfl) ?_)
 intro b1 w gw hs
 refine ⟨fun _ => trivial, ?_⟩
 refine wpS.fin rfl (kr2 _ _ (then_n (ks1 _ _ (xseq_k fun KS3 ks3 => (xregS [0] fun KR4 kr4 => ?_)))))
 refine wpS.only 0 (op_alloc (t := 144) (d := (some 1)) (by kernel_rfl) hs (enc .u64 (zeroA 24)) (.agg (enc .u64 (zeroA 24)).toArray) (by kernel_rfl) (by kernel_rfl) (by kernel_rfl) ?_)
 intro b2 w gw hs
 refine ⟨fun _ => trivial, ?_⟩
 refine wpS.fin rfl (kr4 _ _ (then_n (ks3 _ _ (xseq_k fun KS5 ks5 => (xregS [0] fun KR6 kr6 => ?_)))))
 refine wpS.q 0 2 (.int .u64 1) ?_
 refine wpS.fin rfl (kr6 _ _ (then_n (ks5 _ _ (xseq_k fun KS7 ks7 => (xseq_k fun KS8 ks8 => (xregS [0] fun KR9 kr9 => ?_))))))
 refine wpS.q 0 3 (.int .i64 0) ?_
 refine wpS.fin rfl (kr9 _ _ (then_n (ks8 _ _ ?_)))
 obtain ⟨y6, hy, hk0⟩ := of_bind h
 refine wp_exq (N := fun a w => St w0 [] [.blk b2 (enc .u64 y6) 144, .blk b1 (enc .u64 (zeroA 24)) 144] [] w ∧ ∃ g11 : Nat → Value, a = ⟨#[.pointer (some ⟨b1, 0, none⟩), .pointer (some ⟨b2, 0, none⟩), (g11 2), (g11 3), (g11 4), (g11 5), (g11 6), (g11 7), (g11 8), (g11 9), (g11 10), (g11 11), (g11 12), (g11 13), (g11 14), (g11 15), (g11 16), (g11 17), (g11 18), (g11 19), (g11 20), (g11 21), (g11 22), (g11 23), (g11 24), (g11 25), (g11 26), (g11 27), (g11 28), (g11 29), (g11 30), undef], []⟩) (fun N0 nn0 => ?_) ?_
 ·clear hk0
  refine xblock ?_
  refine wp_loop_k (fun n a w => ∃ z3 z4 z5, ref08_constants.l0 K n z3 z4 z5 = some y6 ∧ St w0 [] [.blk b2 (enc .u64 z5) 144, .blk b1 (enc .u64 (zeroA 24)) 144] [] w ∧ ∃ g10 : Nat → Value, a = ⟨#[.pointer (some ⟨b1, 0, none⟩), .pointer (some ⟨b2, 0, none⟩), .int .u64 z3, .int .i64 z4, (g10 4), (g10 5), (g10 6), (g10 7), (g10 8), (g10 9), (g10 10), (g10 11), (g10 12), (g10 13), (g10 14), (g10 15), (g10 16), (g10 17), (g10 18), (g10 19), (g10 20), (g10 21), (g10 22), (g10 23), (g10 24), (g10 25), (g10 26), (g10 27), (g10 28), (g10 29), (g10 30), undef], []⟩) K ⟨1, 0, (zeroA 24), hy, hs.conv rfl, exg (by kernel_rfl)⟩ ?_
  clear hs h hy
  rintro n a w ⟨z3, z4, z5, h, hs, g10, rfl⟩ KL0 kl0
  cases n with
  | zero => exact nomatch (show none = some _ from h)
  | succ n =>
   refine xseq_k fun KS12 ks12 => ?_
   refine xseq_k fun KS13 ks13 => ?_
   refine xregS [0, 1] fun KR14 kr14 => ?_
   refine wpS.q 0 4 (.int .i64 z4) ?_
   rcases of_if h with ⟨hc, h⟩ | ⟨hc, h⟩
   ·refine wpS.tk 1 false (some 5) (.bool true) (yld_b (dt hc) (fun _ => by kernel_rfl)) ?_
    refine wpS.fin rfl (kr14 _ _ (then_n (ks13 _ _ (wp_cond_t (by kernel_rfl) (xskip (then_n (ks12 _ _ ?_)))))))
    obtain ⟨⟨y7, y8⟩, hj, h⟩ := of_bind h
    refine xseq_k fun KS16 ks16 => wp_join (N := fun a w => St w0 [] [.blk b2 (enc .u64 y8) 144, .blk b1 (enc .u64 (zeroA 24)) 144] [] w ∧ ∃ g15 : Nat → Value, a = ⟨#[.pointer (some ⟨b1, 0, none⟩), .pointer (some ⟨b2, 0, none⟩), .int .u64 y7, .int .i64 z4, .int .i64 z4, .bool true, (g10 6), (g10 7), (g15 8), (g15 9), (g15 10), (g15 11), (g15 12), (g15 13), (g15 14), (g15 15), (g15 16), (g15 17), (g15 18), (g15 19), (g15 20), (g15 21), (g15 22), (g15 23), (g15 24), (g15 25), (g15 26), (g15 27), (g15 28), (g15 29), (g15 30), undef], []⟩) (fun N nj => ?_) ?_
    ·clear h
     have h := hj
     refine xblock ?_
     obtain ⟨y9, hj, h⟩ := of_bind h
     refine xseq_k fun KS18 ks18 => wp_join (N := fun a w => St w0 [] [.blk b2 (enc .u64 y9) 144, .blk b1 (enc .u64 (zeroA 24)) 144] [] w ∧ ∃ g17 : Nat → Value, a = ⟨#[.pointer (some ⟨b1, 0, none⟩), .pointer (some ⟨b2, 0, none⟩), .int .u64 z3, .int .i64 z4, .int .i64 z4, .bool true, (g10 6), (g10 7), (g17 8), (g17 9), (g17 10), (g17 11), (g17 12), (g17 13), (g17 14), (g17 15), (g17 16), (g17 17), (g17 18), (g17 19), (g17 20), (g17 21), (g17 22), (g17 23), (g10 24), (g10 25), (g10 26), (g10 27), (g10 28), (g10 29), (g10 30), undef], []⟩) (fun N nj => ?_) ?_
     ·clear h
      have h := hj
      refine xseq_k fun KS19 ks19 => ?_
      refine xregS [0, 1, 2] fun KR20 kr20 => ?_
      refine wpS.qs [(0, 8, .int .u64 z3), (1, 9, .int .u64 (iand .u64 z3 1))] ?_
      rcases of_if h with ⟨hc, h⟩ | ⟨hc, h⟩
      ·refine wpS.tk 2 false (some 10) (.bool true) (yld_b (et hc) (fun _ => by kernel_rfl)) ?_
       refine wpS.fin rfl (kr20 _ _ (then_n (ks19 _ _ (wp_cond_t (by kernel_rfl) ?_))))
       refine wp_regG [13] (fun k => True) 14 (by kernel_rfl) (by kernel_rfl) (by kernel_rfl) fun KR21 kr21 => ?_
       have hs := hs.drawn1
       refine wpG.q 0 11 (.int .i64 z4) ?_
       refine wpG.q 1 12 (.int .i64 (iquo .i64 z4 7)) ?_
       refine wpG.q 2 13 (.int .i64 z4) ?_
       refine wpG.q 3 14 (.int .i64 (iquo .i64 z4 7)) ?_
       obtain ⟨x10, hx, h⟩ := of_bind h
       have hx := of_some hx
       subst hx
       obtain ⟨i0_22, h⟩ := of_chk h
       obtain ⟨i1_22, h⟩ := of_chk h
       refine wpG.tD 4 false (some 15) (.pointer (some ⟨b2, 0 + ((iquo .i64 z4 7) : Int).toNat * 1, none⟩)) (yld_idx (t := 144) (e := 112) (n := 24) (sz := 1) (k := .i64) (x := (iquo .i64 z4 7)) (by kernel_rfl) (by kernel_rfl) (by kernel_rfl) i0_22 i1_22) ?_
       refine wpG.tD 5 true (some 16) (.int .u64 (rd z5 (iquo .i64 z4 7))) (yld_loadA (e := 112) (x := (iquo .i64 z4 7)) hs 0 rfl (by kernel_rfl) (by kernel_rfl) i0_22 i1_22 .grow) ?_
       refine wpG.q 6 17 (.int .i64 z4) ?_
       refine wpG.q 7 18 (.int .i64 (irem .i64 z4 7)) ?_
       obtain ⟨h0, h⟩ := of_chk h
       refine wpG.tD 8 false (some 19) (.int .u64 (ishl .u64 1 (irem .i64 z4 7))) (yld_shl (t := 122) (k' := .i64) (by kernel_rfl) h0) ?_
       refine wpG.q 9 20 (.int .u64 (isub .u64 (ishl .u64 1 (irem .i64 z4 7)) 1)) ?_
       obtain ⟨h0, h⟩ := of_chk h
       refine wpG.tD 10 false (some 21) (.int .u64 (ishl .u64 1 (isub .u64 (ishl .u64 1 (irem .i64 z4 7)) 1))) (yld_shl (t := 112) (k' := .u64) (by kernel_rfl) h0) ?_
       refine wpG.q 11 22 (.int .u64 (ior .u64 (rd z5 (iquo .i64 z4 7)) (ishl .u64 1 (isub .u64 (ishl .u64 1 (irem .i64 z4 7)) 1)))) ?_
       obtain ⟨x11, hx, h⟩ := of_bind h
       have hx := of_some hx
       subst hx
       obtain ⟨i0_23, h⟩ := of_chk h
       obtain ⟨i1_23, h⟩ := of_chk h
       refine wpG.tD 12 false (some 23) (.pointer (some ⟨b2, 0 + ((iquo .i64 z4 7) : Int).toNat * 1, none⟩)) (yld_idx (t := 144) (e := 112) (n := 24) (sz := 1) (k := .i64) (x := (iquo .i64 z4 7)) (by kernel_rfl) (by kernel_rfl) (by kernel_rfl) i0_23 i1_23) ?_
       obtain ⟨x12, hx, h⟩ := of_bind h
       refine wpG.only 13 (by kernel_rfl) (op_storeA (t := 112) (x := (iquo .i64 z4 7)) (v := x12) (d := none) (by kernel_rfl) hs 0 rfl (by cases hx; kernel_rfl) (by kernel_rfl) i0_23 i1_23 ?_)
       intro w kp hs
       refine ⟨⟨fun hf => absurd hf (by decide), .all _ _⟩, ?_⟩
       refine wpG.fin (by kernel_rfl) rfl (kr21 _ _ ?_)
       have q0 := of_some h
       subst q0
       exact nj _ _ ⟨(hs.conv rfl), exg (by kernel_rfl)⟩
      refine wpS.tk 2 false (some 10) (.bool false) (yld_b (ef hc) (fun _ => by kernel_rfl)) ?_
      refine wpS.fin rfl (kr20 _ _ (then_n (ks19 _ _ (wp_cond_f (by kernel_rfl) (xskip ?_)))))
      have q0 := of_some h
      subst q0
      exact nj _ _ ⟨(hs.conv rfl), exg (by kernel_rfl)⟩
     clear hj hs
     rintro a w ⟨hs, g17, rfl⟩
     refine then_n (ks18 _ _ (xseq_k fun KS24 ks24 => (xregS [0, 1, 2] fun KR25 kr25 => ?_)))
     refine wpS.qs [(0, 24, .int .u64 z3), (1, 25, .int .u64 (imul .u64 z3 2))] ?_
     obtain ⟨x13, hx, h⟩ := of_bind h
     refine wpS.tk 2 false (some 2) (.int .u64 x13) (yld_int hx (fun _ => by kernel_rfl)) ?_
     refine wpS.fin rfl (kr25 _ _ (then_n (ks24 _ _ (xseq_k fun KS26 ks26 => (xregS [0, 1] fun KR27 kr27 => ?_)))))
     refine wpS.q 0 26 (.int .u64 x13) ?_
     rcases of_if h with ⟨hc, h⟩ | ⟨hc, h⟩
     ·refine wpS.tk 1 false (some 27) (.bool true) (yld_b (dt hc) (fun _ => by kernel_rfl)) ?_
      refine wpS.fin rfl (kr27 _ _ (then_n (ks26 _ _ (wp_cond_t (by kernel_rfl) (xregS [0, 1, 2, 3] fun KR28 kr28 => ?_)))))
      refine wpS.qs [(0, 28, .int .u64 x13), (1, 29, .int .u64 (iand .u64 x13 255)), (2, 30, .int .u64 (ixor .u64 (iand .u64 x13 255) 113))] ?_
      obtain ⟨x14, hx, h⟩ := of_bind h
      refine wpS.tk 3 false (some 2) (.int .u64 x14) (yld_int hx (fun _ => by kernel_rfl)) ?_
      refine wpS.fin rfl (kr28 _ _ (inBlock_n ?_))
      obtain ⟨q0, qr0⟩ := Prod.mk.inj (of_some h)
      have q1 := qr0
      subst q0
      subst q1
      exact nj _ _ ⟨(hs.conv rfl), exg (by kernel_rfl)⟩
     refine wpS.tk 1 false (some 27) (.bool false) (yld_b (df hc) (fun _ => by kernel_rfl)) ?_
     refine wpS.fin rfl (kr27 _ _ (then_n (ks26 _ _ (wp_cond_f (by kernel_rfl) (xskip (inBlock_n ?_))))))
     obtain ⟨q0, qr0⟩ := Prod.mk.inj (of_some h)
     have q1 := qr0
     subst q0
     subst q1
     exact nj _ _ ⟨(hs.conv rfl), exg (by kernel_rfl)⟩
    clear hj hs
    rintro a w ⟨hs, g15, rfl⟩
    refine then_n (ks16 _ _ (xregS [0, 1, 2] fun KR29 kr29 => ?_))
    refine wpS.qs [(0, 6, .int .i64 z4), (1, 7, .int .i64 (iadd .i64 z4 1))] ?_
    obtain ⟨x15, hx, h⟩ := of_bind h
    refine wpS.tk 2 false (some 3) (.int .i64 x15) (yld_int hx (fun _ => by kernel_rfl)) ?_
    refine wpS.fin rfl (kr29 _ _ ?_)
    exact then_n (kl0 _ _ ⟨n, Nat.lt_succ_self n, y7, x15, y8, h, (hs.conv rfl), exg (by kernel_rfl)⟩)
   refine wpS.tk 1 false (some 5) (.bool false) (yld_b (df hc) (fun _ => by kernel_rfl)) ?_
   refine wpS.fin rfl (kr14 _ _ (then_n (ks13 _ _ (wp_cond_f (by kernel_rfl) (xexit (then_x (then_x (inBlock_hit ?_))))))))
   have q0 := of_some h
   subst q0
   exact exq_n (nn0 _ _ ⟨(hs.conv rfl), exg (by kernel_rfl)⟩)
 clear hs h hy
 rintro a w ⟨hs, g11, rfl⟩
 have h := hk0
 refine then_n (ks7 _ _ (xseq_k fun KS30 ks30 => (xregS [0, 1] fun KR31 kr31 => ?_)))
 refine wpS.tk 0 true (some 31) (.agg (enc .u64 y6).toArray) (yld_loadW (e := 144) (n := 24) hs 0 rfl (by kernel_rfl) (by kernel_rfl) (by kernel_rfl) (by exact enc_len _ _) .grow) ?_
 refine wpS.only 1 (op_storeW (t := 144) (v := .agg (enc .u64 y6).toArray) (d := none) (by kernel_rfl) hs 1 rfl (vs := enc .u64 y6) (n := 24) (by kernel_rfl) (by kernel_rfl) (by kernel_rfl) (by simp [enc_len]) (by simp [enc_len]) (by intro u hu; exact enc_one _ _ u hu) ?_)
 intro w kp hs
 refine ⟨fun _ => trivial, ?_⟩
 refine wpS.fin rfl (kr31 _ _ (then_n (ks30 _ _ (xret ?_))))
 have q0 := of_some h
 subst q0
 exact qq _ _ (post_ret (by kernel_rfl) (run_results [.cell 0 144] [.agg (enc .u64 y6).toArray] (by kernel_rfl) (.cons (res_cellN (n := 24) hs 1 rfl (by kernel_rfl) (by kernel_rfl) (by kernel_rfl) (by exact enc_len _ _)) .nil)) ⟨congrArg Ending.returned (by kernel_rfl), hs.none⟩)

theorem ref08_left.ok {K : Nat} {a0 : Int} {a1 : Int} {r0 : Int} (h : ref08_left.f K a0 a1 = some r0) (w0 : World) : Ret Tryd.prog 117 #[.int .u64 a0, .int .i64 a1] w0 (.int .u64 r0) := by
 refine calls_k Tryd.func117 rfl fun Q qq => ?_
 have hs := St.start w0
 refine wp_conv (a' := ⟨#[.int .u64 a0, .int .i64 a1, undef, undef, undef, undef, undef, undef, undef, undef, undef, undef, undef, undef, undef], []⟩) (by kernel_rfl) ?_
 refine xseq_k fun KS1 ks1 => ?_
 refine xregS [0] fun KR2 kr2 => ?_
 refine wpS.q 0 4 (.int .u64 0) ?_
 refine wpS.fin rfl (kr2 _ _ (then_n (ks1 _ _ (xseq_k fun KS3 ks3 => (xregS [0, 1, 2] fun KR4 kr4 => ?_)))))
 refine wpS.qs [(0, 5, .int .i64 a1), (1, 6, .int .i64 (irem .i64 a1 64))] ?_
 obtain ⟨x1, hx, h⟩ := of_bind h
 refine wpS.tk 2 false (some 1) (.int .i64 x1) (yld_int hx (fun _ => by kernel_rfl)) ?_
 refine wpS.fin rfl (kr4 _ _ (then_n (ks3 _ _ (xseq_k fun KS5 ks5 => ?_))))
 refine wp_regG [] (fun k => True) 9 (by kernel_rfl) (by kernel_rfl) (by kernel_rfl) fun KR6 kr6 => ?_
 have hs := hs.drawn1
 refine wpG.q 0 7 (.int .u64 a0) ?_
 refine wpG.q 1 8 (.int .i64 x1) ?_
 obtain ⟨h0, h⟩ := of_chk h
 refine wpG.tD 2 false (some 9) (.int .u64 (ishl .u64 a0 x1)) (yld_shl (t := 112) (k' := .i64) (by kernel_rfl) h0) ?_
 refine wpG.q 3 10 (.int .u64 a0) ?_
 refine wpG.q 4 11 (.int .i64 x1) ?_
 refine wpG.q 5 12 (.int .i64 (isub .i64 64 x1)) ?_
 obtain ⟨h0, h⟩ := of_chk h
 refine wpG.tD 6 false (some 13) (.int .u64 (ishr .u64 a0 (isub .i64 64 x1))) (yld_shr (t := 112) (k' := .i64) (by kernel_rfl) h0) ?_
 refine wpG.q 7 14 (.int .u64 (ior .u64 (ishl .u64 a0 x1) (ishr .u64 a0 (isub .i64 64 x1)))) ?_
 obtain ⟨x2, hx, h⟩ := of_bind h
 refine wpG.tD 8 false (some 4) (.int .u64 x2) (yld_int hx (fun _ => by kernel_rfl)) ?_
 refine wpG.fin (by kernel_rfl) rfl (kr6 _ _ ?_)
 refine then_n (ks5 _ _ (xret ?_))
 have q0 := of_some h
 subst q0
 exact qq _ _ (post_ret (by kernel_rfl) (run_results [.tmp 4] [.int .u64 x2] (by kernel_rfl) (.cons (res_tmp (by kernel_rfl)) .nil)) ⟨congrArg Ending.returned (by kernel_rfl), hs.none⟩)

theorem ref08_move.ok {K : Nat} {a0 : Arr 25} {r0 : Arr 25} (h : ref08_move.f K a0 = some r0) (w0 : World) : Ret Tryd.prog 113 #[.agg (enc .u64 a0).toArray] w0 (.agg (enc .u64 r0).toArray) := by
 refine calls_k Tryd.func113 rfl fun Q qq => ?_
 have hs := St.start w0
 refine wp_conv (a' := ⟨#[.agg (enc .u64 a0).toArray, undef, undef, undef, undef, undef, undef, undef, undef, undef, undef, undef, undef, undef, undef, undef, undef, undef, undef, undef, undef, undef, undef, undef, undef, undef, undef, undef, undef, undef, undef, undef, undef, undef, undef, undef, undef, undef, undef, undef, undef, undef, undef, undef], []⟩) (by kernel_rfl) ?_
 refine xseq_k fun KS1 ks1 => ?_
 refine xregS [0, 1] fun KR2 kr2 => ?_
 refine wpS.only 0 (op_box (t := 113) (v := .agg (enc .u64 a0).toArray) (d := (some 1)) (by kernel_rfl) hs (enc .u64 a0) (by kernel_rfl) (by kernel_rfl) ?_)
 intro b1 w gw hs
 refine ⟨fun _ => trivial, ?_⟩
 refine wpS.only 1 (op_alloc (t := 113) (d := (some 2)) (by kernel_rfl) hs (enc .u64 (zeroA 25)) (.agg (enc .u64 (zeroA 25)).toArray) (by kernel_rfl) (by kernel_rfl) (by kernel_rfl) ?_)
 intro b2 w gw hs
 refine ⟨fun _ => trivial, ?_⟩
 refine wpS.fin rfl (kr2 _ _ (then_n (ks1 _ _ (xseq_k fun KS3 ks3 => (xregS [0] fun KR4 kr4 => ?_)))))
 refine wpS.only 0 (op_alloc (t := 113) (d := (some 3)) (by kernel_rfl) hs (enc .u64 (zeroA 25)) (.agg (enc .u64 (zeroA 25)).toArray) (by kernel_rfl) (by kernel_rfl) (by kernel_rfl) ?_)
 intro b3 w gw hs
 refine ⟨fun _ => trivial, ?_⟩
 refine wpS.fin rfl (kr4 _ _ (then_n (ks3 _ _ (xseq_k fun KS5 ks5 => (xregS [0, 1, 2, 3] fun KR6 kr6 => ?_)))))
 refine wpS.tk 0 false (some 9) (.pointer (some ⟨b1, 0 + (0 : Int).toNat * 1, none⟩)) (yld_idx (t := 113) (e := 112) (n := 25) (sz := 1) (k := .i64) (x := 0) (by kernel_rfl) (by kernel_rfl) (by kernel_rfl) (by decide) (by decide)) ?_
 refine wpS.tk 1 true (some 10) (.int .u64 (rd a0 0)) (yld_loadA (e := 112) (x := 0) hs 2 rfl (by kernel_rfl) (by kernel_rfl) (by decide) (by decide) .grow) ?_
 refine wpS.tk 2 false (some 11) (.pointer (some ⟨b3, 0 + (0 : Int).toNat * 1, none⟩)) (yld_idx (t := 113) (e := 112) (n := 25) (sz := 1) (k := .i64) (x := 0) (by kernel_rfl) (by kernel_rfl) (by kernel_rfl) (by decide) (by decide)) ?_
 obtain ⟨x4, hx, h⟩ := of_bind h
 refine wpS.only 3 (op_storeA (t := 112) (x := 0) (v := x4) (d := none) (by kernel_rfl) hs 0 rfl (by cases hx; kernel_rfl) (by kernel_rfl) (by decide) (by decide) ?_)
 intro w kp hs
 refine ⟨fun _ => trivial, ?_⟩
 refine wpS.fin rfl (kr6 _ _ (then_n (ks5 _ _ (xseq_k fun KS9 ks9 => (xregS [0] fun KR10 kr10 => ?_)))))
 refine wpS.q 0 4 (.int .i64 1) ?_
 refine wpS.fin rfl (kr10 _ _ (then_n (ks9 _ _ (xseq_k fun KS11 ks11 => (xregS [0] fun KR12 kr12 => ?_)))))
 refine wpS.q 0 5 (.int .i64 0) ?_
 refine wpS.fin rfl (kr12 _ _ (then_n (ks11 _ _ (xseq_k fun KS13 ks13 => (xseq_k fun KS14 ks14 => (xregS [0] fun KR15 kr15 => ?_))))))
 refine wpS.q 0 6 (.int .i64 0) ?_
 refine wpS.fin rfl (kr15 _ _ (then_n (ks14 _ _ ?_)))
 obtain ⟨y9, hy, hk0⟩ := of_bind h
 refine wp_exq (N := fun a w => St w0 [] [.blk b3 (enc .u64 y9) 113, .blk b2 (enc .u64 (zeroA 25)) 113, .blk b1 (enc .u64 a0) 113] [] w ∧ ∃ g17 : Nat → Value, a = ⟨#[.agg (enc .u64 a0).toArray, .pointer (some ⟨b1, 0, none⟩), .pointer (some ⟨b2, 0, none⟩), .pointer (some ⟨b3, 0, none⟩), (g17 4), (g17 5), (g17 6), (g17 7), (g17 8), .pointer (some ⟨b1, 0 + (0 : Int).toNat * 1, none⟩), .int .u64 (rd a0 0), .pointer (some ⟨b3, 0 + (0 : Int).toNat * 1, none⟩), (g17 12), (g17 13), (g17 14), (g17 15), (g17 16), (g17 17), (g17 18), (g17 19), (g17 20), (g17 21), (g17 22), (g17 23), (g17 24), (g17 25), (g17 26), (g17 27), (g17 28), (g17 29), (g17 30), (g17 31), (g17 32), (g17 33), (g17 34), (g17 35), (g17 36), (g17 37), (g17 38), (g17 39), (g17 40), (g17 41), (g17 42), undef], []⟩) (fun N0 nn0 => ?_) ?_
 ·clear hk0
  refine xblock ?_
  refine wp_loop_k (fun n a w => ∃ z5 z6 z7 z8, ref08_move.l0 K n a0 z5 z6 z7 z8 = some y9 ∧ St w0 [] [.blk b3 (enc .u64 z8) 113, .blk b2 (enc .u64 (zeroA 25)) 113, .blk b1 (enc .u64 a0) 113] [] w ∧ ∃ g16 : Nat → Value, a = ⟨#[.agg (enc .u64 a0).toArray, .pointer (some ⟨b1, 0, none⟩), .pointer (some ⟨b2, 0, none⟩), .pointer (some ⟨b3, 0, none⟩), .int .i64 z5, .int .i64 z6, .int .i64 z7, (g16 7), (g16 8), .pointer (some ⟨b1, 0 + (0 : Int).toNat * 1, none⟩), .int .u64 (rd a0 0), .pointer (some ⟨b3, 0 + (0 : Int).toNat * 1, none⟩), (g16 12), (g16 13), (g16 14), (g16 15), (g16 16), (g16 17), (g16 18), (g16 19), (g16 20), (g16 21), (g16 22), (g16 23), (g16 24), (g16 25), (g16 26), (g16 27), (g16 28), (g16 29), (g16 30), (g16 31), (g16 32), (g16 33), (g16 34), (g16 35), (g16 36), (g16 37), (g16 38), (g16 39), (g16 40), (g16 41), (g16 42), undef], []⟩) K ⟨1, 0, 0, (wr (zeroA 25) 0 x4), hy, hs.conv rfl, exg (by kernel_rfl)⟩ ?_
  clear hs h hy
  rintro n a w ⟨z5, z6, z7, z8, h, hs, g16, rfl⟩ KL0 kl0
  cases n with
  | zero => exact nomatch (show none = some _ from h)
  | succ n =>
   refine xseq_k fun KS18 ks18 => ?_
   refine xseq_k fun KS19 ks19 => ?_
   refine xregS [0, 1] fun KR20 kr20 => ?_
   refine wpS.q 0 12 (.int .i64 z7) ?_
   rcases of_if h with ⟨hc, h⟩ | ⟨hc, h⟩
   ·refine wpS.tk 1 false (some 13) (.bool true) (yld_b (dt hc) (fun _ => by kernel_rfl)) ?_
    refine wpS.fin rfl (kr20 _ _ (then_n (ks19 _ _ (wp_cond_t (by kernel_rfl) (xskip (then_n (ks18 _ _ (xseq_k fun KS21 ks21 => (xblock (xseq_k fun KS22 ks22 => (xregS [0, 1] fun KR23 kr23 => ?_)))))))))))
    refine wpS.qs [(0, 16, .int .i64 z6), (1, 7, .int .i64 z6)] ?_
    refine wpS.fin rfl (kr23 _ _ (then_n (ks22 _ _ (xseq_k fun KS24 ks24 => (xregS [0, 1, 2, 3, 4, 5, 6] fun KR25 kr25 => ?_)))))
    refine wpS.qs [(0, 17, .int .i64 z5), (1, 18, .int .i64 (imul .i64 2 z5)), (2, 19, .int .i64 z6), (3, 20, .int .i64 (imul .i64 3 z6)), (4, 21, .int .i64 (iadd .i64 (imul .i64 2 z5) (imul .i64 3 z6))), (5, 22, .int .i64 (irem .i64 (iadd .i64 (imul .i64 2 z5) (imul .i64 3 z6)) 5))] ?_
    obtain ⟨x10, hx, h⟩ := of_bind h
    refine wpS.tk 6 false (some 8) (.int .i64 x10) (yld_int hx (fun _ => by kernel_rfl)) ?_
    refine wpS.fin rfl (kr25 _ _ (then_n (ks24 _ _ (xseq_k fun KS26 ks26 => (xregS [0, 1, 2, 3, 4, 5, 6, 7, 8, 9, 10, 11, 12, 13, 14, 15, 16, 17, 18] fun KR27 kr27 => ?_)))))
    refine wpS.qs [(0, 23, .int .i64 z6), (1, 24, .int .i64 x10), (2, 25, .int .i64 (imul .i64 5 x10)), (3, 26, .int .i64 (iadd .i64 z6 (imul .i64 5 x10))), (4, 27, .int .i64 z5), (5, 28, .int .i64 z6), (6, 29, .int .i64 (imul .i64 5 z6)), (7, 30, .int .i64 (iadd .i64 z5 (imul .i64 5 z6)))] ?_
    obtain ⟨x11, hx, h⟩ := of_bind h
    have hx := of_some hx
    subst hx
    obtain ⟨i0_28, h⟩ := of_chk h
    obtain ⟨i1_28, h⟩ := of_chk h
    refine wpS.tk 8 false (some 31) (.pointer (some ⟨b1, 0 + ((iadd .i64 z5 (imul .i64 5 z6)) : Int).toNat * 1, none⟩)) (yld_idx (t := 113) (e := 112) (n := 25) (sz := 1) (k := .i64) (x := (iadd .i64 z5 (imul .i64 5 z6))) (by kernel_rfl) (by kernel_rfl) (by kernel_rfl) i0_28 i1_28) ?_
    refine wpS.tk 9 true (some 32) (.int .u64 (rd a0 (iadd .i64 z5 (imul .i64 5 z6)))) (yld_loadA (e := 112) (x := (iadd .i64 z5 (imul .i64 5 z6))) hs 2 rfl (by kernel_rfl) (by kernel_rfl) i0_28 i1_28 .grow) ?_
    refine wpS.qs [(10, 33, .int .i64 z7), (11, 34, .int .i64 (iadd .i64 z7 1)), (12, 35, .int .i64 z7), (13, 36, .int .i64 (iadd .i64 z7 2)), (14, 37, .int .i64 (imul .i64 (iadd .i64 z7 1) (iadd .i64 z7 2))), (15, 38, .int .i64 (iquo .i64 (imul .i64 (iadd .i64 z7 1) (iadd .i64 z7 2)) 2))] ?_
    obtain ⟨r12, hg, h⟩ := of_bind h
    refine wpS.only 16 (op_call (d := (some 39)) (by kernel_rfl) hs (fun _ => by kernel_rfl) (ref08_left.ok hg _) ?_)
    intro w gw hs
    refine ⟨fun _ => trivial, ?_⟩
    obtain ⟨x13, hx, h⟩ := of_bind h
    have hx := of_some hx
    subst hx
    obtain ⟨i0_29, h⟩ := of_chk h
    obtain ⟨i1_29, h⟩ := of_chk h
    refine wpS.tk 17 false (some 40) (.pointer (some ⟨b3, 0 + ((iadd .i64 z6 (imul .i64 5 x10)) : Int).toNat * 1, none⟩)) (yld_idx (t := 113) (e := 112) (n := 25) (sz := 1) (k := .i64) (x := (iadd .i64 z6 (imul .i64 5 x10))) (by kernel_rfl) (by kernel_rfl) (by kernel_rfl) i0_29 i1_29) ?_
    refine wpS.only 18 (op_storeA (t := 112) (x := (iadd .i64 z6 (imul .i64 5 x10))) (v := r12) (d := none) (by kernel_rfl) hs 0 rfl (by kernel_rfl) (by kernel_rfl) i0_29 i1_29 ?_)
    intro w kp hs
    refine ⟨fun _ => trivial, ?_⟩
    refine wpS.fin rfl (kr27 _ _ (then_n (ks26 _ _ (xseq_k fun KS30 ks30 => (xregS [0, 1] fun KR31 kr31 => ?_)))))
    refine wpS.qs [(0, 41, .int .i64 z6), (1, 4, .int .i64 z6)] ?_
    refine wpS.fin rfl (kr31 _ _ (then_n (ks30 _ _ (xregS [0, 1] fun KR32 kr32 => ?_))))
    refine wpS.qs [(0, 42, .int .i64 x10), (1, 5, .int .i64 x10)] ?_
    refine wpS.fin rfl (kr32 _ _ (inBlock_n (then_n (ks21 _ _ (xregS [0, 1, 2] fun KR33 kr33 => ?_)))))
    refine wpS.qs [(0, 14, .int .i64 z7), (1, 15, .int .i64 (iadd .i64 z7 1))] ?_
    obtain ⟨x14, hx, h⟩ := of_bind h
    refine wpS.tk 2 false (some 6) (.int .i64 x14) (yld_int hx (fun _ => by kernel_rfl)) ?_
    refine wpS.fin rfl (kr33 _ _ ?_)
    exact then_n (kl0 _ _ ⟨n, Nat.lt_succ_self n, z6, x10, x14, (wr z8 (iadd .i64 z6 (imul .i64 5 x10)) r12), h, (hs.conv rfl), exg (by kernel_rfl)⟩)
   refine wpS.tk 1 false (some 13) (.bool false) (yld_b (df hc) (fun _ => by kernel_rfl)) ?_
   refine wpS.fin rfl (kr20 _ _ (then_n (ks19 _ _ (wp_cond_f (by kernel_rfl) (xexit (then_x (then_x (inBlock_hit ?_))))))))
   have q0 := of_some h
   subst q0
   exact exq_n (nn0 _ _ ⟨(hs.conv rfl), exg (by kernel_rfl)⟩)
 clear hs h hy
 rintro a w ⟨hs, g17, rfl⟩
 have h := hk0
 refine then_n (ks13 _ _ (xseq_k fun KS34 ks34 => (xregS [0, 1] fun KR35 kr35 => ?_)))
 refine wpS.tk 0 true (some 43) (.agg (enc .u64 y9).toArray) (yld_loadW (e := 113) (n := 25) hs 0 rfl (by kernel_rfl) (by kernel_rfl) (by kernel_rfl) (by exact enc_len _ _) .grow) ?_
 refine wpS.only 1 (op_storeW (t := 113) (v := .agg (enc .u64 y9).toArray) (d := none) (by kernel_rfl) hs 1 rfl (vs := enc .u64 y9) (n := 25) (by kernel_rfl) (by kernel_rfl) (by kernel_rfl) (by simp [enc_len]) (by simp [enc_len]) (by intro u hu; exact enc_one _ _ u hu) ?_)
 intro w kp hs
 refine ⟨fun _ => trivial, ?_⟩
 refine wpS.fin rfl (kr35 _ _ (then_n (ks34 _ _ (xret ?_))))
 have q0 := of_some h
 subst q0
 exact qq _ _ (post_ret (by kernel_rfl) (run_results [.cell 2 113] [.agg (enc .u64 y9).toArray] (by kernel_rfl) (.cons (res_cellN (n := 25) hs 1 rfl (by kernel_rfl) (by kernel_rfl) (by kernel_rfl) (by exact enc_len _ _)) .nil)) ⟨congrArg Ending.returned (by kernel_rfl), hs.none⟩)

theorem ref08_spread.ok {K : Nat} {a0 : Arr 25} {r0 : Arr 25} (h : ref08_spread.f K a0 = some r0) (w0 : World) : Ret Tryd.prog 114 #[.agg (enc .u64 a0).toArray] w0 (.agg (enc .u64 r0).toArray) := by
 refine calls_k Tryd.func114 rfl fun Q qq => ?_
 have hs := St.start w0
 refine wp_conv (a' := ⟨#[.agg (enc .u64 a0).toArray, undef, undef, undef, undef, undef, undef, undef, undef, undef, undef, undef, undef, undef, undef, undef, undef, undef, undef, undef, undef, undef, undef, undef, undef, undef, undef, undef, undef, undef, undef, undef, undef, undef, undef, undef, undef, undef, undef, undef, undef, undef, undef, undef], []⟩) (by kernel_rfl) ?_
 refine xseq_k fun KS1 ks1 => ?_
 refine xregS [0, 1] fun KR2 kr2 => ?_
 refine wpS.only 0 (op_box (t := 113) (v := .agg (enc .u64 a0).toArray) (d := (some 1)) (by kernel_rfl) hs (enc .u64 a0) (by kernel_rfl) (by kernel_rfl) ?_)
 intro b1 w gw hs
 refine ⟨fun _ => trivial, ?_⟩
 refine wpS.only 1 (op_alloc (t := 113) (d := (some 2)) (by kernel_rfl) hs (enc .u64 (zeroA 25)) (.agg (enc .u64 (zeroA 25)).toArray) (by kernel_rfl) (by kernel_rfl) (by kernel_rfl) ?_)
 intro b2 w gw hs
 refine ⟨fun _ => trivial, ?_⟩
 refine wpS.fin rfl (kr2 _ _ (then_n (ks1 _ _ (xseq_k fun KS3 ks3 => (xregS [0] fun KR4 kr4 => ?_)))))
 refine wpS.only 0 (op_alloc (t := 148) (d := (some 3)) (by kernel_rfl) hs (enc .u64 (zeroA 5)) (.agg (enc .u64 (zeroA 5)).toArray) (by kernel_rfl) (by kernel_rfl) (by kernel_rfl) ?_)
 intro b3 w gw hs
 refine ⟨fun _ => trivial, ?_⟩
 refine wpS.fin rfl (kr4 _ _ (then_n (ks3 _ _ (xseq_k fun KS5 ks5 => (xseq_k fun KS6 ks6 => (xregS [0] fun KR7 kr7 => ?_))))))
 refine wpS.q 0 4 (.int .i64 0) ?_
 refine wpS.fin rfl (kr7 _ _ (then_n (ks6 _ _ ?_)))
 obtain ⟨y6, hy, hk0⟩ := of_bind h
 refine wp_exq (N := fun a w => St w0 [] [.blk b3 (enc .u64 y6) 148, .blk b2 (enc .u64 (zeroA 25)) 113, .blk b1 (enc .u64 a0) 113] [] w ∧ ∃ g9 : Nat → Value, a = ⟨#[.agg (enc .u64 a0).toArray, .pointer (some ⟨b1, 0, none⟩), .pointer (some ⟨b2, 0, none⟩), .pointer (some ⟨b3, 0, none⟩), (g9 4), undef, (g9 6), (g9 7), (g9 8), (g9 9), (g9 10), (g9 11), (g9 12), (g9 13), (g9 14), (g9 15), (g9 16), (g9 17), (g9 18), (g9 19), (g9 20), undef, undef, undef, undef, undef, undef, undef, undef, undef, undef, undef, undef, undef, undef, undef, undef, undef, undef, undef, undef, undef, undef, undef], []⟩) (fun N0 nn0 => ?_) ?_
 ·clear hk0
  refine xblock ?_
  refine wp_loop_k (fun n a w => ∃ z4 z5, ref08_spread.l0 K n a0 z4 z5 = some y6 ∧ St w0 [] [.blk b3 (enc .u64 z5) 148, .blk b2 (enc .u64 (zeroA 25)) 113, .blk b1 (enc .u64 a0) 113] [] w ∧ ∃ g8 : Nat → Value, a = ⟨#[.agg (enc .u64 a0).toArray, .pointer (some ⟨b1, 0, none⟩), .pointer (some ⟨b2, 0, none⟩), .pointer (some ⟨b3, 0, none⟩), .int .i64 z4, undef, (g8 6), (g8 7), (g8 8), (g8 9), (g8 10), (g8 11), (g8 12), (g8 13), (g8 14), (g8 15), (g8 16), (g8 17), (g8 18), (g8 19), (g8 20), undef, undef, undef, undef, undef, undef, undef, undef, undef, undef, undef, undef, undef, undef, undef, undef, undef, undef, undef, undef, undef, undef, undef], []⟩) K ⟨0, (zeroA 5), hy, hs.conv rfl, exg (by kernel_rfl)⟩ ?_
  clear hs h hy
  rintro n a w ⟨z4, z5, h, hs, g8, rfl⟩ KL0 kl0
  cases n with
  | zero => exact nomatch (show none = some _ from h)
  | succ n =>
   refine xseq_k fun KS10 ks10 => ?_
   refine xseq_k fun KS11 ks11 => ?_
   refine xregS [0, 1] fun KR12 kr12 => ?_
   refine wpS.q 0 6 (.int .i64 z4) ?_
   rcases of_if h with ⟨hc, h⟩ | ⟨hc, h⟩
   ·refine wpS.tk 1 false (some 7) (.bool true) (yld_b (dt hc) (fun _ => by kernel_rfl)) ?_
    refine wpS.fin rfl (kr12 _ _ (then_n (ks11 _ _ (wp_cond_t (by kernel_rfl) (xskip (then_n (ks10 _ _ (xseq_k fun KS13 ks13 => (xblock ?_)))))))))
    refine wp_regG [11] (fun k => True) 12 (by kernel_rfl) (by kernel_rfl) (by kernel_rfl) fun KR14 kr14 => ?_
    have hs := hs.drawn1
    refine wpG.q 0 10 (.int .i64 z4) ?_
    refine wpG.q 1 11 (.int .i64 (irem .i64 z4 5)) ?_
    refine wpG.q 2 12 (.int .i64 z4) ?_
    refine wpG.q 3 13 (.int .i64 (irem .i64 z4 5)) ?_
    obtain ⟨x7, hx, h⟩ := of_bind h
    have hx := of_some hx
    subst hx
    obtain ⟨i0_15, h⟩ := of_chk h
    obtain ⟨i1_15, h⟩ := of_chk h
    refine wpG.tD 4 false (some 14) (.pointer (some ⟨b3, 0 + ((irem .i64 z4 5) : Int).toNat * 1, none⟩)) (yld_idx (t := 148) (e := 112) (n := 5) (sz := 1) (k := .i64) (x := (irem .i64 z4 5)) (by kernel_rfl) (by kernel_rfl) (by kernel_rfl) i0_15 i1_15) ?_
    refine wpG.tD 5 true (some 15) (.int .u64 (rd z5 (irem .i64 z4 5))) (yld_loadA (e := 112) (x := (irem .i64 z4 5)) hs 0 rfl (by kernel_rfl) (by kernel_rfl) i0_15 i1_15 .grow) ?_
    refine wpG.q 6 16 (.int .i64 z4) ?_
    obtain ⟨i0_16, h⟩ := of_chk h
    obtain ⟨i1_16, h⟩ := of_chk h
    refine wpG.tD 7 false (some 17) (.pointer (some ⟨b1, 0 + (z4 : Int).toNat * 1, none⟩)) (yld_idx (t := 113) (e := 112) (n := 25) (sz := 1) (k := .i64) (x := z4) (by kernel_rfl) (by kernel_rfl) (by kernel_rfl) i0_16 i1_16) ?_
    refine wpG.tD 8 true (some 18) (.int .u64 (rd a0 z4)) (yld_loadA (e := 112) (x := z4) hs 2 rfl (by kernel_rfl) (by kernel_rfl) i0_16 i1_16 .grow) ?_
    refine wpG.q 9 19 (.int .u64 (ixor .u64 (rd z5 (irem .i64 z4 5)) (rd a0 z4))) ?_
    obtain ⟨x8, hx, h⟩ := of_bind h
    have hx := of_some hx
    subst hx
    obtain ⟨i0_17, h⟩ := of_chk h
    obtain ⟨i1_17, h⟩ := of_chk h
    refine wpG.tD 10 false (some 20) (.pointer (some ⟨b3, 0 + ((irem .i64 z4 5) : Int).toNat * 1, none⟩)) (yld_idx (t := 148) (e := 112) (n := 5) (sz := 1) (k := .i64) (x := (irem .i64 z4 5)) (by kernel_rfl) (by kernel_rfl) (by kernel_rfl) i0_17 i1_17) ?_
    obtain ⟨x9, hx, h⟩ := of_bind h
    refine wpG.only 11 (by kernel_rfl) (op_storeA (t := 112) (x := (irem .i64 z4 5)) (v := x9) (d := none) (by kernel_rfl) hs 0 rfl (by cases hx; kernel_rfl) (by kernel_rfl) i0_17 i1_17 ?_)
    intro w kp hs
    refine ⟨⟨fun hf => absurd hf (by decide), .all _ _⟩, ?_⟩
    refine wpG.fin (by kernel_rfl) rfl (kr14 _ _ ?_)
    refine inBlock_n (then_n (ks13 _ _ (xregS [0, 1, 2] fun KR18 kr18 => ?_)))
    refine wpS.qs [(0, 8, .int .i64 z4), (1, 9, .int .i64 (iadd .i64 z4 1))] ?_
    obtain ⟨x10, hx, h⟩ := of_bind h
    refine wpS.tk 2 false (some 4) (.int .i64 x10) (yld_int hx (fun _ => by kernel_rfl)) ?_
    refine wpS.fin rfl (kr18 _ _ ?_)
    exact then_n (kl0 _ _ ⟨n, Nat.lt_succ_self n, x10, (wr z5 (irem .i64 z4 5) x9), h, (hs.conv rfl), exg (by kernel_rfl)⟩)
   refine wpS.tk 1 false (some 7) (.bool false) (yld_b (df hc) (fun _ => by kernel_rfl)) ?_
   refine wpS.fin rfl (kr12 _ _ (then_n (ks11 _ _ (wp_cond_f (by kernel_rfl) (xexit (then_x (then_x (inBlock_hit ?_))))))))
   have q0 := of_some h
   subst q0
   exact exq_n (nn0 _ _ ⟨(hs.conv rfl), exg (by kernel_rfl)⟩)
 clear hs h hy
 rintro a w ⟨hs, g9, rfl⟩
 have h := hk0
 refine then_n (ks5 _ _ (xseq_k fun KS19 ks19 => (xseq_k fun KS20 ks20 => (xregS [0] fun KR21 kr21 => ?_))))
 refine wpS.q 0 5 (.int .i64 0) ?_
 refine wpS.fin rfl (kr21 _ _ (then_n (ks20 _ _ ?_)))
 obtain ⟨y13, hy, hk1⟩ := of_bind h
 refine wp_exq (N := fun a w => St w0 [] [.blk b3 (enc .u64 y6) 148, .blk b2 (enc .u64 (zeroA 25)) 113, .blk b1 (enc .u64 y13) 113] [] w ∧ ∃ g23 : Nat → Value, a = ⟨#[.agg (enc .u64 a0).toArray, .pointer (some ⟨b1, 0, none⟩), .pointer (some ⟨b2, 0, none⟩), .pointer (some ⟨b3, 0, none⟩), (g9 4), (g23 5), (g9 6), (g9 7), (g9 8), (g9 9), (g9 10), (g9 11), (g9 12), (g9 13), (g9 14), (g9 15), (g9 16), (g9 17), (g9 18), (g9 19), (g9 20), (g23 21), (g23 22), (g23 23), (g23 24), (g23 25), (g23 26), (g23 27), (g23 28), (g23 29), (g23 30), (g23 31), (g23 32), (g23 33), (g23 34), (g23 35), (g23 36), (g23 37), (g23 38), (g23 39), (g23 40), (g23 41), (g23 42), undef], []⟩) (fun N1 nn1 => ?_) ?_
 ·clear hk1
  refine xblock ?_
  refine wp_loop_k (fun n a w => ∃ z11 z12, ref08_spread.l1 K n y6 z11 z12 = some y13 ∧ St w0 [] [.blk b3 (enc .u64 y6) 148, .blk b2 (enc .u64 (zeroA 25)) 113, .blk b1 (enc .u64 z12) 113] [] w ∧ ∃ g22 : Nat → Value, a = ⟨#[.agg (enc .u64 a0).toArray, .pointer (some ⟨b1, 0, none⟩), .pointer (some ⟨b2, 0, none⟩), .pointer (some ⟨b3, 0, none⟩), (g9 4), .int .i64 z11, (g9 6), (g9 7), (g9 8), (g9 9), (g9 10), (g9 11), (g9 12), (g9 13), (g9 14), (g9 15), (g9 16), (g9 17), (g9 18), (g9 19), (g9 20), (g22 21), (g22 22), (g22 23), (g22 24), (g22 25), (g22 26), (g22 27), (g22 28), (g22 29), (g22 30), (g22 31), (g22 32), (g22 33), (g22 34), (g22 35), (g22 36), (g22 37), (g22 38), (g22 39), (g22 40), (g22 41), (g22 42), undef], []⟩) K ⟨0, a0, hy, hs.conv rfl, exg (by kernel_rfl)⟩ ?_
  clear hs h hy
  rintro n a w ⟨z11, z12, h, hs, g22, rfl⟩ KL1 kl1
  cases n with
  | zero => exact nomatch (show none = some _ from h)
  | succ n =>
   refine xseq_k fun KS24 ks24 => ?_
   refine xseq_k fun KS25 ks25 => ?_
   refine xregS [0, 1] fun KR26 kr26 => ?_
   refine wpS.q 0 21 (.int .i64 z11) ?_
   rcases of_if h with ⟨hc, h⟩ | ⟨hc, h⟩
   ·refine wpS.tk 1 false (some 22) (.bool true) (yld_b (dt hc) (fun _ => by kernel_rfl)) ?_
    refine wpS.fin rfl (kr26 _ _ (then_n (ks25 _ _ (wp_cond_t (by kernel_rfl) (xskip (then_n (ks24 _ _ (xseq_k fun KS27 ks27 => (xblock ?_)))))))))
    refine wp_regG [18] (fun k => True) 19 (by kernel_rfl) (by kernel_rfl) (by kernel_rfl) fun KR28 kr28 => ?_
    have hs := hs.drawn1
    refine wpG.q 0 25 (.int .i64 z11) ?_
    refine wpG.q 1 26 (.int .i64 z11) ?_
    obtain ⟨i0_29, h⟩ := of_chk h
    obtain ⟨i1_29, h⟩ := of_chk h
    refine wpG.tD 2 false (some 27) (.pointer (some ⟨b1, 0 + (z11 : Int).toNat * 1, none⟩)) (yld_idx (t := 113) (e := 112) (n := 25) (sz := 1) (k := .i64) (x := z11) (by kernel_rfl) (by kernel_rfl) (by kernel_rfl) i0_29 i1_29) ?_
    refine wpG.tD 3 true (some 28) (.int .u64 (rd z12 z11)) (yld_loadA (e := 112) (x := z11) hs 2 rfl (by kernel_rfl) (by kernel_rfl) i0_29 i1_29 .grow) ?_
    refine wpG.q 4 29 (.int .i64 z11) ?_
    refine wpG.q 5 30 (.int .i64 (iadd .i64 z11 4)) ?_
    refine wpG.q 6 31 (.int .i64 (irem .i64 (iadd .i64 z11 4) 5)) ?_
    obtain ⟨x14, hx, h⟩ := of_bind h
    have hx := of_some hx
    subst hx
    obtain ⟨i0_30, h⟩ := of_chk h
    obtain ⟨i1_30, h⟩ := of_chk h
    refine wpG.tD 7 false (some 32) (.pointer (some ⟨b3, 0 + ((irem .i64 (iadd .i64 z11 4) 5) : Int).toNat * 1, none⟩)) (yld_idx (t := 148) (e := 112) (n := 5) (sz := 1) (k := .i64) (x := (irem .i64 (iadd .i64 z11 4) 5)) (by kernel_rfl) (by kernel_rfl) (by kernel_rfl) i0_30 i1_30) ?_
    refine wpG.tD 8 true (some 33) (.int .u64 (rd y6 (irem .i64 (iadd .i64 z11 4) 5))) (yld_loadA (e := 112) (x := (irem .i64 (iadd .i64 z11 4) 5)) hs 0 rfl (by kernel_rfl) (by kernel_rfl) i0_30 i1_30 .grow) ?_
    refine wpG.q 9 34 (.int .u64 (ixor .u64 (rd z12 z11) (rd y6 (irem .i64 (iadd .i64 z11 4) 5)))) ?_
    refine wpG.q 10 35 (.int .i64 z11) ?_
    refine wpG.q 11 36 (.int .i64 (iadd .i64 z11 1)) ?_
    refine wpG.q 12 37 (.int .i64 (irem .i64 (iadd .i64 z11 1) 5)) ?_
    obtain ⟨x15, hx, h⟩ := of_bind h
    have hx := of_some hx
    subst hx
    obtain ⟨i0_31, h⟩ := of_chk h
    obtain ⟨i1_31, h⟩ := of_chk h
    refine wpG.tD 13 false (some 38) (.pointer (some ⟨b3, 0 + ((irem .i64 (iadd .i64 z11 1) 5) : Int).toNat * 1, none⟩)) (yld_idx (t := 148) (e := 112) (n := 5) (sz := 1) (k := .i64) (x := (irem .i64 (iadd .i64 z11 1) 5)) (by kernel_rfl) (by kernel_rfl) (by kernel_rfl) i0_31 i1_31) ?_
    refine wpG.tD 14 true (some 39) (.int .u64 (rd y6 (irem .i64 (iadd .i64 z11 1) 5))) (yld_loadA (e := 112) (x := (irem .i64 (iadd .i64 z11 1) 5)) hs 0 rfl (by kernel_rfl) (by kernel_rfl) i0_31 i1_31 .grow) ?_
    obtain ⟨r16, hg, h⟩ := of_bind h
    refine wpG.only 15 (by kernel_rfl) (op_call (d := (some 40)) (by kernel_rfl) hs (fun _ => by kernel_rfl) (ref08_left.ok hg _) ?_)
    intro w gw hs
    refine ⟨.of gw, ?_⟩
    refine wpG.q 16 41 (.int .u64 (ixor .u64 (ixor .u64 (rd z12 z11) (rd y6 (irem .i64 (iadd .i64 z11 4) 5))) r16)) ?_
    obtain ⟨i0_32, h⟩ := of_chk h
    obtain ⟨i1_32, h⟩ := of_chk h
    refine wpG.tD 17 false (some 42) (.pointer (some ⟨b1, 0 + (z11 : Int).toNat * 1, none⟩)) (yld_idx (t := 113) (e := 112) (n := 25) (sz := 1) (k := .i64) (x := z11) (by kernel_rfl) (by kernel_rfl) (by kernel_rfl) i0_32 i1_32) ?_
    obtain ⟨x17, hx, h⟩ := of_bind h
    refine wpG.only 18 (by kernel_rfl) (op_storeA (t := 112) (x := z11) (v := x17) (d := none) (by kernel_rfl) hs 2 rfl (by cases hx; kernel_rfl) (by kernel_rfl) i0_32 i1_32 ?_)
    intro w kp hs
    refine ⟨⟨fun hf => absurd hf (by decide), .all _ _⟩, ?_⟩
    refine wpG.fin (by kernel_rfl) rfl (kr28 _ _ ?_)
    refine inBlock_n (then_n (ks27 _ _ (xregS [0, 1, 2] fun KR33 kr33 => ?_)))
    refine wpS.qs [(0, 23, .int .i64 z11), (1, 24, .int .i64 (iadd .i64 z11 1))] ?_
    obtain ⟨x18, hx, h⟩ := of_bind h
    refine wpS.tk 2 false (some 5) (.int .i64 x18) (yld_int hx (fun _ => by kernel_rfl)) ?_
    refine wpS.fin rfl (kr33 _ _ ?_)
    exact then_n (kl1 _ _ ⟨n, Nat.lt_succ_self n, x18, (wr z12 z11 x17), h, (hs.conv rfl), exg (by kernel_rfl)⟩)
   refine wpS.tk 1 false (some 22) (.bool false) (yld_b (df hc) (fun _ => by kernel_rfl)) ?_
   refine wpS.fin rfl (kr26 _ _ (then_n (ks25 _ _ (wp_cond_f (by kernel_rfl) (xexit (then_x (then_x (inBlock_hit ?_))))))))
   have q0 := of_some h
   subst q0
   exact exq_n (nn1 _ _ ⟨(hs.conv rfl), exg (by kernel_rfl)⟩)
 clear hs h hy
 rintro a w ⟨hs, g23, rfl⟩
 have h := hk1
 refine then_n (ks19 _ _ (xseq_k fun KS34 ks34 => (xregS [0, 1] fun KR35 kr35 => ?_)))
 refine wpS.tk 0 true (some 43) (.agg (enc .u64 y13).toArray) (yld_loadW (e := 113) (n := 25) hs 2 rfl (by kernel_rfl) (by kernel_rfl) (by kernel_rfl) (by exact enc_len _ _) .grow) ?_
 refine wpS.only 1 (op_storeW (t := 113) (v := .agg (enc .u64 y13).toArray) (d := none) (by kernel_rfl) hs 1 rfl (vs := enc .u64 y13) (n := 25) (by kernel_rfl) (by kernel_rfl) (by kernel_rfl) (by simp [enc_len]) (by simp [enc_len]) (by intro u hu; exact enc_one _ _ u hu) ?_)
 intro w kp hs
 refine ⟨fun _ => trivial, ?_⟩
 refine wpS.fin rfl (kr35 _ _ (then_n (ks34 _ _ (xret ?_))))
 have q0 := of_some h
 subst q0
 exact qq _ _ (post_ret (by kernel_rfl) (run_results [.cell 2 113] [.agg (enc .u64 y13).toArray] (by kernel_rfl) (.cons (res_cellN (n := 25) hs 1 rfl (by kernel_rfl) (by kernel_rfl) (by kernel_rfl) (by exact enc_len _ _)) .nil)) ⟨congrArg Ending.returned (by kernel_rfl), hs.none⟩)

theorem ref08_Permute.ok {K : Nat} {a0 : Arr 25} {r0 : Arr 25} (h : ref08_Permute.f K a0 = some r0) (w0 : World) : Ret Tryd.prog 107 #[.agg (enc .u64 a0).toArray] w0 (.agg (enc .u64 r0).toArray) := by
 refine calls_k Tryd.func107 rfl fun Q qq => ?_
 have hs := St.start w0
 refine wp_conv (a' := ⟨#[.agg (enc .u64 a0).toArray, undef, undef, undef, undef, undef, undef, undef, undef, undef, undef, undef, undef, undef, undef, undef, undef, undef, undef, undef, undef, undef, undef, undef, undef, undef, undef, undef, undef, undef, undef, undef, undef, undef, undef, undef, undef, undef, undef, undef, undef, undef, undef, undef, undef, undef, undef, undef, undef, undef, undef, undef, undef], []⟩) (by kernel_rfl) ?_
 refine xseq_k fun KS1 ks1 => ?_
 refine xregS [0, 1] fun KR2 kr2 => ?_
 refine wpS.only 0 (op_box (t := 113) (v := .agg (enc .u64 a0).toArray) (d := (some 1)) (by kernel_rfl) hs (enc .u64 a0) (by kernel_rfl) (by kernel_rfl) ?_)
 intro b1 w gw hs
 refine ⟨fun _ => trivial, ?_⟩
 refine wpS.only 1 (op_alloc (t := 113) (d := (some 2)) (by kernel_rfl) hs (enc .u64 (zeroA 25)) (.agg (enc .u64 (zeroA 25)).toArray) (by kernel_rfl) (by kernel_rfl) (by kernel_rfl) ?_)
 intro b2 w gw hs
 refine ⟨fun _ => trivial, ?_⟩
 refine wpS.fin rfl (kr2 _ _ (then_n (ks1 _ _ (xseq_k fun KS3 ks3 => (xregS [0, 1, 2] fun KR4 kr4 => ?_)))))
 obtain ⟨r3, hg, h⟩ := of_bind h
 refine wpS.only 0 (op_call (d := (some 8)) (by kernel_rfl) hs (fun _ => by kernel_rfl) (ref08_constants.ok hg _) ?_)
 intro w gw hs
 refine ⟨fun _ => trivial, ?_⟩
 refine wpS.only 1 (op_alloc (t := 144) (d := (some 3)) (by kernel_rfl) hs (enc .u64 (zeroA 24)) (.agg (enc .u64 (zeroA 24)).toArray) (by kernel_rfl) (by kernel_rfl) (by kernel_rfl) ?_)
 intro b4 w gw hs
 refine ⟨fun _ => trivial, ?_⟩
 refine wpS.only 2 (op_storeW (t := 144) (v := .agg (enc .u64 r3).toArray) (d := none) (by kernel_rfl) hs 0 rfl (vs := enc .u64 r3) (n := 24) (by kernel_rfl) (by kernel_rfl) (by kernel_rfl) (by simp [enc_len]) (by simp [enc_len]) (by intro u hu; exact enc_one _ _ u hu) ?_)
 intro w kp hs
 refine ⟨fun _ => trivial, ?_⟩
 refine wpS.fin rfl (kr4 _ _ (then_n (ks3 _ _ (xseq_k fun KS5 ks5 => (xseq_k fun KS6 ks6 => (xregS [0] fun KR7 kr7 => ?_))))))
 refine wpS.q 0 4 (.int .i64 0) ?_
 refine wpS.fin rfl (kr7 _ _ (then_n (ks6 _ _ ?_)))
 obtain ⟨y7, hy, hk0⟩ := of_bind h
 refine wp_exq (N := fun a w => St w0 [] [.blk b4 (enc .u64 r3) 144, .blk b2 (enc .u64 (zeroA 25)) 113, .blk b1 (enc .u64 y7) 113] [] w ∧ ∃ g9 : Nat → Value, a = ⟨#[.agg (enc .u64 a0).toArray, .pointer (some ⟨b1, 0, none⟩), .pointer (some ⟨b2, 0, none⟩), .pointer (some ⟨b4, 0, none⟩), (g9 4), (g9 5), (g9 6), (g9 7), .agg (enc .u64 r3).toArray, (g9 9), (g9 10), (g9 11), (g9 12), (g9 13), (g9 14), (g9 15), (g9 16), (g9 17), (g9 18), (g9 19), (g9 20), (g9 21), (g9 22), (g9 23), (g9 24), (g9 25), (g9 26), (g9 27), (g9 28), (g9 29), (g9 30), (g9 31), (g9 32), (g9 33), (g9 34), (g9 35), (g9 36), (g9 37), (g9 38), (g9 39), (g9 40), (g9 41), (g9 42), (g9 43), (g9 44), (g9 45), (g9 46), (g9 47), (g9 48), (g9 49), (g9 50), (g9 51), undef], []⟩) (fun N0 nn0 => ?_) ?_
 ·clear hk0
  refine xblock ?_
  refine wp_loop_k (fun n a w => ∃ z5 z6, ref08_Permute.l0 K n r3 z5 z6 = some y7 ∧ St w0 [] [.blk b4 (enc .u64 r3) 144, .blk b2 (enc .u64 (zeroA 25)) 113, .blk b1 (enc .u64 z6) 113] [] w ∧ ∃ g8 : Nat → Value, a = ⟨#[.agg (enc .u64 a0).toArray, .pointer (some ⟨b1, 0, none⟩), .pointer (some ⟨b2, 0, none⟩), .pointer (some ⟨b4, 0, none⟩), .int .i64 z5, (g8 5), (g8 6), (g8 7), .agg (enc .u64 r3).toArray, (g8 9), (g8 10), (g8 11), (g8 12), (g8 13), (g8 14), (g8 15), (g8 16), (g8 17), (g8 18), (g8 19), (g8 20), (g8 21), (g8 22), (g8 23), (g8 24), (g8 25), (g8 26), (g8 27), (g8 28), (g8 29), (g8 30), (g8 31), (g8 32), (g8 33), (g8 34), (g8 35), (g8 36), (g8 37), (g8 38), (g8 39), (g8 40), (g8 41), (g8 42), (g8 43), (g8 44), (g8 45), (g8 46), (g8 47), (g8 48), (g8 49), (g8 50), (g8 51), undef], []⟩) K ⟨0, a0, hy, hs.conv rfl, exg (by kernel_rfl)⟩ ?_
  clear hs h hy
  rintro n a w ⟨z5, z6, h, hs, g8, rfl⟩ KL0 kl0
  cases n with
  | zero => exact nomatch (show none = some _ from h)
  | succ n =>
   refine xseq_k fun KS10 ks10 => ?_
   refine xseq_k fun KS11 ks11 => ?_
   refine xregS [0, 1] fun KR12 kr12 => ?_
   refine wpS.q 0 9 (.int .i64 z5) ?_
   rcases of_if h with ⟨hc, h⟩ | ⟨hc, h⟩
   ·refine wpS.tk 1 false (some 10) (.bool true) (yld_b (dt hc) (fun _ => by kernel_rfl)) ?_
    refine wpS.fin rfl (kr12 _ _ (then_n (ks11 _ _ (wp_cond_t (by kernel_rfl) (xskip (then_n (ks10 _ _ (xseq_k fun KS13 ks13 => (xblock (xseq_k fun KS14 ks14 => (xregS [0, 1, 2, 3, 4] fun KR15 kr15 => ?_)))))))))))
    refine wpS.tk 0 true (some 13) (.agg (enc .u64 z6).toArray) (yld_loadW (e := 113) (n := 25) hs 2 rfl (by kernel_rfl) (by kernel_rfl) (by kernel_rfl) (by exact enc_len _ _) .grow) ?_
    obtain ⟨r8, hg, h⟩ := of_bind h
    refine wpS.only 1 (op_call (d := (some 14)) (by kernel_rfl) hs (fun _ => by kernel_rfl) (ref08_spread.ok hg _) ?_)
    intro w gw hs
    refine ⟨fun _ => trivial, ?_⟩
    obtain ⟨r9, hg, h⟩ := of_bind h
    refine wpS.only 2 (op_call (d := (some 15)) (by kernel_rfl) hs (fun _ => by kernel_rfl) (ref08_move.ok hg _) ?_)
    intro w gw hs
    refine ⟨fun _ => trivial, ?_⟩
    refine wpS.only 3 (op_alloc (t := 113) (d := (some 5)) (by kernel_rfl) hs (enc .u64 (zeroA 25)) (.agg (enc .u64 (zeroA 25)).toArray) (by kernel_rfl) (by kernel_rfl) (by kernel_rfl) ?_)
    intro b10 w gw hs
    refine ⟨fun _ => trivial, ?_⟩
    refine wpS.only 4 (op_storeW (t := 113) (v := .agg (enc .u64 r9).toArray) (d := none) (by kernel_rfl) hs 0 rfl (vs := enc .u64 r9) (n := 25) (by kernel_rfl) (by kernel_rfl) (by kernel_rfl) (by simp [enc_len]) (by simp [enc_len]) (by intro u hu; exact enc_one _ _ u hu) ?_)
    intro w kp hs
    refine ⟨fun _ => trivial, ?_⟩
    refine wpS.fin rfl (kr15 _ _ (then_n (ks14 _ _ (xseq_k fun KS16 ks16 => (xseq_k fun KS17 ks17 => (xregS [0] fun KR18 kr18 => ?_))))))
    refine wpS.q 0 6 (.int .i64 0) ?_
    refine wpS.fin rfl (kr18 _ _ (then_n (ks17 _ _ ?_)))
    obtain ⟨y13, hy, hk1⟩ := of_bind h
    refine wp_exq (N := fun a w => St w0 [] [.blk b10 (enc .u64 r9) 113, .blk b4 (enc .u64 r3) 144, .blk b2 (enc .u64 (zeroA 25)) 113, .blk b1 (enc .u64 y13) 113] [] w ∧ ∃ g20 : Nat → Value, a = ⟨#[.agg (enc .u64 a0).toArray, .pointer (some ⟨b1, 0, none⟩), .pointer (some ⟨b2, 0, none⟩), .pointer (some ⟨b4, 0, none⟩), .int .i64 z5, .pointer (some ⟨b10, 0, none⟩), (g20 6), (g20 7), .agg (enc .u64 r3).toArray, .int .i64 z5, .bool true, (g8 11), (g8 12), .agg (enc .u64 z6).toArray, .agg (enc .u64 r8).toArray, .agg (enc .u64 r9).toArray, (g20 16), (g20 17), (g20 18), (g20 19), (g20 20), (g20 21), (g20 22), (g20 23), (g20 24), (g20 25), (g20 26), (g20 27), (g20 28), (g20 29), (g20 30), (g20 31), (g20 32), (g20 33), (g20 34), (g20 35), (g20 36), (g20 37), (g20 38), (g20 39), (g20 40), (g20 41), (g20 42), (g20 43), (g20 44), (g8 45), (g8 46), (g8 47), (g8 48), (g8 49), (g8 50), (g8 51), undef], []⟩) (fun N1 nn1 => ?_) ?_
    ·clear hk1
     refine xblock ?_
     refine wp_loop_k (fun n a w => ∃ z11 z12, ref08_Permute.l1 K n r9 z11 z12 = some y13 ∧ St w0 [] [.blk b10 (enc .u64 r9) 113, .blk b4 (enc .u64 r3) 144, .blk b2 (enc .u64 (zeroA 25)) 113, .blk b1 (enc .u64 z12) 113] [] w ∧ ∃ g19 : Nat → Value, a = ⟨#[.agg (enc .u64 a0).toArray, .pointer (some ⟨b1, 0, none⟩), .pointer (some ⟨b2, 0, none⟩), .pointer (some ⟨b4, 0, none⟩), .int .i64 z5, .pointer (some ⟨b10, 0, none⟩), .int .i64 z11, (g19 7), .agg (enc .u64 r3).toArray, .int .i64 z5, .bool true, (g8 11), (g8 12), .agg (enc .u64 z6).toArray, .agg (enc .u64 r8).toArray, .agg (enc .u64 r9).toArray, (g19 16), (g19 17), (g19 18), (g19 19), (g19 20), (g19 21), (g19 22), (g19 23), (g19 24), (g19 25), (g19 26), (g19 27), (g19 28), (g19 29), (g19 30), (g19 31), (g19 32), (g19 33), (g19 34), (g19 35), (g19 36), (g19 37), (g19 38), (g19 39), (g19 40), (g19 41), (g19 42), (g19 43), (g19 44), (g8 45), (g8 46), (g8 47), (g8 48), (g8 49), (g8 50), (g8 51), undef], []⟩) K ⟨0, z6, hy, hs.conv rfl, exg (by kernel_rfl)⟩ ?_
     clear hs h hy
     rintro n a w ⟨z11, z12, h, hs, g19, rfl⟩ KL1 kl1
     cases n with
     | zero => exact nomatch (show none = some _ from h)
     | succ n =>
      refine xseq_k fun KS21 ks21 => ?_
      refine xseq_k fun KS22 ks22 => ?_
      refine xregS [0, 1] fun KR23 kr23 => ?_
      refine wpS.q 0 16 (.int .i64 z11) ?_
      rcases of_if h with ⟨hc, h⟩ | ⟨hc, h⟩
      ·refine wpS.tk 1 false (some 17) (.bool true) (yld_b (dt hc) (fun _ => by kernel_rfl)) ?_
       refine wpS.fin rfl (kr23 _ _ (then_n (ks22 _ _ (wp_cond_t (by kernel_rfl) (xskip (then_n (ks21 _ _ (xseq_k fun KS24 ks24 => (xblock (xseq_k fun KS25 ks25 => (xregS [0, 1, 2, 3] fun KR26 kr26 => ?_)))))))))))
       refine wpS.qs [(0, 20, .int .i64 z11), (1, 21, .int .i64 (iquo .i64 z11 5)), (2, 22, .int .i64 (imul .i64 (iquo .i64 z11 5) 5))] ?_
       obtain ⟨x14, hx, h⟩ := of_bind h
       refine wpS.tk 3 false (some 7) (.int .i64 x14) (yld_int hx (fun _ => by kernel_rfl)) ?_
       refine wpS.fin rfl (kr26 _ _ (then_n (ks25 _ _ ?_)))
       refine wp_regG [22] (fun k => True) 23 (by kernel_rfl) (by kernel_rfl) (by kernel_rfl) fun KR27 kr27 => ?_
       have hs := hs.drawn1
       refine wpG.q 0 23 (.int .i64 z11) ?_
       refine wpG.q 1 24 (.int .i64 z11) ?_
       obtain ⟨i0_28, h⟩ := of_chk h
       obtain ⟨i1_28, h⟩ := of_chk h
       refine wpG.tD 2 false (some 25) (.pointer (some ⟨b10, 0 + (z11 : Int).toNat * 1, none⟩)) (yld_idx (t := 113) (e := 112) (n := 25) (sz := 1) (k := .i64) (x := z11) (by kernel_rfl) (by kernel_rfl) (by kernel_rfl) i0_28 i1_28) ?_
       refine wpG.tD 3 true (some 26) (.int .u64 (rd r9 z11)) (yld_loadA (e := 112) (x := z11) hs 0 rfl (by kernel_rfl) (by kernel_rfl) i0_28 i1_28 .grow) ?_
       refine wpG.q 4 27 (.int .i64 x14) ?_
       refine wpG.q 5 28 (.int .i64 z11) ?_
       refine wpG.q 6 29 (.int .i64 (iadd .i64 z11 1)) ?_
       refine wpG.q 7 30 (.int .i64 (irem .i64 (iadd .i64 z11 1) 5)) ?_
       refine wpG.q 8 31 (.int .i64 (iadd .i64 x14 (irem .i64 (iadd .i64 z11 1) 5))) ?_
       obtain ⟨x15, hx, h⟩ := of_bind h
       have hx := of_some hx
       subst hx
       obtain ⟨i0_29, h⟩ := of_chk h
       obtain ⟨i1_29, h⟩ := of_chk h
       refine wpG.tD 9 false (some 32) (.pointer (some ⟨b10, 0 + ((iadd .i64 x14 (irem .i64 (iadd .i64 z11 1) 5)) : Int).toNat * 1, none⟩)) (yld_idx (t := 113) (e := 112) (n := 25) (sz := 1) (k := .i64) (x := (iadd .i64 x14 (irem .i64 (iadd .i64 z11 1) 5))) (by kernel_rfl) (by kernel_rfl) (by kernel_rfl) i0_29 i1_29) ?_
       refine wpG.tD 10 true (some 33) (.int .u64 (rd r9 (iadd .i64 x14 (irem .i64 (iadd .i64 z11 1) 5)))) (yld_loadA (e := 112) (x := (iadd .i64 x14 (irem .i64 (iadd .i64 z11 1) 5))) hs 0 rfl (by kernel_rfl) (by kernel_rfl) i0_29 i1_29 .grow) ?_
       refine wpG.q 11 34 (.int .u64 (ixor .u64 (rd r9 (iadd .i64 x14 (irem .i64 (iadd .i64 z11 1) 5))) 18446744073709551615)) ?_
       refine wpG.q 12 35 (.int .i64 x14) ?_
       refine wpG.q 13 36 (.int .i64 z11) ?_
       refine wpG.q 14 37 (.int .i64 (iadd .i64 z11 2)) ?_
       refine wpG.q 15 38 (.int .i64 (irem .i64 (iadd .i64 z11 2) 5)) ?_
       refine wpG.q 16 39 (.int .i64 (iadd .i64 x14 (irem .i64 (iadd .i64 z11 2) 5))) ?_
       obtain ⟨x16, hx, h⟩ := of_bind h
       have hx := of_some hx
       subst hx
       obtain ⟨i0_30, h⟩ := of_chk h
       obtain ⟨i1_30, h⟩ := of_chk h
       refine wpG.tD 17 false (some 40) (.pointer (some ⟨b10, 0 + ((iadd .i64 x14 (irem .i64 (iadd .i64 z11 2) 5)) : Int).toNat * 1, none⟩)) (yld_idx (t := 113) (e := 112) (n := 25) (sz := 1) (k := .i64) (x := (iadd .i64 x14 (irem .i64 (iadd .i64 z11 2) 5))) (by kernel_rfl) (by kernel_rfl) (by kernel_rfl) i0_30 i1_30) ?_
       refine wpG.tD 18 true (some 41) (.int .u64 (rd r9 (iadd .i64 x14 (irem .i64 (iadd .i64 z11 2) 5)))) (yld_loadA (e := 112) (x := (iadd .i64 x14 (irem .i64 (iadd .i64 z11 2) 5))) hs 0 rfl (by kernel_rfl) (by kernel_rfl) i0_30 i1_30 .grow) ?_
       refine wpG.q 19 42 (.int .u64 (iand .u64 (ixor .u64 (rd r9 (iadd .i64 x14 (irem .i64 (iadd .i64 z11 1) 5))) 18446744073709551615) (rd r9 (iadd .i64 x14 (irem .i64 (iadd .i64 z11 2) 5))))) ?_
       refine wpG.q 20 43 (.int .u64 (ixor .u64 (rd r9 z11) (iand .u64 (ixor .u64 (rd r9 (iadd .i64 x14 (irem .i64 (iadd .i64 z11 1) 5))) 18446744073709551615) (rd r9 (iadd .i64 x14 (irem .i64 (iadd .i64 z11 2) 5)))))) ?_
       obtain ⟨i0_31, h⟩ := of_chk h
       obtain ⟨i1_31, h⟩ := of_chk h
       refine wpG.tD 21 false (some 44) (.pointer (some ⟨b1, 0 + (z11 : Int).toNat * 1, none⟩)) (yld_idx (t := 113) (e := 112) (n := 25) (sz := 1) (k := .i64) (x := z11) (by kernel_rfl) (by kernel_rfl) (by kernel_rfl) i0_31 i1_31) ?_
       obtain ⟨x17, hx, h⟩ := of_bind h
       refine wpG.only 22 (by kernel_rfl) (op_storeA (t := 112) (x := z11) (v := x17) (d := none) (by kernel_rfl) hs 3 rfl (by cases hx; kernel_rfl) (by kernel_rfl) i0_31 i1_31 ?_)
       intro w kp hs
       refine ⟨⟨fun hf => absurd hf (by decide), .all _ _⟩, ?_⟩
       refine wpG.fin (by kernel_rfl) rfl (kr27 _ _ ?_)
       refine inBlock_n (then_n (ks24 _ _ (xregS [0, 1, 2] fun KR32 kr32 => ?_)))
       refine wpS.qs [(0, 18, .int .i64 z11), (1, 19, .int .i64 (iadd .i64 z11 1))] ?_
       obtain ⟨x18, hx, h⟩ := of_bind h
       refine wpS.tk 2 false (some 6) (.int .i64 x18) (yld_int hx (fun _ => by kernel_rfl)) ?_
       refine wpS.fin rfl (kr32 _ _ ?_)
       exact then_n (kl1 _ _ ⟨n, Nat.lt_succ_self n, x18, (wr z12 z11 x17), h, (hs.conv rfl), exg (by kernel_rfl)⟩)
      refine wpS.tk 1 false (some 17) (.bool false) (yld_b (df hc) (fun _ => by kernel_rfl)) ?_
      refine wpS.fin rfl (kr23 _ _ (then_n (ks22 _ _ (wp_cond_f (by kernel_rfl) (xexit (then_x (then_x (inBlock_hit ?_))))))))
      have q0 := of_some h
      subst q0
      exact exq_n (nn1 _ _ ⟨(hs.conv rfl), exg (by kernel_rfl)⟩)
    clear hs h hy
    rintro a w ⟨hs, g20, rfl⟩
    have h := hk1
    refine then_n (ks16 _ _ ?_)
    refine wp_regG [7] (fun k => True) 8 (by kernel_rfl) (by kernel_rfl) (by kernel_rfl) fun KR33 kr33 => ?_
    have hs := hs.drawn1
    refine wpG.tD 0 false (some 45) (.pointer (some ⟨b1, 0 + (0 : Int).toNat * 1, none⟩)) (yld_idx (t := 113) (e := 112) (n := 25) (sz := 1) (k := .i64) (x := 0) (by kernel_rfl) (by kernel_rfl) (by kernel_rfl) (by decide) (by decide)) ?_
    refine wpG.tD 1 true (some 46) (.int .u64 (rd y13 0)) (yld_loadA (e := 112) (x := 0) hs 3 rfl (by kernel_rfl) (by kernel_rfl) (by decide) (by decide) .grow) ?_
    refine wpG.q 2 47 (.int .i64 z5) ?_
    obtain ⟨i0_35, h⟩ := of_chk h
    obtain ⟨i1_35, h⟩ := of_chk h
    refine wpG.tD 3 false (some 48) (.pointer (some ⟨b4, 0 + (z5 : Int).toNat * 1, none⟩)) (yld_idx (t := 144) (e := 112) (n := 24) (sz := 1) (k := .i64) (x := z5) (by kernel_rfl) (by kernel_rfl) (by kernel_rfl) i0_35 i1_35) ?_
    refine wpG.tD 4 true (some 49) (.int .u64 (rd r3 z5)) (yld_loadA (e := 112) (x := z5) hs 1 rfl (by kernel_rfl) (by kernel_rfl) i0_35 i1_35 .grow) ?_
    refine wpG.q 5 50 (.int .u64 (ixor .u64 (rd y13 0) (rd r3 z5))) ?_
    refine wpG.tD 6 false (some 51) (.pointer (some ⟨b1, 0 + (0 : Int).toNat * 1, none⟩)) (yld_idx (t := 113) (e := 112) (n := 25) (sz := 1) (k := .i64) (x := 0) (by kernel_rfl) (by kernel_rfl) (by kernel_rfl) (by decide) (by decide)) ?_
    obtain ⟨x19, hx, h⟩ := of_bind h
    refine wpG.only 7 (by kernel_rfl) (op_storeA (t := 112) (x := 0) (v := x19) (d := none) (by kernel_rfl) hs 3 rfl (by cases hx; kernel_rfl) (by kernel_rfl) (by decide) (by decide) ?_)
    intro w kp hs
    refine ⟨⟨fun hf => absurd hf (by decide), .all _ _⟩, ?_⟩
    refine wpG.fin (by kernel_rfl) rfl (kr33 _ _ ?_)
    refine inBlock_n (then_n (ks13 _ _ (xregS [0, 1, 2] fun KR37 kr37 => ?_)))
    refine wpS.qs [(0, 11, .int .i64 z5), (1, 12, .int .i64 (iadd .i64 z5 1))] ?_
    obtain ⟨x20, hx, h⟩ := of_bind h
    refine wpS.tk 2 false (some 4) (.int .i64 x20) (yld_int hx (fun _ => by kernel_rfl)) ?_
    refine wpS.fin rfl (kr37 _ _ ?_)
    exact then_n (kl0 _ _ ⟨n, Nat.lt_succ_self n, x20, (wr y13 0 x19), h, (hs.drop (.cons _ (.cons_cons _ (.cons_cons _ (.cons_cons _ .slnil))))), exg (by kernel_rfl)⟩)
   refine wpS.tk 1 false (some 10) (.bool false) (yld_b (df hc) (fun _ => by kernel_rfl)) ?_
   refine wpS.fin rfl (kr12 _ _ (then_n (ks11 _ _ (wp_cond_f (by kernel_rfl) (xexit (then_x (then_x (inBlock_hit ?_))))))))
   have q0 := of_some h
   subst q0
   exact exq_n (nn0 _ _ ⟨(hs.conv rfl), exg (by kernel_rfl)⟩)
 clear hs h hy
 rintro a w ⟨hs, g9, rfl⟩
 have h := hk0
 refine then_n (ks5 _ _ (xseq_k fun KS38 ks38 => (xregS [0, 1] fun KR39 kr39 => ?_)))
 refine wpS.tk 0 true (some 52) (.agg (enc .u64 y7).toArray) (yld_loadW (e := 113) (n := 25) hs 2 rfl (by kernel_rfl) (by kernel_rfl) (by kernel_rfl) (by exact enc_len _ _) .grow) ?_
 refine wpS.only 1 (op_storeW (t := 113) (v := .agg (enc .u64 y7).toArray) (d := none) (by kernel_rfl) hs 1 rfl (vs := enc .u64 y7) (n := 25) (by kernel_rfl) (by kernel_rfl) (by kernel_rfl) (by simp [enc_len]) (by simp [enc_len]) (by intro u hu; exact enc_one _ _ u hu) ?_)
 intro w kp hs
 refine ⟨fun _ => trivial, ?_⟩
 refine wpS.fin rfl (kr39 _ _ (then_n (ks38 _ _ (xret ?_))))
 have q0 := of_some h
 subst q0
 exact qq _ _ (post_ret (by kernel_rfl) (run_results [.cell 2 113] [.agg (enc .u64 y7).toArray] (by kernel_rfl) (.cons (res_cellN (n := 25) hs 1 rfl (by kernel_rfl) (by kernel_rfl) (by kernel_rfl) (by exact enc_len _ _)) .nil)) ⟨congrArg Ending.returned (by kernel_rfl), hs.none⟩)

theorem ref08_put.ok {K : Nat} {a0 : Arr 25} {a1 : Int} {a2 : Int} {r0 : Arr 25} (h : ref08_put.f K a0 a1 a2 = some r0) (w0 : World) : Ret Tryd.prog 108 #[.agg (enc .u64 a0).toArray, .int .i64 a1, .int .u8 a2] w0 (.agg (enc .u64 r0).toArray) := by
 refine calls_k Tryd.func108 rfl fun Q qq => ?_
 have hs := St.start w0
 refine wp_conv (a' := ⟨#[.agg (enc .u64 a0).toArray, .int .i64 a1, .int .u8 a2, undef, undef, undef, undef, undef, undef, undef, undef, undef, undef, undef, undef, undef, undef, undef, undef, undef, undef, undef], []⟩) (by kernel_rfl) ?_
 refine xseq_k fun KS1 ks1 => ?_
 refine xregS [0, 1] fun KR2 kr2 => ?_
 refine wpS.only 0 (op_box (t := 113) (v := .agg (enc .u64 a0).toArray) (d := (some 3)) (by kernel_rfl) hs (enc .u64 a0) (by kernel_rfl) (by kernel_rfl) ?_)
 intro b1 w gw hs
 refine ⟨fun _ => trivial, ?_⟩
 refine wpS.only 1 (op_alloc (t := 113) (d := (some 6)) (by kernel_rfl) hs (enc .u64 (zeroA 25)) (.agg (enc .u64 (zeroA 25)).toArray) (by kernel_rfl) (by kernel_rfl) (by kernel_rfl) ?_)
 intro b2 w gw hs
 refine ⟨fun _ => trivial, ?_⟩
 refine wpS.fin rfl (kr2 _ _ (then_n (ks1 _ _ (xseq_k fun KS3 ks3 => ?_))))
 refine wp_regG [14] (fun k => True) 15 (by kernel_rfl) (by kernel_rfl) (by kernel_rfl) fun KR4 kr4 => ?_
 have hs := hs.drawn1
 refine wpG.q 0 7 (.int .i64 a1) ?_
 refine wpG.q 1 8 (.int .i64 (iquo .i64 a1 8)) ?_
 refine wpG.q 2 9 (.int .i64 a1) ?_
 refine wpG.q 3 10 (.int .i64 (iquo .i64 a1 8)) ?_
 obtain ⟨x3, hx, h⟩ := of_bind h
 have hx := of_some hx
 subst hx
 obtain ⟨i0_5, h⟩ := of_chk h
 obtain ⟨i1_5, h⟩ := of_chk h
 refine wpG.tD 4 false (some 11) (.pointer (some ⟨b1, 0 + ((iquo .i64 a1 8) : Int).toNat * 1, none⟩)) (yld_idx (t := 113) (e := 112) (n := 25) (sz := 1) (k := .i64) (x := (iquo .i64 a1 8)) (by kernel_rfl) (by kernel_rfl) (by kernel_rfl) i0_5 i1_5) ?_
 refine wpG.tD 5 true (some 12) (.int .u64 (rd a0 (iquo .i64 a1 8))) (yld_loadA (e := 112) (x := (iquo .i64 a1 8)) hs 1 rfl (by kernel_rfl) (by kernel_rfl) i0_5 i1_5 .grow) ?_
 refine wpG.q 6 13 (.int .u8 a2) ?_
 refine wpG.q 7 14 (.int .u64 (iconv .u64 a2)) ?_
 refine wpG.q 8 15 (.int .i64 a1) ?_
 refine wpG.q 9 16 (.int .i64 (irem .i64 a1 8)) ?_
 refine wpG.q 10 17 (.int .i64 (imul .i64 8 (irem .i64 a1 8))) ?_
 obtain ⟨h0, h⟩ := of_chk h
 refine wpG.tD 11 false (some 18) (.int .u64 (ishl .u64 (iconv .u64 a2) (imul .i64 8 (irem .i64 a1 8)))) (yld_shl (t := 112) (k' := .i64) (by kernel_rfl) h0) ?_
 refine wpG.q 12 19 (.int .u64 (ixor .u64 (rd a0 (iquo .i64 a1 8)) (ishl .u64 (iconv .u64 a2) (imul .i64 8 (irem .i64 a1 8))))) ?_
 obtain ⟨x4, hx, h⟩ := of_bind h
 have hx := of_some hx
 subst hx
 obtain ⟨i0_6, h⟩ := of_chk h
 obtain ⟨i1_6, h⟩ := of_chk h
 refine wpG.tD 13 false (some 20) (.pointer (some ⟨b1, 0 + ((iquo .i64 a1 8) : Int).toNat * 1, none⟩)) (yld_idx (t := 113) (e := 112) (n := 25) (sz := 1) (k := .i64) (x := (iquo .i64 a1 8)) (by kernel_rfl) (by kernel_rfl) (by kernel_rfl) i0_6 i1_6) ?_
 obtain ⟨x5, hx, h⟩ := of_bind h
 refine wpG.only 14 (by kernel_rfl) (op_storeA (t := 112) (x := (iquo .i64 a1 8)) (v := x5) (d := none) (by kernel_rfl) hs 1 rfl (by cases hx; kernel_rfl) (by kernel_rfl) i0_6 i1_6 ?_)
 intro w kp hs
 refine ⟨⟨fun hf => absurd hf (by decide), .all _ _⟩, ?_⟩
 refine wpG.fin (by kernel_rfl) rfl (kr4 _ _ ?_)
 refine then_n (ks3 _ _ (xseq_k fun KS7 ks7 => (xregS [0, 1] fun KR8 kr8 => ?_)))
 refine wpS.tk 0 true (some 21) (.agg (enc .u64 (wr a0 (iquo .i64 a1 8) x5)).toArray) (yld_loadW (e := 113) (n := 25) hs 1 rfl (by kernel_rfl) (by kernel_rfl) (by kernel_rfl) (by exact enc_len _ _) .grow) ?_
 refine wpS.only 1 (op_storeW (t := 113) (v := .agg (enc .u64 (wr a0 (iquo .i64 a1 8) x5)).toArray) (d := none) (by kernel_rfl) hs 0 rfl (vs := enc .u64 (wr a0 (iquo .i64 a1 8) x5)) (n := 25) (by kernel_rfl) (by kernel_rfl) (by kernel_rfl) (by simp [enc_len]) (by simp [enc_len]) (by intro u hu; exact enc_one _ _ u hu) ?_)
 intro w kp hs
 refine ⟨fun _ => trivial, ?_⟩
 refine wpS.fin rfl (kr8 _ _ (then_n (ks7 _ _ (xret ?_))))
 have q0 := of_some h
 subst q0
 exact qq _ _ (post_ret (by kernel_rfl) (run_results [.cell 6 113] [.agg (enc .u64 (wr a0 (iquo .i64 a1 8) x5)).toArray] (by kernel_rfl) (.cons (res_cellN (n := 25) hs 0 rfl (by kernel_rfl) (by kernel_rfl) (by kernel_rfl) (by exact enc_len _ _)) .nil)) ⟨congrArg Ending.returned (by kernel_rfl), hs.none⟩)

theorem ref08_Squeeze.ok {K : Nat} {a0_0 : Int} {a0_1 : Arr 25} {a0_2 : Int} {a0_3 : Bool} {a1 : Int} {r0_0 : Int} {r0_1 : Arr 25} {r0_2 : Int} {r0_3 : Bool} {r1 : List Int} (h : ref08_Squeeze.f K a0_0 a0_1 a0_2 a0_3 a1 = some (r0_0, r0_1, r0_2, r0_3, r1)) (w0 : World) : Calls Tryd.prog 85 #[.agg (([.int .i64 a0_0] : List Value) ++ enc .u64 a0_1 ++ ([.int .i64 a0_2, .bool a0_3] : List Value)).toArray, .int .i64 a1] w0 fun e w' => ∃ h : (Option Addr × Nat × Nat), e = .returned (.tuple #[.agg (([.int .i64 r0_0] : List Value) ++ enc .u64 r0_1 ++ ([.int .i64 r0_2, .bool r0_3] : List Value)).toArray, .slice h.1 h.2.1 h.2.2]) ∧ St w0 [] [.ownL (CI .u8) h.1 h.2.1 h.2.2 r1 5] [] w' := by
 refine calls_k Tryd.func85 rfl fun Q qq => ?_
 have hs := St.start w0
 refine wp_conv (a' := ⟨#[.agg (([.int .i64 a0_0] : List Value) ++ enc .u64 a0_1 ++ ([.int .i64 a0_2, .bool a0_3] : List Value)).toArray, .int .i64 a1, undef, undef, undef, undef, undef, undef, undef, undef, undef, undef, undef, undef, undef, undef, undef, undef, undef, undef, undef, undef, undef, undef, undef, undef, undef, undef, undef, undef, undef, undef, undef, undef, undef, undef, undef, undef, undef, undef, undef, undef, undef, undef, undef, undef, undef, undef, undef, undef, undef, undef, undef, undef, undef, undef, undef, undef, undef, undef, undef, undef, undef, undef, undef, undef, undef, undef, undef, undef, undef, undef, undef], []⟩) (by kernel_rfl) ?_
 refine xseq_k fun KS1 ks1 => ?_
 refine xregS [0, 1, 2] fun KR2 kr2 => ?_
 refine wpS.only 0 (op_box (t := 115) (v := .agg (([.int .i64 a0_0] : List Value) ++ enc .u64 a0_1 ++ ([.int .i64 a0_2, .bool a0_3] : List Value)).toArray) (d := (some 2)) (by kernel_rfl) hs (([.int .i64 a0_0] : List Value) ++ enc .u64 a0_1 ++ ([.int .i64 a0_2, .bool a0_3] : List Value)) (by kernel_rfl) (by kernel_rfl) ?_)
 intro b1 w gw hs
 refine ⟨fun _ => trivial, ?_⟩
 refine wpS.only 1 (op_alloc (t := 115) (d := (some 4)) (by kernel_rfl) hs (([.int .i64 0] : List Value) ++ enc .u64 (zeroA 25) ++ ([.int .i64 0, .bool false] : List Value)) (.agg (([.int .i64 0] : List Value) ++ enc .u64 (zeroA 25) ++ ([.int .i64 0, .bool false] : List Value)).toArray) (by kernel_rfl) (by kernel_rfl) (by kernel_rfl) ?_)
 intro b2 w gw hs
 refine ⟨fun _ => trivial, ?_⟩
 refine wpS.q 2 5 (.slice none 0 0) ?_
 refine wpS.fin rfl (kr2 _ _ (then_n (ks1 _ _ (xseq_k fun KS3 ks3 => (xseq_k fun KS4 ks4 => (xregS [0, 1] fun KR5 kr5 => ?_))))))
 refine wpS.q 0 9 (.int .i64 a1) ?_
 rcases of_if h with ⟨hc, h⟩ | ⟨hc, h⟩
 ·refine wpS.tk 1 false (some 10) (.bool true) (yld_b (dt hc) (fun _ => by kernel_rfl)) ?_
  refine wpS.fin rfl (kr5 _ _ (then_n (ks4 _ _ (wp_cond_t (by kernel_rfl) (xseq_k fun KS6 ks6 => (xregS [0, 1, 2] fun KR7 kr7 => ?_))))))
  refine wpS.tk 0 true (some 11) (.agg (([.int .i64 a0_0] : List Value) ++ enc .u64 a0_1 ++ ([.int .i64 a0_2, .bool a0_3] : List Value)).toArray) (yld_loadW (e := 115) (n := 28) hs 1 rfl (by kernel_rfl) (by kernel_rfl) (by kernel_rfl) (by simp [enc_len]) .grow) ?_
  refine wpS.only 1 (op_storeW (t := 115) (v := .agg (([.int .i64 a0_0] : List Value) ++ enc .u64 a0_1 ++ ([.int .i64 a0_2, .bool a0_3] : List Value)).toArray) (d := none) (by kernel_rfl) hs 0 rfl (vs := ([.int .i64 a0_0] : List Value) ++ enc .u64 a0_1 ++ ([.int .i64 a0_2, .bool a0_3] : List Value)) (n := 28) (by kernel_rfl) (by kernel_rfl) (by kernel_rfl) (by simp [enc_len]) (by simp [enc_len]) (one_app (one_app (by simp [Value.oneCell']) (fun u hu => enc_one _ _ u hu)) (by simp [Value.oneCell'])) ?_)
  intro w kp hs
  refine ⟨fun _ => trivial, ?_⟩
  refine wpS.q 2 5 (.slice none 0 0) ?_
  refine wpS.fin rfl (kr7 _ _ (then_n (ks6 _ _ (xret (then_r ?_)))))
  obtain ⟨q0, qr0⟩ := Prod.mk.inj (of_some h)
  obtain ⟨q1, qr1⟩ := Prod.mk.inj (qr0)
  obtain ⟨q2, qr2⟩ := Prod.mk.inj (qr1)
  obtain ⟨q3, qr3⟩ := Prod.mk.inj (qr2)
  have q4 := qr3
  subst q0
  subst q1
  subst q2
  subst q3
  subst q4
  have hs := hs.addNilL (CI .u8) 5
  exact qq _ _ (post_ret (by kernel_rfl) (run_results [.cell 4 115, .tmp 5] [.agg (([.int .i64 a0_0] : List Value) ++ enc .u64 a0_1 ++ ([.int .i64 a0_2, .bool a0_3] : List Value)).toArray, .slice none 0 0] (by kernel_rfl) (.cons (res_cellN (n := 28) hs 1 rfl (by kernel_rfl) (by kernel_rfl) (by kernel_rfl) (by simp [enc_len])) (.cons (res_tmp (by kernel_rfl)) .nil))) ⟨⟨none, 0, 0⟩, congrArg Ending.returned (by kernel_rfl), (hs.drop (.cons_cons _ (.cons _ (.cons _ .slnil))))⟩)
 refine wpS.tk 1 false (some 10) (.bool false) (yld_b (df hc) (fun _ => by kernel_rfl)) ?_
 refine wpS.fin rfl (kr5 _ _ (then_n (ks4 _ _ (wp_cond_f (by kernel_rfl) (xskip (then_n (ks3 _ _ (xseq_k fun KS8 ks8 => (xregS [0, 1, 2, 3] fun KR9 kr9 => ?_)))))))))
 refine wpS.q 0 12 (.pointer (some ⟨b1, 0, none⟩)) ?_
 refine wpS.tk 1 true (some 13) (.int .i64 a0_0) (yld_load1 (e := 3) (o := 0) hs 1 rfl (by kernel_rfl) (by kernel_rfl) (get_pre rfl) .grow) ?_
 obtain ⟨r3, hg, h⟩ := of_bind h
 refine wpS.only 2 (op_call (d := (some 14)) (by kernel_rfl) hs (fun _ => by kernel_rfl) (ref08_Rate.ok hg _) ?_)
 intro w gw hs
 refine ⟨fun _ => trivial, ?_⟩
 refine wpS.q 3 6 (.int .i64 r3) ?_
 refine wpS.fin rfl (kr9 _ _ (then_n (ks8 _ _ ?_)))
 obtain ⟨⟨y4_0, y4_1, y4_2, y4_3⟩, hj, h⟩ := of_bind h
 refine xseq_k fun KS11 ks11 => wp_join (N := fun a w => St w0 [] [.blk b2 (([.int .i64 0] : List Value) ++ enc .u64 (zeroA 25) ++ ([.int .i64 0, .bool false] : List Value)) 115, .blk b1 (([.int .i64 y4_0] : List Value) ++ enc .u64 y4_1 ++ ([.int .i64 y4_2, .bool y4_3] : List Value)) 115] [] w ∧ ∃ g10 : Nat → Value, a = ⟨#[.agg (([.int .i64 a0_0] : List Value) ++ enc .u64 a0_1 ++ ([.int .i64 a0_2, .bool a0_3] : List Value)).toArray, .int .i64 a1, .pointer (some ⟨b1, 0, none⟩), undef, .pointer (some ⟨b2, 0, none⟩), .slice none 0 0, .int .i64 r3, (g10 7), undef, .int .i64 a1, .bool false, undef, .pointer (some ⟨b1, 0, none⟩), .int .i64 a0_0, .int .i64 r3, (g10 15), (g10 16), (g10 17), (g10 18), (g10 19), (g10 20), (g10 21), (g10 22), (g10 23), (g10 24), (g10 25), (g10 26), (g10 27), (g10 28), (g10 29), (g10 30), (g10 31), (g10 32), (g10 33), (g10 34), (g10 35), (g10 36), (g10 37), (g10 38), undef, undef, undef, undef, undef, undef, undef, undef, undef, undef, undef, undef, undef, undef, undef, undef, undef, undef, undef, undef, undef, undef, undef, undef, undef, undef, undef, undef, undef, undef, undef, undef, undef, undef], []⟩) (fun N nj => ?_) ?_
 ·clear h
  have h := hj
  refine xseq_k fun KS12 ks12 => ?_
  refine xregS [0, 1, 2] fun KR13 kr13 => ?_
  refine wpS.q 0 15 (.pointer (some ⟨b1, 27, none⟩)) ?_
  cases a0_3 with
  | true =>
   have h := of_if_t h
   refine wpS.tk 1 true (some 16) (.bool true) (yld_load1 (e := 4) (o := 27) hs 1 rfl (by kernel_rfl) (by kernel_rfl) (get_post 1 rfl rfl) .grow) ?_
   refine wpS.q 2 17 (.bool false) ?_
   refine wpS.fin rfl (kr13 _ _ (then_n (ks12 _ _ (wp_cond_f (by kernel_rfl) (xskip ?_)))))
   obtain ⟨q0, qr0⟩ := Prod.mk.inj (of_some h)
   obtain ⟨q1, qr1⟩ := Prod.mk.inj (qr0)
   obtain ⟨q2, qr2⟩ := Prod.mk.inj (qr1)
   have q3 := qr2
   subst q0
   subst q1
   subst q2
   subst q3
   exact nj _ _ ⟨(hs.conv rfl), exg (by kernel_rfl)⟩
  | false =>
   have h := of_if_f h
   refine wpS.tk 1 true (some 16) (.bool false) (yld_load1 (e := 4) (o := 27) hs 1 rfl (by kernel_rfl) (by kernel_rfl) (get_post 1 rfl rfl) .grow) ?_
   refine wpS.q 2 17 (.bool true) ?_
   refine wpS.fin rfl (kr13 _ _ (then_n (ks12 _ _ (wp_cond_t (by kernel_rfl) (xseq_k fun KS14 ks14 => (xregS [0] fun KR15 kr15 => ?_))))))
   refine wpS.q 0 7 (.int .u8 31) ?_
   refine wpS.fin rfl (kr15 _ _ (then_n (ks14 _ _ ?_)))
   obtain ⟨y5, hj, h⟩ := of_bind h
   refine xseq_k fun KS17 ks17 => wp_join (N := fun a w => St w0 [] [.blk b2 (([.int .i64 0] : List Value) ++ enc .u64 (zeroA 25) ++ ([.int .i64 0, .bool false] : List Value)) 115, .blk b1 (([.int .i64 a0_0] : List Value) ++ enc .u64 a0_1 ++ ([.int .i64 a0_2, .bool false] : List Value)) 115] [] w ∧ ∃ g16 : Nat → Value, a = ⟨#[.agg (([.int .i64 a0_0] : List Value) ++ enc .u64 a0_1 ++ ([.int .i64 a0_2, .bool false] : List Value)).toArray, .int .i64 a1, .pointer (some ⟨b1, 0, none⟩), undef, .pointer (some ⟨b2, 0, none⟩), .slice none 0 0, .int .i64 r3, .int .u8 y5, undef, .int .i64 a1, .bool false, undef, .pointer (some ⟨b1, 0, none⟩), .int .i64 a0_0, .int .i64 r3, .pointer (some ⟨b1, 27, none⟩), .bool false, .bool true, (g16 18), (g16 19), (g16 20), (g16 21), (g16 22), (g16 23), (g16 24), (g16 25), undef, undef, undef, undef, undef, undef, undef, undef, undef, undef, undef, undef, undef, undef, undef, undef, undef, undef, undef, undef, undef, undef, undef, undef, undef, undef, undef, undef, undef, undef, undef, undef, undef, undef, undef, undef, undef, undef, undef, undef, undef, undef, undef, undef, undef, undef, undef], []⟩) (fun N nj => ?_) ?_
   ·clear h
    have h := hj
    refine xseq_k fun KS18 ks18 => ?_
    refine xregS [0, 1, 2, 3, 4, 5, 6, 7] fun KR19 kr19 => ?_
    refine wpS.q 0 18 (.pointer (some ⟨b1, 0, none⟩)) ?_
    refine wpS.tk 1 true (some 19) (.int .i64 a0_0) (yld_load1 (e := 3) (o := 0) hs 1 rfl (by kernel_rfl) (by kernel_rfl) (get_pre rfl) .grow) ?_
    rcases of_if h with ⟨hc, h⟩ | ⟨hc, h⟩
    ·refine wpS.tk 2 false (some 20) (.bool true) (yld_b (et hc) (fun _ => by kernel_rfl)) ?_
     refine wpS.qs [(3, 21, .bool true), (4, 22, undef), (5, 23, undef), (6, 24, undef), (7, 25, .bool true)] ?_
     refine wpS.fin rfl (kr19 _ _ (then_n (ks18 _ _ (wp_cond_t (by kernel_rfl) (xregS [0] fun KR20 kr20 => ?_)))))
     refine wpS.q 0 7 (.int .u8 6) ?_
     refine wpS.fin rfl (kr20 _ _ ?_)
     have q0 := of_some h
     subst q0
     exact nj _ _ ⟨(hs.conv rfl), exg (by kernel_rfl)⟩
    refine wpS.tk 2 false (some 20) (.bool false) (yld_b (ef hc) (fun _ => by kernel_rfl)) ?_
    refine wpS.qs [(3, 21, .bool false), (4, 22, .pointer (some ⟨b1, 0, none⟩))] ?_
    refine wpS.tk 5 true (some 23) (.int .i64 a0_0) (yld_load1 (e := 3) (o := 0) hs 1 rfl (by kernel_rfl) (by kernel_rfl) (get_pre rfl) .grow) ?_
    rcases of_if h with ⟨hc, h⟩ | ⟨hc, h⟩
    ·refine wpS.tk 6 false (some 24) (.bool true) (yld_b (et hc) (fun _ => by kernel_rfl)) ?_
     refine wpS.q 7 25 (.bool true) ?_
     refine wpS.fin rfl (kr19 _ _ (then_n (ks18 _ _ (wp_cond_t (by kernel_rfl) (xregS [0] fun KR21 kr21 => ?_)))))
     refine wpS.q 0 7 (.int .u8 6) ?_
     refine wpS.fin rfl (kr21 _ _ ?_)
     have q0 := of_some h
     subst q0
     exact nj _ _ ⟨(hs.conv rfl), exg (by kernel_rfl)⟩
    refine wpS.tk 6 false (some 24) (.bool false) (yld_b (ef hc) (fun _ => by kernel_rfl)) ?_
    refine wpS.q 7 25 (.bool false) ?_
    refine wpS.fin rfl (kr19 _ _ (then_n (ks18 _ _ (wp_cond_f (by kernel_rfl) (xskip ?_)))))
    have q0 := of_some h
    subst q0
    exact nj _ _ ⟨(hs.conv rfl), exg (by kernel_rfl)⟩
   clear hj hs
   rintro a w ⟨hs, g16, rfl⟩
   refine then_n (ks17 _ _ (xseq_k fun KS22 ks22 => (xregS [0, 1, 2, 3, 4, 5, 6, 7, 8, 9, 10, 11] fun KR23 kr23 => ?_)))
   refine wpS.q 0 26 (.pointer (some ⟨b1, 1, none⟩)) ?_
   refine wpS.tk 1 true (some 27) (.agg (enc .u64 a0_1).toArray) (yld_loadN (e := 113) (n := 25) (o := 1) hs 1 rfl (by kernel_rfl) (by kernel_rfl) (by kernel_rfl) (mid_of rfl) (enc_len _ _) .grow) ?_
   refine wpS.q 2 28 (.pointer (some ⟨b1, 26, none⟩)) ?_
   refine wpS.tk 3 true (some 29) (.int .i64 a0_2) (yld_load1 (e := 3) (o := 26) hs 1 rfl (by kernel_rfl) (by kernel_rfl) (get_post 0 rfl rfl) .grow) ?_
   refine wpS.q 4 30 (.int .u8 y5) ?_
   obtain ⟨r6, hg, h⟩ := of_bind h
   refine wpS.only 5 (op_call (d := (some 31)) (by kernel_rfl) hs (fun _ => by kernel_rfl) (ref08_put.ok hg _) ?_)
   intro w gw hs
   refine ⟨fun _ => trivial, ?_⟩
   refine wpS.qs [(6, 32, .int .i64 r3), (7, 33, .int .i64 (isub .i64 r3 1))] ?_
   obtain ⟨r7, hg, h⟩ := of_bind h
   refine wpS.only 8 (op_call (d := (some 34)) (by kernel_rfl) hs (fun _ => by kernel_rfl) (ref08_put.ok hg _) ?_)
   intro w gw hs
   refine ⟨fun _ => trivial, ?_⟩
   obtain ⟨r8, hg, h⟩ := of_bind h
   refine wpS.only 9 (op_call (d := (some 35)) (by kernel_rfl) hs (fun _ => by kernel_rfl) (ref08_Permute.ok hg _) ?_)
   intro w gw hs
   refine ⟨fun _ => trivial, ?_⟩
   refine wpS.q 10 36 (.pointer (some ⟨b1, 1, none⟩)) ?_
   refine wpS.only 11 (op_storeM (t := 113) (o := 1) (m := 25) (v := .agg (enc .u64 r8).toArray) (vs := enc .u64 r8) (d := none) (by kernel_rfl) hs 1 rfl (by kernel_rfl) (by kernel_rfl) (by kernel_rfl) (enc_len _ _) (by simp [enc_len]) (by intro u hu; exact enc_one _ _ u hu) (splice_row rfl) ?_)
   intro w kp hs
   refine ⟨fun _ => trivial, ?_⟩
   refine wpS.fin rfl (kr23 _ _ (then_n (ks22 _ _ (xseq_k fun KS24 ks24 => (xregS [0, 1] fun KR25 kr25 => ?_)))))
   refine wpS.q 0 37 (.pointer (some ⟨b1, 26, none⟩)) ?_
   refine wpS.only 1 (op_storeQ (t := 3) (o := 26) (v := .int .i64 0) (d := none) (by kernel_rfl) hs 1 rfl (by kernel_rfl) rfl (by kernel_rfl) (by simp [enc_len]) (set_post 0 rfl) ?_)
   intro w kp hs
   try dsimp only [List.set] at hs
   refine ⟨fun _ => trivial, ?_⟩
   refine wpS.fin rfl (kr25 _ _ (then_n (ks24 _ _ (xregS [0, 1] fun KR26 kr26 => ?_))))
   refine wpS.q 0 38 (.pointer (some ⟨b1, 27, none⟩)) ?_
   refine wpS.only 1 (op_storeQ (t := 4) (o := 27) (v := .bool true) (d := none) (by kernel_rfl) hs 1 rfl (by kernel_rfl) rfl (by kernel_rfl) (by simp [enc_len]) (set_post 1 rfl) ?_)
   intro w kp hs
   try dsimp only [List.set] at hs
   refine ⟨fun _ => trivial, ?_⟩
   refine wpS.fin rfl (kr26 _ _ ?_)
   obtain ⟨q0, qr0⟩ := Prod.mk.inj (of_some h)
   obtain ⟨q1, qr1⟩ := Prod.mk.inj (qr0)
   obtain ⟨q2, qr2⟩ := Prod.mk.inj (qr1)
   have q3 := qr2
   subst q0
   subst q1
   subst q2
   subst q3
   exact nj _ _ ⟨(hs.conv rfl), exg (by kernel_rfl)⟩
 clear hj hs
 rintro a w ⟨hs, g10, rfl⟩
 refine then_n (ks11 _ _ (xseq_k fun KS27 ks27 => (xregS [0] fun KR28 kr28 => ?_)))
 refine wpS.q 0 8 (.slice none 0 0) ?_
 refine wpS.fin rfl (kr28 _ _ (then_n (ks27 _ _ (xseq_k fun KS29 ks29 => ?_))))
 have hs := hs.addNilL (CI .u8) 5
 obtain ⟨⟨y11, y12_0, y12_1, y12_2, y12_3⟩, hy, hk0⟩ := of_bind h
 refine wp_exq (N := fun a w => ∃ (y11_A : Option Addr) (y11_n : Nat) (y11_c : Nat), St w0 [] [.ownL (CI .u8) y11_A y11_n y11_c y11 5, .blk b2 (([.int .i64 0] : List Value) ++ enc .u64 (zeroA 25) ++ ([.int .i64 0, .bool false] : List Value)) 115, .blk b1 (([.int .i64 y12_0] : List Value) ++ enc .u64 y12_1 ++ ([.int .i64 y12_2, .bool y12_3] : List Value)) 115] [] w ∧ ∃ g31 : Nat → Value, a = ⟨#[.agg (([.int .i64 a0_0] : List Value) ++ enc .u64 a0_1 ++ ([.int .i64 a0_2, .bool a0_3] : List Value)).toArray, .int .i64 a1, .pointer (some ⟨b1, 0, none⟩), undef, .pointer (some ⟨b2, 0, none⟩), .slice none 0 0, .int .i64 r3, (g10 7), .slice y11_A y11_n y11_c, .int .i64 a1, .bool false, undef, .pointer (some ⟨b1, 0, none⟩), .int .i64 a0_0, .int .i64 r3, (g10 15), (g10 16), (g10 17), (g10 18), (g10 19), (g10 20), (g10 21), (g10 22), (g10 23), (g10 24), (g10 25), (g10 26), (g10 27), (g10 28), (g10 29), (g10 30), (g10 31), (g10 32), (g10 33), (g10 34), (g10 35), (g10 36), (g10 37), (g10 38), (g31 39), (g31 40), (g31 41), (g31 42), (g31 43), (g31 44), (g31 45), (g31 46), (g31 47), (g31 48), (g31 49), (g31 50), (g31 51), (g31 52), (g31 53), (g31 54), (g31 55), (g31 56), (g31 57), (g31 58), (g31 59), (g31 60), (g31 61), (g31 62), (g31 63), (g31 64), (g31 65), (g31 66), (g31 67), (g31 68), (g31 69), (g31 70), undef, undef], []⟩) (fun N0 nn0 => ?_) ?_
 ·clear hk0
  refine xblock ?_
  refine wp_loop_k (fun n a w => ∃ z9 z10_0 z10_1 z10_2 z10_3, ∃ (z9_A : Option Addr) (z9_n : Nat) (z9_c : Nat), ref08_Squeeze.l0 K n a1 r3 z9 z10_0 z10_1 z10_2 z10_3 = some (y11, y12_0, y12_1, y12_2, y12_3) ∧ St w0 [] [.ownL (CI .u8) z9_A z9_n z9_c z9 5, .blk b2 (([.int .i64 0] : List Value) ++ enc .u64 (zeroA 25) ++ ([.int .i64 0, .bool false] : List Value)) 115, .blk b1 (([.int .i64 z10_0] : List Value) ++ enc .u64 z10_1 ++ ([.int .i64 z10_2, .bool z10_3] : List Value)) 115] [] w ∧ ∃ g30 : Nat → Value, a = ⟨#[.agg (([.int .i64 a0_0] : List Value) ++ enc .u64 a0_1 ++ ([.int .i64 a0_2, .bool a0_3] : List Value)).toArray, .int .i64 a1, .pointer (some ⟨b1, 0, none⟩), undef, .pointer (some ⟨b2, 0, none⟩), .slice none 0 0, .int .i64 r3, (g10 7), .slice z9_A z9_n z9_c, .int .i64 a1, .bool false, undef, .pointer (some ⟨b1, 0, none⟩), .int .i64 a0_0, .int .i64 r3, (g10 15), (g10 16), (g10 17), (g10 18), (g10 19), (g10 20), (g10 21), (g10 22), (g10 23), (g10 24), (g10 25), (g10 26), (g10 27), (g10 28), (g10 29), (g10 30), (g10 31), (g10 32), (g10 33), (g10 34), (g10 35), (g10 36), (g10 37), (g10 38), (g30 39), (g30 40), (g30 41), (g30 42), (g30 43), (g30 44), (g30 45), (g30 46), (g30 47), (g30 48), (g30 49), (g30 50), (g30 51), (g30 52), (g30 53), (g30 54), (g30 55), (g30 56), (g30 57), (g30 58), (g30 59), (g30 60), (g30 61), (g30 62), (g30 63), (g30 64), (g30 65), (g30 66), (g30 67), (g30 68), (g30 69), (g30 70), undef, undef], []⟩) K ⟨([] : List Int), y4_0, y4_1, y4_2, y4_3, none, 0, 0, hy, hs.conv rfl, exg (by kernel_rfl)⟩ ?_
  clear hs h hy
  rintro n a w ⟨z9, z10_0, z10_1, z10_2, z10_3, z9_A, z9_n, z9_c, h, hs, g30, rfl⟩ KL0 kl0
  cases n with
  | zero => exact nomatch (show none = some _ from h)
  | succ n =>
   refine xseq_k fun KS32 ks32 => ?_
   refine xseq_k fun KS33 ks33 => ?_
   refine xregS [0, 1, 2, 3] fun KR34 kr34 => ?_
   refine wpS.q 0 39 (.slice z9_A z9_n z9_c) ?_
   refine wpS.tk 1 false (some 40) (.int .i64 (z9.length : Int)) (yld_lenL (hs.rowL 0 rfl) (fun _ => by kernel_rfl)) ?_
   refine wpS.q 2 41 (.int .i64 a1) ?_
   rcases of_if h with ⟨hc, h⟩ | ⟨hc, h⟩
   ·refine wpS.tk 3 false (some 42) (.bool true) (yld_b (dt hc) (fun _ => by kernel_rfl)) ?_
    refine wpS.fin rfl (kr34 _ _ (then_n (ks33 _ _ (wp_cond_t (by kernel_rfl) (xskip (then_n (ks32 _ _ (xblock ?_))))))))
    obtain ⟨⟨y13_0, y13_1, y13_2, y13_3⟩, hj, h⟩ := of_bind h
    refine xseq_k fun KS36 ks36 => wp_join (N := fun a w => St w0 [] [.ownL (CI .u8) z9_A z9_n z9_c z9 5, .blk b2 (([.int .i64 0] : List Value) ++ enc .u64 (zeroA 25) ++ ([.int .i64 0, .bool false] : List Value)) 115, .blk b1 (([.int .i64 y13_0] : List Value) ++ enc .u64 y13_1 ++ ([.int .i64 y13_2, .bool y13_3] : List Value)) 115] [] w ∧ ∃ g35 : Nat → Value, a = ⟨#[.agg (([.int .i64 a0_0] : List Value) ++ enc .u64 a0_1 ++ ([.int .i64 a0_2, .bool a0_3] : List Value)).toArray, .int .i64 a1, .pointer (some ⟨b1, 0, none⟩), undef, .pointer (some ⟨b2, 0, none⟩), .slice none 0 0, .int .i64 r3, (g10 7), .slice z9_A z9_n z9_c, .int .i64 a1, .bool false, undef, .pointer (some ⟨b1, 0, none⟩), .int .i64 a0_0, .int .i64 r3, (g10 15), (g10 16), (g10 17), (g10 18), (g10 19), (g10 20), (g10 21), (g10 22), (g10 23), (g10 24), (g10 25), (g10 26), (g10 27), (g10 28), (g10 29), (g10 30), (g10 31), (g10 32), (g10 33), (g10 34), (g10 35), (g10 36), (g10 37), (g10 38), .slice z9_A z9_n z9_c, .int .i64 (z9.length : Int), .int .i64 a1, .bool true, (g35 43), (g35 44), (g35 45), (g35 46), (g35 47), (g35 48), (g35 49), (g35 50), (g35 51), (g30 52), (g30 53), (g30 54), (g30 55), (g30 56), (g30 57), (g30 58), (g30 59), (g30 60), (g30 61), (g30 62), (g30 63), (g30 64), (g30 65), (g30 66), (g30 67), (g30 68), (g30 69), (g30 70), undef, undef], []⟩) (fun N nj => ?_) ?_
    ·clear h
     have h := hj
     refine xseq_k fun KS37 ks37 => ?_
     refine xregS [0, 1, 2, 3] fun KR38 kr38 => ?_
     refine wpS.q 0 43 (.pointer (some ⟨b1, 26, none⟩)) ?_
     refine wpS.tk 1 true (some 44) (.int .i64 z10_2) (yld_load1 (e := 3) (o := 26) hs 2 rfl (by kernel_rfl) (by kernel_rfl) (get_post 0 rfl rfl) .grow) ?_
     refine wpS.q 2 45 (.int .i64 r3) ?_
     rcases of_if h with ⟨hc, h⟩ | ⟨hc, h⟩
     ·refine wpS.tk 3 false (some 46) (.bool true) (yld_b (et hc) (fun _ => by kernel_rfl)) ?_
      refine wpS.fin rfl (kr38 _ _ (then_n (ks37 _ _ (wp_cond_t (by kernel_rfl) (xseq_k fun KS39 ks39 => (xregS [0, 1, 2, 3, 4] fun KR40 kr40 => ?_))))))
      refine wpS.q 0 47 (.pointer (some ⟨b1, 1, none⟩)) ?_
      refine wpS.tk 1 true (some 48) (.agg (enc .u64 z10_1).toArray) (yld_loadN (e := 113) (n := 25) (o := 1) hs 2 rfl (by kernel_rfl) (by kernel_rfl) (by kernel_rfl) (mid_of rfl) (enc_len _ _) .grow) ?_
      obtain ⟨r14, hg, h⟩ := of_bind h
      refine wpS.only 2 (op_call (d := (some 49)) (by kernel_rfl) hs (fun _ => by kernel_rfl) (ref08_Permute.ok hg _) ?_)
      intro w gw hs
      refine ⟨fun _ => trivial, ?_⟩
      refine wpS.q 3 50 (.pointer (some ⟨b1, 1, none⟩)) ?_
      refine wpS.only 4 (op_storeM (t := 113) (o := 1) (m := 25) (v := .agg (enc .u64 r14).toArray) (vs := enc .u64 r14) (d := none) (by kernel_rfl) hs 2 rfl (by kernel_rfl) (by kernel_rfl) (by kernel_rfl) (enc_len _ _) (by simp [enc_len]) (by intro u hu; exact enc_one _ _ u hu) (splice_row rfl) ?_)
      intro w kp hs
      refine ⟨fun _ => trivial, ?_⟩
      refine wpS.fin rfl (kr40 _ _ (then_n (ks39 _ _ (xregS [0, 1] fun KR41 kr41 => ?_))))
      refine wpS.q 0 51 (.pointer (some ⟨b1, 26, none⟩)) ?_
      refine wpS.only 1 (op_storeQ (t := 3) (o := 26) (v := .int .i64 0) (d := none) (by kernel_rfl) hs 2 rfl (by kernel_rfl) rfl (by kernel_rfl) (by simp [enc_len]) (set_post 0 rfl) ?_)
      intro w kp hs
      try dsimp only [List.set] at hs
      refine ⟨fun _ => trivial, ?_⟩
      refine wpS.fin rfl (kr41 _ _ ?_)
      obtain ⟨q0, qr0⟩ := Prod.mk.inj (of_some h)
      obtain ⟨q1, qr1⟩ := Prod.mk.inj (qr0)
      obtain ⟨q2, qr2⟩ := Prod.mk.inj (qr1)
      have q3 := qr2
      subst q0
      subst q1
      subst q2
      subst q3
      exact nj _ _ ⟨(hs.conv rfl), exg (by kernel_rfl)⟩
     refine wpS.tk 3 false (some 46) (.bool false) (yld_b (ef hc) (fun _ => by kernel_rfl)) ?_
     refine wpS.fin rfl (kr38 _ _ (then_n (ks37 _ _ (wp_cond_f (by kernel_rfl) (xskip ?_)))))
     obtain ⟨q0, qr0⟩ := Prod.mk.inj (of_some h)
     obtain ⟨q1, qr1⟩ := Prod.mk.inj (qr0)
     obtain ⟨q2, qr2⟩ := Prod.mk.inj (qr1)
     have q3 := qr2
     subst q0
     subst q1
     subst q2
     subst q3
     exact nj _ _ ⟨(hs.conv rfl), exg (by kernel_rfl)⟩
    clear hj hs
    rintro a w ⟨hs, g35, rfl⟩
    refine then_n (ks36 _ _ (xseq_k fun KS42 ks42 => ?_))
    refine wp_regG [14] (fun k => True) 16 (by kernel_rfl) (by kernel_rfl) (by kernel_rfl) fun KR43 kr43 => ?_
    have hs := hs.drawn1
    refine wpG.q 0 52 (.slice z9_A z9_n z9_c) ?_
    refine wpG.q 1 53 (.pointer (some ⟨b1, 26, none⟩)) ?_
    refine wpG.take [2, 3, 5, 6, 11, 12, 13, 14, 15] 2 true (some 54) (.int .i64 y13_2) (by kernel_rfl) (by kernel_rfl) (yld_load1 (e := 3) (o := 26) hs 2 rfl (by kernel_rfl) (by kernel_rfl) (get_post 0 rfl rfl) .grow) ?_
    refine wpG.q 3 55 (.int .i64 (iquo .i64 y13_2 8)) ?_
    refine wpG.q 4 56 (.pointer (some ⟨b1, 1, none⟩)) ?_
    obtain ⟨x15, hx, h⟩ := of_bind h
    have hx := of_some hx
    subst hx
    obtain ⟨i0_44, h⟩ := of_chk h
    obtain ⟨i1_44, h⟩ := of_chk h
    refine wpG.tD 5 false (some 57) (.pointer (some ⟨b1, 1 + ((iquo .i64 y13_2 8) : Int).toNat * 1, none⟩)) (yld_idx (t := 113) (e := 112) (n := 25) (sz := 1) (k := .i64) (x := (iquo .i64 y13_2 8)) (by kernel_rfl) (by kernel_rfl) (by kernel_rfl) i0_44 i1_44) ?_
    refine wpG.take [6, 11, 12, 13, 14, 15] 6 true (some 58) (.int .u64 (rd y13_1 (iquo .i64 y13_2 8))) (by kernel_rfl) (by kernel_rfl) (yld_loadP (m := 1) (e := 112) (x := (iquo .i64 y13_2 8)) hs 2 rfl (by kernel_rfl) (by kernel_rfl) i0_44 i1_44 (by simp [enc_len]) .grow) ?_
    refine wpG.q 7 59 (.pointer (some ⟨b1, 26, none⟩)) ?_
    refine wpG.take [8, 9, 10, 11, 12, 13, 14, 15] 8 true (some 60) (.int .i64 y13_2) (by kernel_rfl) (by kernel_rfl) (yld_load1 (e := 3) (o := 26) hs 2 rfl (by kernel_rfl) (by kernel_rfl) (get_post 0 rfl rfl) .grow) ?_
    refine wpG.q 9 61 (.int .i64 (irem .i64 y13_2 8)) ?_
    refine wpG.q 10 62 (.int .i64 (imul .i64 8 (irem .i64 y13_2 8))) ?_
    obtain ⟨h0, h⟩ := of_chk h
    refine wpG.tD 11 false (some 63) (.int .u64 (ishr .u64 (rd y13_1 (iquo .i64 y13_2 8)) (imul .i64 8 (irem .i64 y13_2 8)))) (yld_shr (t := 112) (k' := .i64) (by kernel_rfl) h0) ?_
    refine wpG.q 12 64 (.int .u8 (iconv .u8 (ishr .u64 (rd y13_1 (iquo .i64 y13_2 8)) (imul .i64 8 (irem .i64 y13_2 8))))) ?_
    refine wpG.only 13 (by kernel_rfl) (op_lit (C := (CI .u8)) (t := 24) (e := 5) (len := 1) (parts := #[(0, .int .u8 (iconv .u8 (ishr .u64 (rd y13_1 (iquo .i64 y13_2 8)) (imul .i64 8 (irem .i64 y13_2 8)))))]) (l := [(iconv .u8 (ishr .u64 (rd y13_1 (iquo .i64 y13_2 8)) (imul .i64 8 (irem .i64 y13_2 8))))]) (d := (some 65)) (by kernel_rfl) hs (by kernel_rfl) (by kernel_rfl) (by kernel_rfl) (z := .int .u8 0) (by kernel_rfl) rfl (by decide) (by decide) (by kernel_rfl) ?_)
    intro s16_A s16_n s16_c w gw hs
    refine ⟨.of gw, ?_⟩
    obtain ⟨h0, h⟩ := of_chk h
    refine wpG.only 14 (by kernel_rfl) (op_appendT (C := (CI .u8)) (t := 24) (ty := 24) (e := 5) (bytes := 1) (B := 140737488355328) (d := (some 66)) (by kernel_rfl) hs 1 rfl (hs.rowL 0 rfl) (by kernel_rfl) (by kernel_rfl) (by kernel_rfl) (by kernel_rfl) (by kernel_rfl) h0 (by decide) (by decide) ?_)
    intro s17_A s17_n s17_c w hs
    refine ⟨⟨fun hf => absurd hf (by decide), .all _ _⟩, ?_⟩
    refine wpG.q 15 8 (.slice s17_A s17_n s17_c) ?_
    refine wpG.fin (by kernel_rfl) rfl (kr43 _ _ ?_)
    refine then_n (ks42 _ _ (xregS [0, 1, 2, 3, 4] fun KR45 kr45 => ?_))
    refine wpS.q 0 67 (.pointer (some ⟨b1, 26, none⟩)) ?_
    refine wpS.tk 1 true (some 68) (.int .i64 y13_2) (yld_load1 (e := 3) (o := 26) hs 3 rfl (by kernel_rfl) (by kernel_rfl) (get_post 0 rfl rfl) .grow) ?_
    refine wpS.qs [(2, 69, .int .i64 (iadd .i64 y13_2 1)), (3, 70, .pointer (some ⟨b1, 26, none⟩))] ?_
    obtain ⟨x18, hx, h⟩ := of_bind h
    refine wpS.only 4 (op_storeQ (t := 3) (o := 26) (v := .int .i64 x18) (d := none) (by kernel_rfl) hs 3 rfl (by cases hx; kernel_rfl) rfl (by kernel_rfl) (by simp [enc_len]) (set_post 0 rfl) ?_)
    intro w kp hs
    try dsimp only [List.set] at hs
    refine ⟨fun _ => trivial, ?_⟩
    refine wpS.fin rfl (kr45 _ _ (inBlock_n ?_))
    exact then_n (kl0 _ _ ⟨n, Nat.lt_succ_self n, (z9 ++ ([(iconv .u8 (ishr .u64 (rd y13_1 (iquo .i64 y13_2 8)) (imul .i64 8 (irem .i64 y13_2 8))))] : List Int)), y13_0, y13_1, x18, y13_3, s17_A, s17_n, s17_c, h, (hs.drop (.cons _ (.cons_cons _ (.cons_cons _ (.cons_cons _ .slnil))))), exg (by kernel_rfl)⟩)
   refine wpS.tk 3 false (some 42) (.bool false) (yld_b (df hc) (fun _ => by kernel_rfl)) ?_
   refine wpS.fin rfl (kr34 _ _ (then_n (ks33 _ _ (wp_cond_f (by kernel_rfl) (xexit (then_x (then_x (inBlock_hit ?_))))))))
   obtain ⟨q0, qr0⟩ := Prod.mk.inj (of_some h)
   obtain ⟨q1, qr1⟩ := Prod.mk.inj (qr0)
   obtain ⟨q2, qr2⟩ := Prod.mk.inj (qr1)
   obtain ⟨q3, qr3⟩ := Prod.mk.inj (qr2)
   have q4 := qr3
   subst q0
   subst q1
   subst q2
   subst q3
   subst q4
   exact exq_n (nn0 _ _ ⟨z9_A, z9_n, z9_c, (hs.conv rfl), exg (by kernel_rfl)⟩)
 clear hs h hy
 rintro a w ⟨y11_A, y11_n, y11_c, hs, g31, rfl⟩
 have h := hk0
 refine then_n (ks29 _ _ (xseq_k fun KS46 ks46 => (xregS [0, 1, 2, 3] fun KR47 kr47 => ?_)))
 refine wpS.tk 0 true (some 71) (.agg (([.int .i64 y12_0] : List Value) ++ enc .u64 y12_1 ++ ([.int .i64 y12_2, .bool y12_3] : List Value)).toArray) (yld_loadW (e := 115) (n := 28) hs 2 rfl (by kernel_rfl) (by kernel_rfl) (by kernel_rfl) (by simp [enc_len]) .grow) ?_
 refine wpS.q 1 72 (.slice y11_A y11_n y11_c) ?_
 refine wpS.only 2 (op_storeW (t := 115) (v := .agg (([.int .i64 y12_0] : List Value) ++ enc .u64 y12_1 ++ ([.int .i64 y12_2, .bool y12_3] : List Value)).toArray) (d := none) (by kernel_rfl) hs 1 rfl (vs := ([.int .i64 y12_0] : List Value) ++ enc .u64 y12_1 ++ ([.int .i64 y12_2, .bool y12_3] : List Value)) (n := 28) (by kernel_rfl) (by kernel_rfl) (by kernel_rfl) (by simp [enc_len]) (by simp [enc_len]) (one_app (one_app (by simp [Value.oneCell']) (fun u hu => enc_one _ _ u hu)) (by simp [Value.oneCell'])) ?_)
 intro w kp hs
 refine ⟨fun _ => trivial, ?_⟩
 refine wpS.q 3 5 (.slice y11_A y11_n y11_c) ?_
 refine wpS.fin rfl (kr47 _ _ (then_n (ks46 _ _ (xret ?_))))
 obtain ⟨q0, qr0⟩ := Prod.mk.inj (of_some h)
 obtain ⟨q1, qr1⟩ := Prod.mk.inj (qr0)
 obtain ⟨q2, qr2⟩ := Prod.mk.inj (qr1)
 obtain ⟨q3, qr3⟩ := Prod.mk.inj (qr2)
 have q4 := qr3
 subst q0
 subst q1
 subst q2
 subst q3
 subst q4
 exact qq _ _ (post_ret (by kernel_rfl) (run_results [.cell 4 115, .tmp 5] [.agg (([.int .i64 y12_0] : List Value) ++ enc .u64 y12_1 ++ ([.int .i64 y12_2, .bool y12_3] : List Value)).toArray, .slice y11_A y11_n y11_c] (by kernel_rfl) (.cons (res_cellN (n := 28) hs 1 rfl (by kernel_rfl) (by kernel_rfl) (by kernel_rfl) (by simp [enc_len])) (.cons (res_tmp (by kernel_rfl)) .nil))) ⟨⟨y11_A, y11_n, y11_c⟩, congrArg Ending.returned (by kernel_rfl), (hs.drop (.cons_cons _ (.cons _ (.cons _ .slnil))))⟩)
end Go.Proofs.YtemdbgmldljbpaaDoor
