/- Printed by this work's own program: the code of each function below comes to the answer that its plain form tells. -/
import Derived.Test.YtemdbgmldljbpaaDoorMd
import Derived.Test.YtemdbgmldljbpaaDoorProg
import Derived.Test.YtemdbgmldljbpaaDoorYF0
import Derived.Test.YtemdbgmldljbpaaDoorYX6
import Derived.Test.YtemdbgmldljbpaaDoorYX7
set_option linter.unusedVariables false
set_option linter.unusedSimpArgs false
set_option maxRecDepth 100000
set_option maxHeartbeats 4000000
namespace Go.Proofs.YtemdbgmldljbpaaDoor
open Go.Mx
attribute [local irreducible] wpOp

theorem ref08_Absorb.ok {K : Nat} {a0_0 : Int} {a0_1 : Arr 25} {a0_2 : Int} {a0_3 : Bool} {a1 : List Int} {r0_0 : Int} {r0_1 : Arr 25} {r0_2 : Int} {r0_3 : Bool} {a1_A : Option Addr} {a1_n : Nat} {a1_c : Nat} (h : ref08_Absorb.f K a0_0 a0_1 a0_2 a0_3 a1 = some (r0_0, r0_1, r0_2, r0_3)) (w0 : World) (hp1 : RowL (CI .u8) w0 a1_A a1_n a1_c a1) : Ret Tryd.prog 86 #[.agg (([.int .i64 a0_0] : List Value) ++ enc .u64 a0_1 ++ ([.int .i64 a0_2, .bool a0_3] : List Value)).toArray, .slice a1_A a1_n a1_c] w0 (.agg (([.int .i64 r0_0] : List Value) ++ enc .u64 r0_1 ++ ([.int .i64 r0_2, .bool r0_3] : List Value)).toArray) := by
 refine calls_k Tryd.func86 rfl fun Q qq => ?_
 have hs := St.startR (all_cons (RowP.ent hp1) all_nil)
 refine wp_conv (a' := ⟨#[.agg (([.int .i64 a0_0] : List Value) ++ enc .u64 a0_1 ++ ([.int .i64 a0_2, .bool a0_3] : List Value)).toArray, .slice a1_A a1_n a1_c, undef, undef, undef, undef, undef, undef, undef, undef, undef, undef, undef, undef, undef, undef, undef, undef, undef, undef, undef, undef, undef, undef, undef, undef, undef, undef, undef, undef, undef, undef, undef, undef, undef, undef, undef, undef, undef, undef, undef], []⟩) (by kernel_rfl) ?_
 refine xseq_k fun KS1 ks1 => ?_
 refine xregS [0, 1] fun KR2 kr2 => ?_
 refine wpS.only 0 (op_box (t := 115) (v := .agg (([.int .i64 a0_0] : List Value) ++ enc .u64 a0_1 ++ ([.int .i64 a0_2, .bool a0_3] : List Value)).toArray) (d := (some 2)) (by kernel_rfl) hs (([.int .i64 a0_0] : List Value) ++ enc .u64 a0_1 ++ ([.int .i64 a0_2, .bool a0_3] : List Value)) (by kernel_rfl) (by kernel_rfl) ?_)
 intro b1 w gw hs
 refine ⟨fun _ => trivial, ?_⟩
 refine wpS.only 1 (op_alloc (t := 115) (d := (some 4)) (by kernel_rfl) hs (([.int .i64 0] : List Value) ++ enc .u64 (zeroA 25) ++ ([.int .i64 0, .bool false] : List Value)) (.agg (([.int .i64 0] : List Value) ++ enc .u64 (zeroA 25) ++ ([.int .i64 0, .bool false] : List Value)).toArray) (by kernel_rfl) (by kernel_rfl) (by kernel_rfl) ?_)
 intro b2 w gw hs
 refine ⟨fun _ => trivial, ?_⟩
 refine wpS.fin rfl (kr2 _ _ (then_n (ks1 _ _ (xseq_k fun KS3 ks3 => (xseq_k fun KS4 ks4 => (xregS [0, 1] fun KR5 kr5 => ?_))))))
 refine wpS.q 0 6 (.pointer (some ⟨b1, 27, none⟩)) ?_
 cases a0_3 with
 | true =>
  have h := of_if_t h
  refine wpS.tk 1 true (some 7) (.bool true) (yld_load1 (e := 4) (o := 27) hs 1 rfl (by kernel_rfl) (by kernel_rfl) (get_post 1 rfl rfl) .grow) ?_
  refine wpS.fin rfl (kr5 _ _ (then_n (ks4 _ _ (wp_cond_t (by kernel_rfl) (xseq_k fun KS6 ks6 => (xregS [0, 1] fun KR7 kr7 => ?_))))))
  refine wpS.tk 0 true (some 8) (.agg (([.int .i64 a0_0] : List Value) ++ enc .u64 a0_1 ++ ([.int .i64 a0_2, .bool true] : List Value)).toArray) (yld_loadW (e := 115) (n := 28) hs 1 rfl (by kernel_rfl) (by kernel_rfl) (by kernel_rfl) (by simp [enc_len]) .grow) ?_
  refine wpS.only 1 (op_storeW (t := 115) (v := .agg (([.int .i64 a0_0] : List Value) ++ enc .u64 a0_1 ++ ([.int .i64 a0_2, .bool true] : List Value)).toArray) (d := none) (by kernel_rfl) hs 0 rfl (vs := ([.int .i64 a0_0] : List Value) ++ enc .u64 a0_1 ++ ([.int .i64 a0_2, .bool true] : List Value)) (n := 28) (by kernel_rfl) (by kernel_rfl) (by kernel_rfl) (by simp [enc_len]) (by simp [enc_len]) (one_app (one_app (by simp [Value.oneCell']) (fun u hu => enc_one _ _ u hu)) (by simp [Value.oneCell'])) ?_)
  intro w kp hs
  refine ⟨fun _ => trivial, ?_⟩
  refine wpS.fin rfl (kr7 _ _ (then_n (ks6 _ _ (xret (then_r ?_)))))
  obtain ⟨q0, qr0⟩ := Prod.mk.inj (of_some h)
  obtain ⟨q1, qr1⟩ := Prod.mk.inj (qr0)
  obtain ⟨q2, qr2⟩ := Prod.mk.inj (qr1)
  have q3 := qr2
  subst q0
  subst q1
  subst q2
  subst q3
  exact qq _ _ (post_ret (by kernel_rfl) (run_results [.cell 4 115] [.agg (([.int .i64 a0_0] : List Value) ++ enc .u64 a0_1 ++ ([.int .i64 a0_2, .bool true] : List Value)).toArray] (by kernel_rfl) (.cons (res_cellN (n := 28) hs 0 rfl (by kernel_rfl) (by kernel_rfl) (by kernel_rfl) (by simp [enc_len])) .nil)) ⟨congrArg Ending.returned (by kernel_rfl), hs.none⟩)
 | false =>
  have h := of_if_f h
  refine wpS.tk 1 true (some 7) (.bool false) (yld_load1 (e := 4) (o := 27) hs 1 rfl (by kernel_rfl) (by kernel_rfl) (get_post 1 rfl rfl) .grow) ?_
  refine wpS.fin rfl (kr5 _ _ (then_n (ks4 _ _ (wp_cond_f (by kernel_rfl) (xskip (then_n (ks3 _ _ (xseq_k fun KS8 ks8 => (xseq_k fun KS9 ks9 => (xregS [0] fun KR10 kr10 => ?_))))))))))
  refine wpS.q 0 5 (.int .i64 0) ?_
  refine wpS.fin rfl (kr10 _ _ (then_n (ks9 _ _ ?_)))
  obtain ⟨⟨y5_0, y5_1, y5_2, y5_3⟩, hy, hk0⟩ := of_bind h
  refine wp_exq (N := fun a w => St w0 [] [.blk b2 (([.int .i64 0] : List Value) ++ enc .u64 (zeroA 25) ++ ([.int .i64 0, .bool false] : List Value)) 115, .blk b1 (([.int .i64 y5_0] : List Value) ++ enc .u64 y5_1 ++ ([.int .i64 y5_2, .bool y5_3] : List Value)) 115] [.rowL (CI .u8) a1_A a1_n a1_c a1] w ∧ ∃ g12 : Nat → Value, a = ⟨#[.agg (([.int .i64 a0_0] : List Value) ++ enc .u64 a0_1 ++ ([.int .i64 a0_2, .bool false] : List Value)).toArray, .slice a1_A a1_n a1_c, .pointer (some ⟨b1, 0, none⟩), undef, .pointer (some ⟨b2, 0, none⟩), (g12 5), .pointer (some ⟨b1, 27, none⟩), .bool false, undef, (g12 9), (g12 10), (g12 11), (g12 12), (g12 13), (g12 14), (g12 15), (g12 16), (g12 17), (g12 18), (g12 19), (g12 20), (g12 21), (g12 22), (g12 23), (g12 24), (g12 25), (g12 26), (g12 27), (g12 28), (g12 29), (g12 30), (g12 31), (g12 32), (g12 33), (g12 34), (g12 35), (g12 36), (g12 37), (g12 38), (g12 39), undef], []⟩) (fun N0 nn0 => ?_) ?_
  ·clear hk0
   refine xblock ?_
   refine wp_loop_k (fun n a w => ∃ z3 z4_0 z4_1 z4_2 z4_3, ref08_Absorb.l0 K n a1 z3 z4_0 z4_1 z4_2 z4_3 = some (y5_0, y5_1, y5_2, y5_3) ∧ St w0 [] [.blk b2 (([.int .i64 0] : List Value) ++ enc .u64 (zeroA 25) ++ ([.int .i64 0, .bool false] : List Value)) 115, .blk b1 (([.int .i64 z4_0] : List Value) ++ enc .u64 z4_1 ++ ([.int .i64 z4_2, .bool z4_3] : List Value)) 115] [.rowL (CI .u8) a1_A a1_n a1_c a1] w ∧ ∃ g11 : Nat → Value, a = ⟨#[.agg (([.int .i64 a0_0] : List Value) ++ enc .u64 a0_1 ++ ([.int .i64 a0_2, .bool false] : List Value)).toArray, .slice a1_A a1_n a1_c, .pointer (some ⟨b1, 0, none⟩), undef, .pointer (some ⟨b2, 0, none⟩), .int .i64 z3, .pointer (some ⟨b1, 27, none⟩), .bool false, undef, (g11 9), (g11 10), (g11 11), (g11 12), (g11 13), (g11 14), (g11 15), (g11 16), (g11 17), (g11 18), (g11 19), (g11 20), (g11 21), (g11 22), (g11 23), (g11 24), (g11 25), (g11 26), (g11 27), (g11 28), (g11 29), (g11 30), (g11 31), (g11 32), (g11 33), (g11 34), (g11 35), (g11 36), (g11 37), (g11 38), (g11 39), undef], []⟩) K ⟨0, a0_0, a0_1, a0_2, false, hy, hs.conv rfl, exg (by kernel_rfl)⟩ ?_
   clear hs h hy
   rintro n a w ⟨z3, z4_0, z4_1, z4_2, z4_3, h, hs, g11, rfl⟩ KL0 kl0
   cases n with
   | zero => exact nomatch (show none = some _ from h)
   | succ n =>
    refine xseq_k fun KS13 ks13 => ?_
    refine xseq_k fun KS14 ks14 => ?_
    refine xregS [0, 1, 2, 3] fun KR15 kr15 => ?_
    refine wpS.qs [(0, 9, .int .i64 z3), (1, 10, .slice a1_A a1_n a1_c)] ?_
    refine wpS.tk 2 false (some 11) (.int .i64 (a1.length : Int)) (yld_lenL (hs.rowR 0 rfl) (fun _ => by kernel_rfl)) ?_
    rcases of_if h with ⟨hc, h⟩ | ⟨hc, h⟩
    ·refine wpS.tk 3 false (some 12) (.bool true) (yld_b (dt hc) (fun _ => by kernel_rfl)) ?_
     refine wpS.fin rfl (kr15 _ _ (then_n (ks14 _ _ (wp_cond_t (by kernel_rfl) (xskip (then_n (ks13 _ _ ?_)))))))
     obtain ⟨⟨y6_0, y6_1, y6_2, y6_3⟩, hj, h⟩ := of_bind h
     refine xseq_k fun KS17 ks17 => wp_join (N := fun a w => St w0 [] [.blk b2 (([.int .i64 0] : List Value) ++ enc .u64 (zeroA 25) ++ ([.int .i64 0, .bool false] : List Value)) 115, .blk b1 (([.int .i64 y6_0] : List Value) ++ enc .u64 y6_1 ++ ([.int .i64 y6_2, .bool y6_3] : List Value)) 115] [.rowL (CI .u8) a1_A a1_n a1_c a1] w ∧ ∃ g16 : Nat → Value, a = ⟨#[.agg (([.int .i64 a0_0] : List Value) ++ enc .u64 a0_1 ++ ([.int .i64 a0_2, .bool false] : List Value)).toArray, .slice a1_A a1_n a1_c, .pointer (some ⟨b1, 0, none⟩), undef, .pointer (some ⟨b2, 0, none⟩), .int .i64 z3, .pointer (some ⟨b1, 27, none⟩), .bool false, undef, .int .i64 z3, .slice a1_A a1_n a1_c, .int .i64 (a1.length : Int), .bool true, (g11 13), (g11 14), (g16 15), (g16 16), (g16 17), (g16 18), (g16 19), (g16 20), (g16 21), (g16 22), (g16 23), (g16 24), (g16 25), (g16 26), (g16 27), (g16 28), (g16 29), (g16 30), (g16 31), (g16 32), (g16 33), (g16 34), (g16 35), (g16 36), (g16 37), (g16 38), (g16 39), undef], []⟩) (fun N nj => ?_) ?_
     ·clear h
      have h := hj
      refine xblock (xseq_k fun KS18 ks18 => ?_)
      refine wp_regG [10] (fun k => True) 11 (by kernel_rfl) (by kernel_rfl) (by kernel_rfl) fun KR19 kr19 => ?_
      have hs := hs.drawn1
      refine wpG.q 0 15 (.pointer (some ⟨b1, 1, none⟩)) ?_
      refine wpG.tD 1 true (some 16) (.agg (enc .u64 z4_1).toArray) (yld_loadN (e := 113) (n := 25) (o := 1) hs 1 rfl (by kernel_rfl) (by kernel_rfl) (by kernel_rfl) (mid_of rfl) (enc_len _ _) .grow) ?_
      refine wpG.q 2 17 (.pointer (some ⟨b1, 26, none⟩)) ?_
      refine wpG.tD 3 true (some 18) (.int .i64 z4_2) (yld_load1 (e := 3) (o := 26) hs 1 rfl (by kernel_rfl) (by kernel_rfl) (get_post 0 rfl rfl) .grow) ?_
      refine wpG.q 4 19 (.slice a1_A a1_n a1_c) ?_
      refine wpG.q 5 20 (.int .i64 z3) ?_
      obtain ⟨h0, h⟩ := of_chk h
      obtain ⟨h1, h⟩ := of_chk h
      have i0_20 := h0
      have i1_20 := h1
      refine wpG.tD 6 false (some 21) (.pointer (adr a1_A ((z3 : Int).toNat * Cod.size (CI .u8)))) (yld_idxL (C := (CI .u8)) (t := 24) (e := 5) (k := .i64) (x := z3) (hs.rowR 0 rfl) (by kernel_rfl) (by kernel_rfl) (by kernel_rfl) h0 h1) ?_
      refine wpG.tD 7 true (some 22) (.int .u8 (rdL (CI .u8) a1 z3)) (yld_loadL (C := (CI .u8)) (e := 5) (x := z3) (hs.rowR 0 rfl) (by kernel_rfl) rfl (by kernel_rfl) i0_20 i1_20) ?_
      obtain ⟨r7, hg, h⟩ := of_bind h
      refine wpG.only 8 (by kernel_rfl) (op_call (d := (some 23)) (by kernel_rfl) hs (fun _ => by kernel_rfl) (ref08_put.ok hg _) ?_)
      intro w gw hs
      refine ⟨.of gw, ?_⟩
      refine wpG.q 9 24 (.pointer (some ⟨b1, 1, none⟩)) ?_
      refine wpG.only 10 (by kernel_rfl) (op_storeM (t := 113) (o := 1) (m := 25) (v := .agg (enc .u64 r7).toArray) (vs := enc .u64 r7) (d := none) (by kernel_rfl) hs 1 rfl (by kernel_rfl) (by kernel_rfl) (by kernel_rfl) (enc_len _ _) (by simp [enc_len]) (by intro u hu; exact enc_one _ _ u hu) (splice_row rfl) ?_)
      intro w kp hs
      refine ⟨⟨fun hf => absurd hf (by decide), .all _ _⟩, ?_⟩
      refine wpG.fin (by kernel_rfl) rfl (kr19 _ _ ?_)
      refine then_n (ks18 _ _ (xseq_k fun KS21 ks21 => (xregS [0, 1, 2, 3, 4] fun KR22 kr22 => ?_)))
      refine wpS.q 0 25 (.pointer (some ⟨b1, 26, none⟩)) ?_
      refine wpS.tk 1 true (some 26) (.int .i64 z4_2) (yld_load1 (e := 3) (o := 26) hs 1 rfl (by kernel_rfl) (by kernel_rfl) (get_post 0 rfl rfl) .grow) ?_
      refine wpS.qs [(2, 27, .int .i64 (iadd .i64 z4_2 1)), (3, 28, .pointer (some ⟨b1, 26, none⟩))] ?_
      obtain ⟨x8, hx, h⟩ := of_bind h
      refine wpS.only 4 (op_storeQ (t := 3) (o := 26) (v := .int .i64 x8) (d := none) (by kernel_rfl) hs 1 rfl (by cases hx; kernel_rfl) rfl (by kernel_rfl) (by simp [enc_len]) (set_post 0 rfl) ?_)
      intro w kp hs
      try dsimp only [List.set] at hs
      refine ⟨fun _ => trivial, ?_⟩
      refine wpS.fin rfl (kr22 _ _ (then_n (ks21 _ _ (xseq_k fun KS23 ks23 => ?_))))
      refine wp_regG [] (fun k => True) 6 (by kernel_rfl) (by kernel_rfl) (by kernel_rfl) fun KR24 kr24 => ?_
      have hs := hs.drawn1
      refine wpG.q 0 29 (.pointer (some ⟨b1, 26, none⟩)) ?_
      refine wpG.tD 1 true (some 30) (.int .i64 x8) (yld_load1 (e := 3) (o := 26) hs 1 rfl (by kernel_rfl) (by kernel_rfl) (get_post 0 rfl rfl) .grow) ?_
      refine wpG.q 2 31 (.pointer (some ⟨b1, 0, none⟩)) ?_
      refine wpG.tD 3 true (some 32) (.int .i64 z4_0) (yld_load1 (e := 3) (o := 0) hs 1 rfl (by kernel_rfl) (by kernel_rfl) (get_pre rfl) .grow) ?_
      obtain ⟨r9, hg, h⟩ := of_bind h
      refine wpG.only 4 (by kernel_rfl) (op_call (d := (some 33)) (by kernel_rfl) hs (fun _ => by kernel_rfl) (ref08_Rate.ok hg _) ?_)
      intro w gw hs
      refine ⟨.of gw, ?_⟩
      rcases of_if h with ⟨hc, h⟩ | ⟨hc, h⟩
      ·refine wpG.tD 5 false (some 34) (.bool true) (yld_b (et hc) (fun _ => by kernel_rfl)) ?_
       refine wpG.fin (by kernel_rfl) rfl (kr24 _ _ ?_)
       refine then_n (ks23 _ _ (wp_cond_t (by kernel_rfl) (xseq_k fun KS25 ks25 => (xregS [0, 1, 2, 3, 4] fun KR26 kr26 => ?_))))
       refine wpS.q 0 35 (.pointer (some ⟨b1, 1, none⟩)) ?_
       refine wpS.tk 1 true (some 36) (.agg (enc .u64 r7).toArray) (yld_loadN (e := 113) (n := 25) (o := 1) hs 1 rfl (by kernel_rfl) (by kernel_rfl) (by kernel_rfl) (mid_of rfl) (enc_len _ _) .grow) ?_
       obtain ⟨r10, hg, h⟩ := of_bind h
       refine wpS.only 2 (op_call (d := (some 37)) (by kernel_rfl) hs (fun _ => by kernel_rfl) (ref08_Permute.ok hg _) ?_)
       intro w gw hs
       refine ⟨fun _ => trivial, ?_⟩
       refine wpS.q 3 38 (.pointer (some ⟨b1, 1, none⟩)) ?_
       refine wpS.only 4 (op_storeM (t := 113) (o := 1) (m := 25) (v := .agg (enc .u64 r10).toArray) (vs := enc .u64 r10) (d := none) (by kernel_rfl) hs 1 rfl (by kernel_rfl) (by kernel_rfl) (by kernel_rfl) (enc_len _ _) (by simp [enc_len]) (by intro u hu; exact enc_one _ _ u hu) (splice_row rfl) ?_)
       intro w kp hs
       refine ⟨fun _ => trivial, ?_⟩
       refine wpS.fin rfl (kr26 _ _ (then_n (ks25 _ _ (xregS [0, 1] fun KR27 kr27 => ?_))))
       refine wpS.q 0 39 (.pointer (some ⟨b1, 26, none⟩)) ?_
       refine wpS.only 1 (op_storeQ (t := 3) (o := 26) (v := .int .i64 0) (d := none) (by kernel_rfl) hs 1 rfl (by kernel_rfl) rfl (by kernel_rfl) (by simp [enc_len]) (set_post 0 rfl) ?_)
       intro w kp hs
       try dsimp only [List.set] at hs
       refine ⟨fun _ => trivial, ?_⟩
       refine wpS.fin rfl (kr27 _ _ (inBlock_n ?_))
       obtain ⟨q0, qr0⟩ := Prod.mk.inj (of_some h)
       obtain ⟨q1, qr1⟩ := Prod.mk.inj (qr0)
       obtain ⟨q2, qr2⟩ := Prod.mk.inj (qr1)
       have q3 := qr2
       subst q0
       subst q1
       subst q2
       subst q3
       exact nj _ _ ⟨(hs.conv rfl), exg (by kernel_rfl)⟩
      refine wpG.tD 5 false (some 34) (.bool false) (yld_b (ef hc) (fun _ => by kernel_rfl)) ?_
      refine wpG.fin (by kernel_rfl) rfl (kr24 _ _ ?_)
      refine then_n (ks23 _ _ (wp_cond_f (by kernel_rfl) (xskip (inBlock_n ?_))))
      obtain ⟨q0, qr0⟩ := Prod.mk.inj (of_some h)
      obtain ⟨q1, qr1⟩ := Prod.mk.inj (qr0)
      obtain ⟨q2, qr2⟩ := Prod.mk.inj (qr1)
      have q3 := qr2
      subst q0
      subst q1
      subst q2
      subst q3
      exact nj _ _ ⟨(hs.conv rfl), exg (by kernel_rfl)⟩
     clear hj hs
     rintro a w ⟨hs, g16, rfl⟩
     refine then_n (ks17 _ _ (xregS [0, 1, 2] fun KR28 kr28 => ?_))
     refine wpS.qs [(0, 13, .int .i64 z3), (1, 14, .int .i64 (iadd .i64 z3 1))] ?_
     obtain ⟨x11, hx, h⟩ := of_bind h
     refine wpS.tk 2 false (some 5) (.int .i64 x11) (yld_int hx (fun _ => by kernel_rfl)) ?_
     refine wpS.fin rfl (kr28 _ _ ?_)
     exact then_n (kl0 _ _ ⟨n, Nat.lt_succ_self n, x11, y6_0, y6_1, y6_2, y6_3, h, (hs.conv rfl), exg (by kernel_rfl)⟩)
    refine wpS.tk 3 false (some 12) (.bool false) (yld_b (df hc) (fun _ => by kernel_rfl)) ?_
    refine wpS.fin rfl (kr15 _ _ (then_n (ks14 _ _ (wp_cond_f (by kernel_rfl) (xexit (then_x (then_x (inBlock_hit ?_))))))))
    obtain ⟨q0, qr0⟩ := Prod.mk.inj (of_some h)
    obtain ⟨q1, qr1⟩ := Prod.mk.inj (qr0)
    obtain ⟨q2, qr2⟩ := Prod.mk.inj (qr1)
    have q3 := qr2
    subst q0
    subst q1
    subst q2
    subst q3
    exact exq_n (nn0 _ _ ⟨(hs.conv rfl), exg (by kernel_rfl)⟩)
  clear hs h hy
  rintro a w ⟨hs, g12, rfl⟩
  have h := hk0
  refine then_n (ks8 _ _ (xseq_k fun KS29 ks29 => (xregS [0, 1] fun KR30 kr30 => ?_)))
  refine wpS.tk 0 true (some 40) (.agg (([.int .i64 y5_0] : List Value) ++ enc .u64 y5_1 ++ ([.int .i64 y5_2, .bool y5_3] : List Value)).toArray) (yld_loadW (e := 115) (n := 28) hs 1 rfl (by kernel_rfl) (by kernel_rfl) (by kernel_rfl) (by simp [enc_len]) .grow) ?_
  refine wpS.only 1 (op_storeW (t := 115) (v := .agg (([.int .i64 y5_0] : List Value) ++ enc .u64 y5_1 ++ ([.int .i64 y5_2, .bool y5_3] : List Value)).toArray) (d := none) (by kernel_rfl) hs 0 rfl (vs := ([.int .i64 y5_0] : List Value) ++ enc .u64 y5_1 ++ ([.int .i64 y5_2, .bool y5_3] : List Value)) (n := 28) (by kernel_rfl) (by kernel_rfl) (by kernel_rfl) (by simp [enc_len]) (by simp [enc_len]) (one_app (one_app (by simp [Value.oneCell']) (fun u hu => enc_one _ _ u hu)) (by simp [Value.oneCell'])) ?_)
  intro w kp hs
  refine ⟨fun _ => trivial, ?_⟩
  refine wpS.fin rfl (kr30 _ _ (then_n (ks29 _ _ (xret ?_))))
  obtain ⟨q0, qr0⟩ := Prod.mk.inj (of_some h)
  obtain ⟨q1, qr1⟩ := Prod.mk.inj (qr0)
  obtain ⟨q2, qr2⟩ := Prod.mk.inj (qr1)
  have q3 := qr2
  subst q0
  subst q1
  subst q2
  subst q3
  exact qq _ _ (post_ret (by kernel_rfl) (run_results [.cell 4 115] [.agg (([.int .i64 y5_0] : List Value) ++ enc .u64 y5_1 ++ ([.int .i64 y5_2, .bool y5_3] : List Value)).toArray] (by kernel_rfl) (.cons (res_cellN (n := 28) hs 0 rfl (by kernel_rfl) (by kernel_rfl) (by kernel_rfl) (by simp [enc_len])) .nil)) ⟨congrArg Ending.returned (by kernel_rfl), hs.none⟩)

theorem ref08_Sum.ok {K : Nat} {a0 : Int} {a1 : List Int} {a2 : Int} {r0 : List Int} {r1 : Int} {a1_A : Option Addr} {a1_n : Nat} {a1_c : Nat} (h : ref08_Sum.f K a0 a1 a2 = some (r0, r1)) (w0 : World) (hp1 : RowL (CI .u8) w0 a1_A a1_n a1_c a1) : Calls Tryd.prog 41 #[.int .i64 a0, .slice a1_A a1_n a1_c, .int .i64 a2] w0 fun e w' => ∃ h : (Option Addr × Nat × Nat), e = .returned (.tuple #[.slice h.1 h.2.1 h.2.2, .int .i64 r1]) ∧ St w0 [] [.ownL (CI .u8) h.1 h.2.1 h.2.2 r0 5] [] w' := by
 refine calls_k Tryd.func41 rfl fun Q qq => ?_
 have hs := St.startR (all_cons (RowP.ent hp1) all_nil)
 refine wp_conv (a' := ⟨#[.int .i64 a0, .slice a1_A a1_n a1_c, .int .i64 a2, undef, undef, undef, undef, undef, undef, undef, undef, undef, undef, undef, undef, undef, undef, undef, undef, undef, undef, undef, undef, undef, undef, undef, undef, undef, undef, undef, undef, undef, undef, undef, undef], []⟩) (by kernel_rfl) ?_
 refine xseq_k fun KS1 ks1 => ?_
 refine xregS [0, 1] fun KR2 kr2 => ?_
 refine wpS.qs [(0, 6, .slice none 0 0), (1, 7, .int .i64 0)] ?_
 refine wpS.fin rfl (kr2 _ _ (then_n (ks1 _ _ (xseq_k fun KS3 ks3 => (xregS [0, 1, 2, 3, 4, 5, 6, 7] fun KR4 kr4 => ?_)))))
 refine wpS.q 0 13 (.int .i64 a0) ?_
 obtain ⟨⟨r1_0, r1_1, r1_2, r1_3, r2⟩, hg, h⟩ := of_bind h
 refine wpS.only 1 (op_call (d := (some 14)) (by kernel_rfl) hs (fun _ => by kernel_rfl) (ref08_New.ok hg _) ?_)
 intro w gw hs
 refine ⟨fun _ => trivial, ?_⟩
 refine wpS.qs [(2, 12, .tuple #[.agg (([.int .i64 r1_0] : List Value) ++ enc .u64 r1_1 ++ ([.int .i64 r1_2, .bool r1_3] : List Value)).toArray, .int .i64 r2]), (3, 15, .agg (([.int .i64 r1_0] : List Value) ++ enc .u64 r1_1 ++ ([.int .i64 r1_2, .bool r1_3] : List Value)).toArray), (4, 16, .int .i64 r2)] ?_
 refine wpS.only 5 (op_alloc (t := 115) (d := (some 8)) (by kernel_rfl) hs (([.int .i64 0] : List Value) ++ enc .u64 (zeroA 25) ++ ([.int .i64 0, .bool false] : List Value)) (.agg (([.int .i64 0] : List Value) ++ enc .u64 (zeroA 25) ++ ([.int .i64 0, .bool false] : List Value)).toArray) (by kernel_rfl) (by kernel_rfl) (by kernel_rfl) ?_)
 intro b3 w gw hs
 refine ⟨fun _ => trivial, ?_⟩
 refine wpS.only 6 (op_storeW (t := 115) (v := .agg (([.int .i64 r1_0] : List Value) ++ enc .u64 r1_1 ++ ([.int .i64 r1_2, .bool r1_3] : List Value)).toArray) (d := none) (by kernel_rfl) hs 0 rfl (vs := ([.int .i64 r1_0] : List Value) ++ enc .u64 r1_1 ++ ([.int .i64 r1_2, .bool r1_3] : List Value)) (n := 28) (by kernel_rfl) (by kernel_rfl) (by kernel_rfl) (by simp [enc_len]) (by simp [enc_len]) (one_app (one_app (by simp [Value.oneCell']) (fun u hu => enc_one _ _ u hu)) (by simp [Value.oneCell'])) ?_)
 intro w kp hs
 refine ⟨fun _ => trivial, ?_⟩
 refine wpS.q 7 9 (.int .i64 r2) ?_
 refine wpS.fin rfl (kr4 _ _ (then_n (ks3 _ _ (xseq_k fun KS5 ks5 => (xseq_k fun KS6 ks6 => (xregS [0, 1] fun KR7 kr7 => ?_))))))
 refine wpS.q 0 17 (.int .i64 r2) ?_
 rcases of_if h with ⟨hc, h⟩ | ⟨hc, h⟩
 ·refine wpS.tk 1 false (some 18) (.bool false) (yld_b (nf hc) (fun _ => by kernel_rfl)) ?_
  refine wpS.fin rfl (kr7 _ _ (then_n (ks6 _ _ (wp_cond_f (by kernel_rfl) (xskip (then_n (ks5 _ _ (xseq_k fun KS8 ks8 => (xseq_k fun KS9 ks9 => (xregS [0, 1, 2, 3, 4, 5] fun KR10 kr10 => ?_))))))))))
  refine wpS.q 0 20 (.int .i64 a2) ?_
  rcases of_if h with ⟨hc, h⟩ | ⟨hc, h⟩
  ·refine wpS.tk 1 false (some 21) (.bool true) (yld_b (dt hc) (fun _ => by kernel_rfl)) ?_
   refine wpS.qs [(2, 22, .bool true), (3, 23, undef), (4, 24, undef), (5, 25, .bool true)] ?_
   refine wpS.fin rfl (kr10 _ _ (then_n (ks9 _ _ (wp_cond_t (by kernel_rfl) (xseq_k fun KS11 ks11 => (xregS [0, 1] fun KR12 kr12 => ?_))))))
   refine wpS.qs [(0, 6, .slice none 0 0), (1, 7, .int .i64 8)] ?_
   refine wpS.fin rfl (kr12 _ _ (then_n (ks11 _ _ (xret (then_r ?_)))))
   obtain ⟨q0, qr0⟩ := Prod.mk.inj (of_some h)
   have q1 := qr0
   subst q0
   subst q1
   have hs := hs.addNilL (CI .u8) 5
   exact qq _ _ (post_ret (by kernel_rfl) (run_results [.tmp 6, .tmp 7] [.slice none 0 0, .int .i64 8] (by kernel_rfl) (.cons (res_tmp (by kernel_rfl)) (.cons (res_tmp (by kernel_rfl)) .nil))) ⟨⟨none, 0, 0⟩, congrArg Ending.returned (by kernel_rfl), ((hs.drop (.cons_cons _ (.cons _ .slnil))).pickR pick_nil)⟩)
  refine wpS.tk 1 false (some 21) (.bool false) (yld_b (df hc) (fun _ => by kernel_rfl)) ?_
  refine wpS.qs [(2, 22, .bool false), (3, 23, .int .i64 a2)] ?_
  rcases of_if h with ⟨hc, h⟩ | ⟨hc, h⟩
  ·refine wpS.tk 4 false (some 24) (.bool true) (yld_b (dt hc) (fun _ => by kernel_rfl)) ?_
   refine wpS.q 5 25 (.bool true) ?_
   refine wpS.fin rfl (kr10 _ _ (then_n (ks9 _ _ (wp_cond_t (by kernel_rfl) (xseq_k fun KS13 ks13 => (xregS [0, 1] fun KR14 kr14 => ?_))))))
   refine wpS.qs [(0, 6, .slice none 0 0), (1, 7, .int .i64 8)] ?_
   refine wpS.fin rfl (kr14 _ _ (then_n (ks13 _ _ (xret (then_r ?_)))))
   obtain ⟨q0, qr0⟩ := Prod.mk.inj (of_some h)
   have q1 := qr0
   subst q0
   subst q1
   have hs := hs.addNilL (CI .u8) 5
   exact qq _ _ (post_ret (by kernel_rfl) (run_results [.tmp 6, .tmp 7] [.slice none 0 0, .int .i64 8] (by kernel_rfl) (.cons (res_tmp (by kernel_rfl)) (.cons (res_tmp (by kernel_rfl)) .nil))) ⟨⟨none, 0, 0⟩, congrArg Ending.returned (by kernel_rfl), ((hs.drop (.cons_cons _ (.cons _ .slnil))).pickR pick_nil)⟩)
  refine wpS.tk 4 false (some 24) (.bool false) (yld_b (df hc) (fun _ => by kernel_rfl)) ?_
  refine wpS.q 5 25 (.bool false) ?_
  refine wpS.fin rfl (kr10 _ _ (then_n (ks9 _ _ (wp_cond_f (by kernel_rfl) (xskip (then_n (ks8 _ _ (xseq_k fun KS15 ks15 => (xregS [0, 1, 2, 3, 4, 5, 6, 7, 8, 9, 10] fun KR16 kr16 => ?_)))))))))
  refine wpS.tk 0 true (some 27) (.agg (([.int .i64 r1_0] : List Value) ++ enc .u64 r1_1 ++ ([.int .i64 r1_2, .bool r1_3] : List Value)).toArray) (yld_loadW (e := 115) (n := 28) hs 0 rfl (by kernel_rfl) (by kernel_rfl) (by kernel_rfl) (by simp [enc_len]) .grow) ?_
  refine wpS.q 1 28 (.slice a1_A a1_n a1_c) ?_
  obtain ⟨⟨r4_0, r4_1, r4_2, r4_3⟩, hg, h⟩ := of_bind h
  refine wpS.only 2 (op_call (d := (some 29)) (by kernel_rfl) hs (fun _ => by kernel_rfl) (ref08_Absorb.ok hg _ (hs.rowR 0 rfl)) ?_)
  intro w gw hs
  refine ⟨fun _ => trivial, ?_⟩
  refine wpS.q 3 30 (.int .i64 a2) ?_
  obtain ⟨⟨r5_0, r5_1, r5_2, r5_3, r6⟩, hg, h⟩ := of_bind h
  refine wpS.only 4 (op_callH (d := (some 31)) (by kernel_rfl) hs (fun _ => by kernel_rfl) (ref08_Squeeze.ok hg _) ?_)
  rintro ⟨r6_A, r6_n, r6_c⟩ w gw hs
  have hs := hs.conv (L' := [.ownL (CI .u8) r6_A r6_n r6_c r6 5, .blk b3 (([.int .i64 r1_0] : List Value) ++ enc .u64 r1_1 ++ ([.int .i64 r1_2, .bool r1_3] : List Value)) 115]) rfl
  refine ⟨fun _ => trivial, ?_⟩
  refine wpS.qs [(5, 26, .tuple #[.agg (([.int .i64 r5_0] : List Value) ++ enc .u64 r5_1 ++ ([.int .i64 r5_2, .bool r5_3] : List Value)).toArray, .slice r6_A r6_n r6_c]), (6, 32, .agg (([.int .i64 r5_0] : List Value) ++ enc .u64 r5_1 ++ ([.int .i64 r5_2, .bool r5_3] : List Value)).toArray), (7, 33, .slice r6_A r6_n r6_c)] ?_
  refine wpS.only 8 (op_alloc (t := 115) (d := (some 10)) (by kernel_rfl) hs (([.int .i64 0] : List Value) ++ enc .u64 (zeroA 25) ++ ([.int .i64 0, .bool false] : List Value)) (.agg (([.int .i64 0] : List Value) ++ enc .u64 (zeroA 25) ++ ([.int .i64 0, .bool false] : List Value)).toArray) (by kernel_rfl) (by kernel_rfl) (by kernel_rfl) ?_)
  intro b7 w gw hs
  refine ⟨fun _ => trivial, ?_⟩
  refine wpS.only 9 (op_storeW (t := 115) (v := .agg (([.int .i64 r5_0] : List Value) ++ enc .u64 r5_1 ++ ([.int .i64 r5_2, .bool r5_3] : List Value)).toArray) (d := none) (by kernel_rfl) hs 0 rfl (vs := ([.int .i64 r5_0] : List Value) ++ enc .u64 r5_1 ++ ([.int .i64 r5_2, .bool r5_3] : List Value)) (n := 28) (by kernel_rfl) (by kernel_rfl) (by kernel_rfl) (by simp [enc_len]) (by simp [enc_len]) (one_app (one_app (by simp [Value.oneCell']) (fun u hu => enc_one _ _ u hu)) (by simp [Value.oneCell'])) ?_)
  intro w kp hs
  refine ⟨fun _ => trivial, ?_⟩
  refine wpS.q 10 11 (.slice r6_A r6_n r6_c) ?_
  refine wpS.fin rfl (kr16 _ _ (then_n (ks15 _ _ (xseq_k fun KS17 ks17 => (xregS [0, 1, 2] fun KR18 kr18 => ?_)))))
  refine wpS.qs [(0, 34, .slice r6_A r6_n r6_c), (1, 6, .slice r6_A r6_n r6_c), (2, 7, .int .i64 0)] ?_
  refine wpS.fin rfl (kr18 _ _ (then_n (ks17 _ _ (xret ?_))))
  obtain ⟨q0, qr0⟩ := Prod.mk.inj (of_some h)
  have q1 := qr0
  subst q0
  subst q1
  exact qq _ _ (post_ret (by kernel_rfl) (run_results [.tmp 6, .tmp 7] [.slice r6_A r6_n r6_c, .int .i64 0] (by kernel_rfl) (.cons (res_tmp (by kernel_rfl)) (.cons (res_tmp (by kernel_rfl)) .nil))) ⟨⟨r6_A, r6_n, r6_c⟩, congrArg Ending.returned (by kernel_rfl), ((hs.drop (.cons _ (.cons_cons _ (.cons _ .slnil)))).pickR pick_nil)⟩)
 refine wpS.tk 1 false (some 18) (.bool true) (yld_b (nt hc) (fun _ => by kernel_rfl)) ?_
 refine wpS.fin rfl (kr7 _ _ (then_n (ks6 _ _ (wp_cond_t (by kernel_rfl) (xseq_k fun KS19 ks19 => (xregS [0, 1, 2] fun KR20 kr20 => ?_))))))
 refine wpS.qs [(0, 19, .int .i64 r2), (1, 6, .slice none 0 0), (2, 7, .int .i64 r2)] ?_
 refine wpS.fin rfl (kr20 _ _ (then_n (ks19 _ _ (xret (then_r ?_)))))
 obtain ⟨q0, qr0⟩ := Prod.mk.inj (of_some h)
 have q1 := qr0
 subst q0
 subst q1
 have hs := hs.addNilL (CI .u8) 5
 exact qq _ _ (post_ret (by kernel_rfl) (run_results [.tmp 6, .tmp 7] [.slice none 0 0, .int .i64 r2] (by kernel_rfl) (.cons (res_tmp (by kernel_rfl)) (.cons (res_tmp (by kernel_rfl)) .nil))) ⟨⟨none, 0, 0⟩, congrArg Ending.returned (by kernel_rfl), ((hs.drop (.cons_cons _ (.cons _ .slnil))).pickR pick_nil)⟩)

theorem ref01_such.ok {K : Nat} {a0 : List Int} {a1 : Int} {a2 : Int} {r0 : Bool} {a0_A : Option Addr} {a0_n : Nat} {a0_c : Nat} (h : ref01_such.f K a0 a1 a2 = some r0) (w0 : World) (hp0 : RowL (CI .u8) w0 a0_A a0_n a0_c a0) : Ret Tryd.prog 105 #[.slice a0_A a0_n a0_c, .int .i64 a1, .int .i64 a2] w0 (.bool r0) := by
 refine calls_k Tryd.func105 rfl fun Q qq => ?_
 have hs := St.startR (all_cons (RowP.ent hp0) all_nil)
 refine wp_conv (a' := ⟨#[.slice a0_A a0_n a0_c, .int .i64 a1, .int .i64 a2, undef, undef, undef, undef, undef, undef, undef, undef, undef, undef, undef, undef, undef, undef, undef, undef, undef, undef, undef, undef, undef, undef, undef], []⟩) (by kernel_rfl) ?_
 refine xseq_k fun KS1 ks1 => ?_
 refine xregS [0] fun KR2 kr2 => ?_
 refine wpS.q 0 6 (.bool false) ?_
 refine wpS.fin rfl (kr2 _ _ (then_n (ks1 _ _ (xseq_k fun KS3 ks3 => (xregS [0, 1, 2, 3, 4, 5, 6, 7, 8, 9, 10, 11, 12, 13, 14, 15, 16, 17, 18, 19] fun KR4 kr4 => ?_)))))
 refine wpS.q 0 7 (.int .i64 a1) ?_
 rcases of_if h with ⟨hc, h⟩ | ⟨hc, h⟩
 ·refine wpS.tk 1 false (some 8) (.bool true) (yld_b (dt hc) (fun _ => by kernel_rfl)) ?_
  refine wpS.qs [(2, 9, .bool true), (3, 10, .int .i64 a1)] ?_
  rcases of_if h with ⟨hc, h⟩ | ⟨hc, h⟩
  ·refine wpS.tk 4 false (some 11) (.bool true) (yld_b (dt hc) (fun _ => by kernel_rfl)) ?_
   refine wpS.qs [(5, 12, .bool true), (6, 13, .bool true), (7, 14, .int .i64 a2)] ?_
   rcases of_if h with ⟨hc, h⟩ | ⟨hc, h⟩
   ·refine wpS.tk 8 false (some 15) (.bool true) (yld_b (dt hc) (fun _ => by kernel_rfl)) ?_
    refine wpS.qs [(9, 16, .bool true), (10, 17, .bool true), (11, 18, .int .i64 a2), (12, 19, .slice a0_A a0_n a0_c)] ?_
    refine wpS.tk 13 false (some 20) (.int .i64 (a0.length : Int)) (yld_lenL (hs.rowR 0 rfl) (fun _ => by kernel_rfl)) ?_
    refine wpS.qs [(14, 21, .int .i64 (imul .i64 (a0.length : Int) 8)), (15, 22, .int .i64 a1)] ?_
    obtain ⟨h0, h⟩ := of_chk h
    refine wpS.tk 16 false (some 23) (.int .i64 (iquo .i64 (imul .i64 (a0.length : Int) 8) a1)) (yld_quo (t := 3) (by kernel_rfl) h0) ?_
    refine wpS.qs [(17, 24, .bool (decide (a2 ≤ (iquo .i64 (imul .i64 (a0.length : Int) 8) a1)))), (18, 25, .bool (decide (a2 ≤ (iquo .i64 (imul .i64 (a0.length : Int) 8) a1)))), (19, 6, .bool (decide (a2 ≤ (iquo .i64 (imul .i64 (a0.length : Int) 8) a1))))] ?_
    refine wpS.fin rfl (kr4 _ _ (then_n (ks3 _ _ (xret ?_))))
    have q0 := of_some h
    subst q0
    exact qq _ _ (post_ret (by kernel_rfl) (run_results [.tmp 6] [.bool (decide (a2 ≤ (iquo .i64 (imul .i64 (a0.length : Int) 8) a1)))] (by kernel_rfl) (.cons (res_tmp (by kernel_rfl)) .nil)) ⟨congrArg Ending.returned (by kernel_rfl), hs.none⟩)
   refine wpS.tk 8 false (some 15) (.bool false) (yld_b (df hc) (fun _ => by kernel_rfl)) ?_
   refine wpS.qs [(9, 16, .bool false), (10, 17, .bool false), (11, 18, undef), (12, 19, undef), (13, 20, undef), (14, 21, undef), (15, 22, undef), (16, 23, undef), (17, 24, undef), (18, 25, .bool false), (19, 6, .bool false)] ?_
   refine wpS.fin rfl (kr4 _ _ (then_n (ks3 _ _ (xret ?_))))
   have q0 := of_some h
   subst q0
   exact qq _ _ (post_ret (by kernel_rfl) (run_results [.tmp 6] [.bool false] (by kernel_rfl) (.cons (res_tmp (by kernel_rfl)) .nil)) ⟨congrArg Ending.returned (by kernel_rfl), hs.none⟩)
  refine wpS.tk 4 false (some 11) (.bool false) (yld_b (df hc) (fun _ => by kernel_rfl)) ?_
  refine wpS.qs [(5, 12, .bool false), (6, 13, .bool false), (7, 14, undef), (8, 15, undef), (9, 16, .bool false), (10, 17, .bool false), (11, 18, undef), (12, 19, undef), (13, 20, undef), (14, 21, undef), (15, 22, undef), (16, 23, undef), (17, 24, undef), (18, 25, .bool false), (19, 6, .bool false)] ?_
  refine wpS.fin rfl (kr4 _ _ (then_n (ks3 _ _ (xret ?_))))
  have q0 := of_some h
  subst q0
  exact qq _ _ (post_ret (by kernel_rfl) (run_results [.tmp 6] [.bool false] (by kernel_rfl) (.cons (res_tmp (by kernel_rfl)) .nil)) ⟨congrArg Ending.returned (by kernel_rfl), hs.none⟩)
 refine wpS.tk 1 false (some 8) (.bool false) (yld_b (df hc) (fun _ => by kernel_rfl)) ?_
 refine wpS.qs [(2, 9, .bool false), (3, 10, undef), (4, 11, undef), (5, 12, .bool false), (6, 13, .bool false), (7, 14, undef), (8, 15, undef), (9, 16, .bool false), (10, 17, .bool false), (11, 18, undef), (12, 19, undef), (13, 20, undef), (14, 21, undef), (15, 22, undef), (16, 23, undef), (17, 24, undef), (18, 25, .bool false), (19, 6, .bool false)] ?_
 refine wpS.fin rfl (kr4 _ _ (then_n (ks3 _ _ (xret ?_))))
 have q0 := of_some h
 subst q0
 exact qq _ _ (post_ret (by kernel_rfl) (run_results [.tmp 6] [.bool false] (by kernel_rfl) (.cons (res_tmp (by kernel_rfl)) .nil)) ⟨congrArg Ending.returned (by kernel_rfl), hs.none⟩)

theorem ref01_Unpack.ok {K : Nat} {a0 : List Int} {a1 : Int} {a2 : Int} {r0 : List Int} {a0_A : Option Addr} {a0_n : Nat} {a0_c : Nat} (h : ref01_Unpack.f K a0 a1 a2 = some r0) (w0 : World) (hp0 : RowL (CI .u8) w0 a0_A a0_n a0_c a0) : Calls Tryd.prog 82 #[.slice a0_A a0_n a0_c, .int .i64 a1, .int .i64 a2] w0 fun e w' => ∃ h : (Option Addr × Nat × Nat), e = .returned (.slice h.1 h.2.1 h.2.2) ∧ St w0 [] [.ownL (CI .u32) h.1 h.2.1 h.2.2 r0 70] [] w' := by
 refine calls_k Tryd.func82 rfl fun Q qq => ?_
 have hs := St.startR (all_cons (RowP.ent hp0) all_nil)
 refine wp_conv (a' := ⟨#[.slice a0_A a0_n a0_c, .int .i64 a1, .int .i64 a2, undef, undef, undef, undef, undef, undef, undef, undef, undef, undef, undef, undef, undef, undef, undef, undef, undef, undef, undef, undef, undef, undef, undef, undef, undef, undef, undef, undef, undef, undef, undef, undef, undef, undef, undef, undef, undef, undef, undef, undef, undef, undef, undef, undef, undef, undef, undef, undef], []⟩) (by kernel_rfl) ?_
 refine xseq_k fun KS1 ks1 => ?_
 refine xregS [0] fun KR2 kr2 => ?_
 refine wpS.q 0 6 (.slice none 0 0) ?_
 refine wpS.fin rfl (kr2 _ _ (then_n (ks1 _ _ (xseq_k fun KS3 ks3 => (xseq_k fun KS4 ks4 => (xregS [0, 1, 2, 3, 4] fun KR5 kr5 => ?_))))))
 refine wpS.qs [(0, 12, .slice a0_A a0_n a0_c), (1, 13, .int .i64 a1), (2, 14, .int .i64 a2)] ?_
 obtain ⟨r1, hg, h⟩ := of_bind h
 cases r1 with
 | true =>
  have h := of_if_t h
  refine wpS.only 3 (op_call (d := (some 15)) (by kernel_rfl) hs (fun _ => by kernel_rfl) (ref01_such.ok hg _ (hs.rowR 0 rfl)) ?_)
  intro w gw hs
  refine ⟨fun _ => trivial, ?_⟩
  refine wpS.q 4 16 (.bool false) ?_
  refine wpS.fin rfl (kr5 _ _ (then_n (ks4 _ _ (wp_cond_f (by kernel_rfl) (xskip (then_n (ks3 _ _ (xseq_k fun KS6 ks6 => (xregS [0] fun KR7 kr7 => ?_)))))))))
  refine wpS.q 0 7 (.slice none 0 0) ?_
  refine wpS.fin rfl (kr7 _ _ (then_n (ks6 _ _ (xseq_k fun KS8 ks8 => (xseq_k fun KS9 ks9 => (xregS [0] fun KR10 kr10 => ?_))))))
  refine wpS.q 0 8 (.int .i64 0) ?_
  refine wpS.fin rfl (kr10 _ _ (then_n (ks9 _ _ ?_)))
  have hs := hs.addNilL (CI .u32) 70
  obtain ⟨y4, hy, hk0⟩ := of_bind h
  refine wp_exq (N := fun a w => ∃ (y4_A : Option Addr) (y4_n : Nat) (y4_c : Nat), St w0 [] [.ownL (CI .u32) y4_A y4_n y4_c y4 70] [.rowL (CI .u8) a0_A a0_n a0_c a0] w ∧ ∃ g12 : Nat → Value, a = ⟨#[.slice a0_A a0_n a0_c, .int .i64 a1, .int .i64 a2, undef, undef, undef, .slice none 0 0, .slice y4_A y4_n y4_c, (g12 8), (g12 9), (g12 10), (g12 11), .slice a0_A a0_n a0_c, .int .i64 a1, .int .i64 a2, .bool true, .bool false, (g12 17), (g12 18), (g12 19), (g12 20), (g12 21), (g12 22), (g12 23), (g12 24), (g12 25), (g12 26), (g12 27), (g12 28), (g12 29), (g12 30), (g12 31), (g12 32), (g12 33), (g12 34), (g12 35), (g12 36), (g12 37), (g12 38), (g12 39), (g12 40), (g12 41), (g12 42), (g12 43), (g12 44), (g12 45), (g12 46), (g12 47), (g12 48), (g12 49), undef], []⟩) (fun N0 nn0 => ?_) ?_
  ·clear hk0
   refine xblock ?_
   refine wp_loop_k (fun n a w => ∃ z2 z3, ∃ (z3_A : Option Addr) (z3_n : Nat) (z3_c : Nat), ref01_Unpack.l0 K n a0 a1 a2 z2 z3 = some y4 ∧ St w0 [] [.ownL (CI .u32) z3_A z3_n z3_c z3 70] [.rowL (CI .u8) a0_A a0_n a0_c a0] w ∧ ∃ g11 : Nat → Value, a = ⟨#[.slice a0_A a0_n a0_c, .int .i64 a1, .int .i64 a2, undef, undef, undef, .slice none 0 0, .slice z3_A z3_n z3_c, .int .i64 z2, (g11 9), (g11 10), (g11 11), .slice a0_A a0_n a0_c, .int .i64 a1, .int .i64 a2, .bool true, .bool false, (g11 17), (g11 18), (g11 19), (g11 20), (g11 21), (g11 22), (g11 23), (g11 24), (g11 25), (g11 26), (g11 27), (g11 28), (g11 29), (g11 30), (g11 31), (g11 32), (g11 33), (g11 34), (g11 35), (g11 36), (g11 37), (g11 38), (g11 39), (g11 40), (g11 41), (g11 42), (g11 43), (g11 44), (g11 45), (g11 46), (g11 47), (g11 48), (g11 49), undef], []⟩) K ⟨0, ([] : List Int), none, 0, 0, hy, hs.conv rfl, exg (by kernel_rfl)⟩ ?_
   clear hs h hy
   rintro n a w ⟨z2, z3, z3_A, z3_n, z3_c, h, hs, g11, rfl⟩ KL0 kl0
   cases n with
   | zero => exact nomatch (show none = some _ from h)
   | succ n =>
    refine xseq_k fun KS13 ks13 => ?_
    refine xseq_k fun KS14 ks14 => ?_
    refine xregS [0, 1, 2] fun KR15 kr15 => ?_
    refine wpS.qs [(0, 17, .int .i64 z2), (1, 18, .int .i64 a2)] ?_
    rcases of_if h with ⟨hc, h⟩ | ⟨hc, h⟩
    ·refine wpS.tk 2 false (some 19) (.bool true) (yld_b (dt hc) (fun _ => by kernel_rfl)) ?_
     refine wpS.fin rfl (kr15 _ _ (then_n (ks14 _ _ (wp_cond_t (by kernel_rfl) (xskip (then_n (ks13 _ _ (xseq_k fun KS16 ks16 => (xblock (xseq_k fun KS17 ks17 => (xregS [0] fun KR18 kr18 => ?_)))))))))))
     refine wpS.q 0 9 (.int .u32 0) ?_
     refine wpS.fin rfl (kr18 _ _ (then_n (ks17 _ _ (xseq_k fun KS19 ks19 => (xseq_k fun KS20 ks20 => (xregS [0, 1, 2] fun KR21 kr21 => ?_))))))
     refine wpS.qs [(0, 22, .int .i64 a1), (1, 23, .int .i64 (isub .i64 a1 1))] ?_
     obtain ⟨x5, hx, h⟩ := of_bind h
     refine wpS.tk 2 false (some 10) (.int .i64 x5) (yld_int hx (fun _ => by kernel_rfl)) ?_
     refine wpS.fin rfl (kr21 _ _ (then_n (ks20 _ _ ?_)))
     obtain ⟨y8, hy, hk1⟩ := of_bind h
     refine wp_exq (N := fun a w => St w0 [] [.ownL (CI .u32) z3_A z3_n z3_c z3 70] [.rowL (CI .u8) a0_A a0_n a0_c a0] w ∧ ∃ g23 : Nat → Value, a = ⟨#[.slice a0_A a0_n a0_c, .int .i64 a1, .int .i64 a2, undef, undef, undef, .slice none 0 0, .slice z3_A z3_n z3_c, .int .i64 z2, .int .u32 y8, (g23 10), (g23 11), .slice a0_A a0_n a0_c, .int .i64 a1, .int .i64 a2, .bool true, .bool false, .int .i64 z2, .int .i64 a2, .bool true, (g11 20), (g11 21), .int .i64 a1, .int .i64 (isub .i64 a1 1), (g23 24), (g23 25), (g23 26), (g23 27), (g23 28), (g23 29), (g23 30), (g23 31), (g23 32), (g23 33), (g23 34), (g23 35), (g23 36), (g23 37), (g23 38), (g23 39), (g23 40), (g23 41), (g23 42), (g23 43), (g23 44), (g23 45), (g11 46), (g11 47), (g11 48), (g11 49), undef], []⟩) (fun N1 nn1 => ?_) ?_
     ·clear hk1
      refine xblock ?_
      refine wp_loop_k (fun n a w => ∃ z6 z7, ref01_Unpack.l1 K n a0 a1 z2 z6 z7 = some y8 ∧ St w0 [] [.ownL (CI .u32) z3_A z3_n z3_c z3 70] [.rowL (CI .u8) a0_A a0_n a0_c a0] w ∧ ∃ g22 : Nat → Value, a = ⟨#[.slice a0_A a0_n a0_c, .int .i64 a1, .int .i64 a2, undef, undef, undef, .slice none 0 0, .slice z3_A z3_n z3_c, .int .i64 z2, .int .u32 z6, .int .i64 z7, (g22 11), .slice a0_A a0_n a0_c, .int .i64 a1, .int .i64 a2, .bool true, .bool false, .int .i64 z2, .int .i64 a2, .bool true, (g11 20), (g11 21), .int .i64 a1, .int .i64 (isub .i64 a1 1), (g22 24), (g22 25), (g22 26), (g22 27), (g22 28), (g22 29), (g22 30), (g22 31), (g22 32), (g22 33), (g22 34), (g22 35), (g22 36), (g22 37), (g22 38), (g22 39), (g22 40), (g22 41), (g22 42), (g22 43), (g22 44), (g22 45), (g11 46), (g11 47), (g11 48), (g11 49), undef], []⟩) K ⟨0, x5, hy, hs.conv rfl, exg (by kernel_rfl)⟩ ?_
      clear hs h hy
      rintro n a w ⟨z6, z7, h, hs, g22, rfl⟩ KL1 kl1
      cases n with
      | zero => exact nomatch (show none = some _ from h)
      | succ n =>
       refine xseq_k fun KS24 ks24 => ?_
       refine xseq_k fun KS25 ks25 => ?_
       refine xregS [0, 1] fun KR26 kr26 => ?_
       refine wpS.q 0 24 (.int .i64 z7) ?_
       rcases of_if h with ⟨hc, h⟩ | ⟨hc, h⟩
       ·refine wpS.tk 1 false (some 25) (.bool true) (yld_b (dt hc) (fun _ => by kernel_rfl)) ?_
        refine wpS.fin rfl (kr26 _ _ (then_n (ks25 _ _ (wp_cond_t (by kernel_rfl) (xskip (then_n (ks24 _ _ (xseq_k fun KS27 ks27 => (xblock (xseq_k fun KS28 ks28 => (xregS [0, 1, 2, 3, 4, 5] fun KR29 kr29 => ?_)))))))))))
        refine wpS.qs [(0, 28, .int .i64 z2), (1, 29, .int .i64 a1), (2, 30, .int .i64 (imul .i64 z2 a1)), (3, 31, .int .i64 z7), (4, 32, .int .i64 (iadd .i64 (imul .i64 z2 a1) z7))] ?_
        obtain ⟨x9, hx, h⟩ := of_bind h
        refine wpS.tk 5 false (some 11) (.int .i64 x9) (yld_int hx (fun _ => by kernel_rfl)) ?_
        refine wpS.fin rfl (kr29 _ _ (then_n (ks28 _ _ (xregS [0, 1, 2, 3, 4, 5, 6, 7, 8, 9, 10, 11, 12, 13] fun KR30 kr30 => ?_))))
        refine wpS.qs [(0, 33, .int .u32 z6), (1, 34, .int .u32 (imul .u32 z6 2)), (2, 35, .slice a0_A a0_n a0_c), (3, 36, .int .i64 x9), (4, 37, .int .i64 (iquo .i64 x9 8))] ?_
        obtain ⟨x10, hx, h⟩ := of_bind h
        have hx := of_some hx
        subst hx
        obtain ⟨h0, h⟩ := of_chk h
        obtain ⟨h1, h⟩ := of_chk h
        have i0_31 := h0
        have i1_31 := h1
        refine wpS.tk 5 false (some 38) (.pointer (adr a0_A (((iquo .i64 x9 8) : Int).toNat * Cod.size (CI .u8)))) (yld_idxL (C := (CI .u8)) (t := 24) (e := 5) (k := .i64) (x := (iquo .i64 x9 8)) (hs.rowR 0 rfl) (by kernel_rfl) (by kernel_rfl) (by kernel_rfl) h0 h1) ?_
        refine wpS.tk 6 true (some 39) (.int .u8 (rdL (CI .u8) a0 (iquo .i64 x9 8))) (yld_loadL (C := (CI .u8)) (e := 5) (x := (iquo .i64 x9 8)) (hs.rowR 0 rfl) (by kernel_rfl) rfl (by kernel_rfl) i0_31 i1_31) ?_
        refine wpS.qs [(7, 40, .int .i64 x9), (8, 41, .int .i64 (irem .i64 x9 8))] ?_
        obtain ⟨h0, h⟩ := of_chk h
        refine wpS.tk 9 false (some 42) (.int .u8 (ishr .u8 (rdL (CI .u8) a0 (iquo .i64 x9 8)) (irem .i64 x9 8))) (yld_shr (t := 5) (k' := .i64) (by kernel_rfl) h0) ?_
        refine wpS.qs [(10, 43, .int .u8 (iand .u8 (ishr .u8 (rdL (CI .u8) a0 (iquo .i64 x9 8)) (irem .i64 x9 8)) 1)), (11, 44, .int .u32 (iconv .u32 (iand .u8 (ishr .u8 (rdL (CI .u8) a0 (iquo .i64 x9 8)) (irem .i64 x9 8)) 1))), (12, 45, .int .u32 (iadd .u32 (imul .u32 z6 2) (iconv .u32 (iand .u8 (ishr .u8 (rdL (CI .u8) a0 (iquo .i64 x9 8)) (irem .i64 x9 8)) 1))))] ?_
        obtain ⟨x11, hx, h⟩ := of_bind h
        refine wpS.tk 13 false (some 9) (.int .u32 x11) (yld_int hx (fun _ => by kernel_rfl)) ?_
        refine wpS.fin rfl (kr30 _ _ (inBlock_n (then_n (ks27 _ _ (xregS [0, 1, 2] fun KR32 kr32 => ?_)))))
        refine wpS.qs [(0, 26, .int .i64 z7), (1, 27, .int .i64 (isub .i64 z7 1))] ?_
        obtain ⟨x12, hx, h⟩ := of_bind h
        refine wpS.tk 2 false (some 10) (.int .i64 x12) (yld_int hx (fun _ => by kernel_rfl)) ?_
        refine wpS.fin rfl (kr32 _ _ ?_)
        exact then_n (kl1 _ _ ⟨n, Nat.lt_succ_self n, x11, x12, h, (hs.conv rfl), exg (by kernel_rfl)⟩)
       refine wpS.tk 1 false (some 25) (.bool false) (yld_b (df hc) (fun _ => by kernel_rfl)) ?_
       refine wpS.fin rfl (kr26 _ _ (then_n (ks25 _ _ (wp_cond_f (by kernel_rfl) (xexit (then_x (then_x (inBlock_hit ?_))))))))
       have q0 := of_some h
       subst q0
       exact exq_n (nn1 _ _ ⟨(hs.conv rfl), exg (by kernel_rfl)⟩)
     clear hs h hy
     rintro a w ⟨hs, g23, rfl⟩
     have h := hk1
     refine then_n (ks19 _ _ (xregS [0, 1, 2, 3, 4] fun KR33 kr33 => ?_))
     refine wpS.qs [(0, 46, .slice z3_A z3_n z3_c), (1, 47, .int .u32 y8)] ?_
     refine wpS.only 2 (op_lit (C := (CI .u32)) (t := 68) (e := 70) (len := 1) (parts := #[(0, .int .u32 y8)]) (l := [y8]) (d := (some 48)) (by kernel_rfl) hs (by kernel_rfl) (by kernel_rfl) (by kernel_rfl) (z := .int .u32 0) (by kernel_rfl) rfl (by decide) (by decide) (by kernel_rfl) ?_)
     intro s13_A s13_n s13_c w gw hs
     refine ⟨fun _ => trivial, ?_⟩
     obtain ⟨h0, h⟩ := of_chk h
     refine wpS.only 3 (op_appendT (C := (CI .u32)) (t := 68) (ty := 68) (e := 70) (bytes := 4) (B := 35184372088832) (d := (some 49)) (by kernel_rfl) hs 1 rfl (hs.rowL 0 rfl) (by kernel_rfl) (by kernel_rfl) (by kernel_rfl) (by kernel_rfl) (by kernel_rfl) h0 (by decide) (by decide) ?_)
     intro s14_A s14_n s14_c w hs
     refine ⟨fun _ => trivial, ?_⟩
     refine wpS.q 4 7 (.slice s14_A s14_n s14_c) ?_
     refine wpS.fin rfl (kr33 _ _ (inBlock_n (then_n (ks16 _ _ (xregS [0, 1, 2] fun KR34 kr34 => ?_)))))
     refine wpS.qs [(0, 20, .int .i64 z2), (1, 21, .int .i64 (iadd .i64 z2 1))] ?_
     obtain ⟨x15, hx, h⟩ := of_bind h
     refine wpS.tk 2 false (some 8) (.int .i64 x15) (yld_int hx (fun _ => by kernel_rfl)) ?_
     refine wpS.fin rfl (kr34 _ _ ?_)
     exact then_n (kl0 _ _ ⟨n, Nat.lt_succ_self n, x15, (z3 ++ ([y8] : List Int)), s14_A, s14_n, s14_c, h, (hs.drop (.cons _ (.cons_cons _ .slnil))), exg (by kernel_rfl)⟩)
    refine wpS.tk 2 false (some 19) (.bool false) (yld_b (df hc) (fun _ => by kernel_rfl)) ?_
    refine wpS.fin rfl (kr15 _ _ (then_n (ks14 _ _ (wp_cond_f (by kernel_rfl) (xexit (then_x (then_x (inBlock_hit ?_))))))))
    have q0 := of_some h
    subst q0
    exact exq_n (nn0 _ _ ⟨z3_A, z3_n, z3_c, (hs.conv rfl), exg (by kernel_rfl)⟩)
  clear hs h hy
  rintro a w ⟨y4_A, y4_n, y4_c, hs, g12, rfl⟩
  have h := hk0
  refine then_n (ks8 _ _ (xseq_k fun KS35 ks35 => (xregS [0, 1] fun KR36 kr36 => ?_)))
  refine wpS.qs [(0, 50, .slice y4_A y4_n y4_c), (1, 6, .slice y4_A y4_n y4_c)] ?_
  refine wpS.fin rfl (kr36 _ _ (then_n (ks35 _ _ (xret ?_))))
  have q0 := of_some h
  subst q0
  exact qq _ _ (post_ret (by kernel_rfl) (run_results [.tmp 6] [.slice y4_A y4_n y4_c] (by kernel_rfl) (.cons (res_tmp (by kernel_rfl)) .nil)) ⟨⟨y4_A, y4_n, y4_c⟩, congrArg Ending.returned (by kernel_rfl), (hs.pickR pick_nil)⟩)
 | false =>
  have h := of_if_f h
  refine wpS.only 3 (op_call (d := (some 15)) (by kernel_rfl) hs (fun _ => by kernel_rfl) (ref01_such.ok hg _ (hs.rowR 0 rfl)) ?_)
  intro w gw hs
  refine ⟨fun _ => trivial, ?_⟩
  refine wpS.q 4 16 (.bool true) ?_
  refine wpS.fin rfl (kr5 _ _ (then_n (ks4 _ _ (wp_cond_t (by kernel_rfl) (xseq_k fun KS37 ks37 => (xregS [0] fun KR38 kr38 => ?_))))))
  refine wpS.q 0 6 (.slice none 0 0) ?_
  refine wpS.fin rfl (kr38 _ _ (then_n (ks37 _ _ (xret (then_r ?_)))))
  have q0 := of_some h
  subst q0
  have hs := hs.addNilL (CI .u32) 70
  exact qq _ _ (post_ret (by kernel_rfl) (run_results [.tmp 6] [.slice none 0 0] (by kernel_rfl) (.cons (res_tmp (by kernel_rfl)) .nil)) ⟨⟨none, 0, 0⟩, congrArg Ending.returned (by kernel_rfl), (hs.pickR pick_nil)⟩)

theorem ref26_drawn.ok {K : Nat} {a0 : List Int} {a1 : Int} {r0 : Arr 256} {r1 : Int} {a0_A : Option Addr} {a0_n : Nat} {a0_c : Nat} (h : ref26_drawn.f K a0 a1 = some (r0, r1)) (w0 : World) (hp0 : RowL (CI .u8) w0 a0_A a0_n a0_c a0) : Ret Tryd.prog 38 #[.slice a0_A a0_n a0_c, .int .i64 a1] w0 (.tuple #[.agg (enc .i32 r0).toArray, .int .i64 r1]) := by
 refine calls_k Tryd.func38 rfl fun Q qq => ?_
 have hs := St.startR (all_cons (RowP.ent hp0) all_nil)
 refine wp_conv (a' := ⟨#[.slice a0_A a0_n a0_c, .int .i64 a1, undef, undef, undef, undef, undef, undef, undef, undef, undef, undef, undef, undef, undef, undef, undef, undef, undef, undef, undef, undef, undef, undef, undef, undef, undef, undef, undef, undef, undef, undef, undef, undef, undef, undef, undef, undef, undef, undef, undef, undef, undef, undef, undef, undef, undef, undef, undef], []⟩) (by kernel_rfl) ?_
 refine xseq_k fun KS1 ks1 => ?_
 refine xregS [0, 1] fun KR2 kr2 => ?_
 refine wpS.only 0 (op_alloc (t := 32) (d := (some 4)) (by kernel_rfl) hs (enc .i32 (zeroA 256)) (.agg (enc .i32 (zeroA 256)).toArray) (by kernel_rfl) (by kernel_rfl) (by kernel_rfl) ?_)
 intro b1 w gw hs
 refine ⟨fun _ => trivial, ?_⟩
 refine wpS.q 1 5 (.int .i64 0) ?_
 refine wpS.fin rfl (kr2 _ _ (then_n (ks1 _ _ (xseq_k fun KS3 ks3 => (xregS [0, 1, 2, 3, 4, 5, 6, 7] fun KR4 kr4 => ?_)))))
 refine wpS.qs [(0, 13, .slice a0_A a0_n a0_c), (1, 14, .int .i64 a1)] ?_
 obtain ⟨⟨r2, r3⟩, hg, h⟩ := of_bind h
 refine wpS.only 2 (op_callH (d := (some 15)) (by kernel_rfl) hs (fun _ => by kernel_rfl) (ref08_Sum.ok hg _ (hs.rowR 0 rfl)) ?_)
 rintro ⟨r2_A, r2_n, r2_c⟩ w gw hs
 have hs := hs.conv (L' := [.ownL (CI .u8) r2_A r2_n r2_c r2 5, .blk b1 (enc .i32 (zeroA 256)) 32]) rfl
 refine ⟨fun _ => trivial, ?_⟩
 refine wpS.qs [(3, 12, .tuple #[.slice r2_A r2_n r2_c, .int .i64 r3]), (4, 16, .slice r2_A r2_n r2_c), (5, 17, .int .i64 r3), (6, 6, .slice r2_A r2_n r2_c), (7, 7, .int .i64 r3)] ?_
 refine wpS.fin rfl (kr4 _ _ (then_n (ks3 _ _ (xseq_k fun KS5 ks5 => (xregS [0, 1, 2, 3, 4, 5] fun KR6 kr6 => ?_)))))
 refine wpS.qs [(0, 18, .slice r2_A r2_n r2_c), (1, 19, .int .i64 a1), (2, 20, .int .i64 (imul .i64 a1 2)), (3, 21, .int .i64 (iquo .i64 (imul .i64 a1 2) 3))] ?_
 obtain ⟨r4, hg, h⟩ := of_bind h
 refine wpS.only 4 (op_callH (d := (some 22)) (by kernel_rfl) hs (fun _ => by kernel_rfl) (ref01_Unpack.ok hg _ (hs.rowL 0 rfl)) ?_)
 rintro ⟨r4_A, r4_n, r4_c⟩ w gw hs
 have hs := hs.conv (L' := [.ownL (CI .u32) r4_A r4_n r4_c r4 70, .ownL (CI .u8) r2_A r2_n r2_c r2 5, .blk b1 (enc .i32 (zeroA 256)) 32]) rfl
 refine ⟨fun _ => trivial, ?_⟩
 refine wpS.q 5 8 (.slice r4_A r4_n r4_c) ?_
 refine wpS.fin rfl (kr6 _ _ (then_n (ks5 _ _ (xseq_k fun KS7 ks7 => (xregS [0] fun KR8 kr8 => ?_)))))
 refine wpS.only 0 (op_alloc (t := 32) (d := (some 9)) (by kernel_rfl) hs (enc .i32 (zeroA 256)) (.agg (enc .i32 (zeroA 256)).toArray) (by kernel_rfl) (by kernel_rfl) (by kernel_rfl) ?_)
 intro b5 w gw hs
 refine ⟨fun _ => trivial, ?_⟩
 refine wpS.fin rfl (kr8 _ _ (then_n (ks7 _ _ (xseq_k fun KS9 ks9 => (xregS [0] fun KR10 kr10 => ?_)))))
 refine wpS.q 0 10 (.int .i64 0) ?_
 refine wpS.fin rfl (kr10 _ _ (then_n (ks9 _ _ (xseq_k fun KS11 ks11 => (xseq_k fun KS12 ks12 => (xregS [0] fun KR13 kr13 => ?_))))))
 refine wpS.q 0 11 (.int .i64 0) ?_
 refine wpS.fin rfl (kr13 _ _ (then_n (ks12 _ _ ?_)))
 obtain ⟨⟨y9, y10⟩, hy, hk0⟩ := of_bind h
 refine wp_exq (N := fun a w => St w0 [] [.blk b5 (enc .i32 y10) 32, .ownL (CI .u32) r4_A r4_n r4_c r4 70, .ownL (CI .u8) r2_A r2_n r2_c r2 5, .blk b1 (enc .i32 (zeroA 256)) 32] [.rowL (CI .u8) a0_A a0_n a0_c a0] w ∧ ∃ g15 : Nat → Value, a = ⟨#[.slice a0_A a0_n a0_c, .int .i64 a1, undef, undef, .pointer (some ⟨b1, 0, none⟩), .int .i64 0, .slice r2_A r2_n r2_c, .int .i64 r3, .slice r4_A r4_n r4_c, .pointer (some ⟨b5, 0, none⟩), .int .i64 y9, (g15 11), .tuple #[.slice r2_A r2_n r2_c, .int .i64 r3], .slice a0_A a0_n a0_c, .int .i64 a1, .tuple #[.slice r2_A r2_n r2_c, .int .i64 r3], .slice r2_A r2_n r2_c, .int .i64 r3, .slice r2_A r2_n r2_c, .int .i64 a1, .int .i64 (imul .i64 a1 2), .int .i64 (iquo .i64 (imul .i64 a1 2) 3), .slice r4_A r4_n r4_c, (g15 23), (g15 24), (g15 25), (g15 26), (g15 27), (g15 28), (g15 29), (g15 30), (g15 31), (g15 32), (g15 33), (g15 34), (g15 35), (g15 36), (g15 37), (g15 38), (g15 39), (g15 40), (g15 41), (g15 42), (g15 43), (g15 44), (g15 45), (g15 46), undef, undef], []⟩) (fun N0 nn0 => ?_) ?_
 ·clear hk0
  refine xblock ?_
  refine wp_loop_k (fun n a w => ∃ z6 z7 z8, ref26_drawn.l0 K n r4 z6 z7 z8 = some (y9, y10) ∧ St w0 [] [.blk b5 (enc .i32 z8) 32, .ownL (CI .u32) r4_A r4_n r4_c r4 70, .ownL (CI .u8) r2_A r2_n r2_c r2 5, .blk b1 (enc .i32 (zeroA 256)) 32] [.rowL (CI .u8) a0_A a0_n a0_c a0] w ∧ ∃ g14 : Nat → Value, a = ⟨#[.slice a0_A a0_n a0_c, .int .i64 a1, undef, undef, .pointer (some ⟨b1, 0, none⟩), .int .i64 0, .slice r2_A r2_n r2_c, .int .i64 r3, .slice r4_A r4_n r4_c, .pointer (some ⟨b5, 0, none⟩), .int .i64 z6, .int .i64 z7, .tuple #[.slice r2_A r2_n r2_c, .int .i64 r3], .slice a0_A a0_n a0_c, .int .i64 a1, .tuple #[.slice r2_A r2_n r2_c, .int .i64 r3], .slice r2_A r2_n r2_c, .int .i64 r3, .slice r2_A r2_n r2_c, .int .i64 a1, .int .i64 (imul .i64 a1 2), .int .i64 (iquo .i64 (imul .i64 a1 2) 3), .slice r4_A r4_n r4_c, (g14 23), (g14 24), (g14 25), (g14 26), (g14 27), (g14 28), (g14 29), (g14 30), (g14 31), (g14 32), (g14 33), (g14 34), (g14 35), (g14 36), (g14 37), (g14 38), (g14 39), (g14 40), (g14 41), (g14 42), (g14 43), (g14 44), (g14 45), (g14 46), undef, undef], []⟩) K ⟨0, 0, (zeroA 256), hy, hs.conv rfl, exg (by kernel_rfl)⟩ ?_
  clear hs h hy
  rintro n a w ⟨z6, z7, z8, h, hs, g14, rfl⟩ KL0 kl0
  cases n with
  | zero => exact nomatch (show none = some _ from h)
  | succ n =>
   refine xseq_k fun KS16 ks16 => ?_
   refine xseq_k fun KS17 ks17 => ?_
   refine xregS [0, 1, 2, 3, 4, 5, 6, 7] fun KR18 kr18 => ?_
   refine wpS.qs [(0, 23, .int .i64 z7), (1, 24, .slice r4_A r4_n r4_c)] ?_
   refine wpS.tk 2 false (some 25) (.int .i64 (r4.length : Int)) (yld_lenL (hs.rowL 1 rfl) (fun _ => by kernel_rfl)) ?_
   rcases of_if h with ⟨hc, h⟩ | ⟨hc, h⟩
   ·refine wpS.tk 3 false (some 26) (.bool true) (yld_b (dt hc) (fun _ => by kernel_rfl)) ?_
    refine wpS.qs [(4, 27, .bool true), (5, 28, .int .i64 z6)] ?_
    rcases of_if h with ⟨hc, h⟩ | ⟨hc, h⟩
    ·refine wpS.tk 6 false (some 29) (.bool true) (yld_b (dt hc) (fun _ => by kernel_rfl)) ?_
     refine wpS.q 7 30 (.bool true) ?_
     refine wpS.fin rfl (kr18 _ _ (then_n (ks17 _ _ (wp_cond_t (by kernel_rfl) (xskip (then_n (ks16 _ _ ?_)))))))
     obtain ⟨⟨y11, y12⟩, hj, h⟩ := of_bind h
     refine xseq_k fun KS20 ks20 => wp_join (N := fun a w => St w0 [] [.blk b5 (enc .i32 y12) 32, .ownL (CI .u32) r4_A r4_n r4_c r4 70, .ownL (CI .u8) r2_A r2_n r2_c r2 5, .blk b1 (enc .i32 (zeroA 256)) 32] [.rowL (CI .u8) a0_A a0_n a0_c a0] w ∧ ∃ g19 : Nat → Value, a = ⟨#[.slice a0_A a0_n a0_c, .int .i64 a1, undef, undef, .pointer (some ⟨b1, 0, none⟩), .int .i64 0, .slice r2_A r2_n r2_c, .int .i64 r3, .slice r4_A r4_n r4_c, .pointer (some ⟨b5, 0, none⟩), .int .i64 y11, .int .i64 z7, .tuple #[.slice r2_A r2_n r2_c, .int .i64 r3], .slice a0_A a0_n a0_c, .int .i64 a1, .tuple #[.slice r2_A r2_n r2_c, .int .i64 r3], .slice r2_A r2_n r2_c, .int .i64 r3, .slice r2_A r2_n r2_c, .int .i64 a1, .int .i64 (imul .i64 a1 2), .int .i64 (iquo .i64 (imul .i64 a1 2) 3), .slice r4_A r4_n r4_c, .int .i64 z7, .slice r4_A r4_n r4_c, .int .i64 (r4.length : Int), .bool true, .bool true, .int .i64 z6, .bool true, .bool true, (g14 31), (g14 32), (g19 33), (g19 34), (g19 35), (g19 36), (g19 37), (g19 38), (g19 39), (g19 40), (g19 41), (g19 42), (g19 43), (g19 44), (g19 45), (g19 46), undef, undef], []⟩) (fun N nj => ?_) ?_
     ·clear h
      have h := hj
      refine xblock (xseq_k fun KS21 ks21 => (xregS [0, 1, 2, 3, 4] fun KR22 kr22 => ?_))
      refine wpS.qs [(0, 33, .slice r4_A r4_n r4_c), (1, 34, .int .i64 z7)] ?_
      obtain ⟨h0, h⟩ := of_chk h
      obtain ⟨h1, h⟩ := of_chk h
      have i0_23 := h0
      have i1_23 := h1
      refine wpS.tk 2 false (some 35) (.pointer (adr r4_A ((z7 : Int).toNat * Cod.size (CI .u32)))) (yld_idxL (C := (CI .u32)) (t := 68) (e := 70) (k := .i64) (x := z7) (hs.rowL 1 rfl) (by kernel_rfl) (by kernel_rfl) (by kernel_rfl) h0 h1) ?_
      refine wpS.tk 3 true (some 36) (.int .u32 (rdL (CI .u32) r4 z7)) (yld_loadL (C := (CI .u32)) (e := 70) (x := z7) (hs.rowL 1 rfl) (by kernel_rfl) rfl (by kernel_rfl) i0_23 i1_23) ?_
      rcases of_if h with ⟨hc, h⟩ | ⟨hc, h⟩
      ·refine wpS.tk 4 false (some 37) (.bool true) (yld_b (dt hc) (fun _ => by kernel_rfl)) ?_
       refine wpS.fin rfl (kr22 _ _ (then_n (ks21 _ _ (wp_cond_t (by kernel_rfl) (xseq_k fun KS24 ks24 => (xregS [0, 1, 2, 3, 4, 5, 6, 7] fun KR25 kr25 => ?_))))))
       refine wpS.qs [(0, 38, .int .i64 z6), (1, 39, .slice r4_A r4_n r4_c), (2, 40, .int .i64 z7)] ?_
       obtain ⟨h0, h⟩ := of_chk h
       obtain ⟨h1, h⟩ := of_chk h
       have i0_26 := h0
       have i1_26 := h1
       refine wpS.tk 3 false (some 41) (.pointer (adr r4_A ((z7 : Int).toNat * Cod.size (CI .u32)))) (yld_idxL (C := (CI .u32)) (t := 68) (e := 70) (k := .i64) (x := z7) (hs.rowL 1 rfl) (by kernel_rfl) (by kernel_rfl) (by kernel_rfl) h0 h1) ?_
       refine wpS.tk 4 true (some 42) (.int .u32 (rdL (CI .u32) r4 z7)) (yld_loadL (C := (CI .u32)) (e := 70) (x := z7) (hs.rowL 1 rfl) (by kernel_rfl) rfl (by kernel_rfl) i0_26 i1_26) ?_
       refine wpS.q 5 43 (.int .i32 (iconv .i32 (rdL (CI .u32) r4 z7))) ?_
       obtain ⟨i0_27, h⟩ := of_chk h
       obtain ⟨i1_27, h⟩ := of_chk h
       refine wpS.tk 6 false (some 44) (.pointer (some ⟨b5, 0 + (z6 : Int).toNat * 1, none⟩)) (yld_idx (t := 32) (e := 21) (n := 256) (sz := 1) (k := .i64) (x := z6) (by kernel_rfl) (by kernel_rfl) (by kernel_rfl) i0_27 i1_27) ?_
       obtain ⟨x13, hx, h⟩ := of_bind h
       refine wpS.only 7 (op_storeA (t := 21) (x := z6) (v := x13) (d := none) (by kernel_rfl) hs 0 rfl (by cases hx; kernel_rfl) (by kernel_rfl) i0_27 i1_27 ?_)
       intro w kp hs
       refine ⟨fun _ => trivial, ?_⟩
       refine wpS.fin rfl (kr25 _ _ (then_n (ks24 _ _ (xregS [0, 1, 2] fun KR28 kr28 => ?_))))
       refine wpS.qs [(0, 45, .int .i64 z6), (1, 46, .int .i64 (iadd .i64 z6 1))] ?_
       obtain ⟨x14, hx, h⟩ := of_bind h
       refine wpS.tk 2 false (some 10) (.int .i64 x14) (yld_int hx (fun _ => by kernel_rfl)) ?_
       refine wpS.fin rfl (kr28 _ _ (inBlock_n ?_))
       obtain ⟨q0, qr0⟩ := Prod.mk.inj (of_some h)
       have q1 := qr0
       subst q0
       subst q1
       exact nj _ _ ⟨(hs.conv rfl), exg (by kernel_rfl)⟩
      refine wpS.tk 4 false (some 37) (.bool false) (yld_b (df hc) (fun _ => by kernel_rfl)) ?_
      refine wpS.fin rfl (kr22 _ _ (then_n (ks21 _ _ (wp_cond_f (by kernel_rfl) (xskip (inBlock_n ?_))))))
      obtain ⟨q0, qr0⟩ := Prod.mk.inj (of_some h)
      have q1 := qr0
      subst q0
      subst q1
      exact nj _ _ ⟨(hs.conv rfl), exg (by kernel_rfl)⟩
     clear hj hs
     rintro a w ⟨hs, g19, rfl⟩
     refine then_n (ks20 _ _ (xregS [0, 1, 2] fun KR29 kr29 => ?_))
     refine wpS.qs [(0, 31, .int .i64 z7), (1, 32, .int .i64 (iadd .i64 z7 1))] ?_
     obtain ⟨x15, hx, h⟩ := of_bind h
     refine wpS.tk 2 false (some 11) (.int .i64 x15) (yld_int hx (fun _ => by kernel_rfl)) ?_
     refine wpS.fin rfl (kr29 _ _ ?_)
     exact then_n (kl0 _ _ ⟨n, Nat.lt_succ_self n, y11, x15, y12, h, (hs.conv rfl), exg (by kernel_rfl)⟩)
    refine wpS.tk 6 false (some 29) (.bool false) (yld_b (df hc) (fun _ => by kernel_rfl)) ?_
    refine wpS.q 7 30 (.bool false) ?_
    refine wpS.fin rfl (kr18 _ _ (then_n (ks17 _ _ (wp_cond_f (by kernel_rfl) (xexit (then_x (then_x (inBlock_hit ?_))))))))
    obtain ⟨q0, qr0⟩ := Prod.mk.inj (of_some h)
    have q1 := qr0
    subst q0
    subst q1
    exact exq_n (nn0 _ _ ⟨(hs.conv rfl), exg (by kernel_rfl)⟩)
   refine wpS.tk 3 false (some 26) (.bool false) (yld_b (df hc) (fun _ => by kernel_rfl)) ?_
   refine wpS.qs [(4, 27, .bool false), (5, 28, undef), (6, 29, undef), (7, 30, .bool false)] ?_
   refine wpS.fin rfl (kr18 _ _ (then_n (ks17 _ _ (wp_cond_f (by kernel_rfl) (xexit (then_x (then_x (inBlock_hit ?_))))))))
   obtain ⟨q0, qr0⟩ := Prod.mk.inj (of_some h)
   have q1 := qr0
   subst q0
   subst q1
   exact exq_n (nn0 _ _ ⟨(hs.conv rfl), exg (by kernel_rfl)⟩)
 clear hs h hy
 rintro a w ⟨hs, g15, rfl⟩
 have h := hk0
 refine then_n (ks11 _ _ (xseq_k fun KS30 ks30 => (xregS [0, 1, 2, 3] fun KR31 kr31 => ?_)))
 refine wpS.tk 0 true (some 47) (.agg (enc .i32 y10).toArray) (yld_loadW (e := 32) (n := 256) hs 0 rfl (by kernel_rfl) (by kernel_rfl) (by kernel_rfl) (by exact enc_len _ _) .grow) ?_
 refine wpS.q 1 48 (.int .i64 y9) ?_
 refine wpS.only 2 (op_storeW (t := 32) (v := .agg (enc .i32 y10).toArray) (d := none) (by kernel_rfl) hs 3 rfl (vs := enc .i32 y10) (n := 256) (by kernel_rfl) (by kernel_rfl) (by kernel_rfl) (by simp [enc_len]) (by simp [enc_len]) (by intro u hu; exact enc_one _ _ u hu) ?_)
 intro w kp hs
 refine ⟨fun _ => trivial, ?_⟩
 refine wpS.q 3 5 (.int .i64 y9) ?_
 refine wpS.fin rfl (kr31 _ _ (then_n (ks30 _ _ (xret ?_))))
 obtain ⟨q0, qr0⟩ := Prod.mk.inj (of_some h)
 have q1 := qr0
 subst q0
 subst q1
 exact qq _ _ (post_ret (by kernel_rfl) (run_results [.cell 4 32, .tmp 5] [.agg (enc .i32 y10).toArray, .int .i64 y9] (by kernel_rfl) (.cons (res_cellN (n := 256) hs 3 rfl (by kernel_rfl) (by kernel_rfl) (by kernel_rfl) (by exact enc_len _ _)) (.cons (res_tmp (by kernel_rfl)) .nil))) ⟨congrArg Ending.returned (by kernel_rfl), hs.none⟩)

theorem ref26_Parts.ok {K : Nat} {a0 : List Int} {a1 : Int} {a2 : Int} {r0 : Arr 256} {r1 : Int} {a0_A : Option Addr} {a0_n : Nat} {a0_c : Nat} (h : ref26_Parts.f K a0 a1 a2 = some (r0, r1)) (w0 : World) (hp0 : RowL (CI .u8) w0 a0_A a0_n a0_c a0) : Ret Tryd.prog 15 #[.slice a0_A a0_n a0_c, .int .u8 a1, .int .u8 a2] w0 (.tuple #[.agg (enc .i32 r0).toArray, .int .i64 r1]) := by
 refine calls_k Tryd.func15 rfl fun Q qq => ?_
 have hs := St.startR (all_cons (RowP.ent hp0) all_nil)
 refine wp_conv (a' := ⟨#[.slice a0_A a0_n a0_c, .int .u8 a1, .int .u8 a2, undef, undef, undef, undef, undef, undef, undef, undef, undef, undef, undef, undef, undef, undef, undef, undef, undef, undef, undef, undef, undef, undef, undef, undef, undef, undef, undef, undef, undef, undef], []⟩) (by kernel_rfl) ?_
 refine xseq_k fun KS1 ks1 => ?_
 refine xregS [0, 1] fun KR2 kr2 => ?_
 refine wpS.only 0 (op_alloc (t := 32) (d := (some 6)) (by kernel_rfl) hs (enc .i32 (zeroA 256)) (.agg (enc .i32 (zeroA 256)).toArray) (by kernel_rfl) (by kernel_rfl) (by kernel_rfl) ?_)
 intro b1 w gw hs
 refine ⟨fun _ => trivial, ?_⟩
 refine wpS.q 1 7 (.int .i64 0) ?_
 refine wpS.fin rfl (kr2 _ _ (then_n (ks1 _ _ (xseq_k fun KS3 ks3 => (xregS [0, 1, 2, 3, 4, 5, 6] fun KR4 kr4 => ?_)))))
 refine wpS.qs [(0, 11, .slice a0_A a0_n a0_c), (1, 12, .int .u8 a2), (2, 13, .int .u8 a1)] ?_
 refine wpS.only 3 (op_lit (C := (CI .u8)) (t := 24) (e := 5) (len := 2) (parts := #[(0, .int .u8 a2), (1, .int .u8 a1)]) (l := [a2, a1]) (d := (some 14)) (by kernel_rfl) hs (by kernel_rfl) (by kernel_rfl) (by kernel_rfl) (z := .int .u8 0) (by kernel_rfl) rfl (by decide) (by decide) (by kernel_rfl) ?_)
 intro s2_A s2_n s2_c w gw hs
 refine ⟨fun _ => trivial, ?_⟩
 refine wpS.only 4 (op_lit (C := CS) (t := 59) (e := 24) (len := 2) (parts := #[(0, .slice a0_A a0_n a0_c), (1, .slice s2_A s2_n s2_c)]) (l := ([(a0_A, a0_n, a0_c), (s2_A, s2_n, s2_c)] : List HS)) (d := (some 15)) (by kernel_rfl) hs (by kernel_rfl) (by kernel_rfl) (by kernel_rfl) (z := .slice none 0 0) (by kernel_rfl) rfl (by decide) (by decide) (by kernel_rfl) ?_)
 intro s3_A s3_n s3_c w gw hs
 refine ⟨fun _ => trivial, ?_⟩
 obtain ⟨r4, hg, h⟩ := of_bind h
 refine wpS.only 5 (op_callH (d := (some 16)) (by kernel_rfl) hs (fun _ => by kernel_rfl) (ref01_Join.ok hg _ (LLP.mk (hs.rowL 0 rfl) (inn_cons (hs.rowR 0 rfl) (inn_cons (hs.rowL 1 rfl) inn_nil)))) ?_)
 rintro ⟨r4_A, r4_n, r4_c⟩ w gw hs
 have hs := hs.conv (L' := [.ownL (CI .u8) r4_A r4_n r4_c r4 5, .ownL CS s3_A s3_n s3_c ([(a0_A, a0_n, a0_c), (s2_A, s2_n, s2_c)] : List HS) 24, .ownL (CI .u8) s2_A s2_n s2_c ([a2, a1] : List Int) 5, .blk b1 (enc .i32 (zeroA 256)) 32]) rfl
 refine ⟨fun _ => trivial, ?_⟩
 refine wpS.q 6 8 (.slice r4_A r4_n r4_c) ?_
 refine wpS.fin rfl (kr4 _ _ (then_n (ks3 _ _ (xseq_k fun KS5 ks5 => (xregS [0, 1, 2, 3, 4, 5, 6, 7] fun KR6 kr6 => ?_)))))
 refine wpS.q 0 18 (.slice r4_A r4_n r4_c) ?_
 obtain ⟨⟨r5, r6⟩, hg, h⟩ := of_bind h
 refine wpS.only 1 (op_call (d := (some 19)) (by kernel_rfl) hs (fun _ => by kernel_rfl) (ref26_drawn.ok hg _ (hs.rowL 0 rfl)) ?_)
 intro w gw hs
 refine ⟨fun _ => trivial, ?_⟩
 refine wpS.qs [(2, 17, .tuple #[.agg (enc .i32 r5).toArray, .int .i64 r6]), (3, 20, .agg (enc .i32 r5).toArray), (4, 21, .int .i64 r6)] ?_
 refine wpS.only 5 (op_alloc (t := 32) (d := (some 9)) (by kernel_rfl) hs (enc .i32 (zeroA 256)) (.agg (enc .i32 (zeroA 256)).toArray) (by kernel_rfl) (by kernel_rfl) (by kernel_rfl) ?_)
 intro b7 w gw hs
 refine ⟨fun _ => trivial, ?_⟩
 refine wpS.only 6 (op_storeW (t := 32) (v := .agg (enc .i32 r5).toArray) (d := none) (by kernel_rfl) hs 0 rfl (vs := enc .i32 r5) (n := 256) (by kernel_rfl) (by kernel_rfl) (by kernel_rfl) (by simp [enc_len]) (by simp [enc_len]) (by intro u hu; exact enc_one _ _ u hu) ?_)
 intro w kp hs
 refine ⟨fun _ => trivial, ?_⟩
 refine wpS.q 7 10 (.int .i64 r6) ?_
 refine wpS.fin rfl (kr6 _ _ (then_n (ks5 _ _ ?_)))
 obtain ⟨⟨y8, y9⟩, hj, h⟩ := of_bind h
 refine xseq_k fun KS8 ks8 => wp_join (N := fun a w => St w0 [] [.blk b7 (enc .i32 y9) 32, .ownL (CI .u8) r4_A r4_n r4_c r4 5, .ownL CS s3_A s3_n s3_c ([(a0_A, a0_n, a0_c), (s2_A, s2_n, s2_c)] : List HS) 24, .ownL (CI .u8) s2_A s2_n s2_c ([a2, a1] : List Int) 5, .blk b1 (enc .i32 (zeroA 256)) 32] [.rowL (CI .u8) a0_A a0_n a0_c a0] w ∧ ∃ g7 : Nat → Value, a = ⟨#[.slice a0_A a0_n a0_c, .int .u8 a1, .int .u8 a2, undef, undef, undef, .pointer (some ⟨b1, 0, none⟩), .int .i64 0, .slice r4_A r4_n r4_c, .pointer (some ⟨b7, 0, none⟩), .int .i64 y8, .slice a0_A a0_n a0_c, .int .u8 a2, .int .u8 a1, .slice s2_A s2_n s2_c, .slice s3_A s3_n s3_c, .slice r4_A r4_n r4_c, .tuple #[.agg (enc .i32 r5).toArray, .int .i64 r6], .slice r4_A r4_n r4_c, .tuple #[.agg (enc .i32 r5).toArray, .int .i64 r6], .agg (enc .i32 r5).toArray, .int .i64 r6, (g7 22), (g7 23), (g7 24), (g7 25), (g7 26), (g7 27), (g7 28), undef, undef, undef, undef], []⟩) (fun N nj => ?_) ?_
 ·clear h
  have h := hj
  refine xseq_k fun KS9 ks9 => ?_
  refine xregS [0, 1] fun KR10 kr10 => ?_
  refine wpS.q 0 22 (.int .i64 r6) ?_
  rcases of_if h with ⟨hc, h⟩ | ⟨hc, h⟩
  ·refine wpS.tk 1 false (some 23) (.bool true) (yld_b (dt hc) (fun _ => by kernel_rfl)) ?_
   refine wpS.fin rfl (kr10 _ _ (then_n (ks9 _ _ (wp_cond_t (by kernel_rfl) (xregS [0, 1, 2, 3, 4, 5, 6] fun KR11 kr11 => ?_)))))
   refine wpS.q 0 25 (.slice r4_A r4_n r4_c) ?_
   obtain ⟨⟨r10, r11⟩, hg, h⟩ := of_bind h
   refine wpS.only 1 (op_call (d := (some 26)) (by kernel_rfl) hs (fun _ => by kernel_rfl) (ref26_drawn.ok hg _ (hs.rowL 1 rfl)) ?_)
   intro w gw hs
   refine ⟨fun _ => trivial, ?_⟩
   refine wpS.qs [(2, 24, .tuple #[.agg (enc .i32 r10).toArray, .int .i64 r11]), (3, 27, .agg (enc .i32 r10).toArray), (4, 28, .int .i64 r11)] ?_
   refine wpS.only 5 (op_storeW (t := 32) (v := .agg (enc .i32 r10).toArray) (d := none) (by kernel_rfl) hs 0 rfl (vs := enc .i32 r10) (n := 256) (by kernel_rfl) (by kernel_rfl) (by kernel_rfl) (by simp [enc_len]) (by simp [enc_len]) (by intro u hu; exact enc_one _ _ u hu) ?_)
   intro w kp hs
   refine ⟨fun _ => trivial, ?_⟩
   refine wpS.q 6 10 (.int .i64 r11) ?_
   refine wpS.fin rfl (kr11 _ _ ?_)
   obtain ⟨q0, qr0⟩ := Prod.mk.inj (of_some h)
   have q1 := qr0
   subst q0
   subst q1
   exact nj _ _ ⟨(hs.conv rfl), exg (by kernel_rfl)⟩
  refine wpS.tk 1 false (some 23) (.bool false) (yld_b (df hc) (fun _ => by kernel_rfl)) ?_
  refine wpS.fin rfl (kr10 _ _ (then_n (ks9 _ _ (wp_cond_f (by kernel_rfl) (xskip ?_)))))
  obtain ⟨q0, qr0⟩ := Prod.mk.inj (of_some h)
  have q1 := qr0
  subst q0
  subst q1
  exact nj _ _ ⟨(hs.conv rfl), exg (by kernel_rfl)⟩
 clear hj hs
 rintro a w ⟨hs, g7, rfl⟩
 refine then_n (ks8 _ _ (xseq_k fun KS12 ks12 => (xseq_k fun KS13 ks13 => (xregS [0, 1] fun KR14 kr14 => ?_))))
 refine wpS.q 0 29 (.int .i64 y8) ?_
 rcases of_if h with ⟨hc, h⟩ | ⟨hc, h⟩
 ·refine wpS.tk 1 false (some 30) (.bool true) (yld_b (dt hc) (fun _ => by kernel_rfl)) ?_
  refine wpS.fin rfl (kr14 _ _ (then_n (ks13 _ _ (wp_cond_t (by kernel_rfl) (xseq_k fun KS15 ks15 => (xregS [0, 1, 2] fun KR16 kr16 => ?_))))))
  refine wpS.q 0 31 (.agg (enc .i32 (zeroA 256)).toArray) ?_
  refine wpS.only 1 (op_storeW (t := 32) (v := .agg (enc .i32 (zeroA 256)).toArray) (d := none) (by kernel_rfl) hs 4 rfl (vs := enc .i32 (zeroA 256)) (n := 256) (by kernel_rfl) (by kernel_rfl) (by kernel_rfl) (by simp [enc_len]) (by simp [enc_len]) (by intro u hu; exact enc_one _ _ u hu) ?_)
  intro w kp hs
  refine ⟨fun _ => trivial, ?_⟩
  refine wpS.q 2 7 (.int .i64 12) ?_
  refine wpS.fin rfl (kr16 _ _ (then_n (ks15 _ _ (xret (then_r ?_)))))
  obtain ⟨q0, qr0⟩ := Prod.mk.inj (of_some h)
  have q1 := qr0
  subst q0
  subst q1
  exact qq _ _ (post_ret (by kernel_rfl) (run_results [.cell 6 32, .tmp 7] [.agg (enc .i32 (zeroA 256)).toArray, .int .i64 12] (by kernel_rfl) (.cons (res_cellN (n := 256) hs 4 rfl (by kernel_rfl) (by kernel_rfl) (by kernel_rfl) (by exact enc_len _ _)) (.cons (res_tmp (by kernel_rfl)) .nil))) ⟨congrArg Ending.returned (by kernel_rfl), hs.none⟩)
 refine wpS.tk 1 false (some 30) (.bool false) (yld_b (df hc) (fun _ => by kernel_rfl)) ?_
 refine wpS.fin rfl (kr14 _ _ (then_n (ks13 _ _ (wp_cond_f (by kernel_rfl) (xskip (then_n (ks12 _ _ (xseq_k fun KS17 ks17 => (xregS [0, 1, 2] fun KR18 kr18 => ?_)))))))))
 refine wpS.tk 0 true (some 32) (.agg (enc .i32 y9).toArray) (yld_loadW (e := 32) (n := 256) hs 0 rfl (by kernel_rfl) (by kernel_rfl) (by kernel_rfl) (by exact enc_len _ _) .grow) ?_
 refine wpS.only 1 (op_storeW (t := 32) (v := .agg (enc .i32 y9).toArray) (d := none) (by kernel_rfl) hs 4 rfl (vs := enc .i32 y9) (n := 256) (by kernel_rfl) (by kernel_rfl) (by kernel_rfl) (by simp [enc_len]) (by simp [enc_len]) (by intro u hu; exact enc_one _ _ u hu) ?_)
 intro w kp hs
 refine ⟨fun _ => trivial, ?_⟩
 refine wpS.q 2 7 (.int .i64 0) ?_
 refine wpS.fin rfl (kr18 _ _ (then_n (ks17 _ _ (xret ?_))))
 obtain ⟨q0, qr0⟩ := Prod.mk.inj (of_some h)
 have q1 := qr0
 subst q0
 subst q1
 exact qq _ _ (post_ret (by kernel_rfl) (run_results [.cell 6 32, .tmp 7] [.agg (enc .i32 y9).toArray, .int .i64 0] (by kernel_rfl) (.cons (res_cellN (n := 256) hs 4 rfl (by kernel_rfl) (by kernel_rfl) (by kernel_rfl) (by exact enc_len _ _)) (.cons (res_tmp (by kernel_rfl)) .nil))) ⟨congrArg Ending.returned (by kernel_rfl), hs.none⟩)

theorem ref26_bit.ok {K : Nat} {a0 : List Int} {a1 : Int} {r0 : Int} {a0_A : Option Addr} {a0_n : Nat} {a0_c : Nat} (h : ref26_bit.f K a0 a1 = some r0) (w0 : World) (hp0 : RowL (CI .u8) w0 a0_A a0_n a0_c a0) : Ret Tryd.prog 42 #[.slice a0_A a0_n a0_c, .int .i64 a1] w0 (.int .i32 r0) := by
 refine calls_k Tryd.func42 rfl fun Q qq => ?_
 have hs := St.startR (all_cons (RowP.ent hp0) all_nil)
 refine wp_conv (a' := ⟨#[.slice a0_A a0_n a0_c, .int .i64 a1, undef, undef, undef, undef, undef, undef, undef, undef, undef, undef, undef, undef, undef], []⟩) (by kernel_rfl) ?_
 refine xseq_k fun KS1 ks1 => ?_
 refine xregS [0] fun KR2 kr2 => ?_
 refine wpS.q 0 4 (.int .i32 0) ?_
 refine wpS.fin rfl (kr2 _ _ (then_n (ks1 _ _ (xseq_k fun KS3 ks3 => (xregS [0, 1, 2, 3, 4, 5, 6, 7, 8, 9, 10] fun KR4 kr4 => ?_)))))
 refine wpS.qs [(0, 5, .slice a0_A a0_n a0_c), (1, 6, .int .i64 a1), (2, 7, .int .i64 (iquo .i64 a1 8))] ?_
 obtain ⟨x1, hx, h⟩ := of_bind h
 have hx := of_some hx
 subst hx
 obtain ⟨h0, h⟩ := of_chk h
 obtain ⟨h1, h⟩ := of_chk h
 have i0_5 := h0
 have i1_5 := h1
 refine wpS.tk 3 false (some 8) (.pointer (adr a0_A (((iquo .i64 a1 8) : Int).toNat * Cod.size (CI .u8)))) (yld_idxL (C := (CI .u8)) (t := 24) (e := 5) (k := .i64) (x := (iquo .i64 a1 8)) (hs.rowR 0 rfl) (by kernel_rfl) (by kernel_rfl) (by kernel_rfl) h0 h1) ?_
 refine wpS.tk 4 true (some 9) (.int .u8 (rdL (CI .u8) a0 (iquo .i64 a1 8))) (yld_loadL (C := (CI .u8)) (e := 5) (x := (iquo .i64 a1 8)) (hs.rowR 0 rfl) (by kernel_rfl) rfl (by kernel_rfl) i0_5 i1_5) ?_
 refine wpS.qs [(5, 10, .int .i64 a1), (6, 11, .int .i64 (irem .i64 a1 8))] ?_
 obtain ⟨h0, h⟩ := of_chk h
 refine wpS.tk 7 false (some 12) (.int .u8 (ishr .u8 (rdL (CI .u8) a0 (iquo .i64 a1 8)) (irem .i64 a1 8))) (yld_shr (t := 5) (k' := .i64) (by kernel_rfl) h0) ?_
 refine wpS.qs [(8, 13, .int .u8 (iand .u8 (ishr .u8 (rdL (CI .u8) a0 (iquo .i64 a1 8)) (irem .i64 a1 8)) 1)), (9, 14, .int .i32 (iconv .i32 (iand .u8 (ishr .u8 (rdL (CI .u8) a0 (iquo .i64 a1 8)) (irem .i64 a1 8)) 1)))] ?_
 obtain ⟨x2, hx, h⟩ := of_bind h
 refine wpS.tk 10 false (some 4) (.int .i32 x2) (yld_int hx (fun _ => by kernel_rfl)) ?_
 refine wpS.fin rfl (kr4 _ _ (then_n (ks3 _ _ (xret ?_))))
 have q0 := of_some h
 subst q0
 exact qq _ _ (post_ret (by kernel_rfl) (run_results [.tmp 4] [.int .i32 x2] (by kernel_rfl) (.cons (res_tmp (by kernel_rfl)) .nil)) ⟨congrArg Ending.returned (by kernel_rfl), hs.none⟩)

theorem ref26_Noise.ok {K : Nat} {a0 : Int} {a1 : List Int} {a2 : Int} {r0 : Arr 256} {a1_A : Option Addr} {a1_n : Nat} {a1_c : Nat} (h : ref26_Noise.f K a0 a1 a2 = some r0) (w0 : World) (hp1 : RowL (CI .u8) w0 a1_A a1_n a1_c a1) : Ret Tryd.prog 17 #[.int .i64 a0, .slice a1_A a1_n a1_c, .int .u8 a2] w0 (.agg (enc .i32 r0).toArray) := by
 refine calls_k Tryd.func17 rfl fun Q qq => ?_
 have hs := St.startR (all_cons (RowP.ent hp1) all_nil)
 refine wp_conv (a' := ⟨#[.int .i64 a0, .slice a1_A a1_n a1_c, .int .u8 a2, undef, undef, undef, undef, undef, undef, undef, undef, undef, undef, undef, undef, undef, undef, undef, undef, undef, undef, undef, undef, undef, undef, undef, undef, undef, undef, undef, undef, undef, undef, undef, undef, undef, undef, undef, undef, undef, undef, undef, undef, undef, undef, undef, undef, undef, undef, undef, undef, undef, undef, undef, undef, undef, undef, undef, undef, undef, undef, undef, undef, undef, undef, undef, undef], []⟩) (by kernel_rfl) ?_
 refine xseq_k fun KS1 ks1 => ?_
 refine xregS [0] fun KR2 kr2 => ?_
 refine wpS.only 0 (op_alloc (t := 32) (d := (some 6)) (by kernel_rfl) hs (enc .i32 (zeroA 256)) (.agg (enc .i32 (zeroA 256)).toArray) (by kernel_rfl) (by kernel_rfl) (by kernel_rfl) ?_)
 intro b1 w gw hs
 refine ⟨fun _ => trivial, ?_⟩
 refine wpS.fin rfl (kr2 _ _ (then_n (ks1 _ _ (xseq_k fun KS3 ks3 => (xregS [0] fun KR4 kr4 => ?_)))))
 refine wpS.only 0 (op_alloc (t := 32) (d := (some 7)) (by kernel_rfl) hs (enc .i32 (zeroA 256)) (.agg (enc .i32 (zeroA 256)).toArray) (by kernel_rfl) (by kernel_rfl) (by kernel_rfl) ?_)
 intro b2 w gw hs
 refine ⟨fun _ => trivial, ?_⟩
 refine wpS.fin rfl (kr4 _ _ (then_n (ks3 _ _ ?_)))
 obtain ⟨tv6, hj, hk_6⟩ := of_bind h
 refine xseq_k fun KS6 ks6 => wp_exj (N := fun a w => ∃ y3, tv6 = .inl y3 ∧ St w0 [] [.blk b2 (enc .i32 (zeroA 256)) 32, .blk b1 (enc .i32 y3) 32] [.rowL (CI .u8) a1_A a1_n a1_c a1] w ∧ ∃ g5 : Nat → Value, a = ⟨#[.int .i64 a0, .slice a1_A a1_n a1_c, .int .u8 a2, undef, undef, undef, .pointer (some ⟨b1, 0, none⟩), .pointer (some ⟨b2, 0, none⟩), undef, undef, undef, undef, undef, (g5 13), (g5 14), (g5 15), (g5 16), (g5 17), (g5 18), (g5 19), undef, undef, undef, undef, undef, undef, undef, undef, undef, undef, undef, undef, undef, undef, undef, undef, undef, undef, undef, undef, undef, undef, undef, undef, undef, undef, undef, undef, undef, undef, undef, undef, undef, undef, undef, undef, undef, undef, undef, undef, undef, undef, undef, undef, undef, undef, undef], []⟩) (fun N nj => ?_) ?_
 ·clear h
  have h := hj
  refine xseq_k fun KS7 ks7 => ?_
  refine xregS [0, 1, 2, 3, 4, 5] fun KR8 kr8 => ?_
  refine wpS.q 0 13 (.int .i64 a0) ?_
  rcases of_if h with ⟨hc, h⟩ | ⟨hc, h⟩
  ·refine wpS.tk 1 false (some 14) (.bool false) (yld_b (nf hc) (fun _ => by kernel_rfl)) ?_
   refine wpS.qs [(2, 15, .bool false), (3, 16, undef), (4, 17, undef), (5, 18, .bool false)] ?_
   refine wpS.fin rfl (kr8 _ _ (then_n (ks7 _ _ (wp_cond_f (by kernel_rfl) (xskip ?_)))))
   have q0 := of_some h
   subst q0
   exact exj_n (nj _ _ ⟨(zeroA 256), rfl, (hs.conv rfl), exg (by kernel_rfl)⟩)
  refine wpS.tk 1 false (some 14) (.bool true) (yld_b (nt hc) (fun _ => by kernel_rfl)) ?_
  refine wpS.qs [(2, 15, .bool true), (3, 16, .int .i64 a0)] ?_
  rcases of_if h with ⟨hc, h⟩ | ⟨hc, h⟩
  ·refine wpS.tk 4 false (some 17) (.bool false) (yld_b (nf hc) (fun _ => by kernel_rfl)) ?_
   refine wpS.q 5 18 (.bool false) ?_
   refine wpS.fin rfl (kr8 _ _ (then_n (ks7 _ _ (wp_cond_f (by kernel_rfl) (xskip ?_)))))
   have q0 := of_some h
   subst q0
   exact exj_n (nj _ _ ⟨(zeroA 256), rfl, (hs.conv rfl), exg (by kernel_rfl)⟩)
  refine wpS.tk 4 false (some 17) (.bool true) (yld_b (nt hc) (fun _ => by kernel_rfl)) ?_
  refine wpS.q 5 18 (.bool true) ?_
  refine wpS.fin rfl (kr8 _ _ (then_n (ks7 _ _ (wp_cond_t (by kernel_rfl) (xseq_k fun KS9 ks9 => (xregS [0, 1] fun KR10 kr10 => ?_))))))
  refine wpS.tk 0 true (some 19) (.agg (enc .i32 (zeroA 256)).toArray) (yld_loadW (e := 32) (n := 256) hs 0 rfl (by kernel_rfl) (by kernel_rfl) (by kernel_rfl) (by exact enc_len _ _) .grow) ?_
  refine wpS.only 1 (op_storeW (t := 32) (v := .agg (enc .i32 (zeroA 256)).toArray) (d := none) (by kernel_rfl) hs 1 rfl (vs := enc .i32 (zeroA 256)) (n := 256) (by kernel_rfl) (by kernel_rfl) (by kernel_rfl) (by simp [enc_len]) (by simp [enc_len]) (by intro u hu; exact enc_one _ _ u hu) ?_)
  intro w kp hs
  refine ⟨fun _ => trivial, ?_⟩
  refine wpS.fin rfl (kr10 _ _ (then_n (ks9 _ _ (xret ?_))))
  have q0 := of_some h
  subst q0
  have h := hk_6
  refine exj_r ?_
  refine then_r ?_
  have q0 := of_some h
  subst q0
  exact qq _ _ (post_ret (by kernel_rfl) (run_results [.cell 6 32] [.agg (enc .i32 (zeroA 256)).toArray] (by kernel_rfl) (.cons (res_cellN (n := 256) hs 1 rfl (by kernel_rfl) (by kernel_rfl) (by kernel_rfl) (by exact enc_len _ _)) .nil)) ⟨congrArg Ending.returned (by kernel_rfl), hs.none⟩)
 clear hj hs
 rintro a w ⟨y3, rfl, hs, g5, rfl⟩
 have h := hk_6
 refine then_n (ks6 _ _ (xseq_k fun KS11 ks11 => (xregS [0, 1, 2, 3, 4, 5, 6, 7, 8, 9, 10, 11, 12] fun KR12 kr12 => ?_)))
 refine wpS.qs [(0, 21, .slice a1_A a1_n a1_c), (1, 22, .int .u8 a2)] ?_
 refine wpS.only 2 (op_lit (C := (CI .u8)) (t := 24) (e := 5) (len := 1) (parts := #[(0, .int .u8 a2)]) (l := [a2]) (d := (some 23)) (by kernel_rfl) hs (by kernel_rfl) (by kernel_rfl) (by kernel_rfl) (z := .int .u8 0) (by kernel_rfl) rfl (by decide) (by decide) (by kernel_rfl) ?_)
 intro s4_A s4_n s4_c w gw hs
 refine ⟨fun _ => trivial, ?_⟩
 refine wpS.only 3 (op_lit (C := CS) (t := 59) (e := 24) (len := 2) (parts := #[(0, .slice a1_A a1_n a1_c), (1, .slice s4_A s4_n s4_c)]) (l := ([(a1_A, a1_n, a1_c), (s4_A, s4_n, s4_c)] : List HS)) (d := (some 24)) (by kernel_rfl) hs (by kernel_rfl) (by kernel_rfl) (by kernel_rfl) (z := .slice none 0 0) (by kernel_rfl) rfl (by decide) (by decide) (by kernel_rfl) ?_)
 intro s5_A s5_n s5_c w gw hs
 refine ⟨fun _ => trivial, ?_⟩
 obtain ⟨r6, hg, h⟩ := of_bind h
 refine wpS.only 4 (op_callH (d := (some 25)) (by kernel_rfl) hs (fun _ => by kernel_rfl) (ref01_Join.ok hg _ (LLP.mk (hs.rowL 0 rfl) (inn_cons (hs.rowR 0 rfl) (inn_cons (hs.rowL 1 rfl) inn_nil)))) ?_)
 rintro ⟨r6_A, r6_n, r6_c⟩ w gw hs
 have hs := hs.conv (L' := [.ownL (CI .u8) r6_A r6_n r6_c r6 5, .ownL CS s5_A s5_n s5_c ([(a1_A, a1_n, a1_c), (s4_A, s4_n, s4_c)] : List HS) 24, .ownL (CI .u8) s4_A s4_n s4_c ([a2] : List Int) 5, .blk b2 (enc .i32 (zeroA 256)) 32, .blk b1 (enc .i32 y3) 32]) rfl
 refine ⟨fun _ => trivial, ?_⟩
 refine wpS.qs [(5, 26, .int .i64 a0), (6, 27, .int .i64 (imul .i64 64 a0))] ?_
 obtain ⟨⟨r7, r8⟩, hg, h⟩ := of_bind h
 refine wpS.only 7 (op_callH (d := (some 28)) (by kernel_rfl) hs (fun _ => by kernel_rfl) (ref08_Sum.ok hg _ (hs.rowL 0 rfl)) ?_)
 rintro ⟨r7_A, r7_n, r7_c⟩ w gw hs
 have hs := hs.conv (L' := [.ownL (CI .u8) r7_A r7_n r7_c r7 5, .ownL (CI .u8) r6_A r6_n r6_c r6 5, .ownL CS s5_A s5_n s5_c ([(a1_A, a1_n, a1_c), (s4_A, s4_n, s4_c)] : List HS) 24, .ownL (CI .u8) s4_A s4_n s4_c ([a2] : List Int) 5, .blk b2 (enc .i32 (zeroA 256)) 32, .blk b1 (enc .i32 y3) 32]) rfl
 refine ⟨fun _ => trivial, ?_⟩
 refine wpS.qs [(8, 20, .tuple #[.slice r7_A r7_n r7_c, .int .i64 r8]), (9, 29, .slice r7_A r7_n r7_c), (10, 30, .int .i64 r8), (11, 8, .slice r7_A r7_n r7_c), (12, 9, .int .i64 r8)] ?_
 refine wpS.fin rfl (kr12 _ _ (then_n (ks11 _ _ (xseq_k fun KS13 ks13 => (xseq_k fun KS14 ks14 => (xregS [0] fun KR15 kr15 => ?_))))))
 refine wpS.q 0 10 (.int .i64 0) ?_
 refine wpS.fin rfl (kr15 _ _ (then_n (ks14 _ _ ?_)))
 obtain ⟨y11, hy, hk0⟩ := of_bind h
 refine wp_exq (N := fun a w => St w0 [] [.ownL (CI .u8) r7_A r7_n r7_c r7 5, .ownL (CI .u8) r6_A r6_n r6_c r6 5, .ownL CS s5_A s5_n s5_c ([(a1_A, a1_n, a1_c), (s4_A, s4_n, s4_c)] : List HS) 24, .ownL (CI .u8) s4_A s4_n s4_c ([a2] : List Int) 5, .blk b2 (enc .i32 y11) 32, .blk b1 (enc .i32 y3) 32] [.rowL (CI .u8) a1_A a1_n a1_c a1] w ∧ ∃ g17 : Nat → Value, a = ⟨#[.int .i64 a0, .slice a1_A a1_n a1_c, .int .u8 a2, undef, undef, undef, .pointer (some ⟨b1, 0, none⟩), .pointer (some ⟨b2, 0, none⟩), .slice r7_A r7_n r7_c, .int .i64 r8, (g17 10), (g17 11), (g17 12), (g5 13), (g5 14), (g5 15), (g5 16), (g5 17), (g5 18), (g5 19), .tuple #[.slice r7_A r7_n r7_c, .int .i64 r8], .slice a1_A a1_n a1_c, .int .u8 a2, .slice s4_A s4_n s4_c, .slice s5_A s5_n s5_c, .slice r6_A r6_n r6_c, .int .i64 a0, .int .i64 (imul .i64 64 a0), .tuple #[.slice r7_A r7_n r7_c, .int .i64 r8], .slice r7_A r7_n r7_c, .int .i64 r8, (g17 31), (g17 32), (g17 33), (g17 34), (g17 35), (g17 36), (g17 37), (g17 38), (g17 39), (g17 40), (g17 41), (g17 42), (g17 43), (g17 44), (g17 45), (g17 46), (g17 47), (g17 48), (g17 49), (g17 50), (g17 51), (g17 52), (g17 53), (g17 54), (g17 55), (g17 56), (g17 57), (g17 58), (g17 59), (g17 60), (g17 61), (g17 62), (g17 63), (g17 64), (g17 65), undef], []⟩) (fun N0 nn0 => ?_) ?_
 ·clear hk0
  refine xblock ?_
  refine wp_loop_k (fun n a w => ∃ z9 z10, ref26_Noise.l0 K n a0 r7 z9 z10 = some y11 ∧ St w0 [] [.ownL (CI .u8) r7_A r7_n r7_c r7 5, .ownL (CI .u8) r6_A r6_n r6_c r6 5, .ownL CS s5_A s5_n s5_c ([(a1_A, a1_n, a1_c), (s4_A, s4_n, s4_c)] : List HS) 24, .ownL (CI .u8) s4_A s4_n s4_c ([a2] : List Int) 5, .blk b2 (enc .i32 z10) 32, .blk b1 (enc .i32 y3) 32] [.rowL (CI .u8) a1_A a1_n a1_c a1] w ∧ ∃ g16 : Nat → Value, a = ⟨#[.int .i64 a0, .slice a1_A a1_n a1_c, .int .u8 a2, undef, undef, undef, .pointer (some ⟨b1, 0, none⟩), .pointer (some ⟨b2, 0, none⟩), .slice r7_A r7_n r7_c, .int .i64 r8, .int .i64 z9, (g16 11), (g16 12), (g5 13), (g5 14), (g5 15), (g5 16), (g5 17), (g5 18), (g5 19), .tuple #[.slice r7_A r7_n r7_c, .int .i64 r8], .slice a1_A a1_n a1_c, .int .u8 a2, .slice s4_A s4_n s4_c, .slice s5_A s5_n s5_c, .slice r6_A r6_n r6_c, .int .i64 a0, .int .i64 (imul .i64 64 a0), .tuple #[.slice r7_A r7_n r7_c, .int .i64 r8], .slice r7_A r7_n r7_c, .int .i64 r8, (g16 31), (g16 32), (g16 33), (g16 34), (g16 35), (g16 36), (g16 37), (g16 38), (g16 39), (g16 40), (g16 41), (g16 42), (g16 43), (g16 44), (g16 45), (g16 46), (g16 47), (g16 48), (g16 49), (g16 50), (g16 51), (g16 52), (g16 53), (g16 54), (g16 55), (g16 56), (g16 57), (g16 58), (g16 59), (g16 60), (g16 61), (g16 62), (g16 63), (g16 64), (g16 65), undef], []⟩) K ⟨0, (zeroA 256), hy, hs.conv rfl, exg (by kernel_rfl)⟩ ?_
  clear hs h hy
  rintro n a w ⟨z9, z10, h, hs, g16, rfl⟩ KL0 kl0
  cases n with
  | zero => exact nomatch (show none = some _ from h)
  | succ n =>
   refine xseq_k fun KS18 ks18 => ?_
   refine xseq_k fun KS19 ks19 => ?_
   refine xregS [0, 1] fun KR20 kr20 => ?_
   refine wpS.q 0 31 (.int .i64 z9) ?_
   rcases of_if h with ⟨hc, h⟩ | ⟨hc, h⟩
   ·refine wpS.tk 1 false (some 32) (.bool true) (yld_b (dt hc) (fun _ => by kernel_rfl)) ?_
    refine wpS.fin rfl (kr20 _ _ (then_n (ks19 _ _ (wp_cond_t (by kernel_rfl) (xskip (then_n (ks18 _ _ (xseq_k fun KS21 ks21 => (xblock (xseq_k fun KS22 ks22 => (xregS [0] fun KR23 kr23 => ?_)))))))))))
    refine wpS.q 0 11 (.int .i32 0) ?_
    refine wpS.fin rfl (kr23 _ _ (then_n (ks22 _ _ (xseq_k fun KS24 ks24 => (xseq_k fun KS25 ks25 => (xregS [0] fun KR26 kr26 => ?_))))))
    refine wpS.q 0 12 (.int .i64 0) ?_
    refine wpS.fin rfl (kr26 _ _ (then_n (ks25 _ _ ?_)))
    obtain ⟨y14, hy, hk1⟩ := of_bind h
    refine wp_exq (N := fun a w => St w0 [] [.ownL (CI .u8) r7_A r7_n r7_c r7 5, .ownL (CI .u8) r6_A r6_n r6_c r6 5, .ownL CS s5_A s5_n s5_c ([(a1_A, a1_n, a1_c), (s4_A, s4_n, s4_c)] : List HS) 24, .ownL (CI .u8) s4_A s4_n s4_c ([a2] : List Int) 5, .blk b2 (enc .i32 z10) 32, .blk b1 (enc .i32 y3) 32] [.rowL (CI .u8) a1_A a1_n a1_c a1] w ∧ ∃ g28 : Nat → Value, a = ⟨#[.int .i64 a0, .slice a1_A a1_n a1_c, .int .u8 a2, undef, undef, undef, .pointer (some ⟨b1, 0, none⟩), .pointer (some ⟨b2, 0, none⟩), .slice r7_A r7_n r7_c, .int .i64 r8, .int .i64 z9, .int .i32 y14, (g28 12), (g5 13), (g5 14), (g5 15), (g5 16), (g5 17), (g5 18), (g5 19), .tuple #[.slice r7_A r7_n r7_c, .int .i64 r8], .slice a1_A a1_n a1_c, .int .u8 a2, .slice s4_A s4_n s4_c, .slice s5_A s5_n s5_c, .slice r6_A r6_n r6_c, .int .i64 a0, .int .i64 (imul .i64 64 a0), .tuple #[.slice r7_A r7_n r7_c, .int .i64 r8], .slice r7_A r7_n r7_c, .int .i64 r8, .int .i64 z9, .bool true, (g16 33), (g16 34), (g28 35), (g28 36), (g28 37), (g28 38), (g28 39), (g28 40), (g28 41), (g28 42), (g28 43), (g28 44), (g28 45), (g28 46), (g28 47), (g28 48), (g28 49), (g28 50), (g28 51), (g28 52), (g28 53), (g28 54), (g28 55), (g28 56), (g28 57), (g28 58), (g28 59), (g28 60), (g16 61), (g16 62), (g16 63), (g16 64), (g16 65), undef], []⟩) (fun N1 nn1 => ?_) ?_
    ·clear hk1
     refine xblock ?_
     refine wp_loop_k (fun n a w => ∃ z12 z13, ref26_Noise.l1 K n a0 r7 z9 z12 z13 = some y14 ∧ St w0 [] [.ownL (CI .u8) r7_A r7_n r7_c r7 5, .ownL (CI .u8) r6_A r6_n r6_c r6 5, .ownL CS s5_A s5_n s5_c ([(a1_A, a1_n, a1_c), (s4_A, s4_n, s4_c)] : List HS) 24, .ownL (CI .u8) s4_A s4_n s4_c ([a2] : List Int) 5, .blk b2 (enc .i32 z10) 32, .blk b1 (enc .i32 y3) 32] [.rowL (CI .u8) a1_A a1_n a1_c a1] w ∧ ∃ g27 : Nat → Value, a = ⟨#[.int .i64 a0, .slice a1_A a1_n a1_c, .int .u8 a2, undef, undef, undef, .pointer (some ⟨b1, 0, none⟩), .pointer (some ⟨b2, 0, none⟩), .slice r7_A r7_n r7_c, .int .i64 r8, .int .i64 z9, .int .i32 z12, .int .i64 z13, (g5 13), (g5 14), (g5 15), (g5 16), (g5 17), (g5 18), (g5 19), .tuple #[.slice r7_A r7_n r7_c, .int .i64 r8], .slice a1_A a1_n a1_c, .int .u8 a2, .slice s4_A s4_n s4_c, .slice s5_A s5_n s5_c, .slice r6_A r6_n r6_c, .int .i64 a0, .int .i64 (imul .i64 64 a0), .tuple #[.slice r7_A r7_n r7_c, .int .i64 r8], .slice r7_A r7_n r7_c, .int .i64 r8, .int .i64 z9, .bool true, (g16 33), (g16 34), (g27 35), (g27 36), (g27 37), (g27 38), (g27 39), (g27 40), (g27 41), (g27 42), (g27 43), (g27 44), (g27 45), (g27 46), (g27 47), (g27 48), (g27 49), (g27 50), (g27 51), (g27 52), (g27 53), (g27 54), (g27 55), (g27 56), (g27 57), (g27 58), (g27 59), (g27 60), (g16 61), (g16 62), (g16 63), (g16 64), (g16 65), undef], []⟩) K ⟨0, 0, hy, hs.conv rfl, exg (by kernel_rfl)⟩ ?_
     clear hs h hy
     rintro n a w ⟨z12, z13, h, hs, g27, rfl⟩ KL1 kl1
     cases n with
     | zero => exact nomatch (show none = some _ from h)
     | succ n =>
      refine xseq_k fun KS29 ks29 => ?_
      refine xseq_k fun KS30 ks30 => ?_
      refine xregS [0, 1, 2] fun KR31 kr31 => ?_
      refine wpS.qs [(0, 35, .int .i64 z13), (1, 36, .int .i64 a0)] ?_
      rcases of_if h with ⟨hc, h⟩ | ⟨hc, h⟩
      ·refine wpS.tk 2 false (some 37) (.bool true) (yld_b (dt hc) (fun _ => by kernel_rfl)) ?_
       refine wpS.fin rfl (kr31 _ _ (then_n (ks30 _ _ (wp_cond_t (by kernel_rfl) (xskip (then_n (ks29 _ _ (xseq_k fun KS32 ks32 => (xblock (xregS [0, 1, 2, 3, 4, 5, 6, 7, 8, 9, 10, 11, 12, 13, 14, 15, 16, 17, 18, 19, 20, 21] fun KR33 kr33 => ?_))))))))))
       refine wpS.qs [(0, 40, .int .i32 z12), (1, 41, .slice r7_A r7_n r7_c), (2, 42, .int .i64 z9), (3, 43, .int .i64 (imul .i64 2 z9)), (4, 44, .int .i64 a0), (5, 45, .int .i64 (imul .i64 (imul .i64 2 z9) a0)), (6, 46, .int .i64 z13), (7, 47, .int .i64 (iadd .i64 (imul .i64 (imul .i64 2 z9) a0) z13))] ?_
       obtain ⟨r15, hg, h⟩ := of_bind h
       refine wpS.only 8 (op_call (d := (some 48)) (by kernel_rfl) hs (fun _ => by kernel_rfl) (ref26_bit.ok hg _ (hs.rowL 0 rfl)) ?_)
       intro w gw hs
       refine ⟨fun _ => trivial, ?_⟩
       refine wpS.qs [(9, 49, .int .i32 (iadd .i32 z12 r15)), (10, 50, .slice r7_A r7_n r7_c), (11, 51, .int .i64 z9), (12, 52, .int .i64 (imul .i64 2 z9)), (13, 53, .int .i64 a0), (14, 54, .int .i64 (imul .i64 (imul .i64 2 z9) a0)), (15, 55, .int .i64 a0), (16, 56, .int .i64 (iadd .i64 (imul .i64 (imul .i64 2 z9) a0) a0)), (17, 57, .int .i64 z13), (18, 58, .int .i64 (iadd .i64 (iadd .i64 (imul .i64 (imul .i64 2 z9) a0) a0) z13))] ?_
       obtain ⟨r16, hg, h⟩ := of_bind h
       refine wpS.only 19 (op_call (d := (some 59)) (by kernel_rfl) hs (fun _ => by kernel_rfl) (ref26_bit.ok hg _ (hs.rowL 0 rfl)) ?_)
       intro w gw hs
       refine ⟨fun _ => trivial, ?_⟩
       refine wpS.q 20 60 (.int .i32 (isub .i32 (iadd .i32 z12 r15) r16)) ?_
       obtain ⟨x17, hx, h⟩ := of_bind h
       refine wpS.tk 21 false (some 11) (.int .i32 x17) (yld_int hx (fun _ => by kernel_rfl)) ?_
       refine wpS.fin rfl (kr33 _ _ (inBlock_n (then_n (ks32 _ _ (xregS [0, 1, 2] fun KR34 kr34 => ?_)))))
       refine wpS.qs [(0, 38, .int .i64 z13), (1, 39, .int .i64 (iadd .i64 z13 1))] ?_
       obtain ⟨x18, hx, h⟩ := of_bind h
       refine wpS.tk 2 false (some 12) (.int .i64 x18) (yld_int hx (fun _ => by kernel_rfl)) ?_
       refine wpS.fin rfl (kr34 _ _ ?_)
       exact then_n (kl1 _ _ ⟨n, Nat.lt_succ_self n, x17, x18, h, (hs.conv rfl), exg (by kernel_rfl)⟩)
      refine wpS.tk 2 false (some 37) (.bool false) (yld_b (df hc) (fun _ => by kernel_rfl)) ?_
      refine wpS.fin rfl (kr31 _ _ (then_n (ks30 _ _ (wp_cond_f (by kernel_rfl) (xexit (then_x (then_x (inBlock_hit ?_))))))))
      have q0 := of_some h
      subst q0
      exact exq_n (nn1 _ _ ⟨(hs.conv rfl), exg (by kernel_rfl)⟩)
    clear hs h hy
    rintro a w ⟨hs, g28, rfl⟩
    have h := hk1
    refine then_n (ks24 _ _ (xregS [0, 1, 2, 3, 4, 5] fun KR35 kr35 => ?_))
    refine wpS.qs [(0, 61, .int .i64 z9), (1, 62, .int .i32 y14), (2, 63, .int .i32 (iadd .i32 y14 3329)), (3, 64, .int .i32 (irem .i32 (iadd .i32 y14 3329) 3329))] ?_
    obtain ⟨i0_36, h⟩ := of_chk h
    obtain ⟨i1_36, h⟩ := of_chk h
    refine wpS.tk 4 false (some 65) (.pointer (some ⟨b2, 0 + (z9 : Int).toNat * 1, none⟩)) (yld_idx (t := 32) (e := 21) (n := 256) (sz := 1) (k := .i64) (x := z9) (by kernel_rfl) (by kernel_rfl) (by kernel_rfl) i0_36 i1_36) ?_
    obtain ⟨x19, hx, h⟩ := of_bind h
    refine wpS.only 5 (op_storeA (t := 21) (x := z9) (v := x19) (d := none) (by kernel_rfl) hs 4 rfl (by cases hx; kernel_rfl) (by kernel_rfl) i0_36 i1_36 ?_)
    intro w kp hs
    refine ⟨fun _ => trivial, ?_⟩
    refine wpS.fin rfl (kr35 _ _ (inBlock_n (then_n (ks21 _ _ (xregS [0, 1, 2] fun KR37 kr37 => ?_)))))
    refine wpS.qs [(0, 33, .int .i64 z9), (1, 34, .int .i64 (iadd .i64 z9 1))] ?_
    obtain ⟨x20, hx, h⟩ := of_bind h
    refine wpS.tk 2 false (some 10) (.int .i64 x20) (yld_int hx (fun _ => by kernel_rfl)) ?_
    refine wpS.fin rfl (kr37 _ _ ?_)
    exact then_n (kl0 _ _ ⟨n, Nat.lt_succ_self n, x20, (wr z10 z9 x19), h, (hs.conv rfl), exg (by kernel_rfl)⟩)
   refine wpS.tk 1 false (some 32) (.bool false) (yld_b (df hc) (fun _ => by kernel_rfl)) ?_
   refine wpS.fin rfl (kr20 _ _ (then_n (ks19 _ _ (wp_cond_f (by kernel_rfl) (xexit (then_x (then_x (inBlock_hit ?_))))))))
   have q0 := of_some h
   subst q0
   exact exq_n (nn0 _ _ ⟨(hs.conv rfl), exg (by kernel_rfl)⟩)
 clear hs h hy
 rintro a w ⟨hs, g17, rfl⟩
 have h := hk0
 refine then_n (ks13 _ _ (xseq_k fun KS38 ks38 => (xregS [0, 1] fun KR39 kr39 => ?_)))
 refine wpS.tk 0 true (some 66) (.agg (enc .i32 y11).toArray) (yld_loadW (e := 32) (n := 256) hs 4 rfl (by kernel_rfl) (by kernel_rfl) (by kernel_rfl) (by exact enc_len _ _) .grow) ?_
 refine wpS.only 1 (op_storeW (t := 32) (v := .agg (enc .i32 y11).toArray) (d := none) (by kernel_rfl) hs 5 rfl (vs := enc .i32 y11) (n := 256) (by kernel_rfl) (by kernel_rfl) (by kernel_rfl) (by simp [enc_len]) (by simp [enc_len]) (by intro u hu; exact enc_one _ _ u hu) ?_)
 intro w kp hs
 refine ⟨fun _ => trivial, ?_⟩
 refine wpS.fin rfl (kr39 _ _ (then_n (ks38 _ _ (xret ?_))))
 have q0 := of_some h
 subst q0
 exact qq _ _ (post_ret (by kernel_rfl) (run_results [.cell 6 32] [.agg (enc .i32 y11).toArray] (by kernel_rfl) (.cons (res_cellN (n := 256) hs 5 rfl (by kernel_rfl) (by kernel_rfl) (by kernel_rfl) (by exact enc_len _ _)) .nil)) ⟨congrArg Ending.returned (by kernel_rfl), hs.none⟩)
end Go.Proofs.YtemdbgmldljbpaaDoor
