/- Printed by this work's own program: the code of each function below comes to the answer that its plain form tells. -/
import Derived.Test.YtemdbgmldljbpaaDoorMf
import Derived.Test.YtemdbgmldljbpaaDoorProg
import Derived.Test.YtemdbgmldljbpaaDoorZF0
import Derived.Test.YtemdbgmldljbpaaDoorZX3
import Derived.Test.YtemdbgmldljbpaaDoorZX4
import Derived.Test.YtemdbgmldljbpaaDoorZX5
set_option linter.unusedVariables false
set_option linter.unusedSimpArgs false
set_option maxRecDepth 100000
set_option maxHeartbeats 4000000
namespace Go.Proofs.YtemdbgmldljbpaaDoor
open Go.Mx
attribute [local irreducible] wpOp

theorem kq_Pack.ok {K : Nat} {a0 : Arr 256} {a1 : Int} {r0 : List Int} (h : kq_Pack.f K a0 a1 = some r0) (w0 : World) : Calls Tryd.prog 59 #[.agg (enc .i32 a0).toArray, .int .i64 a1] w0 fun e w' => ∃ h : (Option Addr × Nat × Nat), e = .returned (.slice h.1 h.2.1 h.2.2) ∧ St w0 [] [.ownL (CI .u8) h.1 h.2.1 h.2.2 r0 5] [] w' := by
 refine calls_k Tryd.func59 rfl fun Q qq => ?_
 have hs := St.start w0
 refine wp_conv (a' := ⟨#[.agg (enc .i32 a0).toArray, .int .i64 a1, undef, undef, undef, undef, undef, undef, undef, undef, undef, undef, undef, undef, undef, undef, undef, undef, undef, undef, undef, undef, undef, undef, undef, undef, undef, undef, undef, undef, undef, undef, undef, undef, undef, undef], []⟩) (by kernel_rfl) ?_
 refine xseq_k fun KS1 ks1 => ?_
 refine xregS [0, 1] fun KR2 kr2 => ?_
 refine wpS.only 0 (op_box (t := 32) (v := .agg (enc .i32 a0).toArray) (d := (some 2)) (by kernel_rfl) hs (enc .i32 a0) (by kernel_rfl) (by kernel_rfl) ?_)
 intro b1 w gw hs
 refine ⟨fun _ => trivial, ?_⟩
 refine wpS.q 1 4 (.slice none 0 0) ?_
 refine wpS.fin rfl (kr2 _ _ (then_n (ks1 _ _ (xseq_k fun KS3 ks3 => (xseq_k fun KS4 ks4 => ?_)))))
 refine wp_regG [] (fun k => True) 13 (by kernel_rfl) (by kernel_rfl) (by kernel_rfl) fun KR5 kr5 => ?_
 have hs := hs.drawn1
 refine wpG.q 0 8 (.int .i64 a1) ?_
 rcases of_if h with ⟨hc, h⟩ | ⟨hc, h⟩
 ·refine wpG.tD 1 false (some 9) (.bool true) (yld_b (dt hc) (fun _ => by kernel_rfl)) ?_
  refine wpG.q 2 10 (.bool true) ?_
  refine wpG.q 3 11 (undef) ?_
  refine wpG.q 4 12 (undef) ?_
  refine wpG.q 5 13 (.bool true) ?_
  refine wpG.q 6 14 (.bool true) ?_
  refine wpG.q 7 15 (undef) ?_
  refine wpG.q 8 16 (undef) ?_
  refine wpG.q 9 17 (undef) ?_
  refine wpG.q 10 18 (undef) ?_
  refine wpG.q 11 19 (undef) ?_
  refine wpG.q 12 20 (.bool true) ?_
  refine wpG.fin (by kernel_rfl) rfl (kr5 _ _ ?_)
  refine then_n (ks4 _ _ (wp_cond_t (by kernel_rfl) (xseq_k fun KS6 ks6 => (xregS [0] fun KR7 kr7 => ?_))))
  refine wpS.q 0 4 (.slice none 0 0) ?_
  refine wpS.fin rfl (kr7 _ _ (then_n (ks6 _ _ (xret (then_r ?_)))))
  have q0 := of_some h
  subst q0
  have hs := hs.addNilL (CI .u8) 5
  exact qq _ _ (post_ret (by kernel_rfl) (run_results [.tmp 4] [.slice none 0 0] (by kernel_rfl) (.cons (res_tmp (by kernel_rfl)) .nil)) ⟨⟨none, 0, 0⟩, congrArg Ending.returned (by kernel_rfl), (hs.drop (.cons_cons _ (.cons _ .slnil)))⟩)
 refine wpG.tD 1 false (some 9) (.bool false) (yld_b (df hc) (fun _ => by kernel_rfl)) ?_
 refine wpG.q 2 10 (.bool false) ?_
 refine wpG.q 3 11 (.int .i64 a1) ?_
 rcases of_if h with ⟨hc, h⟩ | ⟨hc, h⟩
 ·refine wpG.tD 4 false (some 12) (.bool true) (yld_b (dt hc) (fun _ => by kernel_rfl)) ?_
  refine wpG.q 5 13 (.bool true) ?_
  refine wpG.q 6 14 (.bool true) ?_
  refine wpG.q 7 15 (undef) ?_
  refine wpG.q 8 16 (undef) ?_
  refine wpG.q 9 17 (undef) ?_
  refine wpG.q 10 18 (undef) ?_
  refine wpG.q 11 19 (undef) ?_
  refine wpG.q 12 20 (.bool true) ?_
  refine wpG.fin (by kernel_rfl) rfl (kr5 _ _ ?_)
  refine then_n (ks4 _ _ (wp_cond_t (by kernel_rfl) (xseq_k fun KS8 ks8 => (xregS [0] fun KR9 kr9 => ?_))))
  refine wpS.q 0 4 (.slice none 0 0) ?_
  refine wpS.fin rfl (kr9 _ _ (then_n (ks8 _ _ (xret (then_r ?_)))))
  have q0 := of_some h
  subst q0
  have hs := hs.addNilL (CI .u8) 5
  exact qq _ _ (post_ret (by kernel_rfl) (run_results [.tmp 4] [.slice none 0 0] (by kernel_rfl) (.cons (res_tmp (by kernel_rfl)) .nil)) ⟨⟨none, 0, 0⟩, congrArg Ending.returned (by kernel_rfl), (hs.drop (.cons_cons _ (.cons _ .slnil)))⟩)
 refine wpG.tD 4 false (some 12) (.bool false) (yld_b (df hc) (fun _ => by kernel_rfl)) ?_
 refine wpG.q 5 13 (.bool false) ?_
 refine wpG.q 6 14 (.bool false) ?_
 refine wpG.tD 7 true (some 15) (.agg (enc .i32 a0).toArray) (yld_loadW (e := 32) (n := 256) hs 0 rfl (by kernel_rfl) (by kernel_rfl) (by kernel_rfl) (by exact enc_len _ _) .grow) ?_
 refine wpG.q 8 16 (.int .i64 a1) ?_
 obtain ⟨r2, hg, h⟩ := of_bind h
 refine wpG.only 9 (by kernel_rfl) (op_call (d := (some 17)) (by kernel_rfl) hs (fun _ => by kernel_rfl) (kq_bound.ok hg _) ?_)
 intro w gw hs
 refine ⟨.of gw, ?_⟩
 obtain ⟨r3, hg, h⟩ := of_bind h
 cases r3 with
 | true =>
  have h := of_if_t h
  refine wpG.only 10 (by kernel_rfl) (op_call (d := (some 18)) (by kernel_rfl) hs (fun _ => by kernel_rfl) (kq_below.ok hg _) ?_)
  intro w gw hs
  refine ⟨.of gw, ?_⟩
  refine wpG.q 11 19 (.bool false) ?_
  refine wpG.q 12 20 (.bool false) ?_
  refine wpG.fin (by kernel_rfl) rfl (kr5 _ _ ?_)
  refine then_n (ks4 _ _ (wp_cond_f (by kernel_rfl) (xskip (then_n (ks3 _ _ (xseq_k fun KS10 ks10 => (xregS [0, 1] fun KR11 kr11 => ?_)))))))
  refine wpS.only 0 (op_makeT (C := (CI .u32)) (t := 68) (e := 70) (bytes := 4) (B := 35184372088832) (kl := .i64) (kc := .i64) (x := 256) (d := (some 21)) (by kernel_rfl) hs (by kernel_rfl) (by kernel_rfl) (by kernel_rfl) (by kernel_rfl) (by kernel_rfl) (by decide) (by decide) (by decide) (by decide) ?_)
  intro s4_A s4_n s4_c w gw hs
  refine ⟨fun _ => trivial, ?_⟩
  refine wpS.q 1 5 (.slice s4_A s4_n s4_c) ?_
  refine wpS.fin rfl (kr11 _ _ (then_n (ks10 _ _ (xseq_k fun KS12 ks12 => (xseq_k fun KS13 ks13 => (xregS [0, 1] fun KR14 kr14 => ?_))))))
  refine wpS.tk 0 true (some 22) (.agg (enc .i32 a0).toArray) (yld_loadW (e := 32) (n := 256) hs 1 rfl (by kernel_rfl) (by kernel_rfl) (by kernel_rfl) (by exact enc_len _ _) .grow) ?_
  refine wpS.q 1 23 (.int .i64 0) ?_
  refine wpS.fin rfl (kr14 _ _ (then_n (ks13 _ _ ?_)))
  obtain ⟨y7, hy, hk0⟩ := of_bind h
  refine wp_exq (N := fun a w => St w0 [] [.ownL (CI .u32) s4_A s4_n s4_c y7 70, .blk b1 (enc .i32 a0) 32] [] w ∧ ∃ g16 : Nat → Value, a = ⟨#[.agg (enc .i32 a0).toArray, .int .i64 a1, .pointer (some ⟨b1, 0, none⟩), undef, .slice none 0 0, .slice s4_A s4_n s4_c, (g16 6), (g16 7), .int .i64 a1, .bool false, .bool false, .int .i64 a1, .bool false, .bool false, .bool false, .agg (enc .i32 a0).toArray, .int .i64 a1, .int .i32 r2, .bool true, .bool false, .bool false, .slice s4_A s4_n s4_c, .agg (enc .i32 a0).toArray, (g16 23), (g16 24), (g16 25), (g16 26), (g16 27), (g16 28), (g16 29), (g16 30), (g16 31), (g16 32), undef, undef, undef], []⟩) (fun N0 nn0 => ?_) ?_
  ·clear hk0
   refine xblock ?_
   refine wp_loop_k (fun n a w => ∃ z5 z6, kq_Pack.l0 K n a0 z5 z6 = some y7 ∧ St w0 [] [.ownL (CI .u32) s4_A s4_n s4_c z6 70, .blk b1 (enc .i32 a0) 32] [] w ∧ ∃ g15 : Nat → Value, a = ⟨#[.agg (enc .i32 a0).toArray, .int .i64 a1, .pointer (some ⟨b1, 0, none⟩), undef, .slice none 0 0, .slice s4_A s4_n s4_c, (g15 6), (g15 7), .int .i64 a1, .bool false, .bool false, .int .i64 a1, .bool false, .bool false, .bool false, .agg (enc .i32 a0).toArray, .int .i64 a1, .int .i32 r2, .bool true, .bool false, .bool false, .slice s4_A s4_n s4_c, .agg (enc .i32 a0).toArray, .int .i64 z5, (g15 24), (g15 25), (g15 26), (g15 27), (g15 28), (g15 29), (g15 30), (g15 31), (g15 32), undef, undef, undef], []⟩) K ⟨0, (List.replicate (256 : Int).toNat (Cod.zero (CI .u32))), hy, hs.conv rfl, exg (by kernel_rfl)⟩ ?_
   clear hs h hy
   rintro n a w ⟨z5, z6, h, hs, g15, rfl⟩ KL0 kl0
   cases n with
   | zero => exact nomatch (show none = some _ from h)
   | succ n =>
    refine xseq_k fun KS17 ks17 => ?_
    refine xregS [0] fun KR18 kr18 => ?_
    rcases of_if h with ⟨hc, h⟩ | ⟨hc, h⟩
    ·refine wpS.tk 0 false (some 24) (.bool true) (yld_b (dt hc) (fun _ => by kernel_rfl)) ?_
     refine wpS.fin rfl (kr18 _ _ (then_n (ks17 _ _ (xseq_k fun KS19 ks19 => (wp_cond_t (by kernel_rfl) (xskip (then_n (ks19 _ _ (xseq_k fun KS20 ks20 => (xblock (xseq_k fun KS21 ks21 => (xregS [0, 1, 2, 3] fun KR22 kr22 => ?_))))))))))))
     refine wpS.q 0 25 (.int .i64 z5) ?_
     obtain ⟨h0, h⟩ := of_chk h
     obtain ⟨h1, h⟩ := of_chk h
     refine wpS.tk 1 false (some 26) (.int .i32 (rd a0 z5)) (yld_at (t := 32) (e := 21) (k' := .i64) (by kernel_rfl) (by kernel_rfl) (by kernel_rfl) (by kernel_rfl) h0 h1) ?_
     refine wpS.q 2 6 (.int .i64 z5) ?_
     obtain ⟨x8, hx, h⟩ := of_bind h
     refine wpS.tk 3 false (some 7) (.int .i32 x8) (yld_int hx (fun _ => by kernel_rfl)) ?_
     refine wpS.fin rfl (kr22 _ _ (then_n (ks21 _ _ (xregS [0, 1, 2, 3, 4, 5] fun KR23 kr23 => ?_))))
     refine wpS.qs [(0, 27, .slice s4_A s4_n s4_c), (1, 28, .int .i64 z5), (2, 29, .int .i32 x8), (3, 30, .int .u32 (iconv .u32 x8))] ?_
     obtain ⟨h0, h⟩ := of_chk h
     obtain ⟨h1, h⟩ := of_chk h
     have i0_24 := h0
     have i1_24 := h1
     refine wpS.tk 4 false (some 31) (.pointer (adr s4_A ((z5 : Int).toNat * Cod.size (CI .u32)))) (yld_idxL (C := (CI .u32)) (t := 68) (e := 70) (k := .i64) (x := z5) (hs.rowL 0 rfl) (by kernel_rfl) (by kernel_rfl) (by kernel_rfl) h0 h1) ?_
     obtain ⟨x9, hx, h⟩ := of_bind h
     refine wpS.only 5 (op_storeL (C := (CI .u32)) (t := 70) (x := z5) (v := x9) (d := none) (by kernel_rfl) hs 0 rfl (by cases hx; kernel_rfl) (by kernel_rfl) i0_24 i1_24 ?_)
     intro w hs
     refine ⟨fun _ => trivial, ?_⟩
     refine wpS.fin rfl (kr23 _ _ (inBlock_n (then_n (ks20 _ _ (xregS [0, 1] fun KR25 kr25 => ?_)))))
     refine wpS.qs [(0, 32, .int .i64 (iadd .i64 z5 1)), (1, 23, .int .i64 (iadd .i64 z5 1))] ?_
     refine wpS.fin rfl (kr25 _ _ ?_)
     exact then_n (kl0 _ _ ⟨n, Nat.lt_succ_self n, (iadd .i64 z5 1), (wrL z6 z5 x9), h, (hs.conv rfl), exg (by kernel_rfl)⟩)
    refine wpS.tk 0 false (some 24) (.bool false) (yld_b (df hc) (fun _ => by kernel_rfl)) ?_
    refine wpS.fin rfl (kr18 _ _ (then_n (ks17 _ _ (xseq_k fun KS26 ks26 => (wp_cond_f (by kernel_rfl) (xexit (then_x (then_x (inBlock_hit ?_)))))))))
    have q0 := of_some h
    subst q0
    exact exq_n (nn0 _ _ ⟨(hs.conv rfl), exg (by kernel_rfl)⟩)
  clear hs h hy
  rintro a w ⟨hs, g16, rfl⟩
  have h := hk0
  refine then_n (ks12 _ _ (xseq_k fun KS27 ks27 => (xregS [0, 1, 2, 3] fun KR28 kr28 => ?_)))
  refine wpS.qs [(0, 33, .slice s4_A s4_n s4_c), (1, 34, .int .i64 a1)] ?_
  obtain ⟨r10, hg, h⟩ := of_bind h
  refine wpS.only 2 (op_callH (d := (some 35)) (by kernel_rfl) hs (fun _ => by kernel_rfl) (bits_Pack.ok hg _ (hs.rowL 0 rfl)) ?_)
  rintro ⟨r10_A, r10_n, r10_c⟩ w gw hs
  have hs := hs.conv (L' := [.ownL (CI .u8) r10_A r10_n r10_c r10 5, .ownL (CI .u32) s4_A s4_n s4_c y7 70, .blk b1 (enc .i32 a0) 32]) rfl
  refine ⟨fun _ => trivial, ?_⟩
  refine wpS.q 3 4 (.slice r10_A r10_n r10_c) ?_
  refine wpS.fin rfl (kr28 _ _ (then_n (ks27 _ _ (xret ?_))))
  have q0 := of_some h
  subst q0
  exact qq _ _ (post_ret (by kernel_rfl) (run_results [.tmp 4] [.slice r10_A r10_n r10_c] (by kernel_rfl) (.cons (res_tmp (by kernel_rfl)) .nil)) ⟨⟨r10_A, r10_n, r10_c⟩, congrArg Ending.returned (by kernel_rfl), (hs.drop (.cons_cons _ (.cons _ (.cons _ .slnil))))⟩)
 | false =>
  have h := of_if_f h
  refine wpG.only 10 (by kernel_rfl) (op_call (d := (some 18)) (by kernel_rfl) hs (fun _ => by kernel_rfl) (kq_below.ok hg _) ?_)
  intro w gw hs
  refine ⟨.of gw, ?_⟩
  refine wpG.q 11 19 (.bool true) ?_
  refine wpG.q 12 20 (.bool true) ?_
  refine wpG.fin (by kernel_rfl) rfl (kr5 _ _ ?_)
  refine then_n (ks4 _ _ (wp_cond_t (by kernel_rfl) (xseq_k fun KS29 ks29 => (xregS [0] fun KR30 kr30 => ?_))))
  refine wpS.q 0 4 (.slice none 0 0) ?_
  refine wpS.fin rfl (kr30 _ _ (then_n (ks29 _ _ (xret (then_r ?_)))))
  have q0 := of_some h
  subst q0
  have hs := hs.addNilL (CI .u8) 5
  exact qq _ _ (post_ret (by kernel_rfl) (run_results [.tmp 4] [.slice none 0 0] (by kernel_rfl) (.cons (res_tmp (by kernel_rfl)) .nil)) ⟨⟨none, 0, 0⟩, congrArg Ending.returned (by kernel_rfl), (hs.drop (.cons_cons _ (.cons _ .slnil)))⟩)

theorem kpke_vector_packed.ok {K : Nat} {a0 : List (Arr 256)} {a1 : Int} {r0 : List Int} {a0_A : Option Addr} {a0_n : Nat} {a0_c : Nat} (h : kpke_vector_packed.f K a0 a1 = some r0) (w0 : World) (hp0 : RowL (CA .i32 256 (by decide)) w0 a0_A a0_n a0_c a0) : Calls Tryd.prog 48 #[.slice a0_A a0_n a0_c, .int .i64 a1] w0 fun e w' => ∃ h : (Option Addr × Nat × Nat), e = .returned (.slice h.1 h.2.1 h.2.2) ∧ St w0 [] [.ownL (CI .u8) h.1 h.2.1 h.2.2 r0 5] [] w' := by
 refine calls_k Tryd.func48 rfl fun Q qq => ?_
 have hs := St.startR (all_cons (RowP.ent hp0) all_nil)
 refine wp_conv (a' := ⟨#[.slice a0_A a0_n a0_c, .int .i64 a1, undef, undef, undef, undef, undef, undef, undef, undef, undef, undef, undef, undef, undef, undef, undef, undef, undef, undef, undef], []⟩) (by kernel_rfl) ?_
 refine xseq_k fun KS1 ks1 => ?_
 refine xregS [0] fun KR2 kr2 => ?_
 refine wpS.q 0 4 (.slice none 0 0) ?_
 refine wpS.fin rfl (kr2 _ _ (then_n (ks1 _ _ (xseq_k fun KS3 ks3 => (xregS [0] fun KR4 kr4 => ?_)))))
 refine wpS.q 0 5 (.slice none 0 0) ?_
 refine wpS.fin rfl (kr4 _ _ (then_n (ks3 _ _ (xseq_k fun KS5 ks5 => (xseq_k fun KS6 ks6 => (xregS [0, 1, 2] fun KR7 kr7 => ?_))))))
 refine wpS.q 0 8 (.slice a0_A a0_n a0_c) ?_
 refine wpS.tk 1 false (some 9) (.int .i64 (a0.length : Int)) (yld_lenL (hs.rowR 0 rfl) (fun _ => by kernel_rfl)) ?_
 refine wpS.q 2 10 (.int .i64 0) ?_
 refine wpS.fin rfl (kr7 _ _ (then_n (ks6 _ _ ?_)))
 have hs := hs.addNilL (CI .u8) 5
 obtain ⟨y3, hy, hk0⟩ := of_bind h
 refine wp_exq (N := fun a w => ∃ (y3_A : Option Addr) (y3_n : Nat) (y3_c : Nat), St w0 [] [.ownL (CI .u8) y3_A y3_n y3_c y3 5] [.rowL (CA .i32 256 (by decide)) a0_A a0_n a0_c a0] w ∧ ∃ g9 : Nat → Value, a = ⟨#[.slice a0_A a0_n a0_c, .int .i64 a1, undef, undef, .slice none 0 0, .slice y3_A y3_n y3_c, undef, (g9 7), .slice a0_A a0_n a0_c, .int .i64 (a0.length : Int), (g9 10), (g9 11), (g9 12), (g9 13), (g9 14), (g9 15), (g9 16), (g9 17), (g9 18), (g9 19), undef], []⟩) (fun N0 nn0 => ?_) ?_
 ·clear hk0
  refine xblock ?_
  refine wp_loop_k (fun n a w => ∃ z1 z2, ∃ (z2_A : Option Addr) (z2_n : Nat) (z2_c : Nat), kpke_vector_packed.l0 K n a0 a1 z1 z2 = some y3 ∧ St w0 [] [.ownL (CI .u8) z2_A z2_n z2_c z2 5] [.rowL (CA .i32 256 (by decide)) a0_A a0_n a0_c a0] w ∧ ∃ g8 : Nat → Value, a = ⟨#[.slice a0_A a0_n a0_c, .int .i64 a1, undef, undef, .slice none 0 0, .slice z2_A z2_n z2_c, undef, (g8 7), .slice a0_A a0_n a0_c, .int .i64 (a0.length : Int), .int .i64 z1, (g8 11), (g8 12), (g8 13), (g8 14), (g8 15), (g8 16), (g8 17), (g8 18), (g8 19), undef], []⟩) K ⟨0, ([] : List Int), none, 0, 0, hy, hs.conv rfl, exg (by kernel_rfl)⟩ ?_
  clear hs h hy
  rintro n a w ⟨z1, z2, z2_A, z2_n, z2_c, h, hs, g8, rfl⟩ KL0 kl0
  cases n with
  | zero => exact nomatch (show none = some _ from h)
  | succ n =>
   refine xseq_k fun KS10 ks10 => ?_
   refine xregS [0] fun KR11 kr11 => ?_
   rcases of_if h with ⟨hc, h⟩ | ⟨hc, h⟩
   ·refine wpS.tk 0 false (some 11) (.bool true) (yld_b (dt hc) (fun _ => by kernel_rfl)) ?_
    refine wpS.fin rfl (kr11 _ _ (then_n (ks10 _ _ (xseq_k fun KS12 ks12 => (wp_cond_t (by kernel_rfl) (xskip (then_n (ks12 _ _ (xseq_k fun KS13 ks13 => (xblock (xseq_k fun KS14 ks14 => (xregS [0, 1, 2, 3] fun KR15 kr15 => ?_))))))))))))
    obtain ⟨h0, h⟩ := of_chk h
    obtain ⟨h1, h⟩ := of_chk h
    have i0_16 := h0
    have i1_16 := h1
    refine wpS.tk 0 false (some 12) (.pointer (adr a0_A ((z1 : Int).toNat * Cod.size (CA .i32 256 (by decide))))) (yld_idxL (C := (CA .i32 256 (by decide))) (t := 78) (e := 32) (k := .i64) (x := z1) (hs.rowR 0 rfl) (by kernel_rfl) (by kernel_rfl) (by kernel_rfl) h0 h1) ?_
    refine wpS.tk 1 true (some 13) (.agg (enc .i32 (rdL (CA .i32 256 (by decide)) a0 z1)).toArray) (yld_loadLA (C := (CA .i32 256 (by decide))) (e := 32) (x := z1) (hs.rowR 0 rfl) (by kernel_rfl) rfl (by kernel_rfl) (by kernel_rfl) i0_16 i1_16) ?_
    refine wpS.only 2 (op_alloc (t := 32) (d := (some 7)) (by kernel_rfl) hs (enc .i32 (zeroA 256)) (.agg (enc .i32 (zeroA 256)).toArray) (by kernel_rfl) (by kernel_rfl) (by kernel_rfl) ?_)
    intro b4 w gw hs
    refine ⟨fun _ => trivial, ?_⟩
    refine wpS.only 3 (op_storeW (t := 32) (v := .agg (enc .i32 (rdL (CA .i32 256 (by decide)) a0 z1)).toArray) (d := none) (by kernel_rfl) hs 0 rfl (vs := enc .i32 (rdL (CA .i32 256 (by decide)) a0 z1)) (n := 256) (by kernel_rfl) (by kernel_rfl) (by kernel_rfl) (by simp [enc_len]) (by simp [enc_len]) (by intro u hu; exact enc_one _ _ u hu) ?_)
    intro w kp hs
    refine ⟨fun _ => trivial, ?_⟩
    refine wpS.fin rfl (kr15 _ _ (then_n (ks14 _ _ (xregS [0, 1, 2, 3, 4, 5] fun KR17 kr17 => ?_))))
    refine wpS.q 0 14 (.slice z2_A z2_n z2_c) ?_
    refine wpS.tk 1 true (some 15) (.agg (enc .i32 (rdL (CA .i32 256 (by decide)) a0 z1)).toArray) (yld_loadW (e := 32) (n := 256) hs 0 rfl (by kernel_rfl) (by kernel_rfl) (by kernel_rfl) (by exact enc_len _ _) .grow) ?_
    refine wpS.q 2 16 (.int .i64 a1) ?_
    obtain ⟨r5, hg, h⟩ := of_bind h
    refine wpS.only 3 (op_callH (d := (some 17)) (by kernel_rfl) hs (fun _ => by kernel_rfl) (kq_Pack.ok hg _) ?_)
    rintro ⟨r5_A, r5_n, r5_c⟩ w gw hs
    have hs := hs.conv (L' := [.ownL (CI .u8) r5_A r5_n r5_c r5 5, .blk b4 (enc .i32 (rdL (CA .i32 256 (by decide)) a0 z1)) 32, .ownL (CI .u8) z2_A z2_n z2_c z2 5]) rfl
    refine ⟨fun _ => trivial, ?_⟩
    obtain ⟨h0, h⟩ := of_chk h
    refine wpS.only 4 (op_appendT (C := (CI .u8)) (t := 24) (ty := 24) (e := 5) (bytes := 1) (B := 140737488355328) (d := (some 18)) (by kernel_rfl) hs 2 rfl (hs.rowL 0 rfl) (by kernel_rfl) (by kernel_rfl) (by kernel_rfl) (by kernel_rfl) (by kernel_rfl) h0 (by decide) (by decide) ?_)
    intro s6_A s6_n s6_c w hs
    refine ⟨fun _ => trivial, ?_⟩
    refine wpS.q 5 5 (.slice s6_A s6_n s6_c) ?_
    refine wpS.fin rfl (kr17 _ _ (inBlock_n (then_n (ks13 _ _ (xregS [0, 1] fun KR18 kr18 => ?_)))))
    refine wpS.qs [(0, 19, .int .i64 (iadd .i64 z1 1)), (1, 10, .int .i64 (iadd .i64 z1 1))] ?_
    refine wpS.fin rfl (kr18 _ _ ?_)
    exact then_n (kl0 _ _ ⟨n, Nat.lt_succ_self n, (iadd .i64 z1 1), (z2 ++ r5), s6_A, s6_n, s6_c, h, (hs.drop (.cons _ (.cons _ (.cons_cons _ .slnil)))), exg (by kernel_rfl)⟩)
   refine wpS.tk 0 false (some 11) (.bool false) (yld_b (df hc) (fun _ => by kernel_rfl)) ?_
   refine wpS.fin rfl (kr11 _ _ (then_n (ks10 _ _ (xseq_k fun KS19 ks19 => (wp_cond_f (by kernel_rfl) (xexit (then_x (then_x (inBlock_hit ?_)))))))))
   have q0 := of_some h
   subst q0
   exact exq_n (nn0 _ _ ⟨z2_A, z2_n, z2_c, (hs.conv rfl), exg (by kernel_rfl)⟩)
 clear hs h hy
 rintro a w ⟨y3_A, y3_n, y3_c, hs, g9, rfl⟩
 have h := hk0
 refine then_n (ks5 _ _ (xseq_k fun KS20 ks20 => (xregS [0, 1] fun KR21 kr21 => ?_)))
 refine wpS.qs [(0, 20, .slice y3_A y3_n y3_c), (1, 4, .slice y3_A y3_n y3_c)] ?_
 refine wpS.fin rfl (kr21 _ _ (then_n (ks20 _ _ (xret ?_))))
 have q0 := of_some h
 subst q0
 exact qq _ _ (post_ret (by kernel_rfl) (run_results [.tmp 4] [.slice y3_A y3_n y3_c] (by kernel_rfl) (.cons (res_tmp (by kernel_rfl)) .nil)) ⟨⟨y3_A, y3_n, y3_c⟩, congrArg Ending.returned (by kernel_rfl), (hs.pickR pick_nil)⟩)

theorem kq_Unpack.ok {K : Nat} {a0 : List Int} {a1 : Int} {r0 : Arr 256} {r1 : Bool} {a0_A : Option Addr} {a0_n : Nat} {a0_c : Nat} (h : kq_Unpack.f K a0 a1 = some (r0, r1)) (w0 : World) (hp0 : RowL (CI .u8) w0 a0_A a0_n a0_c a0) : Ret Tryd.prog 65 #[.slice a0_A a0_n a0_c, .int .i64 a1] w0 (.tuple #[.agg (enc .i32 r0).toArray, .bool r1]) := by
 refine calls_k Tryd.func65 rfl fun Q qq => ?_
 have hs := St.startR (all_cons (RowP.ent hp0) all_nil)
 refine wp_conv (a' := ⟨#[.slice a0_A a0_n a0_c, .int .i64 a1, undef, undef, undef, undef, undef, undef, undef, undef, undef, undef, undef, undef, undef, undef, undef, undef, undef, undef, undef, undef, undef, undef, undef, undef, undef, undef, undef, undef, undef, undef, undef, undef, undef, undef, undef, undef, undef, undef, undef, undef, undef, undef], []⟩) (by kernel_rfl) ?_
 refine xseq_k fun KS1 ks1 => ?_
 refine xregS [0, 1] fun KR2 kr2 => ?_
 refine wpS.only 0 (op_alloc (t := 32) (d := (some 4)) (by kernel_rfl) hs (enc .i32 (zeroA 256)) (.agg (enc .i32 (zeroA 256)).toArray) (by kernel_rfl) (by kernel_rfl) (by kernel_rfl) ?_)
 intro b1 w gw hs
 refine ⟨fun _ => trivial, ?_⟩
 refine wpS.q 1 5 (.bool false) ?_
 refine wpS.fin rfl (kr2 _ _ (then_n (ks1 _ _ (xseq_k fun KS3 ks3 => (xseq_k fun KS4 ks4 => (xregS [0, 1, 2, 3, 4, 5, 6, 7, 8, 9, 10, 11, 12] fun KR5 kr5 => ?_))))))
 refine wpS.q 0 9 (.int .i64 a1) ?_
 rcases of_if h with ⟨hc, h⟩ | ⟨hc, h⟩
 ·refine wpS.tk 1 false (some 10) (.bool true) (yld_b (dt hc) (fun _ => by kernel_rfl)) ?_
  refine wpS.qs [(2, 11, .bool true), (3, 12, undef), (4, 13, undef), (5, 14, .bool true), (6, 15, .bool true), (7, 16, undef), (8, 17, undef), (9, 18, undef), (10, 19, undef), (11, 20, undef), (12, 21, .bool true)] ?_
  refine wpS.fin rfl (kr5 _ _ (then_n (ks4 _ _ (wp_cond_t (by kernel_rfl) (xseq_k fun KS6 ks6 => (xregS [0, 1, 2] fun KR7 kr7 => ?_))))))
  refine wpS.q 0 22 (.agg (enc .i32 (zeroA 256)).toArray) ?_
  refine wpS.only 1 (op_storeW (t := 32) (v := .agg (enc .i32 (zeroA 256)).toArray) (d := none) (by kernel_rfl) hs 0 rfl (vs := enc .i32 (zeroA 256)) (n := 256) (by kernel_rfl) (by kernel_rfl) (by kernel_rfl) (by simp [enc_len]) (by simp [enc_len]) (by intro u hu; exact enc_one _ _ u hu) ?_)
  intro w kp hs
  refine ⟨fun _ => trivial, ?_⟩
  refine wpS.q 2 5 (.bool false) ?_
  refine wpS.fin rfl (kr7 _ _ (then_n (ks6 _ _ (xret (then_r ?_)))))
  obtain ⟨q0, qr0⟩ := Prod.mk.inj (of_some h)
  have q1 := qr0
  subst q0
  subst q1
  exact qq _ _ (post_ret (by kernel_rfl) (run_results [.cell 4 32, .tmp 5] [.agg (enc .i32 (zeroA 256)).toArray, .bool false] (by kernel_rfl) (.cons (res_cellN (n := 256) hs 0 rfl (by kernel_rfl) (by kernel_rfl) (by kernel_rfl) (by exact enc_len _ _)) (.cons (res_tmp (by kernel_rfl)) .nil))) ⟨congrArg Ending.returned (by kernel_rfl), hs.none⟩)
 refine wpS.tk 1 false (some 10) (.bool false) (yld_b (df hc) (fun _ => by kernel_rfl)) ?_
 refine wpS.qs [(2, 11, .bool false), (3, 12, .int .i64 a1)] ?_
 rcases of_if h with ⟨hc, h⟩ | ⟨hc, h⟩
 ·refine wpS.tk 4 false (some 13) (.bool true) (yld_b (dt hc) (fun _ => by kernel_rfl)) ?_
  refine wpS.qs [(5, 14, .bool true), (6, 15, .bool true), (7, 16, undef), (8, 17, undef), (9, 18, undef), (10, 19, undef), (11, 20, undef), (12, 21, .bool true)] ?_
  refine wpS.fin rfl (kr5 _ _ (then_n (ks4 _ _ (wp_cond_t (by kernel_rfl) (xseq_k fun KS8 ks8 => (xregS [0, 1, 2] fun KR9 kr9 => ?_))))))
  refine wpS.q 0 22 (.agg (enc .i32 (zeroA 256)).toArray) ?_
  refine wpS.only 1 (op_storeW (t := 32) (v := .agg (enc .i32 (zeroA 256)).toArray) (d := none) (by kernel_rfl) hs 0 rfl (vs := enc .i32 (zeroA 256)) (n := 256) (by kernel_rfl) (by kernel_rfl) (by kernel_rfl) (by simp [enc_len]) (by simp [enc_len]) (by intro u hu; exact enc_one _ _ u hu) ?_)
  intro w kp hs
  refine ⟨fun _ => trivial, ?_⟩
  refine wpS.q 2 5 (.bool false) ?_
  refine wpS.fin rfl (kr9 _ _ (then_n (ks8 _ _ (xret (then_r ?_)))))
  obtain ⟨q0, qr0⟩ := Prod.mk.inj (of_some h)
  have q1 := qr0
  subst q0
  subst q1
  exact qq _ _ (post_ret (by kernel_rfl) (run_results [.cell 4 32, .tmp 5] [.agg (enc .i32 (zeroA 256)).toArray, .bool false] (by kernel_rfl) (.cons (res_cellN (n := 256) hs 0 rfl (by kernel_rfl) (by kernel_rfl) (by kernel_rfl) (by exact enc_len _ _)) (.cons (res_tmp (by kernel_rfl)) .nil))) ⟨congrArg Ending.returned (by kernel_rfl), hs.none⟩)
 refine wpS.tk 4 false (some 13) (.bool false) (yld_b (df hc) (fun _ => by kernel_rfl)) ?_
 refine wpS.qs [(5, 14, .bool false), (6, 15, .bool false), (7, 16, .slice a0_A a0_n a0_c)] ?_
 refine wpS.tk 8 false (some 17) (.int .i64 (a0.length : Int)) (yld_lenL (hs.rowR 0 rfl) (fun _ => by kernel_rfl)) ?_
 refine wpS.qs [(9, 18, .int .i64 a1), (10, 19, .int .i64 (imul .i64 32 a1))] ?_
 rcases of_if h with ⟨hc, h⟩ | ⟨hc, h⟩
 ·refine wpS.tk 11 false (some 20) (.bool false) (yld_b (nf hc) (fun _ => by kernel_rfl)) ?_
  refine wpS.q 12 21 (.bool false) ?_
  refine wpS.fin rfl (kr5 _ _ (then_n (ks4 _ _ (wp_cond_f (by kernel_rfl) (xskip (then_n (ks3 _ _ (xseq_k fun KS10 ks10 => (xregS [0] fun KR11 kr11 => ?_)))))))))
  refine wpS.only 0 (op_alloc (t := 32) (d := (some 6)) (by kernel_rfl) hs (enc .i32 (zeroA 256)) (.agg (enc .i32 (zeroA 256)).toArray) (by kernel_rfl) (by kernel_rfl) (by kernel_rfl) ?_)
  intro b2 w gw hs
  refine ⟨fun _ => trivial, ?_⟩
  refine wpS.fin rfl (kr11 _ _ (then_n (ks10 _ _ (xseq_k fun KS12 ks12 => (xseq_k fun KS13 ks13 => (xregS [0, 1, 2, 3, 4] fun KR14 kr14 => ?_))))))
  refine wpS.qs [(0, 23, .slice a0_A a0_n a0_c), (1, 24, .int .i64 a1)] ?_
  obtain ⟨r3, hg, h⟩ := of_bind h
  refine wpS.only 2 (op_callH (d := (some 25)) (by kernel_rfl) hs (fun _ => by kernel_rfl) (bits_Unpack.ok hg _ (hs.rowR 0 rfl)) ?_)
  rintro ⟨r3_A, r3_n, r3_c⟩ w gw hs
  have hs := hs.conv (L' := [.ownL (CI .u32) r3_A r3_n r3_c r3 70, .blk b2 (enc .i32 (zeroA 256)) 32, .blk b1 (enc .i32 (zeroA 256)) 32]) rfl
  refine ⟨fun _ => trivial, ?_⟩
  refine wpS.tk 3 false (some 26) (.int .i64 (r3.length : Int)) (yld_lenL (hs.rowL 0 rfl) (fun _ => by kernel_rfl)) ?_
  refine wpS.q 4 27 (.int .i64 0) ?_
  refine wpS.fin rfl (kr14 _ _ (then_n (ks13 _ _ ?_)))
  obtain ⟨y6, hy, hk0⟩ := of_bind h
  refine wp_exq (N := fun a w => St w0 [] [.ownL (CI .u32) r3_A r3_n r3_c r3 70, .blk b2 (enc .i32 y6) 32, .blk b1 (enc .i32 (zeroA 256)) 32] [.rowL (CI .u8) a0_A a0_n a0_c a0] w ∧ ∃ g16 : Nat → Value, a = ⟨#[.slice a0_A a0_n a0_c, .int .i64 a1, undef, undef, .pointer (some ⟨b1, 0, none⟩), .bool false, .pointer (some ⟨b2, 0, none⟩), (g16 7), (g16 8), .int .i64 a1, .bool false, .bool false, .int .i64 a1, .bool false, .bool false, .bool false, .slice a0_A a0_n a0_c, .int .i64 (a0.length : Int), .int .i64 a1, .int .i64 (imul .i64 32 a1), .bool false, .bool false, undef, .slice a0_A a0_n a0_c, .int .i64 a1, .slice r3_A r3_n r3_c, .int .i64 (r3.length : Int), (g16 27), (g16 28), (g16 29), (g16 30), (g16 31), (g16 32), (g16 33), (g16 34), (g16 35), (g16 36), undef, undef, undef, undef, undef, undef, undef], []⟩) (fun N0 nn0 => ?_) ?_
  ·clear hk0
   refine xblock ?_
   refine wp_loop_k (fun n a w => ∃ z4 z5, kq_Unpack.l0 K n r3 z4 z5 = some y6 ∧ St w0 [] [.ownL (CI .u32) r3_A r3_n r3_c r3 70, .blk b2 (enc .i32 z5) 32, .blk b1 (enc .i32 (zeroA 256)) 32] [.rowL (CI .u8) a0_A a0_n a0_c a0] w ∧ ∃ g15 : Nat → Value, a = ⟨#[.slice a0_A a0_n a0_c, .int .i64 a1, undef, undef, .pointer (some ⟨b1, 0, none⟩), .bool false, .pointer (some ⟨b2, 0, none⟩), (g15 7), (g15 8), .int .i64 a1, .bool false, .bool false, .int .i64 a1, .bool false, .bool false, .bool false, .slice a0_A a0_n a0_c, .int .i64 (a0.length : Int), .int .i64 a1, .int .i64 (imul .i64 32 a1), .bool false, .bool false, undef, .slice a0_A a0_n a0_c, .int .i64 a1, .slice r3_A r3_n r3_c, .int .i64 (r3.length : Int), .int .i64 z4, (g15 28), (g15 29), (g15 30), (g15 31), (g15 32), (g15 33), (g15 34), (g15 35), (g15 36), undef, undef, undef, undef, undef, undef, undef], []⟩) K ⟨0, (zeroA 256), hy, hs.conv rfl, exg (by kernel_rfl)⟩ ?_
   clear hs h hy
   rintro n a w ⟨z4, z5, h, hs, g15, rfl⟩ KL0 kl0
   cases n with
   | zero => exact nomatch (show none = some _ from h)
   | succ n =>
    refine xseq_k fun KS17 ks17 => ?_
    refine xregS [0] fun KR18 kr18 => ?_
    rcases of_if h with ⟨hc, h⟩ | ⟨hc, h⟩
    ·refine wpS.tk 0 false (some 28) (.bool true) (yld_b (dt hc) (fun _ => by kernel_rfl)) ?_
     refine wpS.fin rfl (kr18 _ _ (then_n (ks17 _ _ (xseq_k fun KS19 ks19 => (wp_cond_t (by kernel_rfl) (xskip (then_n (ks19 _ _ (xseq_k fun KS20 ks20 => (xblock (xseq_k fun KS21 ks21 => (xregS [0, 1, 2, 3, 4] fun KR22 kr22 => ?_))))))))))))
     refine wpS.q 0 29 (.int .i64 z4) ?_
     obtain ⟨h0, h⟩ := of_chk h
     obtain ⟨h1, h⟩ := of_chk h
     have i0_23 := h0
     have i1_23 := h1
     refine wpS.tk 1 false (some 30) (.pointer (adr r3_A ((z4 : Int).toNat * Cod.size (CI .u32)))) (yld_idxL (C := (CI .u32)) (t := 68) (e := 70) (k := .i64) (x := z4) (hs.rowL 0 rfl) (by kernel_rfl) (by kernel_rfl) (by kernel_rfl) h0 h1) ?_
     refine wpS.tk 2 true (some 31) (.int .u32 (rdL (CI .u32) r3 z4)) (yld_loadL (C := (CI .u32)) (e := 70) (x := z4) (hs.rowL 0 rfl) (by kernel_rfl) rfl (by kernel_rfl) i0_23 i1_23) ?_
     refine wpS.q 3 7 (.int .i64 z4) ?_
     obtain ⟨x7, hx, h⟩ := of_bind h
     refine wpS.tk 4 false (some 8) (.int .u32 x7) (yld_int hx (fun _ => by kernel_rfl)) ?_
     refine wpS.fin rfl (kr22 _ _ (then_n (ks21 _ _ (xregS [0, 1, 2, 3, 4] fun KR24 kr24 => ?_))))
     refine wpS.qs [(0, 32, .int .i64 z4), (1, 33, .int .u32 x7), (2, 34, .int .i32 (iconv .i32 x7))] ?_
     obtain ⟨i0_25, h⟩ := of_chk h
     obtain ⟨i1_25, h⟩ := of_chk h
     refine wpS.tk 3 false (some 35) (.pointer (some ⟨b2, 0 + (z4 : Int).toNat * 1, none⟩)) (yld_idx (t := 32) (e := 21) (n := 256) (sz := 1) (k := .i64) (x := z4) (by kernel_rfl) (by kernel_rfl) (by kernel_rfl) i0_25 i1_25) ?_
     obtain ⟨x8, hx, h⟩ := of_bind h
     refine wpS.only 4 (op_storeA (t := 21) (x := z4) (v := x8) (d := none) (by kernel_rfl) hs 1 rfl (by cases hx; kernel_rfl) (by kernel_rfl) i0_25 i1_25 ?_)
     intro w kp hs
     refine ⟨fun _ => trivial, ?_⟩
     refine wpS.fin rfl (kr24 _ _ (inBlock_n (then_n (ks20 _ _ (xregS [0, 1] fun KR26 kr26 => ?_)))))
     refine wpS.qs [(0, 36, .int .i64 (iadd .i64 z4 1)), (1, 27, .int .i64 (iadd .i64 z4 1))] ?_
     refine wpS.fin rfl (kr26 _ _ ?_)
     exact then_n (kl0 _ _ ⟨n, Nat.lt_succ_self n, (iadd .i64 z4 1), (wr z5 z4 x8), h, (hs.conv rfl), exg (by kernel_rfl)⟩)
    refine wpS.tk 0 false (some 28) (.bool false) (yld_b (df hc) (fun _ => by kernel_rfl)) ?_
    refine wpS.fin rfl (kr18 _ _ (then_n (ks17 _ _ (xseq_k fun KS27 ks27 => (wp_cond_f (by kernel_rfl) (xexit (then_x (then_x (inBlock_hit ?_)))))))))
    have q0 := of_some h
    subst q0
    exact exq_n (nn0 _ _ ⟨(hs.conv rfl), exg (by kernel_rfl)⟩)
  clear hs h hy
  rintro a w ⟨hs, g16, rfl⟩
  have h := hk0
  refine then_n (ks12 _ _ (xseq_k fun KS28 ks28 => (xseq_k fun KS29 ks29 => ?_)))
  refine wp_regG [] (fun k => True) 5 (by kernel_rfl) (by kernel_rfl) (by kernel_rfl) fun KR30 kr30 => ?_
  have hs := hs.drawn1
  refine wpG.tD 0 true (some 37) (.agg (enc .i32 y6).toArray) (yld_loadW (e := 32) (n := 256) hs 1 rfl (by kernel_rfl) (by kernel_rfl) (by kernel_rfl) (by exact enc_len _ _) .grow) ?_
  refine wpG.q 1 38 (.int .i64 a1) ?_
  obtain ⟨r9, hg, h⟩ := of_bind h
  refine wpG.only 2 (by kernel_rfl) (op_call (d := (some 39)) (by kernel_rfl) hs (fun _ => by kernel_rfl) (kq_bound.ok hg _) ?_)
  intro w gw hs
  refine ⟨.of gw, ?_⟩
  obtain ⟨r10, hg, h⟩ := of_bind h
  cases r10 with
  | true =>
   have h := of_if_t h
   refine wpG.only 3 (by kernel_rfl) (op_call (d := (some 40)) (by kernel_rfl) hs (fun _ => by kernel_rfl) (kq_below.ok hg _) ?_)
   intro w gw hs
   refine ⟨.of gw, ?_⟩
   refine wpG.q 4 41 (.bool false) ?_
   refine wpG.fin (by kernel_rfl) rfl (kr30 _ _ ?_)
   refine then_n (ks29 _ _ (wp_cond_f (by kernel_rfl) (xskip (then_n (ks28 _ _ (xseq_k fun KS31 ks31 => (xregS [0, 1, 2] fun KR32 kr32 => ?_)))))))
   refine wpS.tk 0 true (some 43) (.agg (enc .i32 y6).toArray) (yld_loadW (e := 32) (n := 256) hs 1 rfl (by kernel_rfl) (by kernel_rfl) (by kernel_rfl) (by exact enc_len _ _) .grow) ?_
   refine wpS.only 1 (op_storeW (t := 32) (v := .agg (enc .i32 y6).toArray) (d := none) (by kernel_rfl) hs 2 rfl (vs := enc .i32 y6) (n := 256) (by kernel_rfl) (by kernel_rfl) (by kernel_rfl) (by simp [enc_len]) (by simp [enc_len]) (by intro u hu; exact enc_one _ _ u hu) ?_)
   intro w kp hs
   refine ⟨fun _ => trivial, ?_⟩
   refine wpS.q 2 5 (.bool true) ?_
   refine wpS.fin rfl (kr32 _ _ (then_n (ks31 _ _ (xret ?_))))
   obtain ⟨q0, qr0⟩ := Prod.mk.inj (of_some h)
   have q1 := qr0
   subst q0
   subst q1
   exact qq _ _ (post_ret (by kernel_rfl) (run_results [.cell 4 32, .tmp 5] [.agg (enc .i32 y6).toArray, .bool true] (by kernel_rfl) (.cons (res_cellN (n := 256) hs 2 rfl (by kernel_rfl) (by kernel_rfl) (by kernel_rfl) (by exact enc_len _ _)) (.cons (res_tmp (by kernel_rfl)) .nil))) ⟨congrArg Ending.returned (by kernel_rfl), hs.none⟩)
  | false =>
   have h := of_if_f h
   refine wpG.only 3 (by kernel_rfl) (op_call (d := (some 40)) (by kernel_rfl) hs (fun _ => by kernel_rfl) (kq_below.ok hg _) ?_)
   intro w gw hs
   refine ⟨.of gw, ?_⟩
   refine wpG.q 4 41 (.bool true) ?_
   refine wpG.fin (by kernel_rfl) rfl (kr30 _ _ ?_)
   refine then_n (ks29 _ _ (wp_cond_t (by kernel_rfl) (xseq_k fun KS33 ks33 => (xregS [0, 1, 2] fun KR34 kr34 => ?_))))
   refine wpS.q 0 42 (.agg (enc .i32 (zeroA 256)).toArray) ?_
   refine wpS.only 1 (op_storeW (t := 32) (v := .agg (enc .i32 (zeroA 256)).toArray) (d := none) (by kernel_rfl) hs 2 rfl (vs := enc .i32 (zeroA 256)) (n := 256) (by kernel_rfl) (by kernel_rfl) (by kernel_rfl) (by simp [enc_len]) (by simp [enc_len]) (by intro u hu; exact enc_one _ _ u hu) ?_)
   intro w kp hs
   refine ⟨fun _ => trivial, ?_⟩
   refine wpS.q 2 5 (.bool false) ?_
   refine wpS.fin rfl (kr34 _ _ (then_n (ks33 _ _ (xret (then_r ?_)))))
   obtain ⟨q0, qr0⟩ := Prod.mk.inj (of_some h)
   have q1 := qr0
   subst q0
   subst q1
   exact qq _ _ (post_ret (by kernel_rfl) (run_results [.cell 4 32, .tmp 5] [.agg (enc .i32 (zeroA 256)).toArray, .bool false] (by kernel_rfl) (.cons (res_cellN (n := 256) hs 2 rfl (by kernel_rfl) (by kernel_rfl) (by kernel_rfl) (by exact enc_len _ _)) (.cons (res_tmp (by kernel_rfl)) .nil))) ⟨congrArg Ending.returned (by kernel_rfl), hs.none⟩)
 refine wpS.tk 11 false (some 20) (.bool true) (yld_b (nt hc) (fun _ => by kernel_rfl)) ?_
 refine wpS.q 12 21 (.bool true) ?_
 refine wpS.fin rfl (kr5 _ _ (then_n (ks4 _ _ (wp_cond_t (by kernel_rfl) (xseq_k fun KS35 ks35 => (xregS [0, 1, 2] fun KR36 kr36 => ?_))))))
 refine wpS.q 0 22 (.agg (enc .i32 (zeroA 256)).toArray) ?_
 refine wpS.only 1 (op_storeW (t := 32) (v := .agg (enc .i32 (zeroA 256)).toArray) (d := none) (by kernel_rfl) hs 0 rfl (vs := enc .i32 (zeroA 256)) (n := 256) (by kernel_rfl) (by kernel_rfl) (by kernel_rfl) (by simp [enc_len]) (by simp [enc_len]) (by intro u hu; exact enc_one _ _ u hu) ?_)
 intro w kp hs
 refine ⟨fun _ => trivial, ?_⟩
 refine wpS.q 2 5 (.bool false) ?_
 refine wpS.fin rfl (kr36 _ _ (then_n (ks35 _ _ (xret (then_r ?_)))))
 obtain ⟨q0, qr0⟩ := Prod.mk.inj (of_some h)
 have q1 := qr0
 subst q0
 subst q1
 exact qq _ _ (post_ret (by kernel_rfl) (run_results [.cell 4 32, .tmp 5] [.agg (enc .i32 (zeroA 256)).toArray, .bool false] (by kernel_rfl) (.cons (res_cellN (n := 256) hs 0 rfl (by kernel_rfl) (by kernel_rfl) (by kernel_rfl) (by exact enc_len _ _)) (.cons (res_tmp (by kernel_rfl)) .nil))) ⟨congrArg Ending.returned (by kernel_rfl), hs.none⟩)

theorem kpke_read.ok {K : Nat} {a0 : List Int} {a1 : Int} {a2 : Int} {r0 : List (Arr 256)} {r1 : Bool} {a0_A : Option Addr} {a0_n : Nat} {a0_c : Nat} (h : kpke_read.f K a0 a1 a2 = some (r0, r1)) (w0 : World) (hp0 : RowL (CI .u8) w0 a0_A a0_n a0_c a0) : Calls Tryd.prog 55 #[.slice a0_A a0_n a0_c, .int .i64 a1, .int .i64 a2] w0 fun e w' => ∃ h : (Option Addr × Nat × Nat), e = .returned (.tuple #[.slice h.1 h.2.1 h.2.2, .bool r1]) ∧ St w0 [] [.ownL (CA .i32 256 (by decide)) h.1 h.2.1 h.2.2 r0 32] [] w' := by
 refine calls_k Tryd.func55 rfl fun Q qq => ?_
 have hs := St.startR (all_cons (RowP.ent hp0) all_nil)
 refine wp_conv (a' := ⟨#[.slice a0_A a0_n a0_c, .int .i64 a1, .int .i64 a2, undef, undef, undef, undef, undef, undef, undef, undef, undef, undef, undef, undef, undef, undef, undef, undef, undef, undef, undef, undef, undef, undef, undef, undef, undef, undef, undef, undef, undef, undef, undef, undef, undef, undef, undef, undef, undef, undef, undef, undef, undef], []⟩) (by kernel_rfl) ?_
 refine xseq_k fun KS1 ks1 => ?_
 refine xregS [0, 1] fun KR2 kr2 => ?_
 refine wpS.qs [(0, 6, .slice none 0 0), (1, 7, .bool false)] ?_
 refine wpS.fin rfl (kr2 _ _ (then_n (ks1 _ _ (xseq_k fun KS3 ks3 => (xregS [0, 1, 2] fun KR4 kr4 => ?_)))))
 refine wpS.qs [(0, 13, .int .i64 a2), (1, 14, .int .i64 (imul .i64 32 a2))] ?_
 obtain ⟨x1, hx, h⟩ := of_bind h
 refine wpS.tk 2 false (some 8) (.int .i64 x1) (yld_int hx (fun _ => by kernel_rfl)) ?_
 refine wpS.fin rfl (kr4 _ _ (then_n (ks3 _ _ (xseq_k fun KS5 ks5 => (xregS [0, 1, 2] fun KR6 kr6 => ?_)))))
 refine wpS.q 0 15 (.int .i64 a1) ?_
 obtain ⟨h0, h⟩ := of_chk h
 obtain ⟨h1, h⟩ := of_chk h
 refine wpS.only 1 (op_makeT (C := (CA .i32 256 (by decide))) (t := 78) (e := 32) (bytes := 1024) (B := 137438953472) (kl := .i64) (kc := .i64) (x := a1) (d := (some 16)) (by kernel_rfl) hs (by kernel_rfl) (by kernel_rfl) (by kernel_rfl) (by kernel_rfl) (by kernel_rfl) h0 h1 (by decide) (by decide) ?_)
 intro s2_A s2_n s2_c w gw hs
 refine ⟨fun _ => trivial, ?_⟩
 refine wpS.q 2 9 (.slice s2_A s2_n s2_c) ?_
 refine wpS.fin rfl (kr6 _ _ (then_n (ks5 _ _ (xseq_k fun KS7 ks7 => (xseq_k fun KS8 ks8 => (xregS [0, 1, 2] fun KR9 kr9 => ?_))))))
 refine wpS.q 0 17 (.slice s2_A s2_n s2_c) ?_
 refine wpS.tk 1 false (some 18) (.int .i64 ((List.replicate (a1 : Int).toNat (Cod.zero (CA .i32 256 (by decide)))).length : Int)) (yld_lenL (hs.rowL 0 rfl) (fun _ => by kernel_rfl)) ?_
 refine wpS.q 2 19 (.int .i64 0) ?_
 refine wpS.fin rfl (kr9 _ _ (then_n (ks8 _ _ ?_)))
 obtain ⟨t0, hy, hk0⟩ := of_bind h
 refine wp_exq (N := fun a w => ∃ y5, t0 = .inl y5 ∧ St w0 [] [.ownL (CA .i32 256 (by decide)) s2_A s2_n s2_c y5 32] [.rowL (CI .u8) a0_A a0_n a0_c a0] w ∧ ∃ g11 : Nat → Value, a = ⟨#[.slice a0_A a0_n a0_c, .int .i64 a1, .int .i64 a2, undef, undef, undef, (g11 6), (g11 7), .int .i64 x1, .slice s2_A s2_n s2_c, (g11 10), (g11 11), (g11 12), .int .i64 a2, .int .i64 (imul .i64 32 a2), .int .i64 a1, .slice s2_A s2_n s2_c, .slice s2_A s2_n s2_c, .int .i64 ((List.replicate (a1 : Int).toNat (Cod.zero (CA .i32 256 (by decide)))).length : Int), (g11 19), (g11 20), (g11 21), (g11 22), (g11 23), (g11 24), (g11 25), (g11 26), (g11 27), (g11 28), (g11 29), (g11 30), (g11 31), (g11 32), (g11 33), (g11 34), (g11 35), (g11 36), (g11 37), (g11 38), (g11 39), (g11 40), (g11 41), (g11 42), undef], []⟩) (fun N0 nn0 => ?_) ?_
 ·refine xblock ?_
  refine wp_loop_k (fun n a w => ∃ z3 z4, kpke_read.l0 K n a0 a1 a2 x1 z3 z4 = some t0 ∧ St w0 [] [.ownL (CA .i32 256 (by decide)) s2_A s2_n s2_c z4 32] [.rowL (CI .u8) a0_A a0_n a0_c a0] w ∧ ∃ g10 : Nat → Value, a = ⟨#[.slice a0_A a0_n a0_c, .int .i64 a1, .int .i64 a2, undef, undef, undef, (g10 6), (g10 7), .int .i64 x1, .slice s2_A s2_n s2_c, (g10 10), (g10 11), (g10 12), .int .i64 a2, .int .i64 (imul .i64 32 a2), .int .i64 a1, .slice s2_A s2_n s2_c, .slice s2_A s2_n s2_c, .int .i64 ((List.replicate (a1 : Int).toNat (Cod.zero (CA .i32 256 (by decide)))).length : Int), .int .i64 z3, (g10 20), (g10 21), (g10 22), (g10 23), (g10 24), (g10 25), (g10 26), (g10 27), (g10 28), (g10 29), (g10 30), (g10 31), (g10 32), (g10 33), (g10 34), (g10 35), (g10 36), (g10 37), (g10 38), (g10 39), (g10 40), (g10 41), (g10 42), undef], []⟩) K ⟨0, (List.replicate (a1 : Int).toNat (Cod.zero (CA .i32 256 (by decide)))), hy, hs.conv rfl, exg (by kernel_rfl)⟩ ?_
  clear hs h hy
  rintro n a w ⟨z3, z4, h, hs, g10, rfl⟩ KL0 kl0
  cases n with
  | zero => exact nomatch (show none = some _ from h)
  | succ n =>
   refine xseq_k fun KS12 ks12 => ?_
   refine xregS [0] fun KR13 kr13 => ?_
   rcases of_if h with ⟨hc, h⟩ | ⟨hc, h⟩
   ·refine wpS.tk 0 false (some 20) (.bool true) (yld_b (dt hc) (fun _ => by kernel_rfl)) ?_
    refine wpS.fin rfl (kr13 _ _ (then_n (ks12 _ _ (xseq_k fun KS14 ks14 => (wp_cond_t (by kernel_rfl) (xskip (then_n (ks14 _ _ (xseq_k fun KS15 ks15 => (xblock (xseq_k fun KS16 ks16 => (xregS [0, 1] fun KR17 kr17 => ?_))))))))))))
    refine wpS.qs [(0, 21, .int .i64 z3), (1, 10, .int .i64 z3)] ?_
    refine wpS.fin rfl (kr17 _ _ (then_n (ks16 _ _ (xseq_k fun KS18 ks18 => (xregS [0, 1, 2, 3, 4, 5, 6, 7, 8, 9, 10, 11, 12, 13, 14, 15, 16] fun KR19 kr19 => ?_)))))
    refine wpS.qs [(0, 23, .slice a0_A a0_n a0_c), (1, 24, .int .i64 z3), (2, 25, .int .i64 x1), (3, 26, .int .i64 (imul .i64 z3 x1)), (4, 27, .int .i64 z3), (5, 28, .int .i64 (iadd .i64 z3 1)), (6, 29, .int .i64 x1), (7, 30, .int .i64 (imul .i64 (iadd .i64 z3 1) x1))] ?_
    obtain ⟨h0, h⟩ := of_chk h
    obtain ⟨h1, h⟩ := of_chk h
    obtain ⟨h2, h⟩ := of_chk h
    obtain ⟨s6_A, hA⟩ : ∃ A, A = if a0_c = ((imul .i64 z3 x1) : Int).toNat then a0_A else adr a0_A (((imul .i64 z3 x1) : Int).toNat * Cod.size (CI .u8)) := ⟨_, rfl⟩
    obtain ⟨s6_n, hn⟩ : ∃ n, n = ((imul .i64 (iadd .i64 z3 1) x1) : Int).toNat - ((imul .i64 z3 x1) : Int).toNat := ⟨_, rfl⟩
    obtain ⟨s6_c, hc⟩ : ∃ c, c = a0_c - ((imul .i64 z3 x1) : Int).toNat := ⟨_, rfl⟩
    refine wpS.tk 8 false (some 31) (.slice s6_A s6_n s6_c) (yld_sub (C := (CI .u8)) (t := 24) (e := 5) (low := some (.int .i64 (imul .i64 z3 x1))) (high := some (.int .i64 (imul .i64 (iadd .i64 z3 1) x1))) (lo := (imul .i64 z3 x1)) (hi := (imul .i64 (iadd .i64 z3 1) x1)) (hs.rowR 0 rfl) (by kernel_rfl) (by kernel_rfl) (by kernel_rfl) (.inr ⟨_, rfl⟩) (.inr ⟨_, rfl⟩) h0 h1 h2 hA hn hc) ?_
    have hs := hs.addSub (C := (CI .u8)) 0 rfl h0 h1 h2 hA hn hc
    refine wpS.q 9 32 (.int .i64 a2) ?_
    obtain ⟨⟨r7, r8⟩, hg, h⟩ := of_bind h
    refine wpS.only 10 (op_call (d := (some 33)) (by kernel_rfl) hs (fun _ => by kernel_rfl) (kq_Unpack.ok hg _ (hs.rowR 0 rfl)) ?_)
    intro w gw hs
    refine ⟨fun _ => trivial, ?_⟩
    refine wpS.qs [(11, 22, .tuple #[.agg (enc .i32 r7).toArray, .bool r8]), (12, 34, .agg (enc .i32 r7).toArray)] ?_
    cases r8 with
    | true =>
     have h := of_if_t h
     refine wpS.q 13 35 (.bool true) ?_
     refine wpS.only 14 (op_alloc (t := 32) (d := (some 11)) (by kernel_rfl) hs (enc .i32 (zeroA 256)) (.agg (enc .i32 (zeroA 256)).toArray) (by kernel_rfl) (by kernel_rfl) (by kernel_rfl) ?_)
     intro b9 w gw hs
     refine ⟨fun _ => trivial, ?_⟩
     refine wpS.only 15 (op_storeW (t := 32) (v := .agg (enc .i32 r7).toArray) (d := none) (by kernel_rfl) hs 0 rfl (vs := enc .i32 r7) (n := 256) (by kernel_rfl) (by kernel_rfl) (by kernel_rfl) (by simp [enc_len]) (by simp [enc_len]) (by intro u hu; exact enc_one _ _ u hu) ?_)
     intro w kp hs
     refine ⟨fun _ => trivial, ?_⟩
     refine wpS.q 16 12 (.bool true) ?_
     refine wpS.fin rfl (kr19 _ _ (then_n (ks18 _ _ (xseq_k fun KS20 ks20 => (xseq_k fun KS21 ks21 => (xregS [0, 1] fun KR22 kr22 => ?_))))))
     refine wpS.qs [(0, 36, .bool true), (1, 37, .bool false)] ?_
     refine wpS.fin rfl (kr22 _ _ (then_n (ks21 _ _ (wp_cond_f (by kernel_rfl) (xskip (then_n (ks20 _ _ (xregS [0, 1, 2, 3, 4] fun KR23 kr23 => ?_))))))))
     refine wpS.qs [(0, 38, .slice s2_A s2_n s2_c), (1, 39, .int .i64 z3)] ?_
     refine wpS.tk 2 true (some 40) (.agg (enc .i32 r7).toArray) (yld_loadW (e := 32) (n := 256) hs 0 rfl (by kernel_rfl) (by kernel_rfl) (by kernel_rfl) (by exact enc_len _ _) .grow) ?_
     obtain ⟨h0, h⟩ := of_chk h
     obtain ⟨h1, h⟩ := of_chk h
     have i0_24 := h0
     have i1_24 := h1
     refine wpS.tk 3 false (some 41) (.pointer (adr s2_A ((z3 : Int).toNat * Cod.size (CA .i32 256 (by decide))))) (yld_idxL (C := (CA .i32 256 (by decide))) (t := 78) (e := 32) (k := .i64) (x := z3) (hs.rowL 1 rfl) (by kernel_rfl) (by kernel_rfl) (by kernel_rfl) h0 h1) ?_
     refine wpS.only 4 (op_storeL (C := (CA .i32 256 (by decide))) (t := 32) (x := z3) (v := r7) (d := none) (by kernel_rfl) hs 1 rfl (by kernel_rfl) (by kernel_rfl) i0_24 i1_24 ?_)
     intro w hs
     refine ⟨fun _ => trivial, ?_⟩
     refine wpS.fin rfl (kr23 _ _ (inBlock_n (then_n (ks15 _ _ (xregS [0, 1] fun KR25 kr25 => ?_)))))
     refine wpS.qs [(0, 42, .int .i64 (iadd .i64 z3 1)), (1, 19, .int .i64 (iadd .i64 z3 1))] ?_
     refine wpS.fin rfl (kr25 _ _ ?_)
     exact then_n (kl0 _ _ ⟨n, Nat.lt_succ_self n, (iadd .i64 z3 1), (wrL z4 z3 r7), h, ((hs.drop (.cons _ (.cons_cons _ .slnil))).pickR (pick_cons 1 rfl pick_nil)), exg (by kernel_rfl)⟩)
    | false =>
     have h := of_if_f h
     refine wpS.q 13 35 (.bool false) ?_
     refine wpS.only 14 (op_alloc (t := 32) (d := (some 11)) (by kernel_rfl) hs (enc .i32 (zeroA 256)) (.agg (enc .i32 (zeroA 256)).toArray) (by kernel_rfl) (by kernel_rfl) (by kernel_rfl) ?_)
     intro b10 w gw hs
     refine ⟨fun _ => trivial, ?_⟩
     refine wpS.only 15 (op_storeW (t := 32) (v := .agg (enc .i32 r7).toArray) (d := none) (by kernel_rfl) hs 0 rfl (vs := enc .i32 r7) (n := 256) (by kernel_rfl) (by kernel_rfl) (by kernel_rfl) (by simp [enc_len]) (by simp [enc_len]) (by intro u hu; exact enc_one _ _ u hu) ?_)
     intro w kp hs
     refine ⟨fun _ => trivial, ?_⟩
     refine wpS.q 16 12 (.bool false) ?_
     refine wpS.fin rfl (kr19 _ _ (then_n (ks18 _ _ (xseq_k fun KS26 ks26 => (xseq_k fun KS27 ks27 => (xregS [0, 1] fun KR28 kr28 => ?_))))))
     refine wpS.qs [(0, 36, .bool false), (1, 37, .bool true)] ?_
     refine wpS.fin rfl (kr28 _ _ (then_n (ks27 _ _ (wp_cond_t (by kernel_rfl) (xseq_k fun KS29 ks29 => (xregS [0, 1] fun KR30 kr30 => ?_))))))
     refine wpS.qs [(0, 6, .slice none 0 0), (1, 7, .bool false)] ?_
     refine wpS.fin rfl (kr30 _ _ (then_n (ks29 _ _ (xret (then_r (inBlock_r (then_r (then_r (inBlock_r (exq_r (then_r ?_)))))))))))
     have q0 := of_some h
     subst q0
     obtain ⟨q0, qr0⟩ := Prod.mk.inj (of_some hk0)
     have q1 := qr0
     subst q0
     subst q1
     have hs := hs.addNilL (CA .i32 256 (by decide)) 32
     exact qq _ _ (post_ret (by kernel_rfl) (run_results [.tmp 6, .tmp 7] [.slice none 0 0, .bool false] (by kernel_rfl) (.cons (res_tmp (by kernel_rfl)) (.cons (res_tmp (by kernel_rfl)) .nil))) ⟨⟨none, 0, 0⟩, congrArg Ending.returned (by kernel_rfl), ((hs.drop (.cons_cons _ (.cons _ (.cons _ .slnil)))).pickR pick_nil)⟩)
   refine wpS.tk 0 false (some 20) (.bool false) (yld_b (df hc) (fun _ => by kernel_rfl)) ?_
   refine wpS.fin rfl (kr13 _ _ (then_n (ks12 _ _ (xseq_k fun KS31 ks31 => (wp_cond_f (by kernel_rfl) (xexit (then_x (then_x (inBlock_hit ?_)))))))))
   have q0 := of_some h
   subst q0
   exact exq_n (nn0 _ _ ⟨z4, rfl, (hs.conv rfl), exg (by kernel_rfl)⟩)
 clear hs h hy
 rintro a w ⟨y5, rfl, hs, g11, rfl⟩
 have h := hk0
 refine then_n (ks7 _ _ (xseq_k fun KS32 ks32 => (xregS [0, 1, 2] fun KR33 kr33 => ?_)))
 refine wpS.qs [(0, 43, .slice s2_A s2_n s2_c), (1, 6, .slice s2_A s2_n s2_c), (2, 7, .bool true)] ?_
 refine wpS.fin rfl (kr33 _ _ (then_n (ks32 _ _ (xret ?_))))
 obtain ⟨q0, qr0⟩ := Prod.mk.inj (of_some h)
 have q1 := qr0
 subst q0
 subst q1
 exact qq _ _ (post_ret (by kernel_rfl) (run_results [.tmp 6, .tmp 7] [.slice s2_A s2_n s2_c, .bool true] (by kernel_rfl) (.cons (res_tmp (by kernel_rfl)) (.cons (res_tmp (by kernel_rfl)) .nil))) ⟨⟨s2_A, s2_n, s2_c⟩, congrArg Ending.returned (by kernel_rfl), (hs.pickR pick_nil)⟩)

theorem kq_Squeeze.ok {K : Nat} {a0 : Arr 256} {a1 : Int} {r0 : Arr 256} (h : kq_Squeeze.f K a0 a1 = some r0) (w0 : World) : Ret Tryd.prog 56 #[.agg (enc .i32 a0).toArray, .int .i64 a1] w0 (.agg (enc .i32 r0).toArray) := by
 refine calls_k Tryd.func56 rfl fun Q qq => ?_
 have hs := St.start w0
 refine wp_conv (a' := ⟨#[.agg (enc .i32 a0).toArray, .int .i64 a1, undef, undef, undef, undef, undef, undef, undef, undef, undef, undef, undef, undef, undef, undef, undef, undef, undef, undef, undef, undef, undef, undef, undef, undef, undef, undef, undef, undef, undef, undef], []⟩) (by kernel_rfl) ?_
 refine xseq_k fun KS1 ks1 => ?_
 refine xregS [0, 1] fun KR2 kr2 => ?_
 refine wpS.only 0 (op_box (t := 32) (v := .agg (enc .i32 a0).toArray) (d := (some 2)) (by kernel_rfl) hs (enc .i32 a0) (by kernel_rfl) (by kernel_rfl) ?_)
 intro b1 w gw hs
 refine ⟨fun _ => trivial, ?_⟩
 refine wpS.only 1 (op_alloc (t := 32) (d := (some 4)) (by kernel_rfl) hs (enc .i32 (zeroA 256)) (.agg (enc .i32 (zeroA 256)).toArray) (by kernel_rfl) (by kernel_rfl) (by kernel_rfl) ?_)
 intro b2 w gw hs
 refine ⟨fun _ => trivial, ?_⟩
 refine wpS.fin rfl (kr2 _ _ (then_n (ks1 _ _ (xseq_k fun KS3 ks3 => (xseq_k fun KS4 ks4 => (xregS [0, 1, 2, 3, 4, 5] fun KR5 kr5 => ?_))))))
 refine wpS.q 0 7 (.int .i64 a1) ?_
 rcases of_if h with ⟨hc, h⟩ | ⟨hc, h⟩
 ·refine wpS.tk 1 false (some 8) (.bool true) (yld_b (dt hc) (fun _ => by kernel_rfl)) ?_
  refine wpS.qs [(2, 9, .bool true), (3, 10, undef), (4, 11, undef), (5, 12, .bool true)] ?_
  refine wpS.fin rfl (kr5 _ _ (then_n (ks4 _ _ (wp_cond_t (by kernel_rfl) (xseq_k fun KS6 ks6 => (xregS [0, 1] fun KR7 kr7 => ?_))))))
  refine wpS.q 0 13 (.agg (enc .i32 (zeroA 256)).toArray) ?_
  refine wpS.only 1 (op_storeW (t := 32) (v := .agg (enc .i32 (zeroA 256)).toArray) (d := none) (by kernel_rfl) hs 0 rfl (vs := enc .i32 (zeroA 256)) (n := 256) (by kernel_rfl) (by kernel_rfl) (by kernel_rfl) (by simp [enc_len]) (by simp [enc_len]) (by intro u hu; exact enc_one _ _ u hu) ?_)
  intro w kp hs
  refine ⟨fun _ => trivial, ?_⟩
  refine wpS.fin rfl (kr7 _ _ (then_n (ks6 _ _ (xret (then_r ?_)))))
  have q0 := of_some h
  subst q0
  exact qq _ _ (post_ret (by kernel_rfl) (run_results [.cell 4 32] [.agg (enc .i32 (zeroA 256)).toArray] (by kernel_rfl) (.cons (res_cellN (n := 256) hs 0 rfl (by kernel_rfl) (by kernel_rfl) (by kernel_rfl) (by exact enc_len _ _)) .nil)) ⟨congrArg Ending.returned (by kernel_rfl), hs.none⟩)
 refine wpS.tk 1 false (some 8) (.bool false) (yld_b (df hc) (fun _ => by kernel_rfl)) ?_
 refine wpS.qs [(2, 9, .bool false), (3, 10, .int .i64 a1)] ?_
 rcases of_if h with ⟨hc, h⟩ | ⟨hc, h⟩
 ·refine wpS.tk 4 false (some 11) (.bool true) (yld_b (dt hc) (fun _ => by kernel_rfl)) ?_
  refine wpS.q 5 12 (.bool true) ?_
  refine wpS.fin rfl (kr5 _ _ (then_n (ks4 _ _ (wp_cond_t (by kernel_rfl) (xseq_k fun KS8 ks8 => (xregS [0, 1] fun KR9 kr9 => ?_))))))
  refine wpS.q 0 13 (.agg (enc .i32 (zeroA 256)).toArray) ?_
  refine wpS.only 1 (op_storeW (t := 32) (v := .agg (enc .i32 (zeroA 256)).toArray) (d := none) (by kernel_rfl) hs 0 rfl (vs := enc .i32 (zeroA 256)) (n := 256) (by kernel_rfl) (by kernel_rfl) (by kernel_rfl) (by simp [enc_len]) (by simp [enc_len]) (by intro u hu; exact enc_one _ _ u hu) ?_)
  intro w kp hs
  refine ⟨fun _ => trivial, ?_⟩
  refine wpS.fin rfl (kr9 _ _ (then_n (ks8 _ _ (xret (then_r ?_)))))
  have q0 := of_some h
  subst q0
  exact qq _ _ (post_ret (by kernel_rfl) (run_results [.cell 4 32] [.agg (enc .i32 (zeroA 256)).toArray] (by kernel_rfl) (.cons (res_cellN (n := 256) hs 0 rfl (by kernel_rfl) (by kernel_rfl) (by kernel_rfl) (by exact enc_len _ _)) .nil)) ⟨congrArg Ending.returned (by kernel_rfl), hs.none⟩)
 refine wpS.tk 4 false (some 11) (.bool false) (yld_b (df hc) (fun _ => by kernel_rfl)) ?_
 refine wpS.q 5 12 (.bool false) ?_
 refine wpS.fin rfl (kr5 _ _ (then_n (ks4 _ _ (wp_cond_f (by kernel_rfl) (xskip (then_n (ks3 _ _ (xseq_k fun KS10 ks10 => (xseq_k fun KS11 ks11 => (xregS [0, 1] fun KR12 kr12 => ?_))))))))))
 refine wpS.tk 0 true (some 14) (.agg (enc .i32 a0).toArray) (yld_loadW (e := 32) (n := 256) hs 1 rfl (by kernel_rfl) (by kernel_rfl) (by kernel_rfl) (by exact enc_len _ _) .grow) ?_
 refine wpS.q 1 15 (.int .i64 0) ?_
 refine wpS.fin rfl (kr12 _ _ (then_n (ks11 _ _ ?_)))
 obtain ⟨y5, hy, hk0⟩ := of_bind h
 refine wp_exq (N := fun a w => St w0 [] [.blk b2 (enc .i32 (zeroA 256)) 32, .blk b1 (enc .i32 y5) 32] [] w ∧ ∃ g14 : Nat → Value, a = ⟨#[.agg (enc .i32 a0).toArray, .int .i64 a1, .pointer (some ⟨b1, 0, none⟩), undef, .pointer (some ⟨b2, 0, none⟩), (g14 5), (g14 6), .int .i64 a1, .bool false, .bool false, .int .i64 a1, .bool false, .bool false, undef, .agg (enc .i32 a0).toArray, (g14 15), (g14 16), (g14 17), (g14 18), (g14 19), (g14 20), (g14 21), (g14 22), (g14 23), (g14 24), (g14 25), (g14 26), (g14 27), (g14 28), (g14 29), (g14 30), undef], []⟩) (fun N0 nn0 => ?_) ?_
 ·clear hk0
  refine xblock ?_
  refine wp_loop_k (fun n a w => ∃ z3 z4, kq_Squeeze.l0 K n a0 a1 z3 z4 = some y5 ∧ St w0 [] [.blk b2 (enc .i32 (zeroA 256)) 32, .blk b1 (enc .i32 z4) 32] [] w ∧ ∃ g13 : Nat → Value, a = ⟨#[.agg (enc .i32 a0).toArray, .int .i64 a1, .pointer (some ⟨b1, 0, none⟩), undef, .pointer (some ⟨b2, 0, none⟩), (g13 5), (g13 6), .int .i64 a1, .bool false, .bool false, .int .i64 a1, .bool false, .bool false, undef, .agg (enc .i32 a0).toArray, .int .i64 z3, (g13 16), (g13 17), (g13 18), (g13 19), (g13 20), (g13 21), (g13 22), (g13 23), (g13 24), (g13 25), (g13 26), (g13 27), (g13 28), (g13 29), (g13 30), undef], []⟩) K ⟨0, a0, hy, hs.conv rfl, exg (by kernel_rfl)⟩ ?_
  clear hs h hy
  rintro n a w ⟨z3, z4, h, hs, g13, rfl⟩ KL0 kl0
  cases n with
  | zero => exact nomatch (show none = some _ from h)
  | succ n =>
   refine xseq_k fun KS15 ks15 => ?_
   refine xregS [0] fun KR16 kr16 => ?_
   rcases of_if h with ⟨hc, h⟩ | ⟨hc, h⟩
   ·refine wpS.tk 0 false (some 16) (.bool true) (yld_b (dt hc) (fun _ => by kernel_rfl)) ?_
    refine wpS.fin rfl (kr16 _ _ (then_n (ks15 _ _ (xseq_k fun KS17 ks17 => (wp_cond_t (by kernel_rfl) (xskip (then_n (ks17 _ _ (xseq_k fun KS18 ks18 => (xblock (xseq_k fun KS19 ks19 => (xregS [0, 1, 2, 3] fun KR20 kr20 => ?_))))))))))))
    refine wpS.q 0 17 (.int .i64 z3) ?_
    obtain ⟨h0, h⟩ := of_chk h
    obtain ⟨h1, h⟩ := of_chk h
    refine wpS.tk 1 false (some 18) (.int .i32 (rd a0 z3)) (yld_at (t := 32) (e := 21) (k' := .i64) (by kernel_rfl) (by kernel_rfl) (by kernel_rfl) (by kernel_rfl) h0 h1) ?_
    refine wpS.q 2 5 (.int .i64 z3) ?_
    obtain ⟨x6, hx, h⟩ := of_bind h
    refine wpS.tk 3 false (some 6) (.int .i32 x6) (yld_int hx (fun _ => by kernel_rfl)) ?_
    refine wpS.fin rfl (kr20 _ _ (then_n (ks19 _ _ ?_)))
    refine wp_regG [11] (fun k => True) 12 (by kernel_rfl) (by kernel_rfl) (by kernel_rfl) fun KR21 kr21 => ?_
    have hs := hs.drawn1
    refine wpG.q 0 19 (.int .i64 z3) ?_
    refine wpG.q 1 20 (.int .i32 x6) ?_
    refine wpG.q 2 21 (.int .i64 a1) ?_
    obtain ⟨h0, h⟩ := of_chk h
    refine wpG.tD 3 false (some 22) (.int .i32 (ishl .i32 x6 a1)) (yld_shl (t := 21) (k' := .i64) (by kernel_rfl) h0) ?_
    refine wpG.q 4 23 (.int .i32 (iadd .i32 (ishl .i32 x6 a1) 1664)) ?_
    refine wpG.q 5 24 (.int .i32 (iquo .i32 (iadd .i32 (ishl .i32 x6 a1) 1664) 3329)) ?_
    refine wpG.q 6 25 (.int .i64 a1) ?_
    obtain ⟨h0, h⟩ := of_chk h
    refine wpG.tD 7 false (some 26) (.int .i32 (ishl .i32 1 a1)) (yld_shl (t := 21) (k' := .i64) (by kernel_rfl) h0) ?_
    refine wpG.q 8 27 (.int .i32 (isub .i32 (ishl .i32 1 a1) 1)) ?_
    refine wpG.q 9 28 (.int .i32 (iand .i32 (iquo .i32 (iadd .i32 (ishl .i32 x6 a1) 1664) 3329) (isub .i32 (ishl .i32 1 a1) 1))) ?_
    obtain ⟨i0_22, h⟩ := of_chk h
    obtain ⟨i1_22, h⟩ := of_chk h
    refine wpG.tD 10 false (some 29) (.pointer (some ⟨b1, 0 + (z3 : Int).toNat * 1, none⟩)) (yld_idx (t := 32) (e := 21) (n := 256) (sz := 1) (k := .i64) (x := z3) (by kernel_rfl) (by kernel_rfl) (by kernel_rfl) i0_22 i1_22) ?_
    obtain ⟨x7, hx, h⟩ := of_bind h
    refine wpG.only 11 (by kernel_rfl) (op_storeA (t := 21) (x := z3) (v := x7) (d := none) (by kernel_rfl) hs 1 rfl (by cases hx; kernel_rfl) (by kernel_rfl) i0_22 i1_22 ?_)
    intro w kp hs
    refine ⟨⟨fun hf => absurd hf (by decide), .all _ _⟩, ?_⟩
    refine wpG.fin (by kernel_rfl) rfl (kr21 _ _ ?_)
    refine inBlock_n (then_n (ks18 _ _ (xregS [0, 1] fun KR23 kr23 => ?_)))
    refine wpS.qs [(0, 30, .int .i64 (iadd .i64 z3 1)), (1, 15, .int .i64 (iadd .i64 z3 1))] ?_
    refine wpS.fin rfl (kr23 _ _ ?_)
    exact then_n (kl0 _ _ ⟨n, Nat.lt_succ_self n, (iadd .i64 z3 1), (wr z4 z3 x7), h, (hs.conv rfl), exg (by kernel_rfl)⟩)
   refine wpS.tk 0 false (some 16) (.bool false) (yld_b (df hc) (fun _ => by kernel_rfl)) ?_
   refine wpS.fin rfl (kr16 _ _ (then_n (ks15 _ _ (xseq_k fun KS24 ks24 => (wp_cond_f (by kernel_rfl) (xexit (then_x (then_x (inBlock_hit ?_)))))))))
   have q0 := of_some h
   subst q0
   exact exq_n (nn0 _ _ ⟨(hs.conv rfl), exg (by kernel_rfl)⟩)
 clear hs h hy
 rintro a w ⟨hs, g14, rfl⟩
 have h := hk0
 refine then_n (ks10 _ _ (xseq_k fun KS25 ks25 => (xregS [0, 1] fun KR26 kr26 => ?_)))
 refine wpS.tk 0 true (some 31) (.agg (enc .i32 y5).toArray) (yld_loadW (e := 32) (n := 256) hs 1 rfl (by kernel_rfl) (by kernel_rfl) (by kernel_rfl) (by exact enc_len _ _) .grow) ?_
 refine wpS.only 1 (op_storeW (t := 32) (v := .agg (enc .i32 y5).toArray) (d := none) (by kernel_rfl) hs 0 rfl (vs := enc .i32 y5) (n := 256) (by kernel_rfl) (by kernel_rfl) (by kernel_rfl) (by simp [enc_len]) (by simp [enc_len]) (by intro u hu; exact enc_one _ _ u hu) ?_)
 intro w kp hs
 refine ⟨fun _ => trivial, ?_⟩
 refine wpS.fin rfl (kr26 _ _ (then_n (ks25 _ _ (xret ?_))))
 have q0 := of_some h
 subst q0
 exact qq _ _ (post_ret (by kernel_rfl) (run_results [.cell 4 32] [.agg (enc .i32 y5).toArray] (by kernel_rfl) (.cons (res_cellN (n := 256) hs 0 rfl (by kernel_rfl) (by kernel_rfl) (by kernel_rfl) (by exact enc_len _ _)) .nil)) ⟨congrArg Ending.returned (by kernel_rfl), hs.none⟩)

theorem kq_Back.ok {K : Nat} {a0 : Arr 256} {r0 : Arr 256} (h : kq_Back.f K a0 = some r0) (w0 : World) : Ret Tryd.prog 57 #[.agg (enc .i32 a0).toArray] w0 (.agg (enc .i32 r0).toArray) := by
 refine calls_k Tryd.func57 rfl fun Q qq => ?_
 have hs := St.start w0
 refine wp_conv (a' := ⟨#[.agg (enc .i32 a0).toArray, undef, undef, undef, undef, undef, undef, undef, undef, undef, undef, undef, undef, undef, undef, undef, undef, undef, undef, undef, undef, undef, undef, undef, undef, undef, undef, undef, undef, undef, undef, undef, undef, undef, undef, undef, undef, undef, undef, undef, undef, undef, undef, undef, undef, undef, undef, undef, undef, undef, undef, undef, undef, undef, undef, undef, undef, undef, undef, undef, undef, undef, undef, undef, undef, undef, undef, undef, undef, undef, undef, undef, undef, undef, undef], []⟩) (by kernel_rfl) ?_
 refine xseq_k fun KS1 ks1 => ?_
 refine xregS [0, 1] fun KR2 kr2 => ?_
 refine wpS.only 0 (op_box (t := 32) (v := .agg (enc .i32 a0).toArray) (d := (some 1)) (by kernel_rfl) hs (enc .i32 a0) (by kernel_rfl) (by kernel_rfl) ?_)
 intro b1 w gw hs
 refine ⟨fun _ => trivial, ?_⟩
 refine wpS.only 1 (op_alloc (t := 32) (d := (some 2)) (by kernel_rfl) hs (enc .i32 (zeroA 256)) (.agg (enc .i32 (zeroA 256)).toArray) (by kernel_rfl) (by kernel_rfl) (by kernel_rfl) ?_)
 intro b2 w gw hs
 refine ⟨fun _ => trivial, ?_⟩
 refine wpS.fin rfl (kr2 _ _ (then_n (ks1 _ _ (xseq_k fun KS3 ks3 => (xregS [0, 1] fun KR4 kr4 => ?_)))))
 obtain ⟨r3, hg, h⟩ := of_bind h
 refine wpS.only 0 (op_callB (d := (some 10)) (by kernel_rfl) hs (fun _ => by kernel_rfl) (kq_roots.ok hg _) ?_)
 intro b4 w gw hs
 refine ⟨fun _ => trivial, ?_⟩
 refine wpS.q 1 3 (.pointer (some ⟨b4, 0, none⟩)) ?_
 refine wpS.fin rfl (kr4 _ _ (then_n (ks3 _ _ (xseq_k fun KS5 ks5 => (xregS [0] fun KR6 kr6 => ?_)))))
 refine wpS.q 0 4 (.int .i64 128) ?_
 refine wpS.fin rfl (kr6 _ _ (then_n (ks5 _ _ (xseq_k fun KS7 ks7 => (xseq_k fun KS8 ks8 => (xregS [0] fun KR9 kr9 => ?_))))))
 refine wpS.q 0 5 (.int .i64 2) ?_
 refine wpS.fin rfl (kr9 _ _ (then_n (ks8 _ _ ?_)))
 obtain ⟨y8, hy, hk0⟩ := of_bind h
 refine wp_exq (N := fun a w => St w0 [] [.blk b4 (enc .i32 r3) 142, .blk b2 (enc .i32 (zeroA 256)) 32, .blk b1 (enc .i32 y8) 32] [] w ∧ ∃ g11 : Nat → Value, a = ⟨#[.agg (enc .i32 a0).toArray, .pointer (some ⟨b1, 0, none⟩), .pointer (some ⟨b2, 0, none⟩), .pointer (some ⟨b4, 0, none⟩), (g11 4), (g11 5), (g11 6), (g11 7), (g11 8), undef, .pointer (some ⟨b4, 0, none⟩), (g11 11), (g11 12), (g11 13), (g11 14), (g11 15), (g11 16), (g11 17), (g11 18), (g11 19), (g11 20), (g11 21), (g11 22), (g11 23), (g11 24), (g11 25), (g11 26), (g11 27), (g11 28), (g11 29), (g11 30), (g11 31), (g11 32), (g11 33), (g11 34), (g11 35), (g11 36), (g11 37), (g11 38), (g11 39), (g11 40), (g11 41), (g11 42), (g11 43), (g11 44), (g11 45), (g11 46), (g11 47), (g11 48), (g11 49), (g11 50), (g11 51), (g11 52), (g11 53), (g11 54), (g11 55), (g11 56), (g11 57), (g11 58), (g11 59), (g11 60), (g11 61), (g11 62), undef, undef, undef, undef, undef, undef, undef, undef, undef, undef, undef, undef], []⟩) (fun N0 nn0 => ?_) ?_
 ·clear hk0
  refine xblock ?_
  refine wp_loop_k (fun n a w => ∃ z5 z6 z7, kq_Back.l0 K n r3 z5 z6 z7 = some y8 ∧ St w0 [] [.blk b4 (enc .i32 r3) 142, .blk b2 (enc .i32 (zeroA 256)) 32, .blk b1 (enc .i32 z7) 32] [] w ∧ ∃ g10 : Nat → Value, a = ⟨#[.agg (enc .i32 a0).toArray, .pointer (some ⟨b1, 0, none⟩), .pointer (some ⟨b2, 0, none⟩), .pointer (some ⟨b4, 0, none⟩), .int .i64 z5, .int .i64 z6, (g10 6), (g10 7), (g10 8), undef, .pointer (some ⟨b4, 0, none⟩), (g10 11), (g10 12), (g10 13), (g10 14), (g10 15), (g10 16), (g10 17), (g10 18), (g10 19), (g10 20), (g10 21), (g10 22), (g10 23), (g10 24), (g10 25), (g10 26), (g10 27), (g10 28), (g10 29), (g10 30), (g10 31), (g10 32), (g10 33), (g10 34), (g10 35), (g10 36), (g10 37), (g10 38), (g10 39), (g10 40), (g10 41), (g10 42), (g10 43), (g10 44), (g10 45), (g10 46), (g10 47), (g10 48), (g10 49), (g10 50), (g10 51), (g10 52), (g10 53), (g10 54), (g10 55), (g10 56), (g10 57), (g10 58), (g10 59), (g10 60), (g10 61), (g10 62), undef, undef, undef, undef, undef, undef, undef, undef, undef, undef, undef, undef], []⟩) K ⟨128, 2, a0, hy, hs.conv rfl, exg (by kernel_rfl)⟩ ?_
  clear hs h hy
  rintro n a w ⟨z5, z6, z7, h, hs, g10, rfl⟩ KL0 kl0
  cases n with
  | zero => exact nomatch (show none = some _ from h)
  | succ n =>
   refine xseq_k fun KS12 ks12 => ?_
   refine xseq_k fun KS13 ks13 => ?_
   refine xregS [0, 1] fun KR14 kr14 => ?_
   refine wpS.q 0 11 (.int .i64 z6) ?_
   rcases of_if h with ⟨hc, h⟩ | ⟨hc, h⟩
   ·refine wpS.tk 1 false (some 12) (.bool true) (yld_b (dt hc) (fun _ => by kernel_rfl)) ?_
    refine wpS.fin rfl (kr14 _ _ (then_n (ks13 _ _ (wp_cond_t (by kernel_rfl) (xskip (then_n (ks12 _ _ (xseq_k fun KS15 ks15 => (xblock (xseq_k fun KS16 ks16 => (xregS [0] fun KR17 kr17 => ?_)))))))))))
    refine wpS.q 0 6 (.int .i64 0) ?_
    refine wpS.fin rfl (kr17 _ _ (then_n (ks16 _ _ ?_)))
    obtain ⟨⟨y12, y13⟩, hy, hk1⟩ := of_bind h
    refine wp_exq (N := fun a w => St w0 [] [.blk b4 (enc .i32 r3) 142, .blk b2 (enc .i32 (zeroA 256)) 32, .blk b1 (enc .i32 y13) 32] [] w ∧ ∃ g19 : Nat → Value, a = ⟨#[.agg (enc .i32 a0).toArray, .pointer (some ⟨b1, 0, none⟩), .pointer (some ⟨b2, 0, none⟩), .pointer (some ⟨b4, 0, none⟩), .int .i64 y12, .int .i64 z6, (g19 6), (g19 7), (g19 8), undef, .pointer (some ⟨b4, 0, none⟩), .int .i64 z6, .bool true, (g10 13), (g10 14), (g19 15), (g19 16), (g19 17), (g19 18), (g19 19), (g19 20), (g19 21), (g19 22), (g19 23), (g19 24), (g19 25), (g19 26), (g19 27), (g19 28), (g19 29), (g19 30), (g19 31), (g19 32), (g19 33), (g19 34), (g19 35), (g19 36), (g19 37), (g19 38), (g19 39), (g19 40), (g19 41), (g19 42), (g19 43), (g19 44), (g19 45), (g19 46), (g19 47), (g19 48), (g19 49), (g19 50), (g19 51), (g19 52), (g19 53), (g19 54), (g19 55), (g19 56), (g19 57), (g19 58), (g19 59), (g19 60), (g19 61), (g19 62), undef, undef, undef, undef, undef, undef, undef, undef, undef, undef, undef, undef], []⟩) (fun N1 nn1 => ?_) ?_
    ·clear hk1
     refine xblock ?_
     refine wp_loop_k (fun n a w => ∃ z9 z10 z11, kq_Back.l1 K n r3 z6 z9 z10 z11 = some (y12, y13) ∧ St w0 [] [.blk b4 (enc .i32 r3) 142, .blk b2 (enc .i32 (zeroA 256)) 32, .blk b1 (enc .i32 z11) 32] [] w ∧ ∃ g18 : Nat → Value, a = ⟨#[.agg (enc .i32 a0).toArray, .pointer (some ⟨b1, 0, none⟩), .pointer (some ⟨b2, 0, none⟩), .pointer (some ⟨b4, 0, none⟩), .int .i64 z9, .int .i64 z6, .int .i64 z10, (g18 7), (g18 8), undef, .pointer (some ⟨b4, 0, none⟩), .int .i64 z6, .bool true, (g10 13), (g10 14), (g18 15), (g18 16), (g18 17), (g18 18), (g18 19), (g18 20), (g18 21), (g18 22), (g18 23), (g18 24), (g18 25), (g18 26), (g18 27), (g18 28), (g18 29), (g18 30), (g18 31), (g18 32), (g18 33), (g18 34), (g18 35), (g18 36), (g18 37), (g18 38), (g18 39), (g18 40), (g18 41), (g18 42), (g18 43), (g18 44), (g18 45), (g18 46), (g18 47), (g18 48), (g18 49), (g18 50), (g18 51), (g18 52), (g18 53), (g18 54), (g18 55), (g18 56), (g18 57), (g18 58), (g18 59), (g18 60), (g18 61), (g18 62), undef, undef, undef, undef, undef, undef, undef, undef, undef, undef, undef, undef], []⟩) K ⟨z5, 0, z7, hy, hs.conv rfl, exg (by kernel_rfl)⟩ ?_
     clear hs h hy
     rintro n a w ⟨z9, z10, z11, h, hs, g18, rfl⟩ KL1 kl1
     cases n with
     | zero => exact nomatch (show none = some _ from h)
     | succ n =>
      refine xseq_k fun KS20 ks20 => ?_
      refine xseq_k fun KS21 ks21 => ?_
      refine xregS [0, 1] fun KR22 kr22 => ?_
      refine wpS.q 0 15 (.int .i64 z10) ?_
      rcases of_if h with ⟨hc, h⟩ | ⟨hc, h⟩
      ·refine wpS.tk 1 false (some 16) (.bool true) (yld_b (dt hc) (fun _ => by kernel_rfl)) ?_
       refine wpS.fin rfl (kr22 _ _ (then_n (ks21 _ _ (wp_cond_t (by kernel_rfl) (xskip (then_n (ks20 _ _ (xseq_k fun KS23 ks23 => (xblock (xseq_k fun KS24 ks24 => (xregS [0, 1, 2] fun KR25 kr25 => ?_)))))))))))
       refine wpS.qs [(0, 21, .int .i64 z9), (1, 22, .int .i64 (isub .i64 z9 1))] ?_
       obtain ⟨x14, hx, h⟩ := of_bind h
       refine wpS.tk 2 false (some 4) (.int .i64 x14) (yld_int hx (fun _ => by kernel_rfl)) ?_
       refine wpS.fin rfl (kr25 _ _ (then_n (ks24 _ _ (xseq_k fun KS26 ks26 => (xregS [0, 1] fun KR27 kr27 => ?_)))))
       refine wpS.qs [(0, 23, .int .i64 z10), (1, 7, .int .i64 z10)] ?_
       refine wpS.fin rfl (kr27 _ _ (then_n (ks26 _ _ ?_)))
       obtain ⟨y17, hy, hk2⟩ := of_bind h
       refine wp_exq (N := fun a w => St w0 [] [.blk b4 (enc .i32 r3) 142, .blk b2 (enc .i32 (zeroA 256)) 32, .blk b1 (enc .i32 y17) 32] [] w ∧ ∃ g29 : Nat → Value, a = ⟨#[.agg (enc .i32 a0).toArray, .pointer (some ⟨b1, 0, none⟩), .pointer (some ⟨b2, 0, none⟩), .pointer (some ⟨b4, 0, none⟩), .int .i64 x14, .int .i64 z6, .int .i64 z10, (g29 7), (g29 8), undef, .pointer (some ⟨b4, 0, none⟩), .int .i64 z6, .bool true, (g10 13), (g10 14), .int .i64 z10, .bool true, (g18 17), (g18 18), (g18 19), (g18 20), .int .i64 z9, .int .i64 (isub .i64 z9 1), .int .i64 z10, (g29 24), (g29 25), (g29 26), (g29 27), (g29 28), (g29 29), (g29 30), (g29 31), (g29 32), (g29 33), (g29 34), (g29 35), (g29 36), (g29 37), (g29 38), (g29 39), (g29 40), (g29 41), (g29 42), (g29 43), (g29 44), (g29 45), (g29 46), (g29 47), (g29 48), (g29 49), (g29 50), (g29 51), (g29 52), (g29 53), (g29 54), (g29 55), (g29 56), (g29 57), (g29 58), (g29 59), (g29 60), (g29 61), (g29 62), undef, undef, undef, undef, undef, undef, undef, undef, undef, undef, undef, undef], []⟩) (fun N2 nn2 => ?_) ?_
       ·clear hk2
        refine xblock ?_
        refine wp_loop_k (fun n a w => ∃ z15 z16, kq_Back.l2 K n r3 z6 z10 x14 z15 z16 = some y17 ∧ St w0 [] [.blk b4 (enc .i32 r3) 142, .blk b2 (enc .i32 (zeroA 256)) 32, .blk b1 (enc .i32 z16) 32] [] w ∧ ∃ g28 : Nat → Value, a = ⟨#[.agg (enc .i32 a0).toArray, .pointer (some ⟨b1, 0, none⟩), .pointer (some ⟨b2, 0, none⟩), .pointer (some ⟨b4, 0, none⟩), .int .i64 x14, .int .i64 z6, .int .i64 z10, .int .i64 z15, (g28 8), undef, .pointer (some ⟨b4, 0, none⟩), .int .i64 z6, .bool true, (g10 13), (g10 14), .int .i64 z10, .bool true, (g18 17), (g18 18), (g18 19), (g18 20), .int .i64 z9, .int .i64 (isub .i64 z9 1), .int .i64 z10, (g28 24), (g28 25), (g28 26), (g28 27), (g28 28), (g28 29), (g28 30), (g28 31), (g28 32), (g28 33), (g28 34), (g28 35), (g28 36), (g28 37), (g28 38), (g28 39), (g28 40), (g28 41), (g28 42), (g28 43), (g28 44), (g28 45), (g28 46), (g28 47), (g28 48), (g28 49), (g28 50), (g28 51), (g28 52), (g28 53), (g28 54), (g28 55), (g28 56), (g28 57), (g28 58), (g28 59), (g28 60), (g28 61), (g28 62), undef, undef, undef, undef, undef, undef, undef, undef, undef, undef, undef, undef], []⟩) K ⟨z10, z11, hy, hs.conv rfl, exg (by kernel_rfl)⟩ ?_
        clear hs h hy
        rintro n a w ⟨z15, z16, h, hs, g28, rfl⟩ KL2 kl2
        cases n with
        | zero => exact nomatch (show none = some _ from h)
        | succ n =>
         refine xseq_k fun KS30 ks30 => ?_
         refine xseq_k fun KS31 ks31 => ?_
         refine xregS [0, 1, 2, 3, 4] fun KR32 kr32 => ?_
         refine wpS.qs [(0, 24, .int .i64 z15), (1, 25, .int .i64 z10), (2, 26, .int .i64 z6), (3, 27, .int .i64 (iadd .i64 z10 z6))] ?_
         rcases of_if h with ⟨hc, h⟩ | ⟨hc, h⟩
         ·refine wpS.tk 4 false (some 28) (.bool true) (yld_b (dt hc) (fun _ => by kernel_rfl)) ?_
          refine wpS.fin rfl (kr32 _ _ (then_n (ks31 _ _ (wp_cond_t (by kernel_rfl) (xskip (then_n (ks30 _ _ (xseq_k fun KS33 ks33 => (xblock (xseq_k fun KS34 ks34 => (xregS [0, 1, 2, 3] fun KR35 kr35 => ?_)))))))))))
          refine wpS.q 0 31 (.int .i64 z15) ?_
          obtain ⟨i0_36, h⟩ := of_chk h
          obtain ⟨i1_36, h⟩ := of_chk h
          refine wpS.tk 1 false (some 32) (.pointer (some ⟨b1, 0 + (z15 : Int).toNat * 1, none⟩)) (yld_idx (t := 32) (e := 21) (n := 256) (sz := 1) (k := .i64) (x := z15) (by kernel_rfl) (by kernel_rfl) (by kernel_rfl) i0_36 i1_36) ?_
          refine wpS.tk 2 true (some 33) (.int .i32 (rd z16 z15)) (yld_loadA (e := 21) (x := z15) hs 2 rfl (by kernel_rfl) (by kernel_rfl) i0_36 i1_36 .grow) ?_
          obtain ⟨x18, hx, h⟩ := of_bind h
          refine wpS.tk 3 false (some 8) (.int .i32 x18) (yld_int hx (fun _ => by kernel_rfl)) ?_
          refine wpS.fin rfl (kr35 _ _ (then_n (ks34 _ _ (xseq_k fun KS37 ks37 => (xregS [0, 1, 2, 3, 4, 5, 6, 7, 8, 9, 10] fun KR38 kr38 => ?_)))))
          refine wpS.qs [(0, 34, .int .i64 z15), (1, 35, .int .i32 x18), (2, 36, .int .i64 z15), (3, 37, .int .i64 z6), (4, 38, .int .i64 (iadd .i64 z15 z6))] ?_
          obtain ⟨x19, hx, h⟩ := of_bind h
          have hx := of_some hx
          subst hx
          obtain ⟨i0_39, h⟩ := of_chk h
          obtain ⟨i1_39, h⟩ := of_chk h
          refine wpS.tk 5 false (some 39) (.pointer (some ⟨b1, 0 + ((iadd .i64 z15 z6) : Int).toNat * 1, none⟩)) (yld_idx (t := 32) (e := 21) (n := 256) (sz := 1) (k := .i64) (x := (iadd .i64 z15 z6)) (by kernel_rfl) (by kernel_rfl) (by kernel_rfl) i0_39 i1_39) ?_
          refine wpS.tk 6 true (some 40) (.int .i32 (rd z16 (iadd .i64 z15 z6))) (yld_loadA (e := 21) (x := (iadd .i64 z15 z6)) hs 2 rfl (by kernel_rfl) (by kernel_rfl) i0_39 i1_39 .grow) ?_
          refine wpS.qs [(7, 41, .int .i32 (iadd .i32 x18 (rd z16 (iadd .i64 z15 z6)))), (8, 42, .int .i32 (irem .i32 (iadd .i32 x18 (rd z16 (iadd .i64 z15 z6))) 3329))] ?_
          obtain ⟨i0_40, h⟩ := of_chk h
          obtain ⟨i1_40, h⟩ := of_chk h
          refine wpS.tk 9 false (some 43) (.pointer (some ⟨b1, 0 + (z15 : Int).toNat * 1, none⟩)) (yld_idx (t := 32) (e := 21) (n := 256) (sz := 1) (k := .i64) (x := z15) (by kernel_rfl) (by kernel_rfl) (by kernel_rfl) i0_40 i1_40) ?_
          obtain ⟨x20, hx, h⟩ := of_bind h
          refine wpS.only 10 (op_storeA (t := 21) (x := z15) (v := x20) (d := none) (by kernel_rfl) hs 2 rfl (by cases hx; kernel_rfl) (by kernel_rfl) i0_40 i1_40 ?_)
          intro w kp hs
          refine ⟨fun _ => trivial, ?_⟩
          refine wpS.fin rfl (kr38 _ _ (then_n (ks37 _ _ ?_)))
          refine wp_regG [19] (fun k => True) 20 (by kernel_rfl) (by kernel_rfl) (by kernel_rfl) fun KR41 kr41 => ?_
          have hs := hs.drawn1
          refine wpG.q 0 44 (.int .i64 z15) ?_
          refine wpG.q 1 45 (.int .i64 z6) ?_
          refine wpG.q 2 46 (.int .i64 (iadd .i64 z15 z6)) ?_
          refine wpG.q 3 47 (.pointer (some ⟨b4, 0, none⟩)) ?_
          refine wpG.q 4 48 (.int .i64 x14) ?_
          refine wpG.q 5 49 (.pointer (some ⟨b4, 0, none⟩)) ?_
          obtain ⟨i0_42, h⟩ := of_chk h
          obtain ⟨i1_42, h⟩ := of_chk h
          refine wpG.tD 6 false (some 50) (.pointer (some ⟨b4, 0 + (x14 : Int).toNat * 1, none⟩)) (yld_idx (t := 142) (e := 21) (n := 128) (sz := 1) (k := .i64) (x := x14) (by kernel_rfl) (by kernel_rfl) (by kernel_rfl) i0_42 i1_42) ?_
          refine wpG.tD 7 true (some 51) (.int .i32 (rd r3 x14)) (yld_loadA (e := 21) (x := x14) hs 0 rfl (by kernel_rfl) (by kernel_rfl) i0_42 i1_42 .grow) ?_
          refine wpG.q 8 52 (.int .i64 z15) ?_
          refine wpG.q 9 53 (.int .i64 z6) ?_
          refine wpG.q 10 54 (.int .i64 (iadd .i64 z15 z6)) ?_
          obtain ⟨x21, hx, h⟩ := of_bind h
          have hx := of_some hx
          subst hx
          obtain ⟨i0_43, h⟩ := of_chk h
          obtain ⟨i1_43, h⟩ := of_chk h
          refine wpG.tD 11 false (some 55) (.pointer (some ⟨b1, 0 + ((iadd .i64 z15 z6) : Int).toNat * 1, none⟩)) (yld_idx (t := 32) (e := 21) (n := 256) (sz := 1) (k := .i64) (x := (iadd .i64 z15 z6)) (by kernel_rfl) (by kernel_rfl) (by kernel_rfl) i0_43 i1_43) ?_
          refine wpG.tD 12 true (some 56) (.int .i32 (rd (wr z16 z15 x20) (iadd .i64 z15 z6))) (yld_loadA (e := 21) (x := (iadd .i64 z15 z6)) hs 2 rfl (by kernel_rfl) (by kernel_rfl) i0_43 i1_43 .grow) ?_
          refine wpG.q 13 57 (.int .i32 x18) ?_
          refine wpG.q 14 58 (.int .i32 (isub .i32 (rd (wr z16 z15 x20) (iadd .i64 z15 z6)) x18)) ?_
          refine wpG.q 15 59 (.int .i32 (iadd .i32 (isub .i32 (rd (wr z16 z15 x20) (iadd .i64 z15 z6)) x18) 3329)) ?_
          refine wpG.q 16 60 (.int .i32 (imul .i32 (rd r3 x14) (iadd .i32 (isub .i32 (rd (wr z16 z15 x20) (iadd .i64 z15 z6)) x18) 3329))) ?_
          refine wpG.q 17 61 (.int .i32 (irem .i32 (imul .i32 (rd r3 x14) (iadd .i32 (isub .i32 (rd (wr z16 z15 x20) (iadd .i64 z15 z6)) x18) 3329)) 3329)) ?_
          obtain ⟨x22, hx, h⟩ := of_bind h
          have hx := of_some hx
          subst hx
          obtain ⟨i0_44, h⟩ := of_chk h
          obtain ⟨i1_44, h⟩ := of_chk h
          refine wpG.tD 18 false (some 62) (.pointer (some ⟨b1, 0 + ((iadd .i64 z15 z6) : Int).toNat * 1, none⟩)) (yld_idx (t := 32) (e := 21) (n := 256) (sz := 1) (k := .i64) (x := (iadd .i64 z15 z6)) (by kernel_rfl) (by kernel_rfl) (by kernel_rfl) i0_44 i1_44) ?_
          obtain ⟨x23, hx, h⟩ := of_bind h
          refine wpG.only 19 (by kernel_rfl) (op_storeA (t := 21) (x := (iadd .i64 z15 z6)) (v := x23) (d := none) (by kernel_rfl) hs 2 rfl (by cases hx; kernel_rfl) (by kernel_rfl) i0_44 i1_44 ?_)
          intro w kp hs
          refine ⟨⟨fun hf => absurd hf (by decide), .all _ _⟩, ?_⟩
          refine wpG.fin (by kernel_rfl) rfl (kr41 _ _ ?_)
          refine inBlock_n (then_n (ks33 _ _ (xregS [0, 1, 2] fun KR45 kr45 => ?_)))
          refine wpS.qs [(0, 29, .int .i64 z15), (1, 30, .int .i64 (iadd .i64 z15 1))] ?_
          obtain ⟨x24, hx, h⟩ := of_bind h
          refine wpS.tk 2 false (some 7) (.int .i64 x24) (yld_int hx (fun _ => by kernel_rfl)) ?_
          refine wpS.fin rfl (kr45 _ _ ?_)
          exact then_n (kl2 _ _ ⟨n, Nat.lt_succ_self n, x24, (wr (wr z16 z15 x20) (iadd .i64 z15 z6) x23), h, (hs.conv rfl), exg (by kernel_rfl)⟩)
         refine wpS.tk 4 false (some 28) (.bool false) (yld_b (df hc) (fun _ => by kernel_rfl)) ?_
         refine wpS.fin rfl (kr32 _ _ (then_n (ks31 _ _ (wp_cond_f (by kernel_rfl) (xexit (then_x (then_x (inBlock_hit ?_))))))))
         have q0 := of_some h
         subst q0
         exact exq_n (nn2 _ _ ⟨(hs.conv rfl), exg (by kernel_rfl)⟩)
       clear hs h hy
       rintro a w ⟨hs, g29, rfl⟩
       have h := hk2
       refine inBlock_n (then_n (ks23 _ _ (xregS [0, 1, 2, 3, 4] fun KR46 kr46 => ?_)))
       refine wpS.qs [(0, 17, .int .i64 z10), (1, 18, .int .i64 z6), (2, 19, .int .i64 (imul .i64 2 z6)), (3, 20, .int .i64 (iadd .i64 z10 (imul .i64 2 z6)))] ?_
       obtain ⟨x25, hx, h⟩ := of_bind h
       refine wpS.tk 4 false (some 6) (.int .i64 x25) (yld_int hx (fun _ => by kernel_rfl)) ?_
       refine wpS.fin rfl (kr46 _ _ ?_)
       exact then_n (kl1 _ _ ⟨n, Nat.lt_succ_self n, x14, x25, y17, h, (hs.conv rfl), exg (by kernel_rfl)⟩)
      refine wpS.tk 1 false (some 16) (.bool false) (yld_b (df hc) (fun _ => by kernel_rfl)) ?_
      refine wpS.fin rfl (kr22 _ _ (then_n (ks21 _ _ (wp_cond_f (by kernel_rfl) (xexit (then_x (then_x (inBlock_hit ?_))))))))
      obtain ⟨q0, qr0⟩ := Prod.mk.inj (of_some h)
      have q1 := qr0
      subst q0
      subst q1
      exact exq_n (nn1 _ _ ⟨(hs.conv rfl), exg (by kernel_rfl)⟩)
    clear hs h hy
    rintro a w ⟨hs, g19, rfl⟩
    have h := hk1
    refine inBlock_n (then_n (ks15 _ _ (xregS [0, 1, 2] fun KR47 kr47 => ?_)))
    refine wpS.qs [(0, 13, .int .i64 z6), (1, 14, .int .i64 (imul .i64 z6 2))] ?_
    obtain ⟨x26, hx, h⟩ := of_bind h
    refine wpS.tk 2 false (some 5) (.int .i64 x26) (yld_int hx (fun _ => by kernel_rfl)) ?_
    refine wpS.fin rfl (kr47 _ _ ?_)
    exact then_n (kl0 _ _ ⟨n, Nat.lt_succ_self n, y12, x26, y13, h, (hs.conv rfl), exg (by kernel_rfl)⟩)
   refine wpS.tk 1 false (some 12) (.bool false) (yld_b (df hc) (fun _ => by kernel_rfl)) ?_
   refine wpS.fin rfl (kr14 _ _ (then_n (ks13 _ _ (wp_cond_f (by kernel_rfl) (xexit (then_x (then_x (inBlock_hit ?_))))))))
   have q0 := of_some h
   subst q0
   exact exq_n (nn0 _ _ ⟨(hs.conv rfl), exg (by kernel_rfl)⟩)
 clear hs h hy
 rintro a w ⟨hs, g11, rfl⟩
 have h := hk0
 refine then_n (ks7 _ _ (xseq_k fun KS48 ks48 => (xseq_k fun KS49 ks49 => (xregS [0] fun KR50 kr50 => ?_))))
 refine wpS.q 0 63 (.int .i64 0) ?_
 refine wpS.fin rfl (kr50 _ _ (then_n (ks49 _ _ ?_)))
 obtain ⟨y29, hy, hk3⟩ := of_bind h
 refine wp_exq (N := fun a w => St w0 [] [.blk b4 (enc .i32 r3) 142, .blk b2 (enc .i32 (zeroA 256)) 32, .blk b1 (enc .i32 y29) 32] [] w ∧ ∃ g52 : Nat → Value, a = ⟨#[.agg (enc .i32 a0).toArray, .pointer (some ⟨b1, 0, none⟩), .pointer (some ⟨b2, 0, none⟩), .pointer (some ⟨b4, 0, none⟩), (g11 4), (g11 5), (g11 6), (g11 7), (g11 8), (g52 9), .pointer (some ⟨b4, 0, none⟩), (g11 11), (g11 12), (g11 13), (g11 14), (g11 15), (g11 16), (g11 17), (g11 18), (g11 19), (g11 20), (g11 21), (g11 22), (g11 23), (g11 24), (g11 25), (g11 26), (g11 27), (g11 28), (g11 29), (g11 30), (g11 31), (g11 32), (g11 33), (g11 34), (g11 35), (g11 36), (g11 37), (g11 38), (g11 39), (g11 40), (g11 41), (g11 42), (g11 43), (g11 44), (g11 45), (g11 46), (g11 47), (g11 48), (g11 49), (g11 50), (g11 51), (g11 52), (g11 53), (g11 54), (g11 55), (g11 56), (g11 57), (g11 58), (g11 59), (g11 60), (g11 61), (g11 62), (g52 63), (g52 64), (g52 65), (g52 66), (g52 67), (g52 68), (g52 69), (g52 70), (g52 71), (g52 72), (g52 73), undef], []⟩) (fun N3 nn3 => ?_) ?_
 ·clear hk3
  refine xblock ?_
  refine wp_loop_k (fun n a w => ∃ z27 z28, kq_Back.l3 K n z27 z28 = some y29 ∧ St w0 [] [.blk b4 (enc .i32 r3) 142, .blk b2 (enc .i32 (zeroA 256)) 32, .blk b1 (enc .i32 z28) 32] [] w ∧ ∃ g51 : Nat → Value, a = ⟨#[.agg (enc .i32 a0).toArray, .pointer (some ⟨b1, 0, none⟩), .pointer (some ⟨b2, 0, none⟩), .pointer (some ⟨b4, 0, none⟩), (g11 4), (g11 5), (g11 6), (g11 7), (g11 8), (g51 9), .pointer (some ⟨b4, 0, none⟩), (g11 11), (g11 12), (g11 13), (g11 14), (g11 15), (g11 16), (g11 17), (g11 18), (g11 19), (g11 20), (g11 21), (g11 22), (g11 23), (g11 24), (g11 25), (g11 26), (g11 27), (g11 28), (g11 29), (g11 30), (g11 31), (g11 32), (g11 33), (g11 34), (g11 35), (g11 36), (g11 37), (g11 38), (g11 39), (g11 40), (g11 41), (g11 42), (g11 43), (g11 44), (g11 45), (g11 46), (g11 47), (g11 48), (g11 49), (g11 50), (g11 51), (g11 52), (g11 53), (g11 54), (g11 55), (g11 56), (g11 57), (g11 58), (g11 59), (g11 60), (g11 61), (g11 62), .int .i64 z27, (g51 64), (g51 65), (g51 66), (g51 67), (g51 68), (g51 69), (g51 70), (g51 71), (g51 72), (g51 73), undef], []⟩) K ⟨0, y8, hy, hs.conv rfl, exg (by kernel_rfl)⟩ ?_
  clear hs h hy
  rintro n a w ⟨z27, z28, h, hs, g51, rfl⟩ KL3 kl3
  cases n with
  | zero => exact nomatch (show none = some _ from h)
  | succ n =>
   refine xseq_k fun KS53 ks53 => ?_
   refine xregS [0] fun KR54 kr54 => ?_
   rcases of_if h with ⟨hc, h⟩ | ⟨hc, h⟩
   ·refine wpS.tk 0 false (some 64) (.bool true) (yld_b (dt hc) (fun _ => by kernel_rfl)) ?_
    refine wpS.fin rfl (kr54 _ _ (then_n (ks53 _ _ (xseq_k fun KS55 ks55 => (wp_cond_t (by kernel_rfl) (xskip (then_n (ks55 _ _ (xseq_k fun KS56 ks56 => (xblock (xseq_k fun KS57 ks57 => (xregS [0, 1] fun KR58 kr58 => ?_))))))))))))
    refine wpS.qs [(0, 65, .int .i64 z27), (1, 9, .int .i64 z27)] ?_
    refine wpS.fin rfl (kr58 _ _ (then_n (ks57 _ _ (xregS [0, 1, 2, 3, 4, 5, 6, 7] fun KR59 kr59 => ?_))))
    refine wpS.qs [(0, 66, .int .i64 z27), (1, 67, .int .i64 z27)] ?_
    obtain ⟨i0_60, h⟩ := of_chk h
    obtain ⟨i1_60, h⟩ := of_chk h
    refine wpS.tk 2 false (some 68) (.pointer (some ⟨b1, 0 + (z27 : Int).toNat * 1, none⟩)) (yld_idx (t := 32) (e := 21) (n := 256) (sz := 1) (k := .i64) (x := z27) (by kernel_rfl) (by kernel_rfl) (by kernel_rfl) i0_60 i1_60) ?_
    refine wpS.tk 3 true (some 69) (.int .i32 (rd z28 z27)) (yld_loadA (e := 21) (x := z27) hs 2 rfl (by kernel_rfl) (by kernel_rfl) i0_60 i1_60 .grow) ?_
    refine wpS.qs [(4, 70, .int .i32 (imul .i32 (rd z28 z27) 3303)), (5, 71, .int .i32 (irem .i32 (imul .i32 (rd z28 z27) 3303) 3329))] ?_
    obtain ⟨i0_61, h⟩ := of_chk h
    obtain ⟨i1_61, h⟩ := of_chk h
    refine wpS.tk 6 false (some 72) (.pointer (some ⟨b1, 0 + (z27 : Int).toNat * 1, none⟩)) (yld_idx (t := 32) (e := 21) (n := 256) (sz := 1) (k := .i64) (x := z27) (by kernel_rfl) (by kernel_rfl) (by kernel_rfl) i0_61 i1_61) ?_
    obtain ⟨x30, hx, h⟩ := of_bind h
    refine wpS.only 7 (op_storeA (t := 21) (x := z27) (v := x30) (d := none) (by kernel_rfl) hs 2 rfl (by cases hx; kernel_rfl) (by kernel_rfl) i0_61 i1_61 ?_)
    intro w kp hs
    refine ⟨fun _ => trivial, ?_⟩
    refine wpS.fin rfl (kr59 _ _ (inBlock_n (then_n (ks56 _ _ (xregS [0, 1] fun KR62 kr62 => ?_)))))
    refine wpS.qs [(0, 73, .int .i64 (iadd .i64 z27 1)), (1, 63, .int .i64 (iadd .i64 z27 1))] ?_
    refine wpS.fin rfl (kr62 _ _ ?_)
    exact then_n (kl3 _ _ ⟨n, Nat.lt_succ_self n, (iadd .i64 z27 1), (wr z28 z27 x30), h, (hs.conv rfl), exg (by kernel_rfl)⟩)
   refine wpS.tk 0 false (some 64) (.bool false) (yld_b (df hc) (fun _ => by kernel_rfl)) ?_
   refine wpS.fin rfl (kr54 _ _ (then_n (ks53 _ _ (xseq_k fun KS63 ks63 => (wp_cond_f (by kernel_rfl) (xexit (then_x (then_x (inBlock_hit ?_)))))))))
   have q0 := of_some h
   subst q0
   exact exq_n (nn3 _ _ ⟨(hs.conv rfl), exg (by kernel_rfl)⟩)
 clear hs h hy
 rintro a w ⟨hs, g52, rfl⟩
 have h := hk3
 refine then_n (ks48 _ _ (xseq_k fun KS64 ks64 => (xregS [0, 1] fun KR65 kr65 => ?_)))
 refine wpS.tk 0 true (some 74) (.agg (enc .i32 y29).toArray) (yld_loadW (e := 32) (n := 256) hs 2 rfl (by kernel_rfl) (by kernel_rfl) (by kernel_rfl) (by exact enc_len _ _) .grow) ?_
 refine wpS.only 1 (op_storeW (t := 32) (v := .agg (enc .i32 y29).toArray) (d := none) (by kernel_rfl) hs 1 rfl (vs := enc .i32 y29) (n := 256) (by kernel_rfl) (by kernel_rfl) (by kernel_rfl) (by simp [enc_len]) (by simp [enc_len]) (by intro u hu; exact enc_one _ _ u hu) ?_)
 intro w kp hs
 refine ⟨fun _ => trivial, ?_⟩
 refine wpS.fin rfl (kr65 _ _ (then_n (ks64 _ _ (xret ?_))))
 have q0 := of_some h
 subst q0
 exact qq _ _ (post_ret (by kernel_rfl) (run_results [.cell 2 32] [.agg (enc .i32 y29).toArray] (by kernel_rfl) (.cons (res_cellN (n := 256) hs 1 rfl (by kernel_rfl) (by kernel_rfl) (by kernel_rfl) (by exact enc_len _ _)) .nil)) ⟨congrArg Ending.returned (by kernel_rfl), hs.none⟩)
end Go.Proofs.YtemdbgmldljbpaaDoor
