/- Printed by this work's own program: the code of each function below comes to the answer that its plain form tells. -/
import Derived.Test.YtmpagpbnpgcecaaMd
import Derived.Test.YtmpagpbnpgcecaaProg
import Derived.Test.YtmpagpbnpgcecaaGF0
set_option linter.unusedVariables false
set_option linter.unusedSimpArgs false
set_option maxRecDepth 100000
set_option maxHeartbeats 4000000
namespace Go.Proofs.Ytmpagpbnpgcecaa
open Go.Mx
attribute [local irreducible] wpOp

theorem law12_few.ok {K : Nat} {a0 : List (List Int)} {r0 : Bool} {a0_A : Option Addr} {a0_n : Nat} {a0_c : Nat} {a0_H : List HS} (h : law12_few.f K a0 = some r0) (w0 : World) (hp0 : LLP (CI .u8) w0 a0_A a0_n a0_c a0_H a0) : Ret Try.prog 28 #[.slice a0_A a0_n a0_c] w0 (.bool r0) := by
 refine calls_k Try.func28 rfl fun Q qq => ?_
 have hs := St.startR (all_cons (LLP.ent hp0) all_nil)
 refine wp_conv (a' := ⟨#[.slice a0_A a0_n a0_c, undef, undef, undef, undef, undef, undef, undef, undef, undef, undef, undef, undef, undef, undef], []⟩) (by kernel_rfl) ?_
 refine xseq_k fun KS1 ks1 => ?_
 refine xregS [0] fun KR2 kr2 => ?_
 refine wpS.q 0 2 (.bool false) ?_
 refine wpS.fin rfl (kr2 _ _ (then_n (ks1 _ _ (xseq_k fun KS3 ks3 => (xseq_k fun KS4 ks4 => (xregS [0, 1, 2] fun KR5 kr5 => ?_))))))
 refine wpS.q 0 5 (.slice a0_A a0_n a0_c) ?_
 refine wpS.tk 1 false (some 6) (.int .i64 (a0.length : Int)) (yld_lenLL (hs.rowLL 0 rfl) (fun _ => by kernel_rfl)) ?_
 refine wpS.q 2 7 (.int .i64 0) ?_
 refine wpS.fin rfl (kr5 _ _ (then_n (ks4 _ _ ?_)))
 obtain ⟨t0, hy, hk0⟩ := of_bind h
 refine wp_exq (N := fun a w => t0 = .inl () ∧ St w0 [] [] [.rowLL (CI .u8) a0_A a0_n a0_c a0_H a0] w ∧ ∃ g7 : Nat → Value, a = ⟨#[.slice a0_A a0_n a0_c, undef, (g7 2), undef, (g7 4), .slice a0_A a0_n a0_c, .int .i64 (a0.length : Int), (g7 7), (g7 8), (g7 9), (g7 10), (g7 11), (g7 12), (g7 13), (g7 14)], []⟩) (fun N0 nn0 => ?_) ?_
 ·refine xblock ?_
  refine wp_loop_k (fun n a w => ∃ z1, law12_few.l0 K n a0 z1 = some t0 ∧ St w0 [] [] [.rowLL (CI .u8) a0_A a0_n a0_c a0_H a0] w ∧ ∃ g6 : Nat → Value, a = ⟨#[.slice a0_A a0_n a0_c, undef, (g6 2), undef, (g6 4), .slice a0_A a0_n a0_c, .int .i64 (a0.length : Int), .int .i64 z1, (g6 8), (g6 9), (g6 10), (g6 11), (g6 12), (g6 13), (g6 14)], []⟩) K ⟨0, hy, hs.conv rfl, exg (by kernel_rfl)⟩ ?_
  clear hs h hy
  rintro n a w ⟨z1, h, hs, g6, rfl⟩ KL0 kl0
  cases n with
  | zero => exact nomatch (show none = some _ from h)
  | succ n =>
   refine xseq_k fun KS8 ks8 => ?_
   refine xregS [0] fun KR9 kr9 => ?_
   rcases of_if h with ⟨hc, h⟩ | ⟨hc, h⟩
   ·refine wpS.tk 0 false (some 8) (.bool true) (yld_b (dt hc) (fun _ => by kernel_rfl)) ?_
    refine wpS.fin rfl (kr9 _ _ (then_n (ks8 _ _ (xseq_k fun KS10 ks10 => (wp_cond_t (by kernel_rfl) (xskip (then_n (ks10 _ _ (xseq_k fun KS11 ks11 => (xblock (xseq_k fun KS12 ks12 => (xregS [0, 1, 2] fun KR13 kr13 => ?_))))))))))))
    obtain ⟨h0, h⟩ := of_chk h
    obtain ⟨h1, h⟩ := of_chk h
    have i0_14 := h0
    have i1_14 := h1
    refine wpS.tk 0 false (some 9) (.pointer (adr a0_A ((z1 : Int).toNat * Cod.size (CI .u8)))) (yld_idxLL (C := (CI .u8)) (t := 44) (e := 26) (k := .i64) (x := z1) (hs.rowLL 0 rfl) (by kernel_rfl) (by kernel_rfl) (by kernel_rfl) h0 h1) ?_
    obtain ⟨s2_A, hA⟩ : ∃ A, A = (rdL CS a0_H z1).1 := ⟨_, rfl⟩
    obtain ⟨s2_n, hn⟩ : ∃ n, n = (rdL CS a0_H z1).2.1 := ⟨_, rfl⟩
    obtain ⟨s2_c, hc⟩ : ∃ c, c = (rdL CS a0_H z1).2.2 := ⟨_, rfl⟩
    refine wpS.tk 1 true (some 10) (.slice s2_A s2_n s2_c) (by subst hA hn hc; exact yld_loadLL (C := (CI .u8)) (e := 26) (x := z1) (hs.rowLL 0 rfl) (by kernel_rfl) (by kernel_rfl) i0_14 i1_14) ?_
    have hs := hs.addInn (C := (CI .u8)) 0 rfl i0_14 i1_14 hA hn hc
    refine wpS.q 2 4 (.slice s2_A s2_n s2_c) ?_
    refine wpS.fin rfl (kr13 _ _ (then_n (ks12 _ _ (xseq_k fun KS15 ks15 => (xregS [0, 1, 2] fun KR16 kr16 => ?_)))))
    refine wpS.q 0 11 (.slice s2_A s2_n s2_c) ?_
    refine wpS.tk 1 false (some 12) (.int .i64 ((rdLL a0 z1).length : Int)) (yld_lenL (hs.rowR 0 rfl) (fun _ => by kernel_rfl)) ?_
    rcases of_if h with ⟨hc, h⟩ | ⟨hc, h⟩
    ·refine wpS.tk 2 false (some 13) (.bool true) (yld_b (dt hc) (fun _ => by kernel_rfl)) ?_
     refine wpS.fin rfl (kr16 _ _ (then_n (ks15 _ _ (wp_cond_t (by kernel_rfl) (xseq_k fun KS17 ks17 => (xregS [0] fun KR18 kr18 => ?_))))))
     refine wpS.q 0 2 (.bool false) ?_
     refine wpS.fin rfl (kr18 _ _ (then_n (ks17 _ _ (xret (inBlock_r (then_r (then_r (inBlock_r (exq_r (then_r ?_))))))))))
     have q0 := of_some h
     subst q0
     have q0 := of_some hk0
     subst q0
     exact qq _ _ (post_ret (by kernel_rfl) (run_results [.tmp 2] [.bool false] (by kernel_rfl) (.cons (res_tmp (by kernel_rfl)) .nil)) ⟨congrArg Ending.returned (by kernel_rfl), hs.none⟩)
    refine wpS.tk 2 false (some 13) (.bool false) (yld_b (df hc) (fun _ => by kernel_rfl)) ?_
    refine wpS.fin rfl (kr16 _ _ (then_n (ks15 _ _ (wp_cond_f (by kernel_rfl) (xskip (inBlock_n (then_n (ks11 _ _ (xregS [0, 1] fun KR19 kr19 => ?_)))))))))
    refine wpS.qs [(0, 14, .int .i64 (iadd .i64 z1 1)), (1, 7, .int .i64 (iadd .i64 z1 1))] ?_
    refine wpS.fin rfl (kr19 _ _ ?_)
    exact then_n (kl0 _ _ ⟨n, Nat.lt_succ_self n, (iadd .i64 z1 1), h, (hs.pickR (pick_cons 1 rfl pick_nil)), exg (by kernel_rfl)⟩)
   refine wpS.tk 0 false (some 8) (.bool false) (yld_b (df hc) (fun _ => by kernel_rfl)) ?_
   refine wpS.fin rfl (kr9 _ _ (then_n (ks8 _ _ (xseq_k fun KS20 ks20 => (wp_cond_f (by kernel_rfl) (xexit (then_x (then_x (inBlock_hit ?_)))))))))
   have q0 := of_some h
   subst q0
   exact exq_n (nn0 _ _ ⟨rfl, (hs.conv rfl), exg (by kernel_rfl)⟩)
 clear hs h hy
 rintro a w ⟨rfl, hs, g7, rfl⟩
 have h := hk0
 refine then_n (ks3 _ _ (xseq_k fun KS21 ks21 => (xregS [0] fun KR22 kr22 => ?_)))
 refine wpS.q 0 2 (.bool true) ?_
 refine wpS.fin rfl (kr22 _ _ (then_n (ks21 _ _ (xret ?_))))
 have q0 := of_some h
 subst q0
 exact qq _ _ (post_ret (by kernel_rfl) (run_results [.tmp 2] [.bool true] (by kernel_rfl) (.cons (res_tmp (by kernel_rfl)) .nil)) ⟨congrArg Ending.returned (by kernel_rfl), hs.none⟩)

theorem gcm_sized.ok {K : Nat} {a0 : List Int} {r0 : Bool} {a0_A : Option Addr} {a0_n : Nat} {a0_c : Nat} (h : gcm_sized.f K a0 = some r0) (w0 : World) (hp0 : RowL (CI .u8) w0 a0_A a0_n a0_c a0) : Ret Try.prog 65 #[.slice a0_A a0_n a0_c] w0 (.bool r0) := by
 refine calls_k Try.func65 rfl fun Q qq => ?_
 have hs := St.startR (all_cons (RowP.ent hp0) all_nil)
 refine wp_conv (a' := ⟨#[.slice a0_A a0_n a0_c, undef, undef, undef, undef, undef, undef, undef, undef, undef, undef, undef, undef, undef, undef, undef], []⟩) (by kernel_rfl) ?_
 refine xseq_k fun KS1 ks1 => ?_
 refine xregS [0] fun KR2 kr2 => ?_
 refine wpS.q 0 2 (.bool false) ?_
 refine wpS.fin rfl (kr2 _ _ (then_n (ks1 _ _ (xseq_k fun KS3 ks3 => (xregS [0, 1, 2, 3, 4, 5, 6, 7, 8, 9, 10, 11, 12, 13] fun KR4 kr4 => ?_)))))
 refine wpS.q 0 3 (.slice a0_A a0_n a0_c) ?_
 refine wpS.tk 1 false (some 4) (.int .i64 (a0.length : Int)) (yld_lenL (hs.rowR 0 rfl) (fun _ => by kernel_rfl)) ?_
 rcases of_if h with ⟨hc, h⟩ | ⟨hc, h⟩
 ·refine wpS.tk 2 false (some 5) (.bool true) (yld_b (et hc) (fun _ => by kernel_rfl)) ?_
  refine wpS.qs [(3, 6, .bool true), (4, 7, undef), (5, 8, undef), (6, 9, undef), (7, 10, .bool true), (8, 11, .bool true), (9, 12, undef), (10, 13, undef), (11, 14, undef), (12, 15, .bool true), (13, 2, .bool true)] ?_
  refine wpS.fin rfl (kr4 _ _ (then_n (ks3 _ _ (xret ?_))))
  have q0 := of_some h
  subst q0
  exact qq _ _ (post_ret (by kernel_rfl) (run_results [.tmp 2] [.bool true] (by kernel_rfl) (.cons (res_tmp (by kernel_rfl)) .nil)) ⟨congrArg Ending.returned (by kernel_rfl), hs.none⟩)
 refine wpS.tk 2 false (some 5) (.bool false) (yld_b (ef hc) (fun _ => by kernel_rfl)) ?_
 refine wpS.qs [(3, 6, .bool false), (4, 7, .slice a0_A a0_n a0_c)] ?_
 refine wpS.tk 5 false (some 8) (.int .i64 (a0.length : Int)) (yld_lenL (hs.rowR 0 rfl) (fun _ => by kernel_rfl)) ?_
 rcases of_if h with ⟨hc, h⟩ | ⟨hc, h⟩
 ·refine wpS.tk 6 false (some 9) (.bool true) (yld_b (et hc) (fun _ => by kernel_rfl)) ?_
  refine wpS.qs [(7, 10, .bool true), (8, 11, .bool true), (9, 12, undef), (10, 13, undef), (11, 14, undef), (12, 15, .bool true), (13, 2, .bool true)] ?_
  refine wpS.fin rfl (kr4 _ _ (then_n (ks3 _ _ (xret ?_))))
  have q0 := of_some h
  subst q0
  exact qq _ _ (post_ret (by kernel_rfl) (run_results [.tmp 2] [.bool true] (by kernel_rfl) (.cons (res_tmp (by kernel_rfl)) .nil)) ⟨congrArg Ending.returned (by kernel_rfl), hs.none⟩)
 refine wpS.tk 6 false (some 9) (.bool false) (yld_b (ef hc) (fun _ => by kernel_rfl)) ?_
 refine wpS.qs [(7, 10, .bool false), (8, 11, .bool false), (9, 12, .slice a0_A a0_n a0_c)] ?_
 refine wpS.tk 10 false (some 13) (.int .i64 (a0.length : Int)) (yld_lenL (hs.rowR 0 rfl) (fun _ => by kernel_rfl)) ?_
 refine wpS.qs [(11, 14, .bool ((a0.length : Int) == 32)), (12, 15, .bool ((a0.length : Int) == 32)), (13, 2, .bool ((a0.length : Int) == 32))] ?_
 refine wpS.fin rfl (kr4 _ _ (then_n (ks3 _ _ (xret ?_))))
 have q0 := of_some h
 subst q0
 exact qq _ _ (post_ret (by kernel_rfl) (run_results [.tmp 2] [.bool ((a0.length : Int) == 32)] (by kernel_rfl) (.cons (res_tmp (by kernel_rfl)) .nil)) ⟨congrArg Ending.returned (by kernel_rfl), hs.none⟩)

theorem slices_Clone_byte_byte.ok {K : Nat} {a0 : List Int} {r0 : List Int} {a0_A : Option Addr} {a0_n : Nat} {a0_c : Nat} (h : slices_Clone_byte_byte.f K a0 = some r0) (w0 : World) (hp0 : RowL (CI .u8) w0 a0_A a0_n a0_c a0) : Calls Try.prog 93 #[.slice a0_A a0_n a0_c] w0 fun e w' => ∃ h : (Option Addr × Nat × Nat), e = .returned (.slice h.1 h.2.1 h.2.2) ∧ St w0 [] [.ownL (CI .u8) h.1 h.2.1 h.2.2 r0 5] [] w' := by
 refine calls_k Try.func93 rfl fun Q qq => ?_
 have hs := St.startR (all_cons (RowP.ent hp0) all_nil)
 refine wp_conv (a' := ⟨#[.slice a0_A a0_n a0_c, undef, undef, undef, undef, undef, undef, undef], []⟩) (by kernel_rfl) ?_
 refine xseq_k fun KS1 ks1 => ?_
 refine xregS [0] fun KR2 kr2 => ?_
 refine wpS.q 0 2 (.slice none 0 0) ?_
 refine wpS.fin rfl (kr2 _ _ (then_n (ks1 _ _ (xseq_k fun KS3 ks3 => (xseq_k fun KS4 ks4 => (xregS [0, 1] fun KR5 kr5 => ?_))))))
 refine wpS.q 0 3 (.slice a0_A a0_n a0_c) ?_
 cases hn : (a0_A : Option Addr).isNone with
 | true =>
  have hl := nil_list (hs.rowR 0 rfl) hn
  have h := of_isE_t hl h
  refine wpS.tk 1 false (some 4) (.bool true) (yld_nilB (t := 26) (e := 5) (C := (CI .u8)) (.tmp 3) (.const (.slice none 0 0)) (hs.rowR 0 rfl) hn (by kernel_rfl) (by kernel_rfl) (by kernel_rfl)) ?_
  refine wpS.fin rfl (kr5 _ _ (then_n (ks4 _ _ (wp_cond_t (by kernel_rfl) (xseq_k fun KS6 ks6 => (xregS [0] fun KR7 kr7 => ?_))))))
  refine wpS.q 0 2 (.slice none 0 0) ?_
  refine wpS.fin rfl (kr7 _ _ (then_n (ks6 _ _ (xret (then_r ?_)))))
  have q0 := of_some h
  subst q0
  have hs := hs.addNilL (CI .u8) 5
  exact qq _ _ (post_ret (by kernel_rfl) (run_results [.tmp 2] [.slice none 0 0] (by kernel_rfl) (.cons (res_tmp (by kernel_rfl)) .nil)) ⟨⟨none, 0, 0⟩, congrArg Ending.returned (by kernel_rfl), (hs.pickR pick_nil)⟩)
 | false =>
  have h := of_isE_f (fun hl => by simp [hl]) h
  refine wpS.tk 1 false (some 4) (.bool false) (yld_nilB (t := 26) (e := 5) (C := (CI .u8)) (.tmp 3) (.const (.slice none 0 0)) (hs.rowR 0 rfl) hn (by kernel_rfl) (by kernel_rfl) (by kernel_rfl)) ?_
  refine wpS.fin rfl (kr5 _ _ (then_n (ks4 _ _ (wp_cond_f (by kernel_rfl) (xskip (then_n (ks3 _ _ (xseq_k fun KS8 ks8 => (xregS [0, 1, 2, 3] fun KR9 kr9 => ?_)))))))))
  refine wpS.only 0 (op_lit0 (C := (CI .u8)) (t := 26) (e := 5) (parts := #[]) (d := (some 5)) (by kernel_rfl) hs rfl (by kernel_rfl) (by kernel_rfl) (by kernel_rfl) ?_)
  intro s1_A s1_n s1_c w gw hs
  refine ⟨fun _ => trivial, ?_⟩
  refine wpS.q 1 6 (.slice a0_A a0_n a0_c) ?_
  obtain ⟨h0, h⟩ := of_chk h
  refine wpS.only 2 (op_appendT (C := (CI .u8)) (t := 26) (ty := 26) (e := 5) (bytes := 1) (B := 140737488355328) (d := (some 7)) (by kernel_rfl) hs 0 rfl (hs.rowR 0 rfl) (by kernel_rfl) (by kernel_rfl) (by kernel_rfl) (by kernel_rfl) (by kernel_rfl) h0 (by decide) (by decide) ?_)
  intro s2_A s2_n s2_c w hs
  refine ⟨fun _ => trivial, ?_⟩
  refine wpS.q 3 2 (.slice s2_A s2_n s2_c) ?_
  refine wpS.fin rfl (kr9 _ _ (then_n (ks8 _ _ (xret ?_))))
  have q0 := of_some h
  subst q0
  exact qq _ _ (post_ret (by kernel_rfl) (run_results [.tmp 2] [.slice s2_A s2_n s2_c] (by kernel_rfl) (.cons (res_tmp (by kernel_rfl)) .nil)) ⟨⟨s2_A, s2_n, s2_c⟩, congrArg Ending.returned (by kernel_rfl), (hs.pickR pick_nil)⟩)

theorem bits_Xor.ok {K : Nat} {a0 : List Int} {a1 : List Int} {r0 : List Int} {a0_A : Option Addr} {a0_n : Nat} {a0_c : Nat} {a1_A : Option Addr} {a1_n : Nat} {a1_c : Nat} (h : bits_Xor.f K a0 a1 = some r0) (w0 : World) (hp0 : RowL (CI .u8) w0 a0_A a0_n a0_c a0) (hp1 : RowL (CI .u8) w0 a1_A a1_n a1_c a1) : Calls Try.prog 73 #[.slice a0_A a0_n a0_c, .slice a1_A a1_n a1_c] w0 fun e w' => ∃ h : (Option Addr × Nat × Nat), e = .returned (.slice h.1 h.2.1 h.2.2) ∧ St w0 [] [.ownL (CI .u8) h.1 h.2.1 h.2.2 r0 5] [] w' := by
 refine calls_k Try.func73 rfl fun Q qq => ?_
 have hs := St.startR (all_cons (RowP.ent hp0) (all_cons (RowP.ent hp1) all_nil))
 refine wp_conv (a' := ⟨#[.slice a0_A a0_n a0_c, .slice a1_A a1_n a1_c, undef, undef, undef, undef, undef, undef, undef, undef, undef, undef, undef, undef, undef, undef, undef, undef, undef, undef, undef, undef, undef, undef, undef, undef, undef, undef, undef, undef, undef, undef], []⟩) (by kernel_rfl) ?_
 refine xseq_k fun KS1 ks1 => ?_
 refine xregS [0] fun KR2 kr2 => ?_
 refine wpS.q 0 4 (.slice none 0 0) ?_
 refine wpS.fin rfl (kr2 _ _ (then_n (ks1 _ _ (xseq_k fun KS3 ks3 => (xregS [0, 1, 2, 3, 4, 5, 6, 7, 8] fun KR4 kr4 => ?_)))))
 refine wpS.qs [(0, 7, .slice a0_A a0_n a0_c), (1, 8, .slice a0_A a0_n a0_c)] ?_
 refine wpS.tk 2 false (some 9) (.int .i64 (a0.length : Int)) (yld_lenL (hs.rowR 0 rfl) (fun _ => by kernel_rfl)) ?_
 refine wpS.q 3 10 (.slice a1_A a1_n a1_c) ?_
 refine wpS.tk 4 false (some 11) (.int .i64 (a1.length : Int)) (yld_lenL (hs.rowR 1 rfl) (fun _ => by kernel_rfl)) ?_
 refine wpS.q 5 12 (.int .i64 (imin (a0.length : Int) (a1.length : Int))) ?_
 obtain ⟨h0, h⟩ := of_chk h
 obtain ⟨h1, h⟩ := of_chk h
 obtain ⟨h2, h⟩ := of_chk h
 obtain ⟨s1_A, hA⟩ : ∃ A, A = if a0_c = (0 : Int).toNat then a0_A else adr a0_A ((0 : Int).toNat * Cod.size (CI .u8)) := ⟨_, rfl⟩
 obtain ⟨s1_n, hn⟩ : ∃ n, n = ((imin (a0.length : Int) (a1.length : Int)) : Int).toNat - (0 : Int).toNat := ⟨_, rfl⟩
 obtain ⟨s1_c, hc⟩ : ∃ c, c = a0_c - (0 : Int).toNat := ⟨_, rfl⟩
 refine wpS.tk 6 false (some 13) (.slice s1_A s1_n s1_c) (yld_sub (C := (CI .u8)) (t := 26) (e := 5) (low := none) (high := some (.int .i64 (imin (a0.length : Int) (a1.length : Int)))) (lo := 0) (hi := (imin (a0.length : Int) (a1.length : Int))) (hs.rowR 0 rfl) (by kernel_rfl) (by kernel_rfl) (by kernel_rfl) (.inl ⟨rfl, rfl⟩) (.inr ⟨_, rfl⟩) h0 h1 h2 hA hn hc) ?_
 have hs := hs.addSub (C := (CI .u8)) 0 rfl h0 h1 h2 hA hn hc
 obtain ⟨r2, hg, h⟩ := of_bind h
 refine wpS.only 7 (op_callH (d := (some 14)) (by kernel_rfl) hs (fun _ => by kernel_rfl) (slices_Clone_byte_byte.ok hg _ (hs.rowR 0 rfl)) ?_)
 rintro ⟨r2_A, r2_n, r2_c⟩ w gw hs
 have hs := hs.conv (L' := [.ownL (CI .u8) r2_A r2_n r2_c r2 5]) rfl
 refine ⟨fun _ => trivial, ?_⟩
 refine wpS.q 8 5 (.slice r2_A r2_n r2_c) ?_
 refine wpS.fin rfl (kr4 _ _ (then_n (ks3 _ _ (xseq_k fun KS5 ks5 => (xseq_k fun KS6 ks6 => (xregS [0, 1, 2] fun KR7 kr7 => ?_))))))
 refine wpS.q 0 15 (.slice r2_A r2_n r2_c) ?_
 refine wpS.tk 1 false (some 16) (.int .i64 (r2.length : Int)) (yld_lenL (hs.rowL 0 rfl) (fun _ => by kernel_rfl)) ?_
 refine wpS.q 2 17 (.int .i64 0) ?_
 refine wpS.fin rfl (kr7 _ _ (then_n (ks6 _ _ ?_)))
 obtain ⟨y5, hy, hk0⟩ := of_bind h
 refine wp_exq (N := fun a w => St w0 [] [.ownL (CI .u8) r2_A r2_n r2_c y5 5] [.rowL (CI .u8) s1_A s1_n s1_c (subL a0 0 (imin (a0.length : Int) (a1.length : Int))), .rowL (CI .u8) a0_A a0_n a0_c a0, .rowL (CI .u8) a1_A a1_n a1_c a1] w ∧ ∃ g9 : Nat → Value, a = ⟨#[.slice a0_A a0_n a0_c, .slice a1_A a1_n a1_c, undef, undef, .slice none 0 0, .slice r2_A r2_n r2_c, (g9 6), .slice a0_A a0_n a0_c, .slice a0_A a0_n a0_c, .int .i64 (a0.length : Int), .slice a1_A a1_n a1_c, .int .i64 (a1.length : Int), .int .i64 (imin (a0.length : Int) (a1.length : Int)), .slice s1_A s1_n s1_c, .slice r2_A r2_n r2_c, .slice r2_A r2_n r2_c, .int .i64 (r2.length : Int), (g9 17), (g9 18), (g9 19), (g9 20), (g9 21), (g9 22), (g9 23), (g9 24), (g9 25), (g9 26), (g9 27), (g9 28), (g9 29), (g9 30), undef], []⟩) (fun N0 nn0 => ?_) ?_
 ·clear hk0
  refine xblock ?_
  refine wp_loop_k (fun n a w => ∃ z3 z4, bits_Xor.l0 K n a1 r2 z3 z4 = some y5 ∧ St w0 [] [.ownL (CI .u8) r2_A r2_n r2_c z4 5] [.rowL (CI .u8) s1_A s1_n s1_c (subL a0 0 (imin (a0.length : Int) (a1.length : Int))), .rowL (CI .u8) a0_A a0_n a0_c a0, .rowL (CI .u8) a1_A a1_n a1_c a1] w ∧ ∃ g8 : Nat → Value, a = ⟨#[.slice a0_A a0_n a0_c, .slice a1_A a1_n a1_c, undef, undef, .slice none 0 0, .slice r2_A r2_n r2_c, (g8 6), .slice a0_A a0_n a0_c, .slice a0_A a0_n a0_c, .int .i64 (a0.length : Int), .slice a1_A a1_n a1_c, .int .i64 (a1.length : Int), .int .i64 (imin (a0.length : Int) (a1.length : Int)), .slice s1_A s1_n s1_c, .slice r2_A r2_n r2_c, .slice r2_A r2_n r2_c, .int .i64 (r2.length : Int), .int .i64 z3, (g8 18), (g8 19), (g8 20), (g8 21), (g8 22), (g8 23), (g8 24), (g8 25), (g8 26), (g8 27), (g8 28), (g8 29), (g8 30), undef], []⟩) K ⟨0, r2, hy, hs.conv rfl, exg (by kernel_rfl)⟩ ?_
  clear hs h hy
  rintro n a w ⟨z3, z4, h, hs, g8, rfl⟩ KL0 kl0
  cases n with
  | zero => exact nomatch (show none = some _ from h)
  | succ n =>
   refine xseq_k fun KS10 ks10 => ?_
   refine xregS [0] fun KR11 kr11 => ?_
   rcases of_if h with ⟨hc, h⟩ | ⟨hc, h⟩
   ·refine wpS.tk 0 false (some 18) (.bool true) (yld_b (dt hc) (fun _ => by kernel_rfl)) ?_
    refine wpS.fin rfl (kr11 _ _ (then_n (ks10 _ _ (xseq_k fun KS12 ks12 => (wp_cond_t (by kernel_rfl) (xskip (then_n (ks12 _ _ (xseq_k fun KS13 ks13 => (xblock (xseq_k fun KS14 ks14 => (xregS [0, 1] fun KR15 kr15 => ?_))))))))))))
    refine wpS.qs [(0, 19, .int .i64 z3), (1, 6, .int .i64 z3)] ?_
    refine wpS.fin rfl (kr15 _ _ (then_n (ks14 _ _ ?_)))
    refine wp_regG [10] (fun k => True) 11 (by kernel_rfl) (by kernel_rfl) (by kernel_rfl) fun KR16 kr16 => ?_
    have hs := hs.drawn1
    refine wpG.q 0 20 (.slice r2_A r2_n r2_c) ?_
    refine wpG.q 1 21 (.int .i64 z3) ?_
    obtain ⟨h0, h⟩ := of_chk h
    obtain ⟨h1, h⟩ := of_chk h
    have i0_17 := h0
    have i1_17 := h1
    refine wpG.tD 2 false (some 22) (.pointer (adr r2_A ((z3 : Int).toNat * Cod.size (CI .u8)))) (yld_idxL (C := (CI .u8)) (t := 26) (e := 5) (k := .i64) (x := z3) (hs.rowL 0 rfl) (by kernel_rfl) (by kernel_rfl) (by kernel_rfl) h0 h1) ?_
    refine wpG.tD 3 true (some 23) (.int .u8 (rdL (CI .u8) z4 z3)) (yld_loadL (C := (CI .u8)) (e := 5) (x := z3) (hs.rowL 0 rfl) (by kernel_rfl) rfl (by kernel_rfl) i0_17 i1_17) ?_
    refine wpG.q 4 24 (.slice a1_A a1_n a1_c) ?_
    refine wpG.q 5 25 (.int .i64 z3) ?_
    obtain ⟨h0, h⟩ := of_chk h
    obtain ⟨h1, h⟩ := of_chk h
    have i0_18 := h0
    have i1_18 := h1
    refine wpG.tD 6 false (some 26) (.pointer (adr a1_A ((z3 : Int).toNat * Cod.size (CI .u8)))) (yld_idxL (C := (CI .u8)) (t := 26) (e := 5) (k := .i64) (x := z3) (hs.rowR 2 rfl) (by kernel_rfl) (by kernel_rfl) (by kernel_rfl) h0 h1) ?_
    refine wpG.tD 7 true (some 27) (.int .u8 (rdL (CI .u8) a1 z3)) (yld_loadL (C := (CI .u8)) (e := 5) (x := z3) (hs.rowR 2 rfl) (by kernel_rfl) rfl (by kernel_rfl) i0_18 i1_18) ?_
    refine wpG.q 8 28 (.int .u8 (ixor .u8 (rdL (CI .u8) z4 z3) (rdL (CI .u8) a1 z3))) ?_
    obtain ⟨h0, h⟩ := of_chk h
    obtain ⟨h1, h⟩ := of_chk h
    have i0_19 := h0
    have i1_19 := h1
    refine wpG.tD 9 false (some 29) (.pointer (adr r2_A ((z3 : Int).toNat * Cod.size (CI .u8)))) (yld_idxL (C := (CI .u8)) (t := 26) (e := 5) (k := .i64) (x := z3) (hs.rowL 0 rfl) (by kernel_rfl) (by kernel_rfl) (by kernel_rfl) h0 h1) ?_
    obtain ⟨x6, hx, h⟩ := of_bind h
    refine wpG.only 10 (by kernel_rfl) (op_storeL (C := (CI .u8)) (t := 5) (x := z3) (v := x6) (d := none) (by kernel_rfl) hs 0 rfl (by cases hx; kernel_rfl) (by kernel_rfl) i0_19 i1_19 ?_)
    intro w hs
    refine ⟨⟨fun hf => absurd hf (by decide), .all _ _⟩, ?_⟩
    refine wpG.fin (by kernel_rfl) rfl (kr16 _ _ ?_)
    refine inBlock_n (then_n (ks13 _ _ (xregS [0, 1] fun KR20 kr20 => ?_)))
    refine wpS.qs [(0, 30, .int .i64 (iadd .i64 z3 1)), (1, 17, .int .i64 (iadd .i64 z3 1))] ?_
    refine wpS.fin rfl (kr20 _ _ ?_)
    exact then_n (kl0 _ _ ⟨n, Nat.lt_succ_self n, (iadd .i64 z3 1), (wrL z4 z3 x6), h, (hs.conv rfl), exg (by kernel_rfl)⟩)
   refine wpS.tk 0 false (some 18) (.bool false) (yld_b (df hc) (fun _ => by kernel_rfl)) ?_
   refine wpS.fin rfl (kr11 _ _ (then_n (ks10 _ _ (xseq_k fun KS21 ks21 => (wp_cond_f (by kernel_rfl) (xexit (then_x (then_x (inBlock_hit ?_)))))))))
   have q0 := of_some h
   subst q0
   exact exq_n (nn0 _ _ ⟨(hs.conv rfl), exg (by kernel_rfl)⟩)
 clear hs h hy
 rintro a w ⟨hs, g9, rfl⟩
 have h := hk0
 refine then_n (ks5 _ _ (xseq_k fun KS22 ks22 => (xregS [0, 1] fun KR23 kr23 => ?_)))
 refine wpS.qs [(0, 31, .slice r2_A r2_n r2_c), (1, 4, .slice r2_A r2_n r2_c)] ?_
 refine wpS.fin rfl (kr23 _ _ (then_n (ks22 _ _ (xret ?_))))
 have q0 := of_some h
 subst q0
 exact qq _ _ (post_ret (by kernel_rfl) (run_results [.tmp 4] [.slice r2_A r2_n r2_c] (by kernel_rfl) (.cons (res_tmp (by kernel_rfl)) .nil)) ⟨⟨r2_A, r2_n, r2_c⟩, congrArg Ending.returned (by kernel_rfl), (hs.pickR pick_nil)⟩)

theorem slices_Concat_byte_byte.ok {K : Nat} {a0 : List (List Int)} {r0 : List Int} {a0_A : Option Addr} {a0_n : Nat} {a0_c : Nat} {a0_H : List HS} (h : slices_Concat_byte_byte.f K a0 = some r0) (w0 : World) (hp0 : LLP (CI .u8) w0 a0_A a0_n a0_c a0_H a0) : Calls Try.prog 96 #[.slice a0_A a0_n a0_c] w0 fun e w' => ∃ h : (Option Addr × Nat × Nat), e = .returned (.slice h.1 h.2.1 h.2.2) ∧ St w0 [] [.ownL (CI .u8) h.1 h.2.1 h.2.2 r0 5] [] w' := by
 refine calls_k Try.func96 rfl fun Q qq => ?_
 have hs := St.startR (all_cons (LLP.ent hp0) all_nil)
 refine wp_conv (a' := ⟨#[.slice a0_A a0_n a0_c, undef, undef, undef, undef, undef, undef, undef, undef, undef, undef, undef, undef, undef, undef, undef, undef, undef, undef, undef, undef, undef, undef, undef, undef, undef, undef, undef, undef, undef, undef, undef, undef, undef, undef, undef], []⟩) (by kernel_rfl) ?_
 refine xseq_k fun KS1 ks1 => ?_
 refine xregS [0] fun KR2 kr2 => ?_
 refine wpS.q 0 2 (.slice none 0 0) ?_
 refine wpS.fin rfl (kr2 _ _ (then_n (ks1 _ _ (xseq_k fun KS3 ks3 => (xregS [0] fun KR4 kr4 => ?_)))))
 refine wpS.q 0 3 (.int .i64 0) ?_
 refine wpS.fin rfl (kr4 _ _ (then_n (ks3 _ _ (xseq_k fun KS5 ks5 => (xseq_k fun KS6 ks6 => (xregS [0, 1, 2] fun KR7 kr7 => ?_))))))
 refine wpS.q 0 9 (.slice a0_A a0_n a0_c) ?_
 refine wpS.tk 1 false (some 10) (.int .i64 (a0.length : Int)) (yld_lenLL (hs.rowLL 0 rfl) (fun _ => by kernel_rfl)) ?_
 refine wpS.q 2 11 (.int .i64 0) ?_
 refine wpS.fin rfl (kr7 _ _ (then_n (ks6 _ _ ?_)))
 obtain ⟨y3, hy, hk0⟩ := of_bind h
 refine wp_exq (N := fun a w => St w0 [] [] [.rowLL (CI .u8) a0_A a0_n a0_c a0_H a0] w ∧ ∃ g9 : Nat → Value, a = ⟨#[.slice a0_A a0_n a0_c, undef, .slice none 0 0, .int .i64 y3, undef, (g9 5), undef, undef, undef, .slice a0_A a0_n a0_c, .int .i64 (a0.length : Int), (g9 11), (g9 12), (g9 13), (g9 14), (g9 15), (g9 16), (g9 17), (g9 18), (g9 19), (g9 20), (g9 21), (g9 22), undef, undef, undef, undef, undef, undef, undef, undef, undef, undef, undef, undef, undef], []⟩) (fun N0 nn0 => ?_) ?_
 ·clear hk0
  refine xblock ?_
  refine wp_loop_k (fun n a w => ∃ z1 z2, slices_Concat_byte_byte.l0 K n a0 z1 z2 = some y3 ∧ St w0 [] [] [.rowLL (CI .u8) a0_A a0_n a0_c a0_H a0] w ∧ ∃ g8 : Nat → Value, a = ⟨#[.slice a0_A a0_n a0_c, undef, .slice none 0 0, .int .i64 z1, undef, (g8 5), undef, undef, undef, .slice a0_A a0_n a0_c, .int .i64 (a0.length : Int), .int .i64 z2, (g8 12), (g8 13), (g8 14), (g8 15), (g8 16), (g8 17), (g8 18), (g8 19), (g8 20), (g8 21), (g8 22), undef, undef, undef, undef, undef, undef, undef, undef, undef, undef, undef, undef, undef], []⟩) K ⟨0, 0, hy, hs.conv rfl, exg (by kernel_rfl)⟩ ?_
  clear hs h hy
  rintro n a w ⟨z1, z2, h, hs, g8, rfl⟩ KL0 kl0
  cases n with
  | zero => exact nomatch (show none = some _ from h)
  | succ n =>
   refine xseq_k fun KS10 ks10 => ?_
   refine xregS [0] fun KR11 kr11 => ?_
   rcases of_if h with ⟨hc, h⟩ | ⟨hc, h⟩
   ·refine wpS.tk 0 false (some 12) (.bool true) (yld_b (dt hc) (fun _ => by kernel_rfl)) ?_
    refine wpS.fin rfl (kr11 _ _ (then_n (ks10 _ _ (xseq_k fun KS12 ks12 => (wp_cond_t (by kernel_rfl) (xskip (then_n (ks12 _ _ (xseq_k fun KS13 ks13 => (xblock (xseq_k fun KS14 ks14 => (xregS [0, 1, 2] fun KR15 kr15 => ?_))))))))))))
    obtain ⟨h0, h⟩ := of_chk h
    obtain ⟨h1, h⟩ := of_chk h
    have i0_16 := h0
    have i1_16 := h1
    refine wpS.tk 0 false (some 13) (.pointer (adr a0_A ((z2 : Int).toNat * Cod.size (CI .u8)))) (yld_idxLL (C := (CI .u8)) (t := 44) (e := 26) (k := .i64) (x := z2) (hs.rowLL 0 rfl) (by kernel_rfl) (by kernel_rfl) (by kernel_rfl) h0 h1) ?_
    obtain ⟨s4_A, hA⟩ : ∃ A, A = (rdL CS a0_H z2).1 := ⟨_, rfl⟩
    obtain ⟨s4_n, hn⟩ : ∃ n, n = (rdL CS a0_H z2).2.1 := ⟨_, rfl⟩
    obtain ⟨s4_c, hc⟩ : ∃ c, c = (rdL CS a0_H z2).2.2 := ⟨_, rfl⟩
    refine wpS.tk 1 true (some 14) (.slice s4_A s4_n s4_c) (by subst hA hn hc; exact yld_loadLL (C := (CI .u8)) (e := 26) (x := z2) (hs.rowLL 0 rfl) (by kernel_rfl) (by kernel_rfl) i0_16 i1_16) ?_
    have hs := hs.addInn (C := (CI .u8)) 0 rfl i0_16 i1_16 hA hn hc
    refine wpS.q 2 5 (.slice s4_A s4_n s4_c) ?_
    refine wpS.fin rfl (kr15 _ _ (then_n (ks14 _ _ (xseq_k fun KS17 ks17 => (xregS [0, 1, 2, 3, 4] fun KR18 kr18 => ?_)))))
    refine wpS.qs [(0, 15, .int .i64 z1), (1, 16, .slice s4_A s4_n s4_c)] ?_
    refine wpS.tk 2 false (some 17) (.int .i64 ((rdLL a0 z2).length : Int)) (yld_lenL (hs.rowR 0 rfl) (fun _ => by kernel_rfl)) ?_
    refine wpS.q 3 18 (.int .i64 (iadd .i64 z1 ((rdLL a0 z2).length : Int))) ?_
    obtain ⟨x5, hx, h⟩ := of_bind h
    refine wpS.tk 4 false (some 3) (.int .i64 x5) (yld_int hx (fun _ => by kernel_rfl)) ?_
    refine wpS.fin rfl (kr18 _ _ (then_n (ks17 _ _ (xseq_k fun KS19 ks19 => (xregS [0, 1] fun KR20 kr20 => ?_)))))
    refine wpS.q 0 19 (.int .i64 x5) ?_
    rcases of_if h with ⟨hc, h⟩ | ⟨hc, h⟩
    ·refine wpS.tk 1 false (some 20) (.bool true) (yld_b (dt hc) (fun _ => by kernel_rfl)) ?_
     refine wpS.fin rfl (kr20 _ _ (then_n (ks19 _ _ (wp_cond_t (by kernel_rfl) (xregS [0, 1] fun KR21 kr21 => ?_)))))
     exact nomatch (show none = some _ from h)
    refine wpS.tk 1 false (some 20) (.bool false) (yld_b (df hc) (fun _ => by kernel_rfl)) ?_
    refine wpS.fin rfl (kr20 _ _ (then_n (ks19 _ _ (wp_cond_f (by kernel_rfl) (xskip (inBlock_n (then_n (ks13 _ _ (xregS [0, 1] fun KR22 kr22 => ?_)))))))))
    refine wpS.qs [(0, 22, .int .i64 (iadd .i64 z2 1)), (1, 11, .int .i64 (iadd .i64 z2 1))] ?_
    refine wpS.fin rfl (kr22 _ _ ?_)
    exact then_n (kl0 _ _ ⟨n, Nat.lt_succ_self n, x5, (iadd .i64 z2 1), h, (hs.pickR (pick_cons 1 rfl pick_nil)), exg (by kernel_rfl)⟩)
   refine wpS.tk 0 false (some 12) (.bool false) (yld_b (df hc) (fun _ => by kernel_rfl)) ?_
   refine wpS.fin rfl (kr11 _ _ (then_n (ks10 _ _ (xseq_k fun KS23 ks23 => (wp_cond_f (by kernel_rfl) (xexit (then_x (then_x (inBlock_hit ?_)))))))))
   have q0 := of_some h
   subst q0
   exact exq_n (nn0 _ _ ⟨(hs.conv rfl), exg (by kernel_rfl)⟩)
 clear hs h hy
 rintro a w ⟨hs, g9, rfl⟩
 have h := hk0
 refine then_n (ks5 _ _ (xseq_k fun KS24 ks24 => (xregS [0, 1, 2] fun KR25 kr25 => ?_)))
 refine wpS.q 0 23 (.int .i64 y3) ?_
 refine wpS.only 1 (op_inline (d := (some 24)) (f := 111) (args := #[.slice none 0 0, .int .i64 y3]) (by kernel_rfl) (fun _ => by kernel_rfl) fun R26 kI26 => ?_)
 refine calls_k Try.func111 rfl fun Q26 qq26 => ?_
 refine wp_conv (a' := ⟨#[.slice none 0 0, .int .i64 y3, undef, undef, undef, undef, undef, undef, undef, undef, undef, undef, undef, undef, undef, undef, undef, undef, undef, undef, undef, undef, undef, undef, undef, undef, undef], []⟩) (by kernel_rfl) ?_
 refine xseq_k fun KS27 ks27 => ?_
 refine xregS [0] fun KR28 kr28 => ?_
 refine wpS.q 0 4 (.slice none 0 0) ?_
 refine wpS.fin rfl (kr28 _ _ (then_n (ks27 _ _ (xseq_k fun KS29 ks29 => (xseq_k fun KS30 ks30 => (xregS [0, 1] fun KR31 kr31 => ?_))))))
 refine wpS.q 0 5 (.int .i64 y3) ?_
 rcases of_if h with ⟨hc, h⟩ | ⟨hc, h⟩
 ·refine wpS.tk 1 false (some 6) (.bool true) (yld_b (dt hc) (fun _ => by kernel_rfl)) ?_
  refine wpS.fin rfl (kr31 _ _ (then_n (ks30 _ _ (wp_cond_t (by kernel_rfl) (xregS [0, 1] fun KR32 kr32 => ?_)))))
  exact nomatch (show none = some _ from h)
 refine wpS.tk 1 false (some 6) (.bool false) (yld_b (df hc) (fun _ => by kernel_rfl)) ?_
 refine wpS.fin rfl (kr31 _ _ (then_n (ks30 _ _ (wp_cond_f (by kernel_rfl) (xskip (then_n (ks29 _ _ ?_)))))))
 obtain ⟨y6, hj, h⟩ := of_bind h
 refine xseq_k fun KS34 ks34 => wp_join (N := fun a w => ∃ (y6_A : Option Addr) (y6_n : Nat) (y6_c : Nat), St w0 [] [.ownL (CI .u8) y6_A y6_n y6_c y6 5] [.rowLL (CI .u8) a0_A a0_n a0_c a0_H a0] w ∧ ∃ g33 : Nat → Value, a = ⟨#[.slice y6_A y6_n y6_c, (g33 1), undef, undef, .slice none 0 0, .int .i64 y3, .bool false, undef, (g33 8), (g33 9), (g33 10), (g33 11), (g33 12), (g33 13), (g33 14), (g33 15), (g33 16), (g33 17), (g33 18), (g33 19), (g33 20), (g33 21), (g33 22), (g33 23), (g33 24), (g33 25), undef], []⟩) (fun N nj => ?_) ?_
 ·clear h
  have h := hj
  refine xseq_k fun KS35 ks35 => ?_
  refine xregS [0, 1, 2, 3, 4, 5, 6, 7] fun KR36 kr36 => ?_
  refine wpS.qs [(0, 8, .int .i64 y3), (1, 9, .slice none 0 0), (2, 10, .int .i64 0), (3, 11, .slice none 0 0), (4, 12, .int .i64 0), (5, 13, .int .i64 0), (6, 14, .int .i64 (isub .i64 y3 0))] ?_
  obtain ⟨x7, hx, h⟩ := of_bind h
  refine wpS.tk 7 false (some 1) (.int .i64 x7) (yld_int hx (fun _ => by kernel_rfl)) ?_
  refine wpS.fin rfl (kr36 _ _ (then_n (ks35 _ _ (xseq_k fun KS37 ks37 => (xregS [0, 1] fun KR38 kr38 => ?_)))))
  refine wpS.q 0 15 (.int .i64 x7) ?_
  rcases of_if h with ⟨hc, h⟩ | ⟨hc, h⟩
  ·refine wpS.tk 1 false (some 16) (.bool true) (yld_b (dt hc) (fun _ => by kernel_rfl)) ?_
   refine wpS.fin rfl (kr38 _ _ (then_n (ks37 _ _ (wp_cond_t (by kernel_rfl) (xregS [0, 1, 2, 3, 4, 5, 6, 7, 8, 9] fun KR39 kr39 => ?_)))))
   refine wpS.qs [(0, 17, .slice none 0 0), (1, 18, .slice none 0 0), (2, 19, .int .i64 0), (3, 20, .slice none 0 0), (4, 21, .int .i64 x7)] ?_
   obtain ⟨h0, h⟩ := of_chk h
   obtain ⟨h1, h⟩ := of_chk h
   refine wpS.only 5 (op_appendZ0 (C := (CI .u8)) (t := 26) (tn := 3) (ty := 26) (e := 5) (bytes := 1) (B := 140737488355328) (kn := .i64) (kq := .i64) (x := x7) (d := (some 22)) (by kernel_rfl) hs (by kernel_rfl) (by kernel_rfl) (by kernel_rfl) (by kernel_rfl) (by kernel_rfl) (by kernel_rfl) h0 h1 (by decide) (by decide) ?_)
   intro s8_A s8_n s8_c w gw hs
   refine ⟨fun _ => trivial, ?_⟩
   refine wpS.qs [(6, 23, .slice none 0 0), (7, 24, .int .i64 0)] ?_
   obtain ⟨h0, h⟩ := of_chk h
   obtain ⟨h1, h⟩ := of_chk h
   refine wpS.tk 8 false (some 25) (.slice s8_A (0 : Int).toNat s8_c) (yld_pre (C := (CI .u8)) (t := 26) (e := 5) (k := .i64) (hi := 0) (hs.rowL 0 rfl) (by kernel_rfl) (by kernel_rfl) (by kernel_rfl) h0 h1) ?_
   have hs := hs.preOwn 0 rfl h0 h1
   refine wpS.q 9 0 (.slice s8_A (0 : Int).toNat s8_c) ?_
   refine wpS.fin rfl (kr39 _ _ ?_)
   have q0 := of_some h
   subst q0
   exact nj _ _ ⟨s8_A, (0 : Int).toNat, s8_c, (hs.conv rfl), exg (by kernel_rfl)⟩
  refine wpS.tk 1 false (some 16) (.bool false) (yld_b (df hc) (fun _ => by kernel_rfl)) ?_
  refine wpS.fin rfl (kr38 _ _ (then_n (ks37 _ _ (wp_cond_f (by kernel_rfl) (xskip ?_)))))
  have q0 := of_some h
  subst q0
  have hs := hs.addNilL (CI .u8) 5
  exact nj _ _ ⟨none, 0, 0, (hs.conv rfl), exg (by kernel_rfl)⟩
 clear hj hs
 rintro a w ⟨y6_A, y6_n, y6_c, hs, g33, rfl⟩
 refine then_n (ks34 _ _ (xseq_k fun KS40 ks40 => (xregS [0, 1] fun KR41 kr41 => ?_)))
 refine wpS.qs [(0, 26, .slice y6_A y6_n y6_c), (1, 4, .slice y6_A y6_n y6_c)] ?_
 refine wpS.fin rfl (kr41 _ _ (then_n (ks40 _ _ (xret ?_))))
 refine qq26 _ _ (post_ret (by kernel_rfl) (run_results [.tmp 4] [.slice y6_A y6_n y6_c] (by kernel_rfl) (.cons (res_tmp (by kernel_rfl)) .nil)) ?_)
 refine kI26 _ _ ?_
 refine ⟨fun _ => trivial, ?_⟩
 refine wpS.q 2 6 (.slice y6_A y6_n y6_c) ?_
 refine wpS.fin rfl (kr25 _ _ (then_n (ks24 _ _ (xseq_k fun KS42 ks42 => (xseq_k fun KS43 ks43 => (xregS [0, 1, 2] fun KR44 kr44 => ?_))))))
 refine wpS.q 0 25 (.slice a0_A a0_n a0_c) ?_
 refine wpS.tk 1 false (some 26) (.int .i64 (a0.length : Int)) (yld_lenLL (hs.rowLL 0 rfl) (fun _ => by kernel_rfl)) ?_
 refine wpS.q 2 27 (.int .i64 0) ?_
 refine wpS.fin rfl (kr44 _ _ (then_n (ks43 _ _ ?_)))
 obtain ⟨y11, hy, hk1⟩ := of_bind h
 refine wp_exq (N := fun a w => ∃ (y11_A : Option Addr) (y11_n : Nat) (y11_c : Nat), St w0 [] [.ownL (CI .u8) y11_A y11_n y11_c y11 5] [.rowLL (CI .u8) a0_A a0_n a0_c a0_H a0] w ∧ ∃ g46 : Nat → Value, a = ⟨#[.slice a0_A a0_n a0_c, undef, .slice none 0 0, .int .i64 y3, undef, (g9 5), .slice y11_A y11_n y11_c, undef, (g46 8), .slice a0_A a0_n a0_c, .int .i64 (a0.length : Int), (g9 11), (g9 12), (g9 13), (g9 14), (g9 15), (g9 16), (g9 17), (g9 18), (g9 19), (g9 20), (g9 21), (g9 22), .int .i64 y3, .slice y6_A y6_n y6_c, .slice a0_A a0_n a0_c, .int .i64 (a0.length : Int), (g46 27), (g46 28), (g46 29), (g46 30), (g46 31), (g46 32), (g46 33), (g46 34), undef], []⟩) (fun N1 nn1 => ?_) ?_
 ·clear hk1
  refine xblock ?_
  refine wp_loop_k (fun n a w => ∃ z9 z10, ∃ (z10_A : Option Addr) (z10_n : Nat) (z10_c : Nat), slices_Concat_byte_byte.l1 K n a0 z9 z10 = some y11 ∧ St w0 [] [.ownL (CI .u8) z10_A z10_n z10_c z10 5] [.rowLL (CI .u8) a0_A a0_n a0_c a0_H a0] w ∧ ∃ g45 : Nat → Value, a = ⟨#[.slice a0_A a0_n a0_c, undef, .slice none 0 0, .int .i64 y3, undef, (g9 5), .slice z10_A z10_n z10_c, undef, (g45 8), .slice a0_A a0_n a0_c, .int .i64 (a0.length : Int), (g9 11), (g9 12), (g9 13), (g9 14), (g9 15), (g9 16), (g9 17), (g9 18), (g9 19), (g9 20), (g9 21), (g9 22), .int .i64 y3, .slice y6_A y6_n y6_c, .slice a0_A a0_n a0_c, .int .i64 (a0.length : Int), .int .i64 z9, (g45 28), (g45 29), (g45 30), (g45 31), (g45 32), (g45 33), (g45 34), undef], []⟩) K ⟨0, y6, y6_A, y6_n, y6_c, hy, hs.conv rfl, exg (by kernel_rfl)⟩ ?_
  clear hs h hy
  rintro n a w ⟨z9, z10, z10_A, z10_n, z10_c, h, hs, g45, rfl⟩ KL1 kl1
  cases n with
  | zero => exact nomatch (show none = some _ from h)
  | succ n =>
   refine xseq_k fun KS47 ks47 => ?_
   refine xregS [0] fun KR48 kr48 => ?_
   rcases of_if h with ⟨hc, h⟩ | ⟨hc, h⟩
   ·refine wpS.tk 0 false (some 28) (.bool true) (yld_b (dt hc) (fun _ => by kernel_rfl)) ?_
    refine wpS.fin rfl (kr48 _ _ (then_n (ks47 _ _ (xseq_k fun KS49 ks49 => (wp_cond_t (by kernel_rfl) (xskip (then_n (ks49 _ _ (xseq_k fun KS50 ks50 => (xblock (xseq_k fun KS51 ks51 => (xregS [0, 1, 2] fun KR52 kr52 => ?_))))))))))))
    obtain ⟨h0, h⟩ := of_chk h
    obtain ⟨h1, h⟩ := of_chk h
    have i0_53 := h0
    have i1_53 := h1
    refine wpS.tk 0 false (some 29) (.pointer (adr a0_A ((z9 : Int).toNat * Cod.size (CI .u8)))) (yld_idxLL (C := (CI .u8)) (t := 44) (e := 26) (k := .i64) (x := z9) (hs.rowLL 0 rfl) (by kernel_rfl) (by kernel_rfl) (by kernel_rfl) h0 h1) ?_
    obtain ⟨s12_A, hA⟩ : ∃ A, A = (rdL CS a0_H z9).1 := ⟨_, rfl⟩
    obtain ⟨s12_n, hn⟩ : ∃ n, n = (rdL CS a0_H z9).2.1 := ⟨_, rfl⟩
    obtain ⟨s12_c, hc⟩ : ∃ c, c = (rdL CS a0_H z9).2.2 := ⟨_, rfl⟩
    refine wpS.tk 1 true (some 30) (.slice s12_A s12_n s12_c) (by subst hA hn hc; exact yld_loadLL (C := (CI .u8)) (e := 26) (x := z9) (hs.rowLL 0 rfl) (by kernel_rfl) (by kernel_rfl) i0_53 i1_53) ?_
    have hs := hs.addInn (C := (CI .u8)) 0 rfl i0_53 i1_53 hA hn hc
    refine wpS.q 2 8 (.slice s12_A s12_n s12_c) ?_
    refine wpS.fin rfl (kr52 _ _ (then_n (ks51 _ _ (xregS [0, 1, 2, 3] fun KR54 kr54 => ?_))))
    refine wpS.qs [(0, 31, .slice z10_A z10_n z10_c), (1, 32, .slice s12_A s12_n s12_c)] ?_
    obtain ⟨h0, h⟩ := of_chk h
    refine wpS.only 2 (op_appendT (C := (CI .u8)) (t := 26) (ty := 26) (e := 5) (bytes := 1) (B := 140737488355328) (d := (some 33)) (by kernel_rfl) hs 0 rfl (hs.rowR 0 rfl) (by kernel_rfl) (by kernel_rfl) (by kernel_rfl) (by kernel_rfl) (by kernel_rfl) h0 (by decide) (by decide) ?_)
    intro s13_A s13_n s13_c w hs
    refine ⟨fun _ => trivial, ?_⟩
    refine wpS.q 3 6 (.slice s13_A s13_n s13_c) ?_
    refine wpS.fin rfl (kr54 _ _ (inBlock_n (then_n (ks50 _ _ (xregS [0, 1] fun KR55 kr55 => ?_)))))
    refine wpS.qs [(0, 34, .int .i64 (iadd .i64 z9 1)), (1, 27, .int .i64 (iadd .i64 z9 1))] ?_
    refine wpS.fin rfl (kr55 _ _ ?_)
    exact then_n (kl1 _ _ ⟨n, Nat.lt_succ_self n, (iadd .i64 z9 1), (z10 ++ (rdLL a0 z9)), s13_A, s13_n, s13_c, h, (hs.pickR (pick_cons 1 rfl pick_nil)), exg (by kernel_rfl)⟩)
   refine wpS.tk 0 false (some 28) (.bool false) (yld_b (df hc) (fun _ => by kernel_rfl)) ?_
   refine wpS.fin rfl (kr48 _ _ (then_n (ks47 _ _ (xseq_k fun KS56 ks56 => (wp_cond_f (by kernel_rfl) (xexit (then_x (then_x (inBlock_hit ?_)))))))))
   have q0 := of_some h
   subst q0
   exact exq_n (nn1 _ _ ⟨z10_A, z10_n, z10_c, (hs.conv rfl), exg (by kernel_rfl)⟩)
 clear hs h hy
 rintro a w ⟨y11_A, y11_n, y11_c, hs, g46, rfl⟩
 have h := hk1
 refine then_n (ks42 _ _ (xseq_k fun KS57 ks57 => (xregS [0, 1] fun KR58 kr58 => ?_)))
 refine wpS.qs [(0, 35, .slice y11_A y11_n y11_c), (1, 2, .slice y11_A y11_n y11_c)] ?_
 refine wpS.fin rfl (kr58 _ _ (then_n (ks57 _ _ (xret ?_))))
 have q0 := of_some h
 subst q0
 exact qq _ _ (post_ret (by kernel_rfl) (run_results [.tmp 2] [.slice y11_A y11_n y11_c] (by kernel_rfl) (.cons (res_tmp (by kernel_rfl)) .nil)) ⟨⟨y11_A, y11_n, y11_c⟩, congrArg Ending.returned (by kernel_rfl), (hs.pickR pick_nil)⟩)

theorem bits_Join.ok {K : Nat} {a0 : List (List Int)} {r0 : List Int} {a0_A : Option Addr} {a0_n : Nat} {a0_c : Nat} {a0_H : List HS} (h : bits_Join.f K a0 = some r0) (w0 : World) (hp0 : LLP (CI .u8) w0 a0_A a0_n a0_c a0_H a0) : Calls Try.prog 59 #[.slice a0_A a0_n a0_c] w0 fun e w' => ∃ h : (Option Addr × Nat × Nat), e = .returned (.slice h.1 h.2.1 h.2.2) ∧ St w0 [] [.ownL (CI .u8) h.1 h.2.1 h.2.2 r0 5] [] w' := by
 refine calls_k Try.func59 rfl fun Q qq => ?_
 have hs := St.startR (all_cons (LLP.ent hp0) all_nil)
 refine wp_conv (a' := ⟨#[.slice a0_A a0_n a0_c, undef, undef, undef, undef], []⟩) (by kernel_rfl) ?_
 refine xseq_k fun KS1 ks1 => ?_
 refine xregS [0] fun KR2 kr2 => ?_
 refine wpS.q 0 2 (.slice none 0 0) ?_
 refine wpS.fin rfl (kr2 _ _ (then_n (ks1 _ _ (xseq_k fun KS3 ks3 => (xregS [0, 1, 2] fun KR4 kr4 => ?_)))))
 refine wpS.q 0 3 (.slice a0_A a0_n a0_c) ?_
 obtain ⟨r1, hg, h⟩ := of_bind h
 refine wpS.only 1 (op_callH (d := (some 4)) (by kernel_rfl) hs (fun _ => by kernel_rfl) (slices_Concat_byte_byte.ok hg _ (hs.rowLL 0 rfl)) ?_)
 rintro ⟨r1_A, r1_n, r1_c⟩ w gw hs
 have hs := hs.conv (L' := [.ownL (CI .u8) r1_A r1_n r1_c r1 5]) rfl
 refine ⟨fun _ => trivial, ?_⟩
 refine wpS.q 2 2 (.slice r1_A r1_n r1_c) ?_
 refine wpS.fin rfl (kr4 _ _ (then_n (ks3 _ _ (xret ?_))))
 have q0 := of_some h
 subst q0
 exact qq _ _ (post_ret (by kernel_rfl) (run_results [.tmp 2] [.slice r1_A r1_n r1_c] (by kernel_rfl) (.cons (res_tmp (by kernel_rfl)) .nil)) ⟨⟨r1_A, r1_n, r1_c⟩, congrArg Ending.returned (by kernel_rfl), (hs.pickR pick_nil)⟩)

theorem bits_Le.ok {K : Nat} {a0 : Int} {a1 : Int} {r0 : List Int} (h : bits_Le.f K a0 a1 = some r0) (w0 : World) : Calls Try.prog 97 #[.int .u64 a0, .int .i64 a1] w0 fun e w' => ∃ h : (Option Addr × Nat × Nat), e = .returned (.slice h.1 h.2.1 h.2.2) ∧ St w0 [] [.ownL (CI .u8) h.1 h.2.1 h.2.2 r0 5] [] w' := by
 refine calls_k Try.func97 rfl fun Q qq => ?_
 have hs := St.start w0
 refine wp_conv (a' := ⟨#[.int .u64 a0, .int .i64 a1, undef, undef, undef, undef, undef, undef, undef, undef, undef, undef, undef, undef, undef, undef, undef, undef, undef, undef, undef, undef, undef, undef, undef, undef, undef, undef, undef, undef], []⟩) (by kernel_rfl) ?_
 refine xseq_k fun KS1 ks1 => ?_
 refine xregS [0] fun KR2 kr2 => ?_
 refine wpS.q 0 4 (.slice none 0 0) ?_
 refine wpS.fin rfl (kr2 _ _ (then_n (ks1 _ _ (xseq_k fun KS3 ks3 => (xseq_k fun KS4 ks4 => (xregS [0, 1, 2, 3, 4, 5] fun KR5 kr5 => ?_))))))
 refine wpS.q 0 7 (.int .i64 a1) ?_
 rcases of_if h with ⟨hc, h⟩ | ⟨hc, h⟩
 ·refine wpS.tk 1 false (some 8) (.bool true) (yld_b (dt hc) (fun _ => by kernel_rfl)) ?_
  refine wpS.qs [(2, 9, .bool true), (3, 10, undef), (4, 11, undef), (5, 12, .bool true)] ?_
  refine wpS.fin rfl (kr5 _ _ (then_n (ks4 _ _ (wp_cond_t (by kernel_rfl) (xseq_k fun KS6 ks6 => (xregS [0] fun KR7 kr7 => ?_))))))
  refine wpS.q 0 4 (.slice none 0 0) ?_
  refine wpS.fin rfl (kr7 _ _ (then_n (ks6 _ _ (xret (then_r ?_)))))
  have q0 := of_some h
  subst q0
  have hs := hs.addNilL (CI .u8) 5
  exact qq _ _ (post_ret (by kernel_rfl) (run_results [.tmp 4] [.slice none 0 0] (by kernel_rfl) (.cons (res_tmp (by kernel_rfl)) .nil)) ⟨⟨none, 0, 0⟩, congrArg Ending.returned (by kernel_rfl), (hs.conv rfl)⟩)
 refine wpS.tk 1 false (some 8) (.bool false) (yld_b (df hc) (fun _ => by kernel_rfl)) ?_
 refine wpS.qs [(2, 9, .bool false), (3, 10, .int .i64 a1)] ?_
 rcases of_if h with ⟨hc, h⟩ | ⟨hc, h⟩
 ·refine wpS.tk 4 false (some 11) (.bool true) (yld_b (dt hc) (fun _ => by kernel_rfl)) ?_
  refine wpS.q 5 12 (.bool true) ?_
  refine wpS.fin rfl (kr5 _ _ (then_n (ks4 _ _ (wp_cond_t (by kernel_rfl) (xseq_k fun KS8 ks8 => (xregS [0] fun KR9 kr9 => ?_))))))
  refine wpS.q 0 4 (.slice none 0 0) ?_
  refine wpS.fin rfl (kr9 _ _ (then_n (ks8 _ _ (xret (then_r ?_)))))
  have q0 := of_some h
  subst q0
  have hs := hs.addNilL (CI .u8) 5
  exact qq _ _ (post_ret (by kernel_rfl) (run_results [.tmp 4] [.slice none 0 0] (by kernel_rfl) (.cons (res_tmp (by kernel_rfl)) .nil)) ⟨⟨none, 0, 0⟩, congrArg Ending.returned (by kernel_rfl), (hs.conv rfl)⟩)
 refine wpS.tk 4 false (some 11) (.bool false) (yld_b (df hc) (fun _ => by kernel_rfl)) ?_
 refine wpS.q 5 12 (.bool false) ?_
 refine wpS.fin rfl (kr5 _ _ (then_n (ks4 _ _ (wp_cond_f (by kernel_rfl) (xskip (then_n (ks3 _ _ (xseq_k fun KS10 ks10 => (xregS [0, 1, 2] fun KR11 kr11 => ?_)))))))))
 refine wpS.q 0 13 (.int .i64 a1) ?_
 obtain ⟨h0, h⟩ := of_chk h
 obtain ⟨h1, h⟩ := of_chk h
 refine wpS.only 1 (op_makeT (C := (CI .u8)) (t := 26) (e := 5) (bytes := 1) (B := 140737488355328) (kl := .i64) (kc := .i64) (x := a1) (d := (some 14)) (by kernel_rfl) hs (by kernel_rfl) (by kernel_rfl) (by kernel_rfl) (by kernel_rfl) (by kernel_rfl) h0 h1 (by decide) (by decide) ?_)
 intro s1_A s1_n s1_c w gw hs
 refine ⟨fun _ => trivial, ?_⟩
 refine wpS.q 2 5 (.slice s1_A s1_n s1_c) ?_
 refine wpS.fin rfl (kr11 _ _ (then_n (ks10 _ _ (xseq_k fun KS12 ks12 => (xseq_k fun KS13 ks13 => (xregS [0, 1, 2] fun KR14 kr14 => ?_))))))
 refine wpS.qs [(0, 15, .int .i64 a1), (1, 16, .int .i64 (imin a1 8)), (2, 17, .int .i64 0)] ?_
 refine wpS.fin rfl (kr14 _ _ (then_n (ks13 _ _ ?_)))
 obtain ⟨y4, hy, hk0⟩ := of_bind h
 refine wp_exq (N := fun a w => St w0 [] [.ownL (CI .u8) s1_A s1_n s1_c y4 5] [] w ∧ ∃ g16 : Nat → Value, a = ⟨#[.int .u64 a0, .int .i64 a1, undef, undef, .slice none 0 0, .slice s1_A s1_n s1_c, (g16 6), .int .i64 a1, .bool false, .bool false, .int .i64 a1, .bool false, .bool false, .int .i64 a1, .slice s1_A s1_n s1_c, .int .i64 a1, .int .i64 (imin a1 8), (g16 17), (g16 18), (g16 19), (g16 20), (g16 21), (g16 22), (g16 23), (g16 24), (g16 25), (g16 26), (g16 27), (g16 28), undef], []⟩) (fun N0 nn0 => ?_) ?_
 ·clear hk0
  refine xblock ?_
  refine wp_loop_k (fun n a w => ∃ z2 z3, bits_Le.l0 K n a0 a1 z2 z3 = some y4 ∧ St w0 [] [.ownL (CI .u8) s1_A s1_n s1_c z3 5] [] w ∧ ∃ g15 : Nat → Value, a = ⟨#[.int .u64 a0, .int .i64 a1, undef, undef, .slice none 0 0, .slice s1_A s1_n s1_c, (g15 6), .int .i64 a1, .bool false, .bool false, .int .i64 a1, .bool false, .bool false, .int .i64 a1, .slice s1_A s1_n s1_c, .int .i64 a1, .int .i64 (imin a1 8), .int .i64 z2, (g15 18), (g15 19), (g15 20), (g15 21), (g15 22), (g15 23), (g15 24), (g15 25), (g15 26), (g15 27), (g15 28), undef], []⟩) K ⟨0, (List.replicate (a1 : Int).toNat (Cod.zero (CI .u8))), hy, hs.conv rfl, exg (by kernel_rfl)⟩ ?_
  clear hs h hy
  rintro n a w ⟨z2, z3, h, hs, g15, rfl⟩ KL0 kl0
  cases n with
  | zero => exact nomatch (show none = some _ from h)
  | succ n =>
   refine xseq_k fun KS17 ks17 => ?_
   refine xregS [0] fun KR18 kr18 => ?_
   rcases of_if h with ⟨hc, h⟩ | ⟨hc, h⟩
   ·refine wpS.tk 0 false (some 18) (.bool true) (yld_b (dt hc) (fun _ => by kernel_rfl)) ?_
    refine wpS.fin rfl (kr18 _ _ (then_n (ks17 _ _ (xseq_k fun KS19 ks19 => (wp_cond_t (by kernel_rfl) (xskip (then_n (ks19 _ _ (xseq_k fun KS20 ks20 => (xblock (xseq_k fun KS21 ks21 => (xregS [0, 1] fun KR22 kr22 => ?_))))))))))))
    refine wpS.qs [(0, 19, .int .i64 z2), (1, 6, .int .i64 z2)] ?_
    refine wpS.fin rfl (kr22 _ _ (then_n (ks21 _ _ (xregS [0, 1, 2, 3, 4, 5, 6, 7, 8] fun KR23 kr23 => ?_))))
    refine wpS.qs [(0, 20, .slice s1_A s1_n s1_c), (1, 21, .int .i64 z2), (2, 22, .int .u64 a0), (3, 23, .int .i64 z2), (4, 24, .int .i64 (imul .i64 8 z2))] ?_
    obtain ⟨h0, h⟩ := of_chk h
    refine wpS.tk 5 false (some 25) (.int .u64 (ishr .u64 a0 (imul .i64 8 z2))) (yld_shr (t := 64) (k' := .i64) (by kernel_rfl) h0) ?_
    refine wpS.q 6 26 (.int .u8 (iconv .u8 (ishr .u64 a0 (imul .i64 8 z2)))) ?_
    obtain ⟨h0, h⟩ := of_chk h
    obtain ⟨h1, h⟩ := of_chk h
    have i0_24 := h0
    have i1_24 := h1
    refine wpS.tk 7 false (some 27) (.pointer (adr s1_A ((z2 : Int).toNat * Cod.size (CI .u8)))) (yld_idxL (C := (CI .u8)) (t := 26) (e := 5) (k := .i64) (x := z2) (hs.rowL 0 rfl) (by kernel_rfl) (by kernel_rfl) (by kernel_rfl) h0 h1) ?_
    obtain ⟨x5, hx, h⟩ := of_bind h
    refine wpS.only 8 (op_storeL (C := (CI .u8)) (t := 5) (x := z2) (v := x5) (d := none) (by kernel_rfl) hs 0 rfl (by cases hx; kernel_rfl) (by kernel_rfl) i0_24 i1_24 ?_)
    intro w hs
    refine ⟨fun _ => trivial, ?_⟩
    refine wpS.fin rfl (kr23 _ _ (inBlock_n (then_n (ks20 _ _ (xregS [0, 1] fun KR25 kr25 => ?_)))))
    refine wpS.qs [(0, 28, .int .i64 (iadd .i64 z2 1)), (1, 17, .int .i64 (iadd .i64 z2 1))] ?_
    refine wpS.fin rfl (kr25 _ _ ?_)
    exact then_n (kl0 _ _ ⟨n, Nat.lt_succ_self n, (iadd .i64 z2 1), (wrL z3 z2 x5), h, (hs.conv rfl), exg (by kernel_rfl)⟩)
   refine wpS.tk 0 false (some 18) (.bool false) (yld_b (df hc) (fun _ => by kernel_rfl)) ?_
   refine wpS.fin rfl (kr18 _ _ (then_n (ks17 _ _ (xseq_k fun KS26 ks26 => (wp_cond_f (by kernel_rfl) (xexit (then_x (then_x (inBlock_hit ?_)))))))))
   have q0 := of_some h
   subst q0
   exact exq_n (nn0 _ _ ⟨(hs.conv rfl), exg (by kernel_rfl)⟩)
 clear hs h hy
 rintro a w ⟨hs, g16, rfl⟩
 have h := hk0
 refine then_n (ks12 _ _ (xseq_k fun KS27 ks27 => (xregS [0, 1] fun KR28 kr28 => ?_)))
 refine wpS.qs [(0, 29, .slice s1_A s1_n s1_c), (1, 4, .slice s1_A s1_n s1_c)] ?_
 refine wpS.fin rfl (kr28 _ _ (then_n (ks27 _ _ (xret ?_))))
 have q0 := of_some h
 subst q0
 exact qq _ _ (post_ret (by kernel_rfl) (run_results [.tmp 4] [.slice s1_A s1_n s1_c] (by kernel_rfl) (.cons (res_tmp (by kernel_rfl)) .nil)) ⟨⟨s1_A, s1_n, s1_c⟩, congrArg Ending.returned (by kernel_rfl), (hs.conv rfl)⟩)

theorem slices_Reverse_byte_byte_s.ok {K : Nat} {ca0 : List Int} {y1 : List Int} {ca0_A : Option Addr} {ca0_n : Nat} {ca0_c : Nat} (h : slices_Reverse_byte_byte_s.f K ca0 = some y1) {w0 w : World} {X : List Nat} {Lt Rt : List Ent} (hs : St w0 X (.ownL (CI .u8) ca0_A ca0_n ca0_c ca0 5 :: Lt) Rt w) : Calls Try.prog 98 #[.slice ca0_A ca0_n ca0_c] w fun e w' => e = .returned (.tuple #[]) ∧ St w0 X (.ownL (CI .u8) ca0_A ca0_n ca0_c y1 5 :: Lt) Rt w' := by
 refine calls_kn Try.func98 rfl fun Q qq qn => ?_
 refine wp_conv (a' := ⟨#[.slice ca0_A ca0_n ca0_c, undef, undef, undef, undef, undef, undef, undef, undef, undef, undef, undef, undef, undef, undef, undef, undef, undef, undef, undef, undef, undef, undef, undef, undef, undef, undef, undef], []⟩) (by kernel_rfl) ?_
 refine xseq_k fun KS1 ks1 => ?_
 refine xregS [0, 1, 2, 3, 4] fun KR2 kr2 => ?_
 refine wpS.q 0 4 (.slice ca0_A ca0_n ca0_c) ?_
 refine wpS.tk 1 false (some 5) (.int .i64 (ca0.length : Int)) (yld_lenL (hs.rowL 0 rfl) (fun _ => by kernel_rfl)) ?_
 refine wpS.qs [(2, 6, .int .i64 (isub .i64 (ca0.length : Int) 1)), (3, 2, .int .i64 0)] ?_
 obtain ⟨x2, hx, h⟩ := of_bind h
 refine wpS.tk 4 false (some 3) (.int .i64 x2) (yld_int hx (fun _ => by kernel_rfl)) ?_
 refine wpS.fin rfl (kr2 _ _ (then_n (ks1 _ _ ?_)))
 obtain ⟨y6, hy, hk0⟩ := of_bind h
 refine wp_exq (N := fun a w => St w0 X (.ownL (CI .u8) ca0_A ca0_n ca0_c y6 5 :: Lt) Rt w ∧ ∃ g4 : Nat → Value, a = ⟨#[.slice ca0_A ca0_n ca0_c, undef, (g4 2), (g4 3), .slice ca0_A ca0_n ca0_c, .int .i64 (ca0.length : Int), .int .i64 (isub .i64 (ca0.length : Int) 1), (g4 7), (g4 8), (g4 9), (g4 10), (g4 11), (g4 12), (g4 13), (g4 14), (g4 15), (g4 16), (g4 17), (g4 18), (g4 19), (g4 20), (g4 21), (g4 22), (g4 23), (g4 24), (g4 25), (g4 26), (g4 27)], []⟩) (fun N0 nn0 => ?_) ?_
 ·clear hk0
  refine xblock ?_
  refine wp_loop_k (fun n a w => ∃ z3 z4 z5, slices_Reverse_byte_byte_s.l0 K n z3 z4 z5 = some y6 ∧ St w0 X (.ownL (CI .u8) ca0_A ca0_n ca0_c z5 5 :: Lt) Rt w ∧ ∃ g3 : Nat → Value, a = ⟨#[.slice ca0_A ca0_n ca0_c, undef, .int .i64 z3, .int .i64 z4, .slice ca0_A ca0_n ca0_c, .int .i64 (ca0.length : Int), .int .i64 (isub .i64 (ca0.length : Int) 1), (g3 7), (g3 8), (g3 9), (g3 10), (g3 11), (g3 12), (g3 13), (g3 14), (g3 15), (g3 16), (g3 17), (g3 18), (g3 19), (g3 20), (g3 21), (g3 22), (g3 23), (g3 24), (g3 25), (g3 26), (g3 27)], []⟩) K ⟨0, x2, ca0, hy, hs.conv rfl, exg (by kernel_rfl)⟩ ?_
  clear hs h hy
  rintro n a w ⟨z3, z4, z5, h, hs, g3, rfl⟩ KL0 kl0
  cases n with
  | zero => exact nomatch (show none = some _ from h)
  | succ n =>
   refine xseq_k fun KS5 ks5 => ?_
   refine xseq_k fun KS6 ks6 => ?_
   refine xregS [0, 1, 2] fun KR7 kr7 => ?_
   refine wpS.qs [(0, 7, .int .i64 z3), (1, 8, .int .i64 z4)] ?_
   rcases of_if h with ⟨hc, h⟩ | ⟨hc, h⟩
   ·refine wpS.tk 2 false (some 9) (.bool true) (yld_b (dt hc) (fun _ => by kernel_rfl)) ?_
    refine wpS.fin rfl (kr7 _ _ (then_n (ks6 _ _ (wp_cond_t (by kernel_rfl) (xskip (then_n (ks5 _ _ (xseq_k fun KS8 ks8 => (xblock ?_)))))))))
    refine wp_regG [13, 15] (fun k => True) 16 (by kernel_rfl) (by kernel_rfl) (by kernel_rfl) fun KR9 kr9 => ?_
    have hs := hs.drawn1
    refine wpG.q 0 14 (.slice ca0_A ca0_n ca0_c) ?_
    refine wpG.q 1 15 (.int .i64 z3) ?_
    refine wpG.q 2 16 (.slice ca0_A ca0_n ca0_c) ?_
    refine wpG.q 3 17 (.int .i64 z4) ?_
    refine wpG.q 4 18 (.slice ca0_A ca0_n ca0_c) ?_
    refine wpG.q 5 19 (.int .i64 z4) ?_
    obtain ⟨h0, h⟩ := of_chk h
    obtain ⟨h1, h⟩ := of_chk h
    have i0_10 := h0
    have i1_10 := h1
    refine wpG.tD 6 false (some 20) (.pointer (adr ca0_A ((z4 : Int).toNat * Cod.size (CI .u8)))) (yld_idxL (C := (CI .u8)) (t := 26) (e := 5) (k := .i64) (x := z4) (hs.rowL 0 rfl) (by kernel_rfl) (by kernel_rfl) (by kernel_rfl) h0 h1) ?_
    refine wpG.tD 7 true (some 21) (.int .u8 (rdL (CI .u8) z5 z4)) (yld_loadL (C := (CI .u8)) (e := 5) (x := z4) (hs.rowL 0 rfl) (by kernel_rfl) rfl (by kernel_rfl) i0_10 i1_10) ?_
    refine wpG.q 8 22 (.slice ca0_A ca0_n ca0_c) ?_
    refine wpG.q 9 23 (.int .i64 z3) ?_
    obtain ⟨h0, h⟩ := of_chk h
    obtain ⟨h1, h⟩ := of_chk h
    have i0_11 := h0
    have i1_11 := h1
    refine wpG.tD 10 false (some 24) (.pointer (adr ca0_A ((z3 : Int).toNat * Cod.size (CI .u8)))) (yld_idxL (C := (CI .u8)) (t := 26) (e := 5) (k := .i64) (x := z3) (hs.rowL 0 rfl) (by kernel_rfl) (by kernel_rfl) (by kernel_rfl) h0 h1) ?_
    refine wpG.tD 11 true (some 25) (.int .u8 (rdL (CI .u8) z5 z3)) (yld_loadL (C := (CI .u8)) (e := 5) (x := z3) (hs.rowL 0 rfl) (by kernel_rfl) rfl (by kernel_rfl) i0_11 i1_11) ?_
    obtain ⟨h0, h⟩ := of_chk h
    obtain ⟨h1, h⟩ := of_chk h
    have i0_12 := h0
    have i1_12 := h1
    refine wpG.tD 12 false (some 26) (.pointer (adr ca0_A ((z3 : Int).toNat * Cod.size (CI .u8)))) (yld_idxL (C := (CI .u8)) (t := 26) (e := 5) (k := .i64) (x := z3) (hs.rowL 0 rfl) (by kernel_rfl) (by kernel_rfl) (by kernel_rfl) h0 h1) ?_
    obtain ⟨x7, hx, h⟩ := of_bind h
    refine wpG.only 13 (by kernel_rfl) (op_storeL (C := (CI .u8)) (t := 5) (x := z3) (v := x7) (d := none) (by kernel_rfl) hs 0 rfl (by cases hx; kernel_rfl) (by kernel_rfl) i0_12 i1_12 ?_)
    intro w hs
    refine ⟨⟨fun hf => absurd hf (by decide), .all _ _⟩, ?_⟩
    obtain ⟨h0, h⟩ := of_chk h
    obtain ⟨h1, h⟩ := of_chk h
    have i0_13 := h0
    have i1_13 := h1
    refine wpG.tD 14 false (some 27) (.pointer (adr ca0_A ((z4 : Int).toNat * Cod.size (CI .u8)))) (yld_idxL (C := (CI .u8)) (t := 26) (e := 5) (k := .i64) (x := z4) (hs.rowL 0 rfl) (by kernel_rfl) (by kernel_rfl) (by kernel_rfl) h0 h1) ?_
    obtain ⟨x8, hx, h⟩ := of_bind h
    refine wpG.only 15 (by kernel_rfl) (op_storeL (C := (CI .u8)) (t := 5) (x := z4) (v := x8) (d := none) (by kernel_rfl) hs 0 rfl (by cases hx; kernel_rfl) (by kernel_rfl) i0_13 i1_13 ?_)
    intro w hs
    refine ⟨⟨fun hf => absurd hf (by decide), .all _ _⟩, ?_⟩
    refine wpG.fin (by kernel_rfl) rfl (kr9 _ _ ?_)
    refine inBlock_n (then_n (ks8 _ _ (xregS [0, 1, 2, 3, 4, 5] fun KR14 kr14 => ?_)))
    refine wpS.qs [(0, 10, .int .i64 z3), (1, 11, .int .i64 (iadd .i64 z3 1)), (2, 12, .int .i64 z4), (3, 13, .int .i64 (isub .i64 z4 1))] ?_
    obtain ⟨x9, hx, h⟩ := of_bind h
    refine wpS.tk 4 false (some 2) (.int .i64 x9) (yld_int hx (fun _ => by kernel_rfl)) ?_
    obtain ⟨x10, hx, h⟩ := of_bind h
    refine wpS.tk 5 false (some 3) (.int .i64 x10) (yld_int hx (fun _ => by kernel_rfl)) ?_
    refine wpS.fin rfl (kr14 _ _ ?_)
    exact then_n (kl0 _ _ ⟨n, Nat.lt_succ_self n, x9, x10, (wrL (wrL z5 z3 x7) z4 x8), h, (hs.conv rfl), exg (by kernel_rfl)⟩)
   refine wpS.tk 2 false (some 9) (.bool false) (yld_b (df hc) (fun _ => by kernel_rfl)) ?_
   refine wpS.fin rfl (kr7 _ _ (then_n (ks6 _ _ (wp_cond_f (by kernel_rfl) (xexit (then_x (then_x (inBlock_hit ?_))))))))
   have q0 := of_some h
   subst q0
   exact exq_n (nn0 _ _ ⟨(hs.conv rfl), exg (by kernel_rfl)⟩)
 clear hs h hy
 rintro a w ⟨hs, g4, rfl⟩
 have h := hk0
 have q0 := of_some h
 subst q0
 exact qn _ _ (post_nrm (by kernel_rfl) (run_results [] [] (by kernel_rfl) .nil) ⟨rfl, (hs.conv rfl)⟩)

theorem bits_Be.ok {K : Nat} {a0 : Int} {a1 : Int} {r0 : List Int} (h : bits_Be.f K a0 a1 = some r0) (w0 : World) : Calls Try.prog 60 #[.int .u64 a0, .int .i64 a1] w0 fun e w' => ∃ h : (Option Addr × Nat × Nat), e = .returned (.slice h.1 h.2.1 h.2.2) ∧ St w0 [] [.ownL (CI .u8) h.1 h.2.1 h.2.2 r0 5] [] w' := by
 refine calls_k Try.func60 rfl fun Q qq => ?_
 have hs := St.start w0
 refine wp_conv (a' := ⟨#[.int .u64 a0, .int .i64 a1, undef, undef, undef, undef, undef, undef, undef, undef, undef, undef], []⟩) (by kernel_rfl) ?_
 refine xseq_k fun KS1 ks1 => ?_
 refine xregS [0] fun KR2 kr2 => ?_
 refine wpS.q 0 4 (.slice none 0 0) ?_
 refine wpS.fin rfl (kr2 _ _ (then_n (ks1 _ _ (xseq_k fun KS3 ks3 => (xregS [0, 1, 2, 3] fun KR4 kr4 => ?_)))))
 refine wpS.qs [(0, 6, .int .u64 a0), (1, 7, .int .i64 a1)] ?_
 obtain ⟨r1, hg, h⟩ := of_bind h
 refine wpS.only 2 (op_callH (d := (some 8)) (by kernel_rfl) hs (fun _ => by kernel_rfl) (bits_Le.ok hg _) ?_)
 rintro ⟨r1_A, r1_n, r1_c⟩ w gw hs
 have hs := hs.conv (L' := [.ownL (CI .u8) r1_A r1_n r1_c r1 5]) rfl
 refine ⟨fun _ => trivial, ?_⟩
 refine wpS.q 3 5 (.slice r1_A r1_n r1_c) ?_
 refine wpS.fin rfl (kr4 _ _ (then_n (ks3 _ _ (xseq_k fun KS5 ks5 => (xregS [0, 1] fun KR6 kr6 => ?_)))))
 refine wpS.q 0 9 (.slice r1_A r1_n r1_c) ?_
 obtain ⟨r2, hg, h⟩ := of_bind h
 refine wpS.only 1 (wpOp_call (d := (some 10)) (by kernel_rfl) (fun _ => by kernel_rfl) (slices_Reverse_byte_byte_s.ok hg hs) ?_)
 rintro e w ⟨rfl, hs⟩
 refine ⟨_, rfl, ?_⟩
 refine ⟨fun _ => trivial, ?_⟩
 refine wpS.fin rfl (kr6 _ _ (then_n (ks5 _ _ (xseq_k fun KS7 ks7 => (xregS [0, 1] fun KR8 kr8 => ?_)))))
 refine wpS.qs [(0, 11, .slice r1_A r1_n r1_c), (1, 4, .slice r1_A r1_n r1_c)] ?_
 refine wpS.fin rfl (kr8 _ _ (then_n (ks7 _ _ (xret ?_))))
 have q0 := of_some h
 subst q0
 exact qq _ _ (post_ret (by kernel_rfl) (run_results [.tmp 4] [.slice r1_A r1_n r1_c] (by kernel_rfl) (.cons (res_tmp (by kernel_rfl)) .nil)) ⟨⟨r1_A, r1_n, r1_c⟩, congrArg Ending.returned (by kernel_rfl), (hs.conv rfl)⟩)
end Go.Proofs.Ytmpagpbnpgcecaa
