/- Printed by this work's own program: the code of each function below comes to the answer that its plain form tells. -/
import Derived.Test.YtppohhnfojalbaaDoorMd
import Derived.Test.YtppohhnfojalbaaDoorProg
import Derived.Test.YtppohhnfojalbaaDoorVFDsampBounds
set_option linter.unusedVariables false
set_option linter.unusedSimpArgs false
set_option maxRecDepth 100000
set_option maxHeartbeats 4000000
namespace Go.Proofs.YtppohhnfojalbaaDoor
open Go.Mx
attribute [local irreducible] wpOp

theorem ref21_Fit.ok {K : Nat} {a0 : Arr 256} {r0 : Bool} (h : ref21_Fit.f K a0 = some r0) (w0 : World) : Ret Tryd.prog 14 #[.agg (enc .i32 a0).toArray] w0 (.bool r0) := by
 refine calls_k Tryd.func14 rfl fun Q qq => ?_
 have hs := St.start w0
 refine wp_conv (a' := ⟨#[.agg (enc .i32 a0).toArray, undef, undef, undef, undef, undef, undef, undef, undef, undef, undef, undef, undef, undef, undef, undef, undef, undef], []⟩) (by kernel_rfl) ?_
 refine xseq_k fun KS1 ks1 => ?_
 refine xregS [0, 1] fun KR2 kr2 => ?_
 refine wpS.only 0 (op_box (t := 26) (v := .agg (enc .i32 a0).toArray) (d := (some 1)) (by kernel_rfl) hs (enc .i32 a0) (by kernel_rfl) (by kernel_rfl) ?_)
 intro b1 w gw hs
 refine ⟨fun _ => trivial, ?_⟩
 refine wpS.q 1 2 (.bool false) ?_
 refine wpS.fin rfl (kr2 _ _ (then_n (ks1 _ _ (xseq_k fun KS3 ks3 => (xseq_k fun KS4 ks4 => (xregS [0] fun KR5 kr5 => ?_))))))
 refine wpS.q 0 3 (.int .i64 0) ?_
 refine wpS.fin rfl (kr5 _ _ (then_n (ks4 _ _ ?_)))
 obtain ⟨t0, hy, hk0⟩ := of_bind h
 refine wp_exq (N := fun a w => t0 = .inl () ∧ St w0 [] [.blk b1 (enc .i32 a0) 26] [] w ∧ ∃ g7 : Nat → Value, a = ⟨#[.agg (enc .i32 a0).toArray, .pointer (some ⟨b1, 0, none⟩), (g7 2), (g7 3), (g7 4), (g7 5), (g7 6), (g7 7), (g7 8), (g7 9), (g7 10), (g7 11), (g7 12), (g7 13), (g7 14), (g7 15), (g7 16), (g7 17)], []⟩) (fun N0 nn0 => ?_) ?_
 ·refine xblock ?_
  refine wp_loop_k (fun n a w => ∃ z2, ref21_Fit.l0 K n a0 z2 = some t0 ∧ St w0 [] [.blk b1 (enc .i32 a0) 26] [] w ∧ ∃ g6 : Nat → Value, a = ⟨#[.agg (enc .i32 a0).toArray, .pointer (some ⟨b1, 0, none⟩), (g6 2), .int .i64 z2, (g6 4), (g6 5), (g6 6), (g6 7), (g6 8), (g6 9), (g6 10), (g6 11), (g6 12), (g6 13), (g6 14), (g6 15), (g6 16), (g6 17)], []⟩) K ⟨0, hy, hs.conv rfl, exg (by kernel_rfl)⟩ ?_
  clear hs h hy
  rintro n a w ⟨z2, h, hs, g6, rfl⟩ KL0 kl0
  cases n with
  | zero => exact nomatch (show none = some _ from h)
  | succ n =>
   refine xseq_k fun KS8 ks8 => ?_
   refine xseq_k fun KS9 ks9 => ?_
   refine xregS [0, 1] fun KR10 kr10 => ?_
   refine wpS.q 0 4 (.int .i64 z2) ?_
   rcases of_if h with ⟨hc, h⟩ | ⟨hc, h⟩
   ·refine wpS.tk 1 false (some 5) (.bool true) (yld_b (dt hc) (fun _ => by kernel_rfl)) ?_
    refine wpS.fin rfl (kr10 _ _ (then_n (ks9 _ _ (wp_cond_t (by kernel_rfl) (xskip (then_n (ks8 _ _ (xseq_k fun KS11 ks11 => (xblock (xseq_k fun KS12 ks12 => (xregS [0, 1, 2, 3, 4, 5, 6, 7, 8, 9] fun KR13 kr13 => ?_)))))))))))
    refine wpS.q 0 8 (.int .i64 z2) ?_
    obtain ⟨i0_14, h⟩ := of_chk h
    obtain ⟨i1_14, h⟩ := of_chk h
    refine wpS.tk 1 false (some 9) (.pointer (some ⟨b1, 0 + (z2 : Int).toNat * 1, none⟩)) (yld_idx (t := 26) (e := 21) (n := 256) (sz := 1) (k := .i64) (x := z2) (by kernel_rfl) (by kernel_rfl) (by kernel_rfl) i0_14 i1_14) ?_
    refine wpS.tk 2 true (some 10) (.int .i32 (rd a0 z2)) (yld_loadA (e := 21) (x := z2) hs 0 rfl (by kernel_rfl) (by kernel_rfl) i0_14 i1_14 .grow) ?_
    rcases of_if h with ⟨hc, h⟩ | ⟨hc, h⟩
    ·refine wpS.tk 3 false (some 11) (.bool true) (yld_b (dt hc) (fun _ => by kernel_rfl)) ?_
     refine wpS.qs [(4, 12, .bool true), (5, 13, undef), (6, 14, undef), (7, 15, undef), (8, 16, undef), (9, 17, .bool true)] ?_
     refine wpS.fin rfl (kr13 _ _ (then_n (ks12 _ _ (wp_cond_t (by kernel_rfl) (xseq_k fun KS15 ks15 => (xregS [0] fun KR16 kr16 => ?_))))))
     refine wpS.q 0 2 (.bool false) ?_
     refine wpS.fin rfl (kr16 _ _ (then_n (ks15 _ _ (xret (inBlock_r (then_r (then_r (inBlock_r (exq_r (then_r ?_))))))))))
     have q0 := of_some h
     subst q0
     have q0 := of_some hk0
     subst q0
     exact qq _ _ (post_ret (by kernel_rfl) (run_results [.tmp 2] [.bool false] (by kernel_rfl) (.cons (res_tmp (by kernel_rfl)) .nil)) ⟨congrArg Ending.returned (by kernel_rfl), hs.none⟩)
    refine wpS.tk 3 false (some 11) (.bool false) (yld_b (df hc) (fun _ => by kernel_rfl)) ?_
    refine wpS.qs [(4, 12, .bool false), (5, 13, .int .i64 z2)] ?_
    obtain ⟨i0_17, h⟩ := of_chk h
    obtain ⟨i1_17, h⟩ := of_chk h
    refine wpS.tk 6 false (some 14) (.pointer (some ⟨b1, 0 + (z2 : Int).toNat * 1, none⟩)) (yld_idx (t := 26) (e := 21) (n := 256) (sz := 1) (k := .i64) (x := z2) (by kernel_rfl) (by kernel_rfl) (by kernel_rfl) i0_17 i1_17) ?_
    refine wpS.tk 7 true (some 15) (.int .i32 (rd a0 z2)) (yld_loadA (e := 21) (x := z2) hs 0 rfl (by kernel_rfl) (by kernel_rfl) i0_17 i1_17 .grow) ?_
    rcases of_if h with ⟨hc, h⟩ | ⟨hc, h⟩
    ·refine wpS.tk 8 false (some 16) (.bool true) (yld_b (dt hc) (fun _ => by kernel_rfl)) ?_
     refine wpS.q 9 17 (.bool true) ?_
     refine wpS.fin rfl (kr13 _ _ (then_n (ks12 _ _ (wp_cond_t (by kernel_rfl) (xseq_k fun KS18 ks18 => (xregS [0] fun KR19 kr19 => ?_))))))
     refine wpS.q 0 2 (.bool false) ?_
     refine wpS.fin rfl (kr19 _ _ (then_n (ks18 _ _ (xret (inBlock_r (then_r (then_r (inBlock_r (exq_r (then_r ?_))))))))))
     have q0 := of_some h
     subst q0
     have q0 := of_some hk0
     subst q0
     exact qq _ _ (post_ret (by kernel_rfl) (run_results [.tmp 2] [.bool false] (by kernel_rfl) (.cons (res_tmp (by kernel_rfl)) .nil)) ⟨congrArg Ending.returned (by kernel_rfl), hs.none⟩)
    refine wpS.tk 8 false (some 16) (.bool false) (yld_b (df hc) (fun _ => by kernel_rfl)) ?_
    refine wpS.q 9 17 (.bool false) ?_
    refine wpS.fin rfl (kr13 _ _ (then_n (ks12 _ _ (wp_cond_f (by kernel_rfl) (xskip (inBlock_n (then_n (ks11 _ _ (xregS [0, 1, 2] fun KR20 kr20 => ?_)))))))))
    refine wpS.qs [(0, 6, .int .i64 z2), (1, 7, .int .i64 (iadd .i64 z2 1))] ?_
    obtain ⟨x3, hx, h⟩ := of_bind h
    refine wpS.tk 2 false (some 3) (.int .i64 x3) (yld_int hx (fun _ => by kernel_rfl)) ?_
    refine wpS.fin rfl (kr20 _ _ ?_)
    exact then_n (kl0 _ _ ⟨n, Nat.lt_succ_self n, x3, h, (hs.conv rfl), exg (by kernel_rfl)⟩)
   refine wpS.tk 1 false (some 5) (.bool false) (yld_b (df hc) (fun _ => by kernel_rfl)) ?_
   refine wpS.fin rfl (kr10 _ _ (then_n (ks9 _ _ (wp_cond_f (by kernel_rfl) (xexit (then_x (then_x (inBlock_hit ?_))))))))
   have q0 := of_some h
   subst q0
   exact exq_n (nn0 _ _ ⟨rfl, (hs.conv rfl), exg (by kernel_rfl)⟩)
 clear hs h hy
 rintro a w ⟨rfl, hs, g7, rfl⟩
 have h := hk0
 refine then_n (ks3 _ _ (xseq_k fun KS21 ks21 => (xregS [0] fun KR22 kr22 => ?_)))
 refine wpS.q 0 2 (.bool true) ?_
 refine wpS.fin rfl (kr22 _ _ (then_n (ks21 _ _ (xret ?_))))
 have q0 := of_some h
 subst q0
 exact qq _ _ (post_ret (by kernel_rfl) (run_results [.tmp 2] [.bool true] (by kernel_rfl) (.cons (res_tmp (by kernel_rfl)) .nil)) ⟨congrArg Ending.returned (by kernel_rfl), hs.none⟩)

theorem ref21_Amount.ok {K : Nat} {a0 : Int} {r0 : Int} (h : ref21_Amount.f K a0 = some r0) (w0 : World) : Ret Tryd.prog 31 #[.int .i32 a0] w0 (.int .i32 r0) := by
 refine calls_k Tryd.func31 rfl fun Q qq => ?_
 have hs := St.start w0
 refine wp_conv (a' := ⟨#[.int .i32 a0, undef, undef, undef, undef, undef, undef, undef], []⟩) (by kernel_rfl) ?_
 refine xseq_k fun KS1 ks1 => ?_
 refine xregS [0] fun KR2 kr2 => ?_
 refine wpS.q 0 2 (.int .i32 0) ?_
 refine wpS.fin rfl (kr2 _ _ (then_n (ks1 _ _ (xseq_k fun KS3 ks3 => (xseq_k fun KS4 ks4 => (xregS [0, 1] fun KR5 kr5 => ?_))))))
 refine wpS.q 0 3 (.int .i32 a0) ?_
 rcases of_if h with ⟨hc, h⟩ | ⟨hc, h⟩
 ·refine wpS.tk 1 false (some 4) (.bool true) (yld_b (dt hc) (fun _ => by kernel_rfl)) ?_
  refine wpS.fin rfl (kr5 _ _ (then_n (ks4 _ _ (wp_cond_t (by kernel_rfl) (xseq_k fun KS6 ks6 => (xregS [0, 1, 2] fun KR7 kr7 => ?_))))))
  refine wpS.qs [(0, 5, .int .i32 a0), (1, 6, .int .i32 (isub .i32 8380417 a0))] ?_
  obtain ⟨x1, hx, h⟩ := of_bind h
  refine wpS.tk 2 false (some 2) (.int .i32 x1) (yld_int hx (fun _ => by kernel_rfl)) ?_
  refine wpS.fin rfl (kr7 _ _ (then_n (ks6 _ _ (xret (then_r ?_)))))
  have q0 := of_some h
  subst q0
  exact qq _ _ (post_ret (by kernel_rfl) (run_results [.tmp 2] [.int .i32 x1] (by kernel_rfl) (.cons (res_tmp (by kernel_rfl)) .nil)) ⟨congrArg Ending.returned (by kernel_rfl), hs.none⟩)
 refine wpS.tk 1 false (some 4) (.bool false) (yld_b (df hc) (fun _ => by kernel_rfl)) ?_
 refine wpS.fin rfl (kr5 _ _ (then_n (ks4 _ _ (wp_cond_f (by kernel_rfl) (xskip (then_n (ks3 _ _ (xseq_k fun KS8 ks8 => (xregS [0, 1] fun KR9 kr9 => ?_)))))))))
 refine wpS.qs [(0, 7, .int .i32 a0), (1, 2, .int .i32 a0)] ?_
 refine wpS.fin rfl (kr9 _ _ (then_n (ks8 _ _ (xret ?_))))
 have q0 := of_some h
 subst q0
 exact qq _ _ (post_ret (by kernel_rfl) (run_results [.tmp 2] [.int .i32 a0] (by kernel_rfl) (.cons (res_tmp (by kernel_rfl)) .nil)) ⟨congrArg Ending.returned (by kernel_rfl), hs.none⟩)

theorem ref21_Norm.ok {K : Nat} {a0 : Arr 256} {r0 : Int} (h : ref21_Norm.f K a0 = some r0) (w0 : World) : Ret Tryd.prog 15 #[.agg (enc .i32 a0).toArray] w0 (.int .i32 r0) := by
 refine calls_k Tryd.func15 rfl fun Q qq => ?_
 have hs := St.start w0
 refine wp_conv (a' := ⟨#[.agg (enc .i32 a0).toArray, undef, undef, undef, undef, undef, undef, undef, undef, undef, undef, undef, undef, undef, undef, undef], []⟩) (by kernel_rfl) ?_
 refine xseq_k fun KS1 ks1 => ?_
 refine xregS [0, 1] fun KR2 kr2 => ?_
 refine wpS.only 0 (op_box (t := 26) (v := .agg (enc .i32 a0).toArray) (d := (some 1)) (by kernel_rfl) hs (enc .i32 a0) (by kernel_rfl) (by kernel_rfl) ?_)
 intro b1 w gw hs
 refine ⟨fun _ => trivial, ?_⟩
 refine wpS.q 1 2 (.int .i32 0) ?_
 refine wpS.fin rfl (kr2 _ _ (then_n (ks1 _ _ (xseq_k fun KS3 ks3 => (xregS [0] fun KR4 kr4 => ?_)))))
 refine wpS.q 0 3 (.int .i32 0) ?_
 refine wpS.fin rfl (kr4 _ _ (then_n (ks3 _ _ (xseq_k fun KS5 ks5 => (xseq_k fun KS6 ks6 => (xregS [0] fun KR7 kr7 => ?_))))))
 refine wpS.q 0 4 (.int .i64 0) ?_
 refine wpS.fin rfl (kr7 _ _ (then_n (ks6 _ _ ?_)))
 obtain ⟨y4, hy, hk0⟩ := of_bind h
 refine wp_exq (N := fun a w => St w0 [] [.blk b1 (enc .i32 a0) 26] [] w ∧ ∃ g9 : Nat → Value, a = ⟨#[.agg (enc .i32 a0).toArray, .pointer (some ⟨b1, 0, none⟩), .int .i32 0, .int .i32 y4, (g9 4), (g9 5), (g9 6), (g9 7), (g9 8), (g9 9), (g9 10), (g9 11), (g9 12), (g9 13), (g9 14), undef], []⟩) (fun N0 nn0 => ?_) ?_
 ·clear hk0
  refine xblock ?_
  refine wp_loop_k (fun n a w => ∃ z2 z3, ref21_Norm.l0 K n a0 z2 z3 = some y4 ∧ St w0 [] [.blk b1 (enc .i32 a0) 26] [] w ∧ ∃ g8 : Nat → Value, a = ⟨#[.agg (enc .i32 a0).toArray, .pointer (some ⟨b1, 0, none⟩), .int .i32 0, .int .i32 z2, .int .i64 z3, (g8 5), (g8 6), (g8 7), (g8 8), (g8 9), (g8 10), (g8 11), (g8 12), (g8 13), (g8 14), undef], []⟩) K ⟨0, 0, hy, hs.conv rfl, exg (by kernel_rfl)⟩ ?_
  clear hs h hy
  rintro n a w ⟨z2, z3, h, hs, g8, rfl⟩ KL0 kl0
  cases n with
  | zero => exact nomatch (show none = some _ from h)
  | succ n =>
   refine xseq_k fun KS10 ks10 => ?_
   refine xseq_k fun KS11 ks11 => ?_
   refine xregS [0, 1] fun KR12 kr12 => ?_
   refine wpS.q 0 5 (.int .i64 z3) ?_
   rcases of_if h with ⟨hc, h⟩ | ⟨hc, h⟩
   ·refine wpS.tk 1 false (some 6) (.bool true) (yld_b (dt hc) (fun _ => by kernel_rfl)) ?_
    refine wpS.fin rfl (kr12 _ _ (then_n (ks11 _ _ (wp_cond_t (by kernel_rfl) (xskip (then_n (ks10 _ _ (xseq_k fun KS13 ks13 => (xblock (xregS [0, 1, 2, 3, 4, 5, 6] fun KR14 kr14 => ?_))))))))))
    refine wpS.qs [(0, 9, .int .i32 z2), (1, 10, .int .i64 z3)] ?_
    obtain ⟨i0_15, h⟩ := of_chk h
    obtain ⟨i1_15, h⟩ := of_chk h
    refine wpS.tk 2 false (some 11) (.pointer (some ⟨b1, 0 + (z3 : Int).toNat * 1, none⟩)) (yld_idx (t := 26) (e := 21) (n := 256) (sz := 1) (k := .i64) (x := z3) (by kernel_rfl) (by kernel_rfl) (by kernel_rfl) i0_15 i1_15) ?_
    refine wpS.tk 3 true (some 12) (.int .i32 (rd a0 z3)) (yld_loadA (e := 21) (x := z3) hs 0 rfl (by kernel_rfl) (by kernel_rfl) i0_15 i1_15 .grow) ?_
    obtain ⟨r5, hg, h⟩ := of_bind h
    refine wpS.only 4 (op_call (d := (some 13)) (by kernel_rfl) hs (fun _ => by kernel_rfl) (ref21_Amount.ok hg _) ?_)
    intro w gw hs
    refine ⟨fun _ => trivial, ?_⟩
    refine wpS.q 5 14 (.int .i32 (imax z2 r5)) ?_
    obtain ⟨x6, hx, h⟩ := of_bind h
    refine wpS.tk 6 false (some 3) (.int .i32 x6) (yld_int hx (fun _ => by kernel_rfl)) ?_
    refine wpS.fin rfl (kr14 _ _ (inBlock_n (then_n (ks13 _ _ (xregS [0, 1, 2] fun KR16 kr16 => ?_)))))
    refine wpS.qs [(0, 7, .int .i64 z3), (1, 8, .int .i64 (iadd .i64 z3 1))] ?_
    obtain ⟨x7, hx, h⟩ := of_bind h
    refine wpS.tk 2 false (some 4) (.int .i64 x7) (yld_int hx (fun _ => by kernel_rfl)) ?_
    refine wpS.fin rfl (kr16 _ _ ?_)
    exact then_n (kl0 _ _ ⟨n, Nat.lt_succ_self n, x6, x7, h, (hs.conv rfl), exg (by kernel_rfl)⟩)
   refine wpS.tk 1 false (some 6) (.bool false) (yld_b (df hc) (fun _ => by kernel_rfl)) ?_
   refine wpS.fin rfl (kr12 _ _ (then_n (ks11 _ _ (wp_cond_f (by kernel_rfl) (xexit (then_x (then_x (inBlock_hit ?_))))))))
   have q0 := of_some h
   subst q0
   exact exq_n (nn0 _ _ ⟨(hs.conv rfl), exg (by kernel_rfl)⟩)
 clear hs h hy
 rintro a w ⟨hs, g9, rfl⟩
 have h := hk0
 refine then_n (ks5 _ _ (xseq_k fun KS17 ks17 => (xregS [0, 1] fun KR18 kr18 => ?_)))
 refine wpS.qs [(0, 15, .int .i32 y4), (1, 2, .int .i32 y4)] ?_
 refine wpS.fin rfl (kr18 _ _ (then_n (ks17 _ _ (xret ?_))))
 have q0 := of_some h
 subst q0
 exact qq _ _ (post_ret (by kernel_rfl) (run_results [.tmp 2] [.int .i32 y4] (by kernel_rfl) (.cons (res_tmp (by kernel_rfl)) .nil)) ⟨congrArg Ending.returned (by kernel_rfl), hs.none⟩)
end Go.Proofs.YtppohhnfojalbaaDoor
