/- Printed by this work's own program: the code of each function below comes to the answer that its plain form tells. -/
import Derived.Test.YtppohhnfojalbaaDoorMd
import Derived.Test.YtppohhnfojalbaaDoorProg
import Derived.Test.YtppohhnfojalbaaDoorVFDsampDraws
import Derived.Test.YtppohhnfojalbaaDoorVX5
import Derived.Test.YtppohhnfojalbaaDoorVX6
set_option linter.unusedVariables false
set_option linter.unusedSimpArgs false
set_option maxRecDepth 100000
set_option maxHeartbeats 4000000
namespace Go.Proofs.YtppohhnfojalbaaDoor
open Go.Mx
attribute [local irreducible] wpOp

theorem ref23_half.ok {K : Nat} {a0 : Int} {a1 : Int} {r0 : Int} {r1 : Bool} (h : ref23_half.f K a0 a1 = some (r0, r1)) (w0 : World) : Ret Tryd.prog 36 #[.int .i32 a0, .int .i32 a1] w0 (.tuple #[.int .i32 r0, .bool r1]) := by
 refine calls_k Tryd.func36 rfl fun Q qq => ?_
 have hs := St.start w0
 refine wp_conv (a' := ⟨#[.int .i32 a0, .int .i32 a1, undef, undef, undef, undef, undef, undef, undef, undef, undef, undef, undef, undef, undef, undef, undef, undef, undef, undef, undef, undef, undef, undef, undef, undef, undef], []⟩) (by kernel_rfl) ?_
 refine xseq_k fun KS1 ks1 => ?_
 refine xregS [0, 1] fun KR2 kr2 => ?_
 refine wpS.qs [(0, 4, .int .i32 0), (1, 5, .bool false)] ?_
 refine wpS.fin rfl (kr2 _ _ (then_n (ks1 _ _ ?_)))
 obtain ⟨tv4, hj, hk_4⟩ := of_bind h
 refine xseq_k fun KS4 ks4 => wp_exj (N := fun a w => tv4 = .inl () ∧ St w0 [] [] [] w ∧ ∃ g3 : Nat → Value, a = ⟨#[.int .i32 a0, .int .i32 a1, undef, undef, (g3 4), (g3 5), (g3 6), (g3 7), (g3 8), (g3 9), (g3 10), (g3 11), (g3 12), (g3 13), (g3 14), (g3 15), (g3 16), undef, undef, undef, undef, undef, undef, undef, undef, undef, undef], []⟩) (fun N nj => ?_) ?_
 ·clear h
  have h := hj
  refine xseq_k fun KS5 ks5 => ?_
  refine xregS [0, 1, 2, 3, 4, 5] fun KR6 kr6 => ?_
  refine wpS.q 0 6 (.int .i32 a1) ?_
  rcases of_if h with ⟨hc, h⟩ | ⟨hc, h⟩
  ·refine wpS.tk 1 false (some 7) (.bool true) (yld_b (et hc) (fun _ => by kernel_rfl)) ?_
   refine wpS.qs [(2, 8, .bool true), (3, 9, .int .i32 a0)] ?_
   rcases of_if h with ⟨hc, h⟩ | ⟨hc, h⟩
   ·refine wpS.tk 4 false (some 10) (.bool true) (yld_b (dt hc) (fun _ => by kernel_rfl)) ?_
    refine wpS.q 5 11 (.bool true) ?_
    refine wpS.fin rfl (kr6 _ _ (then_n (ks5 _ _ (wp_cond_t (by kernel_rfl) (xseq_k fun KS7 ks7 => (xregS [0, 1, 2, 3, 4, 5, 6] fun KR8 kr8 => ?_))))))
    refine wpS.qs [(0, 12, .int .i32 a0), (1, 13, .int .i32 (irem .i32 a0 5)), (2, 14, .int .i32 (isub .i32 2 (irem .i32 a0 5))), (3, 15, .int .i32 (iadd .i32 (isub .i32 2 (irem .i32 a0 5)) 8380417)), (4, 16, .int .i32 (irem .i32 (iadd .i32 (isub .i32 2 (irem .i32 a0 5)) 8380417) 8380417))] ?_
    obtain ⟨x1, hx, h⟩ := of_bind h
    refine wpS.tk 5 false (some 4) (.int .i32 x1) (yld_int hx (fun _ => by kernel_rfl)) ?_
    refine wpS.q 6 5 (.bool true) ?_
    refine wpS.fin rfl (kr8 _ _ (then_n (ks7 _ _ (xret ?_))))
    have q0 := of_some h
    subst q0
    have h := hk_4
    refine exj_r ?_
    refine then_r ?_
    obtain ⟨q0, qr0⟩ := Prod.mk.inj (of_some h)
    have q1 := qr0
    subst q0
    subst q1
    exact qq _ _ (post_ret (by kernel_rfl) (run_results [.tmp 4, .tmp 5] [.int .i32 x1, .bool true] (by kernel_rfl) (.cons (res_tmp (by kernel_rfl)) (.cons (res_tmp (by kernel_rfl)) .nil))) ⟨congrArg Ending.returned (by kernel_rfl), hs.none⟩)
   refine wpS.tk 4 false (some 10) (.bool false) (yld_b (df hc) (fun _ => by kernel_rfl)) ?_
   refine wpS.q 5 11 (.bool false) ?_
   refine wpS.fin rfl (kr6 _ _ (then_n (ks5 _ _ (wp_cond_f (by kernel_rfl) (xskip ?_)))))
   have q0 := of_some h
   subst q0
   exact exj_n (nj _ _ ⟨rfl, (hs.conv rfl), exg (by kernel_rfl)⟩)
  refine wpS.tk 1 false (some 7) (.bool false) (yld_b (ef hc) (fun _ => by kernel_rfl)) ?_
  refine wpS.qs [(2, 8, .bool false), (3, 9, undef), (4, 10, undef), (5, 11, .bool false)] ?_
  refine wpS.fin rfl (kr6 _ _ (then_n (ks5 _ _ (wp_cond_f (by kernel_rfl) (xskip ?_)))))
  have q0 := of_some h
  subst q0
  exact exj_n (nj _ _ ⟨rfl, (hs.conv rfl), exg (by kernel_rfl)⟩)
 clear hj hs
 rintro a w ⟨rfl, hs, g3, rfl⟩
 have h := hk_4
 refine then_n (ks4 _ _ ?_)
 obtain ⟨tv10, hj, hk_10⟩ := of_bind h
 refine xseq_k fun KS10 ks10 => wp_exj (N := fun a w => tv10 = .inl () ∧ St w0 [] [] [] w ∧ ∃ g9 : Nat → Value, a = ⟨#[.int .i32 a0, .int .i32 a1, undef, undef, (g9 4), (g9 5), (g3 6), (g3 7), (g3 8), (g3 9), (g3 10), (g3 11), (g3 12), (g3 13), (g3 14), (g3 15), (g3 16), (g9 17), (g9 18), (g9 19), (g9 20), (g9 21), (g9 22), (g9 23), (g9 24), (g9 25), (g9 26)], []⟩) (fun N nj => ?_) ?_
 ·clear h
  have h := hj
  refine xseq_k fun KS11 ks11 => ?_
  refine xregS [0, 1, 2, 3, 4, 5] fun KR12 kr12 => ?_
  refine wpS.q 0 17 (.int .i32 a1) ?_
  rcases of_if h with ⟨hc, h⟩ | ⟨hc, h⟩
  ·refine wpS.tk 1 false (some 18) (.bool true) (yld_b (et hc) (fun _ => by kernel_rfl)) ?_
   refine wpS.qs [(2, 19, .bool true), (3, 20, .int .i32 a0)] ?_
   rcases of_if h with ⟨hc, h⟩ | ⟨hc, h⟩
   ·refine wpS.tk 4 false (some 21) (.bool true) (yld_b (dt hc) (fun _ => by kernel_rfl)) ?_
    refine wpS.q 5 22 (.bool true) ?_
    refine wpS.fin rfl (kr12 _ _ (then_n (ks11 _ _ (wp_cond_t (by kernel_rfl) (xseq_k fun KS13 ks13 => (xregS [0, 1, 2, 3, 4, 5] fun KR14 kr14 => ?_))))))
    refine wpS.qs [(0, 23, .int .i32 a0), (1, 24, .int .i32 (isub .i32 4 a0)), (2, 25, .int .i32 (iadd .i32 (isub .i32 4 a0) 8380417)), (3, 26, .int .i32 (irem .i32 (iadd .i32 (isub .i32 4 a0) 8380417) 8380417))] ?_
    obtain ⟨x2, hx, h⟩ := of_bind h
    refine wpS.tk 4 false (some 4) (.int .i32 x2) (yld_int hx (fun _ => by kernel_rfl)) ?_
    refine wpS.q 5 5 (.bool true) ?_
    refine wpS.fin rfl (kr14 _ _ (then_n (ks13 _ _ (xret ?_))))
    have q0 := of_some h
    subst q0
    have h := hk_10
    refine exj_r ?_
    refine then_r ?_
    obtain ⟨q0, qr0⟩ := Prod.mk.inj (of_some h)
    have q1 := qr0
    subst q0
    subst q1
    exact qq _ _ (post_ret (by kernel_rfl) (run_results [.tmp 4, .tmp 5] [.int .i32 x2, .bool true] (by kernel_rfl) (.cons (res_tmp (by kernel_rfl)) (.cons (res_tmp (by kernel_rfl)) .nil))) ⟨congrArg Ending.returned (by kernel_rfl), hs.none⟩)
   refine wpS.tk 4 false (some 21) (.bool false) (yld_b (df hc) (fun _ => by kernel_rfl)) ?_
   refine wpS.q 5 22 (.bool false) ?_
   refine wpS.fin rfl (kr12 _ _ (then_n (ks11 _ _ (wp_cond_f (by kernel_rfl) (xskip ?_)))))
   have q0 := of_some h
   subst q0
   exact exj_n (nj _ _ ⟨rfl, (hs.conv rfl), exg (by kernel_rfl)⟩)
  refine wpS.tk 1 false (some 18) (.bool false) (yld_b (ef hc) (fun _ => by kernel_rfl)) ?_
  refine wpS.qs [(2, 19, .bool false), (3, 20, undef), (4, 21, undef), (5, 22, .bool false)] ?_
  refine wpS.fin rfl (kr12 _ _ (then_n (ks11 _ _ (wp_cond_f (by kernel_rfl) (xskip ?_)))))
  have q0 := of_some h
  subst q0
  exact exj_n (nj _ _ ⟨rfl, (hs.conv rfl), exg (by kernel_rfl)⟩)
 clear hj hs
 rintro a w ⟨rfl, hs, g9, rfl⟩
 have h := hk_10
 refine then_n (ks10 _ _ (xseq_k fun KS15 ks15 => (xregS [0, 1] fun KR16 kr16 => ?_)))
 refine wpS.qs [(0, 4, .int .i32 0), (1, 5, .bool false)] ?_
 refine wpS.fin rfl (kr16 _ _ (then_n (ks15 _ _ (xret ?_))))
 obtain ⟨q0, qr0⟩ := Prod.mk.inj (of_some h)
 have q1 := qr0
 subst q0
 subst q1
 exact qq _ _ (post_ret (by kernel_rfl) (run_results [.tmp 4, .tmp 5] [.int .i32 0, .bool false] (by kernel_rfl) (.cons (res_tmp (by kernel_rfl)) (.cons (res_tmp (by kernel_rfl)) .nil))) ⟨congrArg Ending.returned (by kernel_rfl), hs.none⟩)

theorem ref23_small.ok {K : Nat} {a0 : List Int} {a1 : Int} {a2 : Int} {r0 : Arr 256} {r1 : Int} {a0_A : Option Addr} {a0_n : Nat} {a0_c : Nat} (h : ref23_small.f K a0 a1 a2 = some (r0, r1)) (w0 : World) (hp0 : RowL (CI .u8) w0 a0_A a0_n a0_c a0) : Ret Tryd.prog 23 #[.slice a0_A a0_n a0_c, .int .i32 a1, .int .i64 a2] w0 (.tuple #[.agg (enc .i32 r0).toArray, .int .i64 r1]) := by
 refine calls_k Tryd.func23 rfl fun Q qq => ?_
 have hs := St.startR (all_cons (RowP.ent hp0) all_nil)
 refine wp_conv (a' := ⟨#[.slice a0_A a0_n a0_c, .int .i32 a1, .int .i64 a2, undef, undef, undef, undef, undef, undef, undef, undef, undef, undef, undef, undef, undef, undef, undef, undef, undef, undef, undef, undef, undef, undef, undef, undef, undef, undef, undef, undef, undef, undef, undef, undef, undef, undef, undef, undef, undef, undef, undef, undef, undef, undef, undef, undef, undef, undef, undef, undef, undef, undef, undef, undef, undef, undef, undef, undef], []⟩) (by kernel_rfl) ?_
 refine xseq_k fun KS1 ks1 => ?_
 refine xregS [0, 1] fun KR2 kr2 => ?_
 refine wpS.only 0 (op_alloc (t := 26) (d := (some 6)) (by kernel_rfl) hs (enc .i32 (zeroA 256)) (.agg (enc .i32 (zeroA 256)).toArray) (by kernel_rfl) (by kernel_rfl) (by kernel_rfl) ?_)
 intro b1 w gw hs
 refine ⟨fun _ => trivial, ?_⟩
 refine wpS.q 1 7 (.int .i64 0) ?_
 refine wpS.fin rfl (kr2 _ _ (then_n (ks1 _ _ (xseq_k fun KS3 ks3 => (xregS [0, 1, 2, 3, 4, 5, 6, 7] fun KR4 kr4 => ?_)))))
 refine wpS.qs [(0, 17, .slice a0_A a0_n a0_c), (1, 18, .int .i64 a2)] ?_
 obtain ⟨⟨r2, r3⟩, hg, h⟩ := of_bind h
 refine wpS.only 2 (op_callH (d := (some 19)) (by kernel_rfl) hs (fun _ => by kernel_rfl) (ref08_Sum.ok hg _ (hs.rowR 0 rfl)) ?_)
 rintro ⟨r2_A, r2_n, r2_c⟩ w gw hs
 have hs := hs.conv (L' := [.ownL (CI .u8) r2_A r2_n r2_c r2 5, .blk b1 (enc .i32 (zeroA 256)) 26]) rfl
 refine ⟨fun _ => trivial, ?_⟩
 refine wpS.qs [(3, 16, .tuple #[.slice r2_A r2_n r2_c, .int .i64 r3]), (4, 20, .slice r2_A r2_n r2_c), (5, 21, .int .i64 r3), (6, 8, .slice r2_A r2_n r2_c), (7, 9, .int .i64 r3)] ?_
 refine wpS.fin rfl (kr4 _ _ (then_n (ks3 _ _ (xseq_k fun KS5 ks5 => (xregS [0] fun KR6 kr6 => ?_)))))
 refine wpS.only 0 (op_alloc (t := 26) (d := (some 10)) (by kernel_rfl) hs (enc .i32 (zeroA 256)) (.agg (enc .i32 (zeroA 256)).toArray) (by kernel_rfl) (by kernel_rfl) (by kernel_rfl) ?_)
 intro b4 w gw hs
 refine ⟨fun _ => trivial, ?_⟩
 refine wpS.fin rfl (kr6 _ _ (then_n (ks5 _ _ (xseq_k fun KS7 ks7 => (xregS [0] fun KR8 kr8 => ?_)))))
 refine wpS.q 0 11 (.int .i64 0) ?_
 refine wpS.fin rfl (kr8 _ _ (then_n (ks7 _ _ (xseq_k fun KS9 ks9 => (xseq_k fun KS10 ks10 => (xregS [0] fun KR11 kr11 => ?_))))))
 refine wpS.q 0 12 (.int .i64 0) ?_
 refine wpS.fin rfl (kr11 _ _ (then_n (ks10 _ _ ?_)))
 obtain ⟨⟨y8, y9⟩, hy, hk0⟩ := of_bind h
 refine wp_exq (N := fun a w => St w0 [] [.blk b4 (enc .i32 y9) 26, .ownL (CI .u8) r2_A r2_n r2_c r2 5, .blk b1 (enc .i32 (zeroA 256)) 26] [.rowL (CI .u8) a0_A a0_n a0_c a0] w ∧ ∃ g13 : Nat → Value, a = ⟨#[.slice a0_A a0_n a0_c, .int .i32 a1, .int .i64 a2, undef, undef, undef, .pointer (some ⟨b1, 0, none⟩), .int .i64 0, .slice r2_A r2_n r2_c, .int .i64 r3, .pointer (some ⟨b4, 0, none⟩), .int .i64 y8, (g13 12), (g13 13), (g13 14), (g13 15), .tuple #[.slice r2_A r2_n r2_c, .int .i64 r3], .slice a0_A a0_n a0_c, .int .i64 a2, .tuple #[.slice r2_A r2_n r2_c, .int .i64 r3], .slice r2_A r2_n r2_c, .int .i64 r3, (g13 22), (g13 23), (g13 24), (g13 25), (g13 26), (g13 27), (g13 28), (g13 29), (g13 30), (g13 31), (g13 32), (g13 33), (g13 34), (g13 35), (g13 36), (g13 37), (g13 38), (g13 39), (g13 40), (g13 41), (g13 42), (g13 43), (g13 44), (g13 45), (g13 46), (g13 47), (g13 48), (g13 49), (g13 50), (g13 51), (g13 52), (g13 53), (g13 54), (g13 55), (g13 56), undef, undef], []⟩) (fun N0 nn0 => ?_) ?_
 ·clear hk0
  refine xblock ?_
  refine wp_loop_k (fun n a w => ∃ z5 z6 z7, ref23_small.l0 K n a1 a2 r2 z5 z6 z7 = some (y8, y9) ∧ St w0 [] [.blk b4 (enc .i32 z7) 26, .ownL (CI .u8) r2_A r2_n r2_c r2 5, .blk b1 (enc .i32 (zeroA 256)) 26] [.rowL (CI .u8) a0_A a0_n a0_c a0] w ∧ ∃ g12 : Nat → Value, a = ⟨#[.slice a0_A a0_n a0_c, .int .i32 a1, .int .i64 a2, undef, undef, undef, .pointer (some ⟨b1, 0, none⟩), .int .i64 0, .slice r2_A r2_n r2_c, .int .i64 r3, .pointer (some ⟨b4, 0, none⟩), .int .i64 z5, .int .i64 z6, (g12 13), (g12 14), (g12 15), .tuple #[.slice r2_A r2_n r2_c, .int .i64 r3], .slice a0_A a0_n a0_c, .int .i64 a2, .tuple #[.slice r2_A r2_n r2_c, .int .i64 r3], .slice r2_A r2_n r2_c, .int .i64 r3, (g12 22), (g12 23), (g12 24), (g12 25), (g12 26), (g12 27), (g12 28), (g12 29), (g12 30), (g12 31), (g12 32), (g12 33), (g12 34), (g12 35), (g12 36), (g12 37), (g12 38), (g12 39), (g12 40), (g12 41), (g12 42), (g12 43), (g12 44), (g12 45), (g12 46), (g12 47), (g12 48), (g12 49), (g12 50), (g12 51), (g12 52), (g12 53), (g12 54), (g12 55), (g12 56), undef, undef], []⟩) K ⟨0, 0, (zeroA 256), hy, hs.conv rfl, exg (by kernel_rfl)⟩ ?_
  clear hs h hy
  rintro n a w ⟨z5, z6, z7, h, hs, g12, rfl⟩ KL0 kl0
  cases n with
  | zero => exact nomatch (show none = some _ from h)
  | succ n =>
   refine xseq_k fun KS14 ks14 => ?_
   refine xseq_k fun KS15 ks15 => ?_
   refine xregS [0, 1, 2, 3, 4, 5, 6, 7] fun KR16 kr16 => ?_
   refine wpS.qs [(0, 22, .int .i64 z6), (1, 23, .int .i64 a2), (2, 24, .int .i64 (imul .i64 2 a2))] ?_
   rcases of_if h with ⟨hc, h⟩ | ⟨hc, h⟩
   ·refine wpS.tk 3 false (some 25) (.bool true) (yld_b (dt hc) (fun _ => by kernel_rfl)) ?_
    refine wpS.qs [(4, 26, .bool true), (5, 27, .int .i64 z5)] ?_
    rcases of_if h with ⟨hc, h⟩ | ⟨hc, h⟩
    ·refine wpS.tk 6 false (some 28) (.bool true) (yld_b (dt hc) (fun _ => by kernel_rfl)) ?_
     refine wpS.q 7 29 (.bool true) ?_
     refine wpS.fin rfl (kr16 _ _ (then_n (ks15 _ _ (wp_cond_t (by kernel_rfl) (xskip (then_n (ks14 _ _ ?_)))))))
     obtain ⟨⟨y10, y11⟩, hj, h⟩ := of_bind h
     refine xseq_k fun KS18 ks18 => wp_join (N := fun a w => St w0 [] [.blk b4 (enc .i32 y11) 26, .ownL (CI .u8) r2_A r2_n r2_c r2 5, .blk b1 (enc .i32 (zeroA 256)) 26] [.rowL (CI .u8) a0_A a0_n a0_c a0] w ∧ ∃ g17 : Nat → Value, a = ⟨#[.slice a0_A a0_n a0_c, .int .i32 a1, .int .i64 a2, undef, undef, undef, .pointer (some ⟨b1, 0, none⟩), .int .i64 0, .slice r2_A r2_n r2_c, .int .i64 r3, .pointer (some ⟨b4, 0, none⟩), .int .i64 y10, .int .i64 z6, (g17 13), (g17 14), (g17 15), .tuple #[.slice r2_A r2_n r2_c, .int .i64 r3], .slice a0_A a0_n a0_c, .int .i64 a2, .tuple #[.slice r2_A r2_n r2_c, .int .i64 r3], .slice r2_A r2_n r2_c, .int .i64 r3, .int .i64 z6, .int .i64 a2, .int .i64 (imul .i64 2 a2), .bool true, .bool true, .int .i64 z5, .bool true, .bool true, (g12 30), (g12 31), (g17 32), (g17 33), (g17 34), (g17 35), (g17 36), (g17 37), (g17 38), (g17 39), (g17 40), (g17 41), (g17 42), (g17 43), (g17 44), (g17 45), (g17 46), (g17 47), (g17 48), (g17 49), (g17 50), (g17 51), (g17 52), (g17 53), (g17 54), (g17 55), (g17 56), undef, undef], []⟩) (fun N nj => ?_) ?_
     ·clear h
      have h := hj
      refine xblock (xseq_k fun KS19 ks19 => (xregS [0, 1, 2, 3, 4, 5, 6] fun KR20 kr20 => ?_))
      refine wpS.qs [(0, 32, .slice r2_A r2_n r2_c), (1, 33, .int .i64 z6), (2, 34, .int .i64 (iquo .i64 z6 2))] ?_
      obtain ⟨x12, hx, h⟩ := of_bind h
      have hx := of_some hx
      subst hx
      obtain ⟨h0, h⟩ := of_chk h
      obtain ⟨h1, h⟩ := of_chk h
      have i0_21 := h0
      have i1_21 := h1
      refine wpS.tk 3 false (some 35) (.pointer (adr r2_A (((iquo .i64 z6 2) : Int).toNat * Cod.size (CI .u8)))) (yld_idxL (C := (CI .u8)) (t := 22) (e := 5) (k := .i64) (x := (iquo .i64 z6 2)) (hs.rowL 1 rfl) (by kernel_rfl) (by kernel_rfl) (by kernel_rfl) h0 h1) ?_
      refine wpS.tk 4 true (some 36) (.int .u8 (rdL (CI .u8) r2 (iquo .i64 z6 2))) (yld_loadL (C := (CI .u8)) (e := 5) (x := (iquo .i64 z6 2)) (hs.rowL 1 rfl) (by kernel_rfl) rfl (by kernel_rfl) i0_21 i1_21) ?_
      refine wpS.q 5 37 (.int .i32 (iconv .i32 (rdL (CI .u8) r2 (iquo .i64 z6 2)))) ?_
      obtain ⟨x13, hx, h⟩ := of_bind h
      refine wpS.tk 6 false (some 13) (.int .i32 x13) (yld_int hx (fun _ => by kernel_rfl)) ?_
      refine wpS.fin rfl (kr20 _ _ (then_n (ks19 _ _ ?_)))
      obtain ⟨y14, hj, h⟩ := of_bind h
      refine xseq_k fun KS23 ks23 => wp_join (N := fun a w => St w0 [] [.blk b4 (enc .i32 z7) 26, .ownL (CI .u8) r2_A r2_n r2_c r2 5, .blk b1 (enc .i32 (zeroA 256)) 26] [.rowL (CI .u8) a0_A a0_n a0_c a0] w ∧ ∃ g22 : Nat → Value, a = ⟨#[.slice a0_A a0_n a0_c, .int .i32 a1, .int .i64 a2, undef, undef, undef, .pointer (some ⟨b1, 0, none⟩), .int .i64 0, .slice r2_A r2_n r2_c, .int .i64 r3, .pointer (some ⟨b4, 0, none⟩), .int .i64 z5, .int .i64 z6, .int .i32 y14, (g12 14), (g12 15), .tuple #[.slice r2_A r2_n r2_c, .int .i64 r3], .slice a0_A a0_n a0_c, .int .i64 a2, .tuple #[.slice r2_A r2_n r2_c, .int .i64 r3], .slice r2_A r2_n r2_c, .int .i64 r3, .int .i64 z6, .int .i64 a2, .int .i64 (imul .i64 2 a2), .bool true, .bool true, .int .i64 z5, .bool true, .bool true, (g12 30), (g12 31), .slice r2_A r2_n r2_c, .int .i64 z6, .int .i64 (iquo .i64 z6 2), .pointer (adr r2_A (((iquo .i64 z6 2) : Int).toNat * Cod.size (CI .u8))), .int .u8 (rdL (CI .u8) r2 (iquo .i64 z6 2)), .int .i32 (iconv .i32 (rdL (CI .u8) r2 (iquo .i64 z6 2))), (g22 38), (g22 39), (g22 40), (g22 41), (g22 42), (g22 43), (g22 44), (g12 45), (g12 46), (g12 47), (g12 48), (g12 49), (g12 50), (g12 51), (g12 52), (g12 53), (g12 54), (g12 55), (g12 56), undef, undef], []⟩) (fun N nj => ?_) ?_
      ·clear h
       have h := hj
       refine xseq_k fun KS24 ks24 => ?_
       refine xregS [0, 1, 2] fun KR25 kr25 => ?_
       refine wpS.qs [(0, 38, .int .i64 z6), (1, 39, .int .i64 (irem .i64 z6 2))] ?_
       rcases of_if h with ⟨hc, h⟩ | ⟨hc, h⟩
       ·refine wpS.tk 2 false (some 40) (.bool true) (yld_b (et hc) (fun _ => by kernel_rfl)) ?_
        refine wpS.fin rfl (kr25 _ _ (then_n (ks24 _ _ (wp_cond_t (by kernel_rfl) (xregS [0, 1, 2] fun KR26 kr26 => ?_)))))
        refine wpS.qs [(0, 41, .int .i32 x13), (1, 42, .int .i32 (irem .i32 x13 16))] ?_
        obtain ⟨x15, hx, h⟩ := of_bind h
        refine wpS.tk 2 false (some 13) (.int .i32 x15) (yld_int hx (fun _ => by kernel_rfl)) ?_
        refine wpS.fin rfl (kr26 _ _ ?_)
        have q0 := of_some h
        subst q0
        exact nj _ _ ⟨(hs.conv rfl), exg (by kernel_rfl)⟩
       refine wpS.tk 2 false (some 40) (.bool false) (yld_b (ef hc) (fun _ => by kernel_rfl)) ?_
       refine wpS.fin rfl (kr25 _ _ (then_n (ks24 _ _ (wp_cond_f (by kernel_rfl) (xregS [0, 1, 2] fun KR27 kr27 => ?_)))))
       refine wpS.qs [(0, 43, .int .i32 x13), (1, 44, .int .i32 (iquo .i32 x13 16))] ?_
       obtain ⟨x16, hx, h⟩ := of_bind h
       refine wpS.tk 2 false (some 13) (.int .i32 x16) (yld_int hx (fun _ => by kernel_rfl)) ?_
       refine wpS.fin rfl (kr27 _ _ ?_)
       have q0 := of_some h
       subst q0
       exact nj _ _ ⟨(hs.conv rfl), exg (by kernel_rfl)⟩
      clear hj hs
      rintro a w ⟨hs, g22, rfl⟩
      refine then_n (ks23 _ _ (xseq_k fun KS28 ks28 => (xregS [0, 1, 2, 3, 4, 5, 6, 7] fun KR29 kr29 => ?_)))
      refine wpS.qs [(0, 46, .int .i32 y14), (1, 47, .int .i32 a1)] ?_
      obtain ⟨⟨r17, r18⟩, hg, h⟩ := of_bind h
      refine wpS.only 2 (op_call (d := (some 48)) (by kernel_rfl) hs (fun _ => by kernel_rfl) (ref23_half.ok hg _) ?_)
      intro w gw hs
      refine ⟨fun _ => trivial, ?_⟩
      refine wpS.qs [(3, 45, .tuple #[.int .i32 r17, .bool r18]), (4, 49, .int .i32 r17)] ?_
      cases r18 with
      | true =>
       have h := of_if_t h
       refine wpS.qs [(5, 50, .bool true), (6, 14, .int .i32 r17), (7, 15, .bool true)] ?_
       refine wpS.fin rfl (kr29 _ _ (then_n (ks28 _ _ (xseq_k fun KS30 ks30 => (xregS [0] fun KR31 kr31 => ?_)))))
       refine wpS.q 0 51 (.bool true) ?_
       refine wpS.fin rfl (kr31 _ _ (then_n (ks30 _ _ (wp_cond_t (by kernel_rfl) (xseq_k fun KS32 ks32 => (xregS [0, 1, 2, 3] fun KR33 kr33 => ?_))))))
       refine wpS.qs [(0, 52, .int .i64 z5), (1, 53, .int .i32 r17)] ?_
       obtain ⟨i0_34, h⟩ := of_chk h
       obtain ⟨i1_34, h⟩ := of_chk h
       refine wpS.tk 2 false (some 54) (.pointer (some ⟨b4, 0 + (z5 : Int).toNat * 1, none⟩)) (yld_idx (t := 26) (e := 21) (n := 256) (sz := 1) (k := .i64) (x := z5) (by kernel_rfl) (by kernel_rfl) (by kernel_rfl) i0_34 i1_34) ?_
       refine wpS.only 3 (op_storeA (t := 21) (x := z5) (v := r17) (d := none) (by kernel_rfl) hs 0 rfl (by kernel_rfl) (by kernel_rfl) i0_34 i1_34 ?_)
       intro w kp hs
       refine ⟨fun _ => trivial, ?_⟩
       refine wpS.fin rfl (kr33 _ _ (then_n (ks32 _ _ (xregS [0, 1, 2] fun KR35 kr35 => ?_))))
       refine wpS.qs [(0, 55, .int .i64 z5), (1, 56, .int .i64 (iadd .i64 z5 1))] ?_
       obtain ⟨x19, hx, h⟩ := of_bind h
       refine wpS.tk 2 false (some 11) (.int .i64 x19) (yld_int hx (fun _ => by kernel_rfl)) ?_
       refine wpS.fin rfl (kr35 _ _ (inBlock_n ?_))
       obtain ⟨q0, qr0⟩ := Prod.mk.inj (of_some h)
       have q1 := qr0
       subst q0
       subst q1
       exact nj _ _ ⟨(hs.conv rfl), exg (by kernel_rfl)⟩
      | false =>
       have h := of_if_f h
       refine wpS.qs [(5, 50, .bool false), (6, 14, .int .i32 r17), (7, 15, .bool false)] ?_
       refine wpS.fin rfl (kr29 _ _ (then_n (ks28 _ _ (xseq_k fun KS36 ks36 => (xregS [0] fun KR37 kr37 => ?_)))))
       refine wpS.q 0 51 (.bool false) ?_
       refine wpS.fin rfl (kr37 _ _ (then_n (ks36 _ _ (wp_cond_f (by kernel_rfl) (xskip (inBlock_n ?_))))))
       obtain ⟨q0, qr0⟩ := Prod.mk.inj (of_some h)
       have q1 := qr0
       subst q0
       subst q1
       exact nj _ _ ⟨(hs.conv rfl), exg (by kernel_rfl)⟩
     clear hj hs
     rintro a w ⟨hs, g17, rfl⟩
     refine then_n (ks18 _ _ (xregS [0, 1, 2] fun KR38 kr38 => ?_))
     refine wpS.qs [(0, 30, .int .i64 z6), (1, 31, .int .i64 (iadd .i64 z6 1))] ?_
     obtain ⟨x20, hx, h⟩ := of_bind h
     refine wpS.tk 2 false (some 12) (.int .i64 x20) (yld_int hx (fun _ => by kernel_rfl)) ?_
     refine wpS.fin rfl (kr38 _ _ ?_)
     exact then_n (kl0 _ _ ⟨n, Nat.lt_succ_self n, y10, x20, y11, h, (hs.conv rfl), exg (by kernel_rfl)⟩)
    refine wpS.tk 6 false (some 28) (.bool false) (yld_b (df hc) (fun _ => by kernel_rfl)) ?_
    refine wpS.q 7 29 (.bool false) ?_
    refine wpS.fin rfl (kr16 _ _ (then_n (ks15 _ _ (wp_cond_f (by kernel_rfl) (xexit (then_x (then_x (inBlock_hit ?_))))))))
    obtain ⟨q0, qr0⟩ := Prod.mk.inj (of_some h)
    have q1 := qr0
    subst q0
    subst q1
    exact exq_n (nn0 _ _ ⟨(hs.conv rfl), exg (by kernel_rfl)⟩)
   refine wpS.tk 3 false (some 25) (.bool false) (yld_b (df hc) (fun _ => by kernel_rfl)) ?_
   refine wpS.qs [(4, 26, .bool false), (5, 27, undef), (6, 28, undef), (7, 29, .bool false)] ?_
   refine wpS.fin rfl (kr16 _ _ (then_n (ks15 _ _ (wp_cond_f (by kernel_rfl) (xexit (then_x (then_x (inBlock_hit ?_))))))))
   obtain ⟨q0, qr0⟩ := Prod.mk.inj (of_some h)
   have q1 := qr0
   subst q0
   subst q1
   exact exq_n (nn0 _ _ ⟨(hs.conv rfl), exg (by kernel_rfl)⟩)
 clear hs h hy
 rintro a w ⟨hs, g13, rfl⟩
 have h := hk0
 refine then_n (ks9 _ _ (xseq_k fun KS39 ks39 => (xregS [0, 1, 2, 3] fun KR40 kr40 => ?_)))
 refine wpS.tk 0 true (some 57) (.agg (enc .i32 y9).toArray) (yld_loadW (e := 26) (n := 256) hs 0 rfl (by kernel_rfl) (by kernel_rfl) (by kernel_rfl) (by exact enc_len _ _) .grow) ?_
 refine wpS.q 1 58 (.int .i64 y8) ?_
 refine wpS.only 2 (op_storeW (t := 26) (v := .agg (enc .i32 y9).toArray) (d := none) (by kernel_rfl) hs 2 rfl (vs := enc .i32 y9) (n := 256) (by kernel_rfl) (by kernel_rfl) (by kernel_rfl) (by simp [enc_len]) (by simp [enc_len]) (by intro u hu; exact enc_one _ _ u hu) ?_)
 intro w kp hs
 refine ⟨fun _ => trivial, ?_⟩
 refine wpS.q 3 7 (.int .i64 y8) ?_
 refine wpS.fin rfl (kr40 _ _ (then_n (ks39 _ _ (xret ?_))))
 obtain ⟨q0, qr0⟩ := Prod.mk.inj (of_some h)
 have q1 := qr0
 subst q0
 subst q1
 exact qq _ _ (post_ret (by kernel_rfl) (run_results [.cell 6 26, .tmp 7] [.agg (enc .i32 y9).toArray, .int .i64 y8] (by kernel_rfl) (.cons (res_cellN (n := 256) hs 2 rfl (by kernel_rfl) (by kernel_rfl) (by kernel_rfl) (by exact enc_len _ _)) (.cons (res_tmp (by kernel_rfl)) .nil))) ⟨congrArg Ending.returned (by kernel_rfl), hs.none⟩)

theorem ref01_Back.ok {K : Nat} {a0 : List Int} {r0 : List Int} {a0_A : Option Addr} {a0_n : Nat} {a0_c : Nat} (h : ref01_Back.f K a0 = some r0) (w0 : World) (hp0 : RowL (CI .u8) w0 a0_A a0_n a0_c a0) : Calls Tryd.prog 37 #[.slice a0_A a0_n a0_c] w0 fun e w' => ∃ h : (Option Addr × Nat × Nat), e = .returned (.slice h.1 h.2.1 h.2.2) ∧ St w0 [] [.ownL (CI .u8) h.1 h.2.1 h.2.2 r0 5] [] w' := by
 refine calls_k Tryd.func37 rfl fun Q qq => ?_
 have hs := St.startR (all_cons (RowP.ent hp0) all_nil)
 refine wp_conv (a' := ⟨#[.slice a0_A a0_n a0_c, undef, undef, undef, undef, undef, undef, undef, undef, undef, undef, undef, undef, undef, undef, undef, undef, undef, undef, undef], []⟩) (by kernel_rfl) ?_
 refine xseq_k fun KS1 ks1 => ?_
 refine xregS [0] fun KR2 kr2 => ?_
 refine wpS.q 0 2 (.slice none 0 0) ?_
 refine wpS.fin rfl (kr2 _ _ (then_n (ks1 _ _ (xseq_k fun KS3 ks3 => (xregS [0] fun KR4 kr4 => ?_)))))
 refine wpS.q 0 3 (.slice none 0 0) ?_
 refine wpS.fin rfl (kr4 _ _ (then_n (ks3 _ _ (xseq_k fun KS5 ks5 => (xseq_k fun KS6 ks6 => (xregS [0, 1, 2, 3] fun KR7 kr7 => ?_))))))
 refine wpS.q 0 5 (.slice a0_A a0_n a0_c) ?_
 refine wpS.tk 1 false (some 6) (.int .i64 (a0.length : Int)) (yld_lenL (hs.rowR 0 rfl) (fun _ => by kernel_rfl)) ?_
 refine wpS.q 2 7 (.int .i64 (isub .i64 (a0.length : Int) 1)) ?_
 obtain ⟨x1, hx, h⟩ := of_bind h
 refine wpS.tk 3 false (some 4) (.int .i64 x1) (yld_int hx (fun _ => by kernel_rfl)) ?_
 refine wpS.fin rfl (kr7 _ _ (then_n (ks6 _ _ ?_)))
 have hs := hs.addNilL (CI .u8) 5
 obtain ⟨y4, hy, hk0⟩ := of_bind h
 refine wp_exq (N := fun a w => ∃ (y4_A : Option Addr) (y4_n : Nat) (y4_c : Nat), St w0 [] [.ownL (CI .u8) y4_A y4_n y4_c y4 5] [.rowL (CI .u8) a0_A a0_n a0_c a0] w ∧ ∃ g9 : Nat → Value, a = ⟨#[.slice a0_A a0_n a0_c, undef, .slice none 0 0, .slice y4_A y4_n y4_c, (g9 4), .slice a0_A a0_n a0_c, .int .i64 (a0.length : Int), .int .i64 (isub .i64 (a0.length : Int) 1), (g9 8), (g9 9), (g9 10), (g9 11), (g9 12), (g9 13), (g9 14), (g9 15), (g9 16), (g9 17), (g9 18), undef], []⟩) (fun N0 nn0 => ?_) ?_
 ·clear hk0
  refine xblock ?_
  refine wp_loop_k (fun n a w => ∃ z2 z3, ∃ (z3_A : Option Addr) (z3_n : Nat) (z3_c : Nat), ref01_Back.l0 K n a0 z2 z3 = some y4 ∧ St w0 [] [.ownL (CI .u8) z3_A z3_n z3_c z3 5] [.rowL (CI .u8) a0_A a0_n a0_c a0] w ∧ ∃ g8 : Nat → Value, a = ⟨#[.slice a0_A a0_n a0_c, undef, .slice none 0 0, .slice z3_A z3_n z3_c, .int .i64 z2, .slice a0_A a0_n a0_c, .int .i64 (a0.length : Int), .int .i64 (isub .i64 (a0.length : Int) 1), (g8 8), (g8 9), (g8 10), (g8 11), (g8 12), (g8 13), (g8 14), (g8 15), (g8 16), (g8 17), (g8 18), undef], []⟩) K ⟨x1, ([] : List Int), none, 0, 0, hy, hs.conv rfl, exg (by kernel_rfl)⟩ ?_
  clear hs h hy
  rintro n a w ⟨z2, z3, z3_A, z3_n, z3_c, h, hs, g8, rfl⟩ KL0 kl0
  cases n with
  | zero => exact nomatch (show none = some _ from h)
  | succ n =>
   refine xseq_k fun KS10 ks10 => ?_
   refine xseq_k fun KS11 ks11 => ?_
   refine xregS [0, 1] fun KR12 kr12 => ?_
   refine wpS.q 0 8 (.int .i64 z2) ?_
   rcases of_if h with ⟨hc, h⟩ | ⟨hc, h⟩
   ·refine wpS.tk 1 false (some 9) (.bool true) (yld_b (dt hc) (fun _ => by kernel_rfl)) ?_
    refine wpS.fin rfl (kr12 _ _ (then_n (ks11 _ _ (wp_cond_t (by kernel_rfl) (xskip (then_n (ks10 _ _ (xseq_k fun KS13 ks13 => (xblock (xregS [0, 1, 2, 3, 4, 5, 6, 7] fun KR14 kr14 => ?_))))))))))
    refine wpS.qs [(0, 12, .slice z3_A z3_n z3_c), (1, 13, .slice a0_A a0_n a0_c), (2, 14, .int .i64 z2)] ?_
    obtain ⟨h0, h⟩ := of_chk h
    obtain ⟨h1, h⟩ := of_chk h
    have i0_15 := h0
    have i1_15 := h1
    refine wpS.tk 3 false (some 15) (.pointer (adr a0_A ((z2 : Int).toNat * Cod.size (CI .u8)))) (yld_idxL (C := (CI .u8)) (t := 22) (e := 5) (k := .i64) (x := z2) (hs.rowR 0 rfl) (by kernel_rfl) (by kernel_rfl) (by kernel_rfl) h0 h1) ?_
    refine wpS.tk 4 true (some 16) (.int .u8 (rdL (CI .u8) a0 z2)) (yld_loadL (C := (CI .u8)) (e := 5) (x := z2) (hs.rowR 0 rfl) (by kernel_rfl) rfl (by kernel_rfl) i0_15 i1_15) ?_
    refine wpS.only 5 (op_lit (C := (CI .u8)) (t := 22) (e := 5) (len := 1) (parts := #[(0, .int .u8 (rdL (CI .u8) a0 z2))]) (l := [(rdL (CI .u8) a0 z2)]) (d := (some 17)) (by kernel_rfl) hs (by kernel_rfl) (by kernel_rfl) (by kernel_rfl) (z := .int .u8 0) (by kernel_rfl) rfl (by decide) (by decide) (by kernel_rfl) ?_)
    intro s5_A s5_n s5_c w gw hs
    refine ⟨fun _ => trivial, ?_⟩
    obtain ⟨h0, h⟩ := of_chk h
    refine wpS.only 6 (op_appendT (C := (CI .u8)) (t := 22) (ty := 22) (e := 5) (bytes := 1) (B := 140737488355328) (d := (some 18)) (by kernel_rfl) hs 1 rfl (hs.rowL 0 rfl) (by kernel_rfl) (by kernel_rfl) (by kernel_rfl) (by kernel_rfl) (by kernel_rfl) h0 (by decide) (by decide) ?_)
    intro s6_A s6_n s6_c w hs
    refine ⟨fun _ => trivial, ?_⟩
    refine wpS.q 7 3 (.slice s6_A s6_n s6_c) ?_
    refine wpS.fin rfl (kr14 _ _ (inBlock_n (then_n (ks13 _ _ (xregS [0, 1, 2] fun KR16 kr16 => ?_)))))
    refine wpS.qs [(0, 10, .int .i64 z2), (1, 11, .int .i64 (isub .i64 z2 1))] ?_
    obtain ⟨x7, hx, h⟩ := of_bind h
    refine wpS.tk 2 false (some 4) (.int .i64 x7) (yld_int hx (fun _ => by kernel_rfl)) ?_
    refine wpS.fin rfl (kr16 _ _ ?_)
    exact then_n (kl0 _ _ ⟨n, Nat.lt_succ_self n, x7, (z3 ++ ([(rdL (CI .u8) a0 z2)] : List Int)), s6_A, s6_n, s6_c, h, (hs.drop (.cons _ (.cons_cons _ .slnil))), exg (by kernel_rfl)⟩)
   refine wpS.tk 1 false (some 9) (.bool false) (yld_b (df hc) (fun _ => by kernel_rfl)) ?_
   refine wpS.fin rfl (kr12 _ _ (then_n (ks11 _ _ (wp_cond_f (by kernel_rfl) (xexit (then_x (then_x (inBlock_hit ?_))))))))
   have q0 := of_some h
   subst q0
   exact exq_n (nn0 _ _ ⟨z3_A, z3_n, z3_c, (hs.conv rfl), exg (by kernel_rfl)⟩)
 clear hs h hy
 rintro a w ⟨y4_A, y4_n, y4_c, hs, g9, rfl⟩
 have h := hk0
 refine then_n (ks5 _ _ (xseq_k fun KS17 ks17 => (xregS [0, 1] fun KR18 kr18 => ?_)))
 refine wpS.qs [(0, 19, .slice y4_A y4_n y4_c), (1, 2, .slice y4_A y4_n y4_c)] ?_
 refine wpS.fin rfl (kr18 _ _ (then_n (ks17 _ _ (xret ?_))))
 have q0 := of_some h
 subst q0
 exact qq _ _ (post_ret (by kernel_rfl) (run_results [.tmp 2] [.slice y4_A y4_n y4_c] (by kernel_rfl) (.cons (res_tmp (by kernel_rfl)) .nil)) ⟨⟨y4_A, y4_n, y4_c⟩, congrArg Ending.returned (by kernel_rfl), (hs.pickR pick_nil)⟩)

theorem ref01_Be.ok {K : Nat} {a0 : Int} {a1 : Int} {r0 : List Int} (h : ref01_Be.f K a0 a1 = some r0) (w0 : World) : Calls Tryd.prog 38 #[.int .u64 a0, .int .i64 a1] w0 fun e w' => ∃ h : (Option Addr × Nat × Nat), e = .returned (.slice h.1 h.2.1 h.2.2) ∧ St w0 [] [.ownL (CI .u8) h.1 h.2.1 h.2.2 r0 5] [] w' := by
 refine calls_k Tryd.func38 rfl fun Q qq => ?_
 have hs := St.start w0
 refine wp_conv (a' := ⟨#[.int .u64 a0, .int .i64 a1, undef, undef, undef, undef, undef, undef, undef, undef, undef, undef, undef, undef, undef, undef, undef, undef, undef, undef, undef, undef, undef, undef, undef, undef, undef, undef, undef, undef], []⟩) (by kernel_rfl) ?_
 refine xseq_k fun KS1 ks1 => ?_
 refine xregS [0] fun KR2 kr2 => ?_
 refine wpS.q 0 4 (.slice none 0 0) ?_
 refine wpS.fin rfl (kr2 _ _ (then_n (ks1 _ _ (xseq_k fun KS3 ks3 => (xseq_k fun KS4 ks4 => (xregS [0, 1, 2, 3, 4, 5] fun KR5 kr5 => ?_))))))
 refine wpS.q 0 7 (.int .i64 a1) ?_
 rcases of_if h with ⟨hc, h⟩ | ⟨hc, h⟩
 ·refine wpS.tk 1 false (some 8) (.bool true) (yld_b (dt hc) (fun _ => by kernel_rfl)) ?_
  refine wpS.qs [(2, 9, .bool true), (3, 10, undef), (4, 11, undef), (5, 12, .bool true)] ?_
  refine wpS.fin rfl (kr5 _ _ (then_n (ks4 _ _ (wp_cond_t (by kernel_rfl) (xseq_k fun KS6 ks6 => (xregS [0] fun KR7 kr7 => ?_))))))
  refine wpS.q 0 4 (.slice none 0 0) ?_
  refine wpS.fin rfl (kr7 _ _ (then_n (ks6 _ _ (xret (then_r ?_)))))
  have q0 := of_some h
  subst q0
  have hs := hs.addNilL (CI .u8) 5
  exact qq _ _ (post_ret (by kernel_rfl) (run_results [.tmp 4] [.slice none 0 0] (by kernel_rfl) (.cons (res_tmp (by kernel_rfl)) .nil)) ⟨⟨none, 0, 0⟩, congrArg Ending.returned (by kernel_rfl), (hs.conv rfl)⟩)
 refine wpS.tk 1 false (some 8) (.bool false) (yld_b (df hc) (fun _ => by kernel_rfl)) ?_
 refine wpS.qs [(2, 9, .bool false), (3, 10, .int .i64 a1)] ?_
 rcases of_if h with ⟨hc, h⟩ | ⟨hc, h⟩
 ·refine wpS.tk 4 false (some 11) (.bool true) (yld_b (dt hc) (fun _ => by kernel_rfl)) ?_
  refine wpS.q 5 12 (.bool true) ?_
  refine wpS.fin rfl (kr5 _ _ (then_n (ks4 _ _ (wp_cond_t (by kernel_rfl) (xseq_k fun KS8 ks8 => (xregS [0] fun KR9 kr9 => ?_))))))
  refine wpS.q 0 4 (.slice none 0 0) ?_
  refine wpS.fin rfl (kr9 _ _ (then_n (ks8 _ _ (xret (then_r ?_)))))
  have q0 := of_some h
  subst q0
  have hs := hs.addNilL (CI .u8) 5
  exact qq _ _ (post_ret (by kernel_rfl) (run_results [.tmp 4] [.slice none 0 0] (by kernel_rfl) (.cons (res_tmp (by kernel_rfl)) .nil)) ⟨⟨none, 0, 0⟩, congrArg Ending.returned (by kernel_rfl), (hs.conv rfl)⟩)
 refine wpS.tk 4 false (some 11) (.bool false) (yld_b (df hc) (fun _ => by kernel_rfl)) ?_
 refine wpS.q 5 12 (.bool false) ?_
 refine wpS.fin rfl (kr5 _ _ (then_n (ks4 _ _ (wp_cond_f (by kernel_rfl) (xskip (then_n (ks3 _ _ (xseq_k fun KS10 ks10 => (xregS [0, 1, 2] fun KR11 kr11 => ?_)))))))))
 refine wpS.q 0 13 (.int .i64 a1) ?_
 obtain ⟨h0, h⟩ := of_chk h
 obtain ⟨h1, h⟩ := of_chk h
 refine wpS.only 1 (op_makeT (C := (CI .u8)) (t := 22) (e := 5) (bytes := 1) (B := 140737488355328) (kl := .i64) (kc := .i64) (x := a1) (d := (some 14)) (by kernel_rfl) hs (by kernel_rfl) (by kernel_rfl) (by kernel_rfl) (by kernel_rfl) (by kernel_rfl) h0 h1 (by decide) (by decide) ?_)
 intro s1_A s1_n s1_c w gw hs
 refine ⟨fun _ => trivial, ?_⟩
 refine wpS.q 2 5 (.slice s1_A s1_n s1_c) ?_
 refine wpS.fin rfl (kr11 _ _ (then_n (ks10 _ _ (xseq_k fun KS12 ks12 => (xseq_k fun KS13 ks13 => (xregS [0, 1, 2] fun KR14 kr14 => ?_))))))
 refine wpS.qs [(0, 15, .int .i64 a1), (1, 16, .int .i64 (isub .i64 a1 1))] ?_
 obtain ⟨x2, hx, h⟩ := of_bind h
 refine wpS.tk 2 false (some 6) (.int .i64 x2) (yld_int hx (fun _ => by kernel_rfl)) ?_
 refine wpS.fin rfl (kr14 _ _ (then_n (ks13 _ _ ?_)))
 obtain ⟨y6, hy, hk0⟩ := of_bind h
 refine wp_exq (N := fun a w => St w0 [] [.ownL (CI .u8) s1_A s1_n s1_c y6 5] [] w ∧ ∃ g16 : Nat → Value, a = ⟨#[(g16 0), .int .i64 a1, undef, undef, .slice none 0 0, .slice s1_A s1_n s1_c, (g16 6), .int .i64 a1, .bool false, .bool false, .int .i64 a1, .bool false, .bool false, .int .i64 a1, .slice s1_A s1_n s1_c, .int .i64 a1, .int .i64 (isub .i64 a1 1), (g16 17), (g16 18), (g16 19), (g16 20), (g16 21), (g16 22), (g16 23), (g16 24), (g16 25), (g16 26), (g16 27), (g16 28), undef], []⟩) (fun N0 nn0 => ?_) ?_
 ·clear hk0
  refine xblock ?_
  refine wp_loop_k (fun n a w => ∃ z3 z4 z5, ref01_Be.l0 K n z3 z4 z5 = some y6 ∧ St w0 [] [.ownL (CI .u8) s1_A s1_n s1_c z5 5] [] w ∧ ∃ g15 : Nat → Value, a = ⟨#[.int .u64 z3, .int .i64 a1, undef, undef, .slice none 0 0, .slice s1_A s1_n s1_c, .int .i64 z4, .int .i64 a1, .bool false, .bool false, .int .i64 a1, .bool false, .bool false, .int .i64 a1, .slice s1_A s1_n s1_c, .int .i64 a1, .int .i64 (isub .i64 a1 1), (g15 17), (g15 18), (g15 19), (g15 20), (g15 21), (g15 22), (g15 23), (g15 24), (g15 25), (g15 26), (g15 27), (g15 28), undef], []⟩) K ⟨a0, x2, (List.replicate (a1 : Int).toNat (Cod.zero (CI .u8))), hy, hs.conv rfl, exg (by kernel_rfl)⟩ ?_
  clear hs h hy
  rintro n a w ⟨z3, z4, z5, h, hs, g15, rfl⟩ KL0 kl0
  cases n with
  | zero => exact nomatch (show none = some _ from h)
  | succ n =>
   refine xseq_k fun KS17 ks17 => ?_
   refine xseq_k fun KS18 ks18 => ?_
   refine xregS [0, 1] fun KR19 kr19 => ?_
   refine wpS.q 0 17 (.int .i64 z4) ?_
   rcases of_if h with ⟨hc, h⟩ | ⟨hc, h⟩
   ·refine wpS.tk 1 false (some 18) (.bool true) (yld_b (dt hc) (fun _ => by kernel_rfl)) ?_
    refine wpS.fin rfl (kr19 _ _ (then_n (ks18 _ _ (wp_cond_t (by kernel_rfl) (xskip (then_n (ks17 _ _ (xseq_k fun KS20 ks20 => (xblock (xseq_k fun KS21 ks21 => (xregS [0, 1, 2, 3, 4, 5, 6] fun KR22 kr22 => ?_)))))))))))
    refine wpS.qs [(0, 21, .slice s1_A s1_n s1_c), (1, 22, .int .i64 z4), (2, 23, .int .u64 z3), (3, 24, .int .u64 (iand .u64 z3 255)), (4, 25, .int .u8 (iconv .u8 (iand .u64 z3 255)))] ?_
    obtain ⟨h0, h⟩ := of_chk h
    obtain ⟨h1, h⟩ := of_chk h
    have i0_23 := h0
    have i1_23 := h1
    refine wpS.tk 5 false (some 26) (.pointer (adr s1_A ((z4 : Int).toNat * Cod.size (CI .u8)))) (yld_idxL (C := (CI .u8)) (t := 22) (e := 5) (k := .i64) (x := z4) (hs.rowL 0 rfl) (by kernel_rfl) (by kernel_rfl) (by kernel_rfl) h0 h1) ?_
    obtain ⟨x7, hx, h⟩ := of_bind h
    refine wpS.only 6 (op_storeL (C := (CI .u8)) (t := 5) (x := z4) (v := x7) (d := none) (by kernel_rfl) hs 0 rfl (by cases hx; kernel_rfl) (by kernel_rfl) i0_23 i1_23 ?_)
    intro w hs
    refine ⟨fun _ => trivial, ?_⟩
    refine wpS.fin rfl (kr22 _ _ (then_n (ks21 _ _ (xregS [0, 1, 2] fun KR24 kr24 => ?_))))
    refine wpS.qs [(0, 27, .int .u64 z3), (1, 28, .int .u64 (ishr .u64 z3 8))] ?_
    obtain ⟨x8, hx, h⟩ := of_bind h
    refine wpS.tk 2 false (some 0) (.int .u64 x8) (yld_int hx (fun _ => by kernel_rfl)) ?_
    refine wpS.fin rfl (kr24 _ _ (inBlock_n (then_n (ks20 _ _ (xregS [0, 1, 2] fun KR25 kr25 => ?_)))))
    refine wpS.qs [(0, 19, .int .i64 z4), (1, 20, .int .i64 (isub .i64 z4 1))] ?_
    obtain ⟨x9, hx, h⟩ := of_bind h
    refine wpS.tk 2 false (some 6) (.int .i64 x9) (yld_int hx (fun _ => by kernel_rfl)) ?_
    refine wpS.fin rfl (kr25 _ _ ?_)
    exact then_n (kl0 _ _ ⟨n, Nat.lt_succ_self n, x8, x9, (wrL z5 z4 x7), h, (hs.conv rfl), exg (by kernel_rfl)⟩)
   refine wpS.tk 1 false (some 18) (.bool false) (yld_b (df hc) (fun _ => by kernel_rfl)) ?_
   refine wpS.fin rfl (kr19 _ _ (then_n (ks18 _ _ (wp_cond_f (by kernel_rfl) (xexit (then_x (then_x (inBlock_hit ?_))))))))
   have q0 := of_some h
   subst q0
   exact exq_n (nn0 _ _ ⟨(hs.conv rfl), exg (by kernel_rfl)⟩)
 clear hs h hy
 rintro a w ⟨hs, g16, rfl⟩
 have h := hk0
 refine then_n (ks12 _ _ (xseq_k fun KS26 ks26 => (xregS [0, 1] fun KR27 kr27 => ?_)))
 refine wpS.qs [(0, 29, .slice s1_A s1_n s1_c), (1, 4, .slice s1_A s1_n s1_c)] ?_
 refine wpS.fin rfl (kr27 _ _ (then_n (ks26 _ _ (xret ?_))))
 have q0 := of_some h
 subst q0
 exact qq _ _ (post_ret (by kernel_rfl) (run_results [.tmp 4] [.slice s1_A s1_n s1_c] (by kernel_rfl) (.cons (res_tmp (by kernel_rfl)) .nil)) ⟨⟨s1_A, s1_n, s1_c⟩, congrArg Ending.returned (by kernel_rfl), (hs.conv rfl)⟩)

theorem ref01_Le.ok {K : Nat} {a0 : Int} {a1 : Int} {r0 : List Int} (h : ref01_Le.f K a0 a1 = some r0) (w0 : World) : Calls Tryd.prog 24 #[.int .u64 a0, .int .i64 a1] w0 fun e w' => ∃ h : (Option Addr × Nat × Nat), e = .returned (.slice h.1 h.2.1 h.2.2) ∧ St w0 [] [.ownL (CI .u8) h.1 h.2.1 h.2.2 r0 5] [] w' := by
 refine calls_k Tryd.func24 rfl fun Q qq => ?_
 have hs := St.start w0
 refine wp_conv (a' := ⟨#[.int .u64 a0, .int .i64 a1, undef, undef, undef, undef, undef, undef, undef], []⟩) (by kernel_rfl) ?_
 refine xseq_k fun KS1 ks1 => ?_
 refine xregS [0] fun KR2 kr2 => ?_
 refine wpS.q 0 4 (.slice none 0 0) ?_
 refine wpS.fin rfl (kr2 _ _ (then_n (ks1 _ _ (xseq_k fun KS3 ks3 => (xregS [0, 1, 2, 3, 4] fun KR4 kr4 => ?_)))))
 refine wpS.qs [(0, 5, .int .u64 a0), (1, 6, .int .i64 a1)] ?_
 obtain ⟨r1, hg, h⟩ := of_bind h
 refine wpS.only 2 (op_callH (d := (some 7)) (by kernel_rfl) hs (fun _ => by kernel_rfl) (ref01_Be.ok hg _) ?_)
 rintro ⟨r1_A, r1_n, r1_c⟩ w gw hs
 have hs := hs.conv (L' := [.ownL (CI .u8) r1_A r1_n r1_c r1 5]) rfl
 refine ⟨fun _ => trivial, ?_⟩
 obtain ⟨r2, hg, h⟩ := of_bind h
 refine wpS.only 3 (op_callH (d := (some 8)) (by kernel_rfl) hs (fun _ => by kernel_rfl) (ref01_Back.ok hg _ (hs.rowL 0 rfl)) ?_)
 rintro ⟨r2_A, r2_n, r2_c⟩ w gw hs
 have hs := hs.conv (L' := [.ownL (CI .u8) r2_A r2_n r2_c r2 5, .ownL (CI .u8) r1_A r1_n r1_c r1 5]) rfl
 refine ⟨fun _ => trivial, ?_⟩
 refine wpS.q 4 4 (.slice r2_A r2_n r2_c) ?_
 refine wpS.fin rfl (kr4 _ _ (then_n (ks3 _ _ (xret ?_))))
 have q0 := of_some h
 subst q0
 exact qq _ _ (post_ret (by kernel_rfl) (run_results [.tmp 4] [.slice r2_A r2_n r2_c] (by kernel_rfl) (.cons (res_tmp (by kernel_rfl)) .nil)) ⟨⟨r2_A, r2_n, r2_c⟩, congrArg Ending.returned (by kernel_rfl), (hs.drop (.cons_cons _ (.cons _ .slnil)))⟩)

theorem ref23_Small.ok {K : Nat} {a0 : List Int} {a1 : Int} {a2 : Int} {r0 : Arr 256} {r1 : Int} {a0_A : Option Addr} {a0_n : Nat} {a0_c : Nat} (h : ref23_Small.f K a0 a1 a2 = some (r0, r1)) (w0 : World) (hp0 : RowL (CI .u8) w0 a0_A a0_n a0_c a0) : Ret Tryd.prog 9 #[.slice a0_A a0_n a0_c, .int .u16 a1, .int .i32 a2] w0 (.tuple #[.agg (enc .i32 r0).toArray, .int .i64 r1]) := by
 refine calls_k Tryd.func9 rfl fun Q qq => ?_
 have hs := St.startR (all_cons (RowP.ent hp0) all_nil)
 refine wp_conv (a' := ⟨#[.slice a0_A a0_n a0_c, .int .u16 a1, .int .i32 a2, undef, undef, undef, undef, undef, undef, undef, undef, undef, undef, undef, undef, undef, undef, undef, undef, undef, undef, undef, undef, undef, undef, undef, undef, undef, undef, undef, undef, undef, undef, undef, undef, undef, undef, undef, undef, undef, undef, undef, undef, undef, undef], []⟩) (by kernel_rfl) ?_
 refine xseq_k fun KS1 ks1 => ?_
 refine xregS [0, 1] fun KR2 kr2 => ?_
 refine wpS.only 0 (op_alloc (t := 26) (d := (some 6)) (by kernel_rfl) hs (enc .i32 (zeroA 256)) (.agg (enc .i32 (zeroA 256)).toArray) (by kernel_rfl) (by kernel_rfl) (by kernel_rfl) ?_)
 intro b1 w gw hs
 refine ⟨fun _ => trivial, ?_⟩
 refine wpS.q 1 7 (.int .i64 0) ?_
 refine wpS.fin rfl (kr2 _ _ (then_n (ks1 _ _ ?_)))
 obtain ⟨tv4, hj, hk_4⟩ := of_bind h
 refine xseq_k fun KS4 ks4 => wp_exj (N := fun a w => ∃ y2, tv4 = .inl y2 ∧ St w0 [] [.blk b1 (enc .i32 y2) 26] [.rowL (CI .u8) a0_A a0_n a0_c a0] w ∧ ∃ g3 : Nat → Value, a = ⟨#[.slice a0_A a0_n a0_c, .int .u16 a1, .int .i32 a2, undef, undef, undef, .pointer (some ⟨b1, 0, none⟩), (g3 7), undef, undef, (g3 10), (g3 11), (g3 12), (g3 13), (g3 14), (g3 15), (g3 16), undef, undef, undef, undef, undef, undef, undef, undef, undef, undef, undef, undef, undef, undef, undef, undef, undef, undef, undef, undef, undef, undef, undef, undef, undef, undef, undef, undef], []⟩) (fun N nj => ?_) ?_
 ·clear h
  have h := hj
  refine xseq_k fun KS5 ks5 => ?_
  refine xregS [0, 1, 2, 3, 4, 5] fun KR6 kr6 => ?_
  refine wpS.q 0 10 (.int .i32 a2) ?_
  rcases of_if h with ⟨hc, h⟩ | ⟨hc, h⟩
  ·refine wpS.tk 1 false (some 11) (.bool false) (yld_b (nf hc) (fun _ => by kernel_rfl)) ?_
   refine wpS.qs [(2, 12, .bool false), (3, 13, undef), (4, 14, undef), (5, 15, .bool false)] ?_
   refine wpS.fin rfl (kr6 _ _ (then_n (ks5 _ _ (wp_cond_f (by kernel_rfl) (xskip ?_)))))
   have q0 := of_some h
   subst q0
   exact exj_n (nj _ _ ⟨(zeroA 256), rfl, (hs.conv rfl), exg (by kernel_rfl)⟩)
  refine wpS.tk 1 false (some 11) (.bool true) (yld_b (nt hc) (fun _ => by kernel_rfl)) ?_
  refine wpS.qs [(2, 12, .bool true), (3, 13, .int .i32 a2)] ?_
  rcases of_if h with ⟨hc, h⟩ | ⟨hc, h⟩
  ·refine wpS.tk 4 false (some 14) (.bool false) (yld_b (nf hc) (fun _ => by kernel_rfl)) ?_
   refine wpS.q 5 15 (.bool false) ?_
   refine wpS.fin rfl (kr6 _ _ (then_n (ks5 _ _ (wp_cond_f (by kernel_rfl) (xskip ?_)))))
   have q0 := of_some h
   subst q0
   exact exj_n (nj _ _ ⟨(zeroA 256), rfl, (hs.conv rfl), exg (by kernel_rfl)⟩)
  refine wpS.tk 4 false (some 14) (.bool true) (yld_b (nt hc) (fun _ => by kernel_rfl)) ?_
  refine wpS.q 5 15 (.bool true) ?_
  refine wpS.fin rfl (kr6 _ _ (then_n (ks5 _ _ (wp_cond_t (by kernel_rfl) (xseq_k fun KS7 ks7 => (xregS [0, 1, 2] fun KR8 kr8 => ?_))))))
  refine wpS.q 0 16 (.agg (enc .i32 (zeroA 256)).toArray) ?_
  refine wpS.only 1 (op_storeW (t := 26) (v := .agg (enc .i32 (zeroA 256)).toArray) (d := none) (by kernel_rfl) hs 0 rfl (vs := enc .i32 (zeroA 256)) (n := 256) (by kernel_rfl) (by kernel_rfl) (by kernel_rfl) (by simp [enc_len]) (by simp [enc_len]) (by intro u hu; exact enc_one _ _ u hu) ?_)
  intro w kp hs
  refine ⟨fun _ => trivial, ?_⟩
  refine wpS.q 2 7 (.int .i64 8) ?_
  refine wpS.fin rfl (kr8 _ _ (then_n (ks7 _ _ (xret ?_))))
  have q0 := of_some h
  subst q0
  have h := hk_4
  refine exj_r ?_
  refine then_r ?_
  obtain ⟨q0, qr0⟩ := Prod.mk.inj (of_some h)
  have q1 := qr0
  subst q0
  subst q1
  exact qq _ _ (post_ret (by kernel_rfl) (run_results [.cell 6 26, .tmp 7] [.agg (enc .i32 (zeroA 256)).toArray, .int .i64 8] (by kernel_rfl) (.cons (res_cellN (n := 256) hs 0 rfl (by kernel_rfl) (by kernel_rfl) (by kernel_rfl) (by exact enc_len _ _)) (.cons (res_tmp (by kernel_rfl)) .nil))) ⟨congrArg Ending.returned (by kernel_rfl), hs.none⟩)
 clear hj hs
 rintro a w ⟨y2, rfl, hs, g3, rfl⟩
 have h := hk_4
 refine then_n (ks4 _ _ (xseq_k fun KS9 ks9 => (xregS [0, 1, 2, 3, 4, 5, 6, 7, 8, 9, 10, 11, 12, 13] fun KR10 kr10 => ?_)))
 refine wpS.qs [(0, 18, .slice a0_A a0_n a0_c), (1, 19, .int .u16 a1), (2, 20, .int .u64 (iconv .u64 a1))] ?_
 obtain ⟨r3, hg, h⟩ := of_bind h
 refine wpS.only 3 (op_callH (d := (some 21)) (by kernel_rfl) hs (fun _ => by kernel_rfl) (ref01_Le.ok hg _) ?_)
 rintro ⟨r3_A, r3_n, r3_c⟩ w gw hs
 have hs := hs.conv (L' := [.ownL (CI .u8) r3_A r3_n r3_c r3 5, .blk b1 (enc .i32 y2) 26]) rfl
 refine ⟨fun _ => trivial, ?_⟩
 refine wpS.only 4 (op_lit (C := CS) (t := 55) (e := 22) (len := 2) (parts := #[(0, .slice a0_A a0_n a0_c), (1, .slice r3_A r3_n r3_c)]) (l := ([(a0_A, a0_n, a0_c), (r3_A, r3_n, r3_c)] : List HS)) (d := (some 22)) (by kernel_rfl) hs (by kernel_rfl) (by kernel_rfl) (by kernel_rfl) (z := .slice none 0 0) (by kernel_rfl) rfl (by decide) (by decide) (by kernel_rfl) ?_)
 intro s4_A s4_n s4_c w gw hs
 refine ⟨fun _ => trivial, ?_⟩
 obtain ⟨r5, hg, h⟩ := of_bind h
 refine wpS.only 5 (op_callH (d := (some 23)) (by kernel_rfl) hs (fun _ => by kernel_rfl) (ref01_Join.ok hg _ (LLP.mk (hs.rowL 0 rfl) (inn_cons (hs.rowR 0 rfl) (inn_cons (hs.rowL 1 rfl) inn_nil)))) ?_)
 rintro ⟨r5_A, r5_n, r5_c⟩ w gw hs
 have hs := hs.conv (L' := [.ownL (CI .u8) r5_A r5_n r5_c r5 5, .ownL CS s4_A s4_n s4_c ([(a0_A, a0_n, a0_c), (r3_A, r3_n, r3_c)] : List HS) 22, .ownL (CI .u8) r3_A r3_n r3_c r3 5, .blk b1 (enc .i32 y2) 26]) rfl
 refine ⟨fun _ => trivial, ?_⟩
 refine wpS.q 6 24 (.int .i32 a2) ?_
 obtain ⟨⟨r6, r7⟩, hg, h⟩ := of_bind h
 refine wpS.only 7 (op_call (d := (some 25)) (by kernel_rfl) hs (fun _ => by kernel_rfl) (ref23_small.ok hg _ (hs.rowL 0 rfl)) ?_)
 intro w gw hs
 refine ⟨fun _ => trivial, ?_⟩
 refine wpS.qs [(8, 17, .tuple #[.agg (enc .i32 r6).toArray, .int .i64 r7]), (9, 26, .agg (enc .i32 r6).toArray), (10, 27, .int .i64 r7)] ?_
 refine wpS.only 11 (op_alloc (t := 26) (d := (some 8)) (by kernel_rfl) hs (enc .i32 (zeroA 256)) (.agg (enc .i32 (zeroA 256)).toArray) (by kernel_rfl) (by kernel_rfl) (by kernel_rfl) ?_)
 intro b8 w gw hs
 refine ⟨fun _ => trivial, ?_⟩
 refine wpS.only 12 (op_storeW (t := 26) (v := .agg (enc .i32 r6).toArray) (d := none) (by kernel_rfl) hs 0 rfl (vs := enc .i32 r6) (n := 256) (by kernel_rfl) (by kernel_rfl) (by kernel_rfl) (by simp [enc_len]) (by simp [enc_len]) (by intro u hu; exact enc_one _ _ u hu) ?_)
 intro w kp hs
 refine ⟨fun _ => trivial, ?_⟩
 refine wpS.q 13 9 (.int .i64 r7) ?_
 refine wpS.fin rfl (kr10 _ _ (then_n (ks9 _ _ ?_)))
 obtain ⟨⟨y9, y10⟩, hj, h⟩ := of_bind h
 refine xseq_k fun KS12 ks12 => wp_join (N := fun a w => St w0 [] [.blk b8 (enc .i32 y10) 26, .ownL (CI .u8) r5_A r5_n r5_c r5 5, .ownL CS s4_A s4_n s4_c ([(a0_A, a0_n, a0_c), (r3_A, r3_n, r3_c)] : List HS) 22, .ownL (CI .u8) r3_A r3_n r3_c r3 5, .blk b1 (enc .i32 y2) 26] [.rowL (CI .u8) a0_A a0_n a0_c a0] w ∧ ∃ g11 : Nat → Value, a = ⟨#[.slice a0_A a0_n a0_c, .int .u16 a1, .int .i32 a2, undef, undef, undef, .pointer (some ⟨b1, 0, none⟩), (g3 7), .pointer (some ⟨b8, 0, none⟩), .int .i64 y9, (g3 10), (g3 11), (g3 12), (g3 13), (g3 14), (g3 15), (g3 16), .tuple #[.agg (enc .i32 r6).toArray, .int .i64 r7], .slice a0_A a0_n a0_c, .int .u16 a1, .int .u64 (iconv .u64 a1), .slice r3_A r3_n r3_c, .slice s4_A s4_n s4_c, .slice r5_A r5_n r5_c, .int .i32 a2, .tuple #[.agg (enc .i32 r6).toArray, .int .i64 r7], .agg (enc .i32 r6).toArray, .int .i64 r7, (g11 28), (g11 29), (g11 30), (g11 31), (g11 32), (g11 33), (g11 34), (g11 35), (g11 36), (g11 37), (g11 38), (g11 39), (g11 40), undef, undef, undef, undef], []⟩) (fun N nj => ?_) ?_
 ·clear h
  have h := hj
  refine xseq_k fun KS13 ks13 => ?_
  refine xregS [0, 1] fun KR14 kr14 => ?_
  refine wpS.q 0 28 (.int .i64 r7) ?_
  rcases of_if h with ⟨hc, h⟩ | ⟨hc, h⟩
  ·refine wpS.tk 1 false (some 29) (.bool true) (yld_b (dt hc) (fun _ => by kernel_rfl)) ?_
   refine wpS.fin rfl (kr14 _ _ (then_n (ks13 _ _ (wp_cond_t (by kernel_rfl) (xregS [0, 1, 2, 3, 4, 5, 6, 7, 8, 9, 10, 11, 12] fun KR15 kr15 => ?_)))))
   refine wpS.qs [(0, 31, .slice a0_A a0_n a0_c), (1, 32, .int .u16 a1), (2, 33, .int .u64 (iconv .u64 a1))] ?_
   obtain ⟨r11, hg, h⟩ := of_bind h
   refine wpS.only 3 (op_callH (d := (some 34)) (by kernel_rfl) hs (fun _ => by kernel_rfl) (ref01_Le.ok hg _) ?_)
   rintro ⟨r11_A, r11_n, r11_c⟩ w gw hs
   have hs := hs.conv (L' := [.ownL (CI .u8) r11_A r11_n r11_c r11 5, .blk b8 (enc .i32 r6) 26, .ownL (CI .u8) r5_A r5_n r5_c r5 5, .ownL CS s4_A s4_n s4_c ([(a0_A, a0_n, a0_c), (r3_A, r3_n, r3_c)] : List HS) 22, .ownL (CI .u8) r3_A r3_n r3_c r3 5, .blk b1 (enc .i32 y2) 26]) rfl
   refine ⟨fun _ => trivial, ?_⟩
   refine wpS.only 4 (op_lit (C := CS) (t := 55) (e := 22) (len := 2) (parts := #[(0, .slice a0_A a0_n a0_c), (1, .slice r11_A r11_n r11_c)]) (l := ([(a0_A, a0_n, a0_c), (r11_A, r11_n, r11_c)] : List HS)) (d := (some 35)) (by kernel_rfl) hs (by kernel_rfl) (by kernel_rfl) (by kernel_rfl) (z := .slice none 0 0) (by kernel_rfl) rfl (by decide) (by decide) (by kernel_rfl) ?_)
   intro s12_A s12_n s12_c w gw hs
   refine ⟨fun _ => trivial, ?_⟩
   obtain ⟨r13, hg, h⟩ := of_bind h
   refine wpS.only 5 (op_callH (d := (some 36)) (by kernel_rfl) hs (fun _ => by kernel_rfl) (ref01_Join.ok hg _ (LLP.mk (hs.rowL 0 rfl) (inn_cons (hs.rowR 0 rfl) (inn_cons (hs.rowL 1 rfl) inn_nil)))) ?_)
   rintro ⟨r13_A, r13_n, r13_c⟩ w gw hs
   have hs := hs.conv (L' := [.ownL (CI .u8) r13_A r13_n r13_c r13 5, .ownL CS s12_A s12_n s12_c ([(a0_A, a0_n, a0_c), (r11_A, r11_n, r11_c)] : List HS) 22, .ownL (CI .u8) r11_A r11_n r11_c r11 5, .blk b8 (enc .i32 r6) 26, .ownL (CI .u8) r5_A r5_n r5_c r5 5, .ownL CS s4_A s4_n s4_c ([(a0_A, a0_n, a0_c), (r3_A, r3_n, r3_c)] : List HS) 22, .ownL (CI .u8) r3_A r3_n r3_c r3 5, .blk b1 (enc .i32 y2) 26]) rfl
   refine ⟨fun _ => trivial, ?_⟩
   refine wpS.q 6 37 (.int .i32 a2) ?_
   obtain ⟨⟨r14, r15⟩, hg, h⟩ := of_bind h
   refine wpS.only 7 (op_call (d := (some 38)) (by kernel_rfl) hs (fun _ => by kernel_rfl) (ref23_small.ok hg _ (hs.rowL 0 rfl)) ?_)
   intro w gw hs
   refine ⟨fun _ => trivial, ?_⟩
   refine wpS.qs [(8, 30, .tuple #[.agg (enc .i32 r14).toArray, .int .i64 r15]), (9, 39, .agg (enc .i32 r14).toArray), (10, 40, .int .i64 r15)] ?_
   refine wpS.only 11 (op_storeW (t := 26) (v := .agg (enc .i32 r14).toArray) (d := none) (by kernel_rfl) hs 3 rfl (vs := enc .i32 r14) (n := 256) (by kernel_rfl) (by kernel_rfl) (by kernel_rfl) (by simp [enc_len]) (by simp [enc_len]) (by intro u hu; exact enc_one _ _ u hu) ?_)
   intro w kp hs
   refine ⟨fun _ => trivial, ?_⟩
   refine wpS.q 12 9 (.int .i64 r15) ?_
   refine wpS.fin rfl (kr15 _ _ ?_)
   obtain ⟨q0, qr0⟩ := Prod.mk.inj (of_some h)
   have q1 := qr0
   subst q0
   subst q1
   exact nj _ _ ⟨(hs.drop (.cons _ (.cons _ (.cons _ (.cons_cons _ (.cons_cons _ (.cons_cons _ (.cons_cons _ (.cons_cons _ .slnil))))))))), exg (by kernel_rfl)⟩
  refine wpS.tk 1 false (some 29) (.bool false) (yld_b (df hc) (fun _ => by kernel_rfl)) ?_
  refine wpS.fin rfl (kr14 _ _ (then_n (ks13 _ _ (wp_cond_f (by kernel_rfl) (xskip ?_)))))
  obtain ⟨q0, qr0⟩ := Prod.mk.inj (of_some h)
  have q1 := qr0
  subst q0
  subst q1
  exact nj _ _ ⟨(hs.conv rfl), exg (by kernel_rfl)⟩
 clear hj hs
 rintro a w ⟨hs, g11, rfl⟩
 refine then_n (ks12 _ _ (xseq_k fun KS16 ks16 => (xseq_k fun KS17 ks17 => (xregS [0, 1] fun KR18 kr18 => ?_))))
 refine wpS.q 0 41 (.int .i64 y9) ?_
 rcases of_if h with ⟨hc, h⟩ | ⟨hc, h⟩
 ·refine wpS.tk 1 false (some 42) (.bool true) (yld_b (dt hc) (fun _ => by kernel_rfl)) ?_
  refine wpS.fin rfl (kr18 _ _ (then_n (ks17 _ _ (wp_cond_t (by kernel_rfl) (xseq_k fun KS19 ks19 => (xregS [0, 1, 2] fun KR20 kr20 => ?_))))))
  refine wpS.q 0 43 (.agg (enc .i32 (zeroA 256)).toArray) ?_
  refine wpS.only 1 (op_storeW (t := 26) (v := .agg (enc .i32 (zeroA 256)).toArray) (d := none) (by kernel_rfl) hs 4 rfl (vs := enc .i32 (zeroA 256)) (n := 256) (by kernel_rfl) (by kernel_rfl) (by kernel_rfl) (by simp [enc_len]) (by simp [enc_len]) (by intro u hu; exact enc_one _ _ u hu) ?_)
  intro w kp hs
  refine ⟨fun _ => trivial, ?_⟩
  refine wpS.q 2 7 (.int .i64 12) ?_
  refine wpS.fin rfl (kr20 _ _ (then_n (ks19 _ _ (xret (then_r ?_)))))
  obtain ⟨q0, qr0⟩ := Prod.mk.inj (of_some h)
  have q1 := qr0
  subst q0
  subst q1
  exact qq _ _ (post_ret (by kernel_rfl) (run_results [.cell 6 26, .tmp 7] [.agg (enc .i32 (zeroA 256)).toArray, .int .i64 12] (by kernel_rfl) (.cons (res_cellN (n := 256) hs 4 rfl (by kernel_rfl) (by kernel_rfl) (by kernel_rfl) (by exact enc_len _ _)) (.cons (res_tmp (by kernel_rfl)) .nil))) ⟨congrArg Ending.returned (by kernel_rfl), hs.none⟩)
 refine wpS.tk 1 false (some 42) (.bool false) (yld_b (df hc) (fun _ => by kernel_rfl)) ?_
 refine wpS.fin rfl (kr18 _ _ (then_n (ks17 _ _ (wp_cond_f (by kernel_rfl) (xskip (then_n (ks16 _ _ (xseq_k fun KS21 ks21 => (xregS [0, 1, 2] fun KR22 kr22 => ?_)))))))))
 refine wpS.tk 0 true (some 44) (.agg (enc .i32 y10).toArray) (yld_loadW (e := 26) (n := 256) hs 0 rfl (by kernel_rfl) (by kernel_rfl) (by kernel_rfl) (by exact enc_len _ _) .grow) ?_
 refine wpS.only 1 (op_storeW (t := 26) (v := .agg (enc .i32 y10).toArray) (d := none) (by kernel_rfl) hs 4 rfl (vs := enc .i32 y10) (n := 256) (by kernel_rfl) (by kernel_rfl) (by kernel_rfl) (by simp [enc_len]) (by simp [enc_len]) (by intro u hu; exact enc_one _ _ u hu) ?_)
 intro w kp hs
 refine ⟨fun _ => trivial, ?_⟩
 refine wpS.q 2 7 (.int .i64 0) ?_
 refine wpS.fin rfl (kr22 _ _ (then_n (ks21 _ _ (xret ?_))))
 obtain ⟨q0, qr0⟩ := Prod.mk.inj (of_some h)
 have q1 := qr0
 subst q0
 subst q1
 exact qq _ _ (post_ret (by kernel_rfl) (run_results [.cell 6 26, .tmp 7] [.agg (enc .i32 y10).toArray, .int .i64 0] (by kernel_rfl) (.cons (res_cellN (n := 256) hs 4 rfl (by kernel_rfl) (by kernel_rfl) (by kernel_rfl) (by exact enc_len _ _)) (.cons (res_tmp (by kernel_rfl)) .nil))) ⟨congrArg Ending.returned (by kernel_rfl), hs.none⟩)

theorem ref22_bounds.ok {K : Nat} {a0 : Int} {a1 : Int} {r0 : Bool} (h : ref22_bounds.f K a0 a1 = some r0) (w0 : World) : Ret Tryd.prog 51 #[.int .i32 a0, .int .i32 a1] w0 (.bool r0) := by
 refine calls_k Tryd.func51 rfl fun Q qq => ?_
 have hs := St.start w0
 refine wp_conv (a' := ⟨#[.int .i32 a0, .int .i32 a1, undef, undef, undef, undef, undef, undef, undef, undef, undef, undef, undef, undef, undef, undef, undef, undef, undef], []⟩) (by kernel_rfl) ?_
 refine xseq_k fun KS1 ks1 => ?_
 refine xregS [0] fun KR2 kr2 => ?_
 refine wpS.q 0 4 (.bool false) ?_
 refine wpS.fin rfl (kr2 _ _ (then_n (ks1 _ _ (xseq_k fun KS3 ks3 => (xregS [0, 1, 2, 3, 4, 5, 6, 7, 8, 9, 10, 11, 12, 13, 14] fun KR4 kr4 => ?_)))))
 refine wpS.q 0 5 (.int .i32 a0) ?_
 rcases of_if h with ⟨hc, h⟩ | ⟨hc, h⟩
 ·refine wpS.tk 1 false (some 6) (.bool true) (yld_b (dt hc) (fun _ => by kernel_rfl)) ?_
  refine wpS.qs [(2, 7, .bool true), (3, 8, .int .i32 a0)] ?_
  rcases of_if h with ⟨hc, h⟩ | ⟨hc, h⟩
  ·refine wpS.tk 4 false (some 9) (.bool true) (yld_b (dt hc) (fun _ => by kernel_rfl)) ?_
   refine wpS.qs [(5, 10, .bool true), (6, 11, .bool true), (7, 12, .int .i32 a1)] ?_
   rcases of_if h with ⟨hc, h⟩ | ⟨hc, h⟩
   ·refine wpS.tk 8 false (some 13) (.bool true) (yld_b (dt hc) (fun _ => by kernel_rfl)) ?_
    refine wpS.qs [(9, 14, .bool true), (10, 15, .bool true), (11, 16, .int .i32 a1), (12, 17, .bool (decide (a1 ≤ 1048576))), (13, 18, .bool (decide (a1 ≤ 1048576))), (14, 4, .bool (decide (a1 ≤ 1048576)))] ?_
    refine wpS.fin rfl (kr4 _ _ (then_n (ks3 _ _ (xret ?_))))
    have q0 := of_some h
    subst q0
    exact qq _ _ (post_ret (by kernel_rfl) (run_results [.tmp 4] [.bool (decide (a1 ≤ 1048576))] (by kernel_rfl) (.cons (res_tmp (by kernel_rfl)) .nil)) ⟨congrArg Ending.returned (by kernel_rfl), hs.none⟩)
   refine wpS.tk 8 false (some 13) (.bool false) (yld_b (df hc) (fun _ => by kernel_rfl)) ?_
   refine wpS.qs [(9, 14, .bool false), (10, 15, .bool false), (11, 16, undef), (12, 17, undef), (13, 18, .bool false), (14, 4, .bool false)] ?_
   refine wpS.fin rfl (kr4 _ _ (then_n (ks3 _ _ (xret ?_))))
   have q0 := of_some h
   subst q0
   exact qq _ _ (post_ret (by kernel_rfl) (run_results [.tmp 4] [.bool false] (by kernel_rfl) (.cons (res_tmp (by kernel_rfl)) .nil)) ⟨congrArg Ending.returned (by kernel_rfl), hs.none⟩)
  refine wpS.tk 4 false (some 9) (.bool false) (yld_b (df hc) (fun _ => by kernel_rfl)) ?_
  refine wpS.qs [(5, 10, .bool false), (6, 11, .bool false), (7, 12, undef), (8, 13, undef), (9, 14, .bool false), (10, 15, .bool false), (11, 16, undef), (12, 17, undef), (13, 18, .bool false), (14, 4, .bool false)] ?_
  refine wpS.fin rfl (kr4 _ _ (then_n (ks3 _ _ (xret ?_))))
  have q0 := of_some h
  subst q0
  exact qq _ _ (post_ret (by kernel_rfl) (run_results [.tmp 4] [.bool false] (by kernel_rfl) (.cons (res_tmp (by kernel_rfl)) .nil)) ⟨congrArg Ending.returned (by kernel_rfl), hs.none⟩)
 refine wpS.tk 1 false (some 6) (.bool false) (yld_b (df hc) (fun _ => by kernel_rfl)) ?_
 refine wpS.qs [(2, 7, .bool false), (3, 8, undef), (4, 9, undef), (5, 10, .bool false), (6, 11, .bool false), (7, 12, undef), (8, 13, undef), (9, 14, .bool false), (10, 15, .bool false), (11, 16, undef), (12, 17, undef), (13, 18, .bool false), (14, 4, .bool false)] ?_
 refine wpS.fin rfl (kr4 _ _ (then_n (ks3 _ _ (xret ?_))))
 have q0 := of_some h
 subst q0
 exact qq _ _ (post_ret (by kernel_rfl) (run_results [.tmp 4] [.bool false] (by kernel_rfl) (.cons (res_tmp (by kernel_rfl)) .nil)) ⟨congrArg Ending.returned (by kernel_rfl), hs.none⟩)

theorem ref22_width.ok {K : Nat} {a0 : Int} {r0 : Int} (h : ref22_width.f K a0 = some r0) (w0 : World) : Ret Tryd.prog 63 #[.int .i32 a0] w0 (.int .i64 r0) := by
 refine calls_k Tryd.func63 rfl fun Q qq => ?_
 have hs := St.start w0
 refine wp_conv (a' := ⟨#[.int .i32 a0, undef, undef, undef, undef, undef, undef, undef, undef, undef, undef], []⟩) (by kernel_rfl) ?_
 refine xseq_k fun KS1 ks1 => ?_
 refine xregS [0] fun KR2 kr2 => ?_
 refine wpS.q 0 2 (.int .i64 0) ?_
 refine wpS.fin rfl (kr2 _ _ (then_n (ks1 _ _ (xseq_k fun KS3 ks3 => (xregS [0] fun KR4 kr4 => ?_)))))
 refine wpS.q 0 3 (.int .i64 0) ?_
 refine wpS.fin rfl (kr4 _ _ (then_n (ks3 _ _ (xseq_k fun KS5 ks5 => ?_))))
 obtain ⟨y3, hy, hk0⟩ := of_bind h
 refine wp_exq (N := fun a w => St w0 [] [] [] w ∧ ∃ g7 : Nat → Value, a = ⟨#[(g7 0), undef, .int .i64 0, .int .i64 y3, (g7 4), (g7 5), (g7 6), (g7 7), (g7 8), (g7 9), undef], []⟩) (fun N0 nn0 => ?_) ?_
 ·clear hk0
  refine xblock ?_
  refine wp_loop_k (fun n a w => ∃ z1 z2, ref22_width.l0 K n z1 z2 = some y3 ∧ St w0 [] [] [] w ∧ ∃ g6 : Nat → Value, a = ⟨#[.int .i32 z1, undef, .int .i64 0, .int .i64 z2, (g6 4), (g6 5), (g6 6), (g6 7), (g6 8), (g6 9), undef], []⟩) K ⟨a0, 0, hy, hs.conv rfl, exg (by kernel_rfl)⟩ ?_
  clear hs h hy
  rintro n a w ⟨z1, z2, h, hs, g6, rfl⟩ KL0 kl0
  cases n with
  | zero => exact nomatch (show none = some _ from h)
  | succ n =>
   refine xseq_k fun KS8 ks8 => ?_
   refine xseq_k fun KS9 ks9 => ?_
   refine xregS [0, 1] fun KR10 kr10 => ?_
   refine wpS.q 0 4 (.int .i32 z1) ?_
   rcases of_if h with ⟨hc, h⟩ | ⟨hc, h⟩
   ·refine wpS.tk 1 false (some 5) (.bool true) (yld_b (dt hc) (fun _ => by kernel_rfl)) ?_
    refine wpS.fin rfl (kr10 _ _ (then_n (ks9 _ _ (wp_cond_t (by kernel_rfl) (xskip (then_n (ks8 _ _ (xblock (xseq_k fun KS11 ks11 => (xregS [0, 1, 2] fun KR12 kr12 => ?_))))))))))
    refine wpS.qs [(0, 6, .int .i32 z1), (1, 7, .int .i32 (iquo .i32 z1 2))] ?_
    obtain ⟨x4, hx, h⟩ := of_bind h
    refine wpS.tk 2 false (some 0) (.int .i32 x4) (yld_int hx (fun _ => by kernel_rfl)) ?_
    refine wpS.fin rfl (kr12 _ _ (then_n (ks11 _ _ (xregS [0, 1, 2] fun KR13 kr13 => ?_))))
    refine wpS.qs [(0, 8, .int .i64 z2), (1, 9, .int .i64 (iadd .i64 z2 1))] ?_
    obtain ⟨x5, hx, h⟩ := of_bind h
    refine wpS.tk 2 false (some 3) (.int .i64 x5) (yld_int hx (fun _ => by kernel_rfl)) ?_
    refine wpS.fin rfl (kr13 _ _ (inBlock_n ?_))
    exact then_n (kl0 _ _ ⟨n, Nat.lt_succ_self n, x4, x5, h, (hs.conv rfl), exg (by kernel_rfl)⟩)
   refine wpS.tk 1 false (some 5) (.bool false) (yld_b (df hc) (fun _ => by kernel_rfl)) ?_
   refine wpS.fin rfl (kr10 _ _ (then_n (ks9 _ _ (wp_cond_f (by kernel_rfl) (xexit (then_x (then_x (inBlock_hit ?_))))))))
   have q0 := of_some h
   subst q0
   exact exq_n (nn0 _ _ ⟨(hs.conv rfl), exg (by kernel_rfl)⟩)
 clear hs h hy
 rintro a w ⟨hs, g7, rfl⟩
 have h := hk0
 refine then_n (ks5 _ _ (xseq_k fun KS14 ks14 => (xregS [0, 1] fun KR15 kr15 => ?_)))
 refine wpS.qs [(0, 10, .int .i64 y3), (1, 2, .int .i64 y3)] ?_
 refine wpS.fin rfl (kr15 _ _ (then_n (ks14 _ _ (xret ?_))))
 have q0 := of_some h
 subst q0
 exact qq _ _ (post_ret (by kernel_rfl) (run_results [.tmp 2] [.int .i64 y3] (by kernel_rfl) (.cons (res_tmp (by kernel_rfl)) .nil)) ⟨congrArg Ending.returned (by kernel_rfl), hs.none⟩)

theorem ref22_bitsOf.ok {K : Nat} {a0 : Int} {a1 : Int} {r0 : Int} (h : ref22_bitsOf.f K a0 a1 = some r0) (w0 : World) : Ret Tryd.prog 52 #[.int .i32 a0, .int .i32 a1] w0 (.int .i64 r0) := by
 refine calls_k Tryd.func52 rfl fun Q qq => ?_
 have hs := St.start w0
 refine wp_conv (a' := ⟨#[.int .i32 a0, .int .i32 a1, undef, undef, undef, undef, undef, undef, undef, undef], []⟩) (by kernel_rfl) ?_
 refine xseq_k fun KS1 ks1 => ?_
 refine xregS [0] fun KR2 kr2 => ?_
 refine wpS.q 0 4 (.int .i64 0) ?_
 refine wpS.fin rfl (kr2 _ _ (then_n (ks1 _ _ (xseq_k fun KS3 ks3 => (xregS [0, 1, 2, 3, 4, 5] fun KR4 kr4 => ?_)))))
 refine wpS.qs [(0, 5, .int .i32 a0), (1, 6, .int .i32 (imax a0 0)), (2, 7, .int .i32 a1), (3, 8, .int .i32 (iadd .i32 (imax a0 0) a1))] ?_
 obtain ⟨r1, hg, h⟩ := of_bind h
 refine wpS.only 4 (op_call (d := (some 9)) (by kernel_rfl) hs (fun _ => by kernel_rfl) (ref22_width.ok hg _) ?_)
 intro w gw hs
 refine ⟨fun _ => trivial, ?_⟩
 refine wpS.q 5 4 (.int .i64 r1) ?_
 refine wpS.fin rfl (kr4 _ _ (then_n (ks3 _ _ (xret ?_))))
 have q0 := of_some h
 subst q0
 exact qq _ _ (post_ret (by kernel_rfl) (run_results [.tmp 4] [.int .i64 r1] (by kernel_rfl) (.cons (res_tmp (by kernel_rfl)) .nil)) ⟨congrArg Ending.returned (by kernel_rfl), hs.none⟩)

theorem ref01_such.ok {K : Nat} {a0 : List Int} {a1 : Int} {a2 : Int} {r0 : Bool} {a0_A : Option Addr} {a0_n : Nat} {a0_c : Nat} (h : ref01_such.f K a0 a1 a2 = some r0) (w0 : World) (hp0 : RowL (CI .u8) w0 a0_A a0_n a0_c a0) : Ret Tryd.prog 64 #[.slice a0_A a0_n a0_c, .int .i64 a1, .int .i64 a2] w0 (.bool r0) := by
 refine calls_k Tryd.func64 rfl fun Q qq => ?_
 have hs := St.startR (all_cons (RowP.ent hp0) all_nil)
 refine wp_conv (a' := ⟨#[.slice a0_A a0_n a0_c, .int .i64 a1, .int .i64 a2, undef, undef, undef, undef, undef, undef, undef, undef, undef, undef, undef, undef, undef, undef, undef, undef, undef, undef, undef, undef, undef, undef, undef], []⟩) (by kernel_rfl) ?_
 refine xseq_k fun KS1 ks1 => ?_
 refine xregS [0] fun KR2 kr2 => ?_
 refine wpS.q 0 6 (.bool false) ?_
 refine wpS.fin rfl (kr2 _ _ (then_n (ks1 _ _ (xseq_k fun KS3 ks3 => (xregS [0, 1, 2, 3, 4, 5, 6, 7, 8, 9, 10, 11, 12, 13, 14, 15, 16, 17, 18, 19] fun KR4 kr4 => ?_)))))
 refine wpS.q 0 7 (.int .i64 a1) ?_
 rcases of_if h with ⟨hc, h⟩ | ⟨hc, h⟩
 ·refine wpS.tk 1 false (some 8) (.bool true) (yld_b (dt hc) (fun _ => by kernel_rfl)) ?_
  refine wpS.qs [(2, 9, .bool true), (3, 10, .int .i64 a1)] ?_
  rcases of_if h with ⟨hc, h⟩ | ⟨hc, h⟩
  ·refine wpS.tk 4 false (some 11) (.bool true) (yld_b (dt hc) (fun _ => by kernel_rfl)) ?_
   refine wpS.qs [(5, 12, .bool true), (6, 13, .bool true), (7, 14, .int .i64 a2)] ?_
   rcases of_if h with ⟨hc, h⟩ | ⟨hc, h⟩
   ·refine wpS.tk 8 false (some 15) (.bool true) (yld_b (dt hc) (fun _ => by kernel_rfl)) ?_
    refine wpS.qs [(9, 16, .bool true), (10, 17, .bool true), (11, 18, .int .i64 a2), (12, 19, .slice a0_A a0_n a0_c)] ?_
    refine wpS.tk 13 false (some 20) (.int .i64 (a0.length : Int)) (yld_lenL (hs.rowR 0 rfl) (fun _ => by kernel_rfl)) ?_
    refine wpS.qs [(14, 21, .int .i64 (imul .i64 (a0.length : Int) 8)), (15, 22, .int .i64 a1)] ?_
    obtain ⟨h0, h⟩ := of_chk h
    refine wpS.tk 16 false (some 23) (.int .i64 (iquo .i64 (imul .i64 (a0.length : Int) 8) a1)) (yld_quo (t := 3) (by kernel_rfl) h0) ?_
    refine wpS.qs [(17, 24, .bool (decide (a2 ≤ (iquo .i64 (imul .i64 (a0.length : Int) 8) a1)))), (18, 25, .bool (decide (a2 ≤ (iquo .i64 (imul .i64 (a0.length : Int) 8) a1)))), (19, 6, .bool (decide (a2 ≤ (iquo .i64 (imul .i64 (a0.length : Int) 8) a1))))] ?_
    refine wpS.fin rfl (kr4 _ _ (then_n (ks3 _ _ (xret ?_))))
    have q0 := of_some h
    subst q0
    exact qq _ _ (post_ret (by kernel_rfl) (run_results [.tmp 6] [.bool (decide (a2 ≤ (iquo .i64 (imul .i64 (a0.length : Int) 8) a1)))] (by kernel_rfl) (.cons (res_tmp (by kernel_rfl)) .nil)) ⟨congrArg Ending.returned (by kernel_rfl), hs.none⟩)
   refine wpS.tk 8 false (some 15) (.bool false) (yld_b (df hc) (fun _ => by kernel_rfl)) ?_
   refine wpS.qs [(9, 16, .bool false), (10, 17, .bool false), (11, 18, undef), (12, 19, undef), (13, 20, undef), (14, 21, undef), (15, 22, undef), (16, 23, undef), (17, 24, undef), (18, 25, .bool false), (19, 6, .bool false)] ?_
   refine wpS.fin rfl (kr4 _ _ (then_n (ks3 _ _ (xret ?_))))
   have q0 := of_some h
   subst q0
   exact qq _ _ (post_ret (by kernel_rfl) (run_results [.tmp 6] [.bool false] (by kernel_rfl) (.cons (res_tmp (by kernel_rfl)) .nil)) ⟨congrArg Ending.returned (by kernel_rfl), hs.none⟩)
  refine wpS.tk 4 false (some 11) (.bool false) (yld_b (df hc) (fun _ => by kernel_rfl)) ?_
  refine wpS.qs [(5, 12, .bool false), (6, 13, .bool false), (7, 14, undef), (8, 15, undef), (9, 16, .bool false), (10, 17, .bool false), (11, 18, undef), (12, 19, undef), (13, 20, undef), (14, 21, undef), (15, 22, undef), (16, 23, undef), (17, 24, undef), (18, 25, .bool false), (19, 6, .bool false)] ?_
  refine wpS.fin rfl (kr4 _ _ (then_n (ks3 _ _ (xret ?_))))
  have q0 := of_some h
  subst q0
  exact qq _ _ (post_ret (by kernel_rfl) (run_results [.tmp 6] [.bool false] (by kernel_rfl) (.cons (res_tmp (by kernel_rfl)) .nil)) ⟨congrArg Ending.returned (by kernel_rfl), hs.none⟩)
 refine wpS.tk 1 false (some 8) (.bool false) (yld_b (df hc) (fun _ => by kernel_rfl)) ?_
 refine wpS.qs [(2, 9, .bool false), (3, 10, undef), (4, 11, undef), (5, 12, .bool false), (6, 13, .bool false), (7, 14, undef), (8, 15, undef), (9, 16, .bool false), (10, 17, .bool false), (11, 18, undef), (12, 19, undef), (13, 20, undef), (14, 21, undef), (15, 22, undef), (16, 23, undef), (17, 24, undef), (18, 25, .bool false), (19, 6, .bool false)] ?_
 refine wpS.fin rfl (kr4 _ _ (then_n (ks3 _ _ (xret ?_))))
 have q0 := of_some h
 subst q0
 exact qq _ _ (post_ret (by kernel_rfl) (run_results [.tmp 6] [.bool false] (by kernel_rfl) (.cons (res_tmp (by kernel_rfl)) .nil)) ⟨congrArg Ending.returned (by kernel_rfl), hs.none⟩)

theorem ref01_Unpack.ok {K : Nat} {a0 : List Int} {a1 : Int} {a2 : Int} {r0 : List Int} {a0_A : Option Addr} {a0_n : Nat} {a0_c : Nat} (h : ref01_Unpack.f K a0 a1 a2 = some r0) (w0 : World) (hp0 : RowL (CI .u8) w0 a0_A a0_n a0_c a0) : Calls Tryd.prog 53 #[.slice a0_A a0_n a0_c, .int .i64 a1, .int .i64 a2] w0 fun e w' => ∃ h : (Option Addr × Nat × Nat), e = .returned (.slice h.1 h.2.1 h.2.2) ∧ St w0 [] [.ownL (CI .u32) h.1 h.2.1 h.2.2 r0 83] [] w' := by
 refine calls_k Tryd.func53 rfl fun Q qq => ?_
 have hs := St.startR (all_cons (RowP.ent hp0) all_nil)
 refine wp_conv (a' := ⟨#[.slice a0_A a0_n a0_c, .int .i64 a1, .int .i64 a2, undef, undef, undef, undef, undef, undef, undef, undef, undef, undef, undef, undef, undef, undef, undef, undef, undef, undef, undef, undef, undef, undef, undef, undef, undef, undef, undef, undef, undef, undef, undef, undef, undef, undef, undef, undef, undef, undef, undef, undef, undef, undef, undef, undef, undef, undef, undef, undef], []⟩) (by kernel_rfl) ?_
 refine xseq_k fun KS1 ks1 => ?_
 refine xregS [0] fun KR2 kr2 => ?_
 refine wpS.q 0 6 (.slice none 0 0) ?_
 refine wpS.fin rfl (kr2 _ _ (then_n (ks1 _ _ (xseq_k fun KS3 ks3 => (xseq_k fun KS4 ks4 => (xregS [0, 1, 2, 3, 4] fun KR5 kr5 => ?_))))))
 refine wpS.qs [(0, 12, .slice a0_A a0_n a0_c), (1, 13, .int .i64 a1), (2, 14, .int .i64 a2)] ?_
 obtain ⟨r1, hg, h⟩ := of_bind h
 cases r1 with
 | true =>
  have h := of_if_t h
  refine wpS.only 3 (op_call (d := (some 15)) (by kernel_rfl) hs (fun _ => by kernel_rfl) (ref01_such.ok hg _ (hs.rowR 0 rfl)) ?_)
  intro w gw hs
  refine ⟨fun _ => trivial, ?_⟩
  refine wpS.q 4 16 (.bool false) ?_
  refine wpS.fin rfl (kr5 _ _ (then_n (ks4 _ _ (wp_cond_f (by kernel_rfl) (xskip (then_n (ks3 _ _ (xseq_k fun KS6 ks6 => (xregS [0] fun KR7 kr7 => ?_)))))))))
  refine wpS.q 0 7 (.slice none 0 0) ?_
  refine wpS.fin rfl (kr7 _ _ (then_n (ks6 _ _ (xseq_k fun KS8 ks8 => (xseq_k fun KS9 ks9 => (xregS [0] fun KR10 kr10 => ?_))))))
  refine wpS.q 0 8 (.int .i64 0) ?_
  refine wpS.fin rfl (kr10 _ _ (then_n (ks9 _ _ ?_)))
  have hs := hs.addNilL (CI .u32) 83
  obtain ⟨y4, hy, hk0⟩ := of_bind h
  refine wp_exq (N := fun a w => ∃ (y4_A : Option Addr) (y4_n : Nat) (y4_c : Nat), St w0 [] [.ownL (CI .u32) y4_A y4_n y4_c y4 83] [.rowL (CI .u8) a0_A a0_n a0_c a0] w ∧ ∃ g12 : Nat → Value, a = ⟨#[.slice a0_A a0_n a0_c, .int .i64 a1, .int .i64 a2, undef, undef, undef, .slice none 0 0, .slice y4_A y4_n y4_c, (g12 8), (g12 9), (g12 10), (g12 11), .slice a0_A a0_n a0_c, .int .i64 a1, .int .i64 a2, .bool true, .bool false, (g12 17), (g12 18), (g12 19), (g12 20), (g12 21), (g12 22), (g12 23), (g12 24), (g12 25), (g12 26), (g12 27), (g12 28), (g12 29), (g12 30), (g12 31), (g12 32), (g12 33), (g12 34), (g12 35), (g12 36), (g12 37), (g12 38), (g12 39), (g12 40), (g12 41), (g12 42), (g12 43), (g12 44), (g12 45), (g12 46), (g12 47), (g12 48), (g12 49), undef], []⟩) (fun N0 nn0 => ?_) ?_
  ·clear hk0
   refine xblock ?_
   refine wp_loop_k (fun n a w => ∃ z2 z3, ∃ (z3_A : Option Addr) (z3_n : Nat) (z3_c : Nat), ref01_Unpack.l0 K n a0 a1 a2 z2 z3 = some y4 ∧ St w0 [] [.ownL (CI .u32) z3_A z3_n z3_c z3 83] [.rowL (CI .u8) a0_A a0_n a0_c a0] w ∧ ∃ g11 : Nat → Value, a = ⟨#[.slice a0_A a0_n a0_c, .int .i64 a1, .int .i64 a2, undef, undef, undef, .slice none 0 0, .slice z3_A z3_n z3_c, .int .i64 z2, (g11 9), (g11 10), (g11 11), .slice a0_A a0_n a0_c, .int .i64 a1, .int .i64 a2, .bool true, .bool false, (g11 17), (g11 18), (g11 19), (g11 20), (g11 21), (g11 22), (g11 23), (g11 24), (g11 25), (g11 26), (g11 27), (g11 28), (g11 29), (g11 30), (g11 31), (g11 32), (g11 33), (g11 34), (g11 35), (g11 36), (g11 37), (g11 38), (g11 39), (g11 40), (g11 41), (g11 42), (g11 43), (g11 44), (g11 45), (g11 46), (g11 47), (g11 48), (g11 49), undef], []⟩) K ⟨0, ([] : List Int), none, 0, 0, hy, hs.conv rfl, exg (by kernel_rfl)⟩ ?_
   clear hs h hy
   rintro n a w ⟨z2, z3, z3_A, z3_n, z3_c, h, hs, g11, rfl⟩ KL0 kl0
   cases n with
   | zero => exact nomatch (show none = some _ from h)
   | succ n =>
    refine xseq_k fun KS13 ks13 => ?_
    refine xseq_k fun KS14 ks14 => ?_
    refine xregS [0, 1, 2] fun KR15 kr15 => ?_
    refine wpS.qs [(0, 17, .int .i64 z2), (1, 18, .int .i64 a2)] ?_
    rcases of_if h with ⟨hc, h⟩ | ⟨hc, h⟩
    ·refine wpS.tk 2 false (some 19) (.bool true) (yld_b (dt hc) (fun _ => by kernel_rfl)) ?_
     refine wpS.fin rfl (kr15 _ _ (then_n (ks14 _ _ (wp_cond_t (by kernel_rfl) (xskip (then_n (ks13 _ _ (xseq_k fun KS16 ks16 => (xblock (xseq_k fun KS17 ks17 => (xregS [0] fun KR18 kr18 => ?_)))))))))))
     refine wpS.q 0 9 (.int .u32 0) ?_
     refine wpS.fin rfl (kr18 _ _ (then_n (ks17 _ _ (xseq_k fun KS19 ks19 => (xseq_k fun KS20 ks20 => (xregS [0, 1, 2] fun KR21 kr21 => ?_))))))
     refine wpS.qs [(0, 22, .int .i64 a1), (1, 23, .int .i64 (isub .i64 a1 1))] ?_
     obtain ⟨x5, hx, h⟩ := of_bind h
     refine wpS.tk 2 false (some 10) (.int .i64 x5) (yld_int hx (fun _ => by kernel_rfl)) ?_
     refine wpS.fin rfl (kr21 _ _ (then_n (ks20 _ _ ?_)))
     obtain ⟨y8, hy, hk1⟩ := of_bind h
     refine wp_exq (N := fun a w => St w0 [] [.ownL (CI .u32) z3_A z3_n z3_c z3 83] [.rowL (CI .u8) a0_A a0_n a0_c a0] w ∧ ∃ g23 : Nat → Value, a = ⟨#[.slice a0_A a0_n a0_c, .int .i64 a1, .int .i64 a2, undef, undef, undef, .slice none 0 0, .slice z3_A z3_n z3_c, .int .i64 z2, .int .u32 y8, (g23 10), (g23 11), .slice a0_A a0_n a0_c, .int .i64 a1, .int .i64 a2, .bool true, .bool false, .int .i64 z2, .int .i64 a2, .bool true, (g11 20), (g11 21), .int .i64 a1, .int .i64 (isub .i64 a1 1), (g23 24), (g23 25), (g23 26), (g23 27), (g23 28), (g23 29), (g23 30), (g23 31), (g23 32), (g23 33), (g23 34), (g23 35), (g23 36), (g23 37), (g23 38), (g23 39), (g23 40), (g23 41), (g23 42), (g23 43), (g23 44), (g23 45), (g11 46), (g11 47), (g11 48), (g11 49), undef], []⟩) (fun N1 nn1 => ?_) ?_
     ·clear hk1
      refine xblock ?_
      refine wp_loop_k (fun n a w => ∃ z6 z7, ref01_Unpack.l1 K n a0 a1 z2 z6 z7 = some y8 ∧ St w0 [] [.ownL (CI .u32) z3_A z3_n z3_c z3 83] [.rowL (CI .u8) a0_A a0_n a0_c a0] w ∧ ∃ g22 : Nat → Value, a = ⟨#[.slice a0_A a0_n a0_c, .int .i64 a1, .int .i64 a2, undef, undef, undef, .slice none 0 0, .slice z3_A z3_n z3_c, .int .i64 z2, .int .u32 z6, .int .i64 z7, (g22 11), .slice a0_A a0_n a0_c, .int .i64 a1, .int .i64 a2, .bool true, .bool false, .int .i64 z2, .int .i64 a2, .bool true, (g11 20), (g11 21), .int .i64 a1, .int .i64 (isub .i64 a1 1), (g22 24), (g22 25), (g22 26), (g22 27), (g22 28), (g22 29), (g22 30), (g22 31), (g22 32), (g22 33), (g22 34), (g22 35), (g22 36), (g22 37), (g22 38), (g22 39), (g22 40), (g22 41), (g22 42), (g22 43), (g22 44), (g22 45), (g11 46), (g11 47), (g11 48), (g11 49), undef], []⟩) K ⟨0, x5, hy, hs.conv rfl, exg (by kernel_rfl)⟩ ?_
      clear hs h hy
      rintro n a w ⟨z6, z7, h, hs, g22, rfl⟩ KL1 kl1
      cases n with
      | zero => exact nomatch (show none = some _ from h)
      | succ n =>
       refine xseq_k fun KS24 ks24 => ?_
       refine xseq_k fun KS25 ks25 => ?_
       refine xregS [0, 1] fun KR26 kr26 => ?_
       refine wpS.q 0 24 (.int .i64 z7) ?_
       rcases of_if h with ⟨hc, h⟩ | ⟨hc, h⟩
       ·refine wpS.tk 1 false (some 25) (.bool true) (yld_b (dt hc) (fun _ => by kernel_rfl)) ?_
        refine wpS.fin rfl (kr26 _ _ (then_n (ks25 _ _ (wp_cond_t (by kernel_rfl) (xskip (then_n (ks24 _ _ (xseq_k fun KS27 ks27 => (xblock (xseq_k fun KS28 ks28 => (xregS [0, 1, 2, 3, 4, 5] fun KR29 kr29 => ?_)))))))))))
        refine wpS.qs [(0, 28, .int .i64 z2), (1, 29, .int .i64 a1), (2, 30, .int .i64 (imul .i64 z2 a1)), (3, 31, .int .i64 z7), (4, 32, .int .i64 (iadd .i64 (imul .i64 z2 a1) z7))] ?_
        obtain ⟨x9, hx, h⟩ := of_bind h
        refine wpS.tk 5 false (some 11) (.int .i64 x9) (yld_int hx (fun _ => by kernel_rfl)) ?_
        refine wpS.fin rfl (kr29 _ _ (then_n (ks28 _ _ (xregS [0, 1, 2, 3, 4, 5, 6, 7, 8, 9, 10, 11, 12, 13] fun KR30 kr30 => ?_))))
        refine wpS.qs [(0, 33, .int .u32 z6), (1, 34, .int .u32 (imul .u32 z6 2)), (2, 35, .slice a0_A a0_n a0_c), (3, 36, .int .i64 x9), (4, 37, .int .i64 (iquo .i64 x9 8))] ?_
        obtain ⟨x10, hx, h⟩ := of_bind h
        have hx := of_some hx
        subst hx
        obtain ⟨h0, h⟩ := of_chk h
        obtain ⟨h1, h⟩ := of_chk h
        have i0_31 := h0
        have i1_31 := h1
        refine wpS.tk 5 false (some 38) (.pointer (adr a0_A (((iquo .i64 x9 8) : Int).toNat * Cod.size (CI .u8)))) (yld_idxL (C := (CI .u8)) (t := 22) (e := 5) (k := .i64) (x := (iquo .i64 x9 8)) (hs.rowR 0 rfl) (by kernel_rfl) (by kernel_rfl) (by kernel_rfl) h0 h1) ?_
        refine wpS.tk 6 true (some 39) (.int .u8 (rdL (CI .u8) a0 (iquo .i64 x9 8))) (yld_loadL (C := (CI .u8)) (e := 5) (x := (iquo .i64 x9 8)) (hs.rowR 0 rfl) (by kernel_rfl) rfl (by kernel_rfl) i0_31 i1_31) ?_
        refine wpS.qs [(7, 40, .int .i64 x9), (8, 41, .int .i64 (irem .i64 x9 8))] ?_
        obtain ⟨h0, h⟩ := of_chk h
        refine wpS.tk 9 false (some 42) (.int .u8 (ishr .u8 (rdL (CI .u8) a0 (iquo .i64 x9 8)) (irem .i64 x9 8))) (yld_shr (t := 5) (k' := .i64) (by kernel_rfl) h0) ?_
        refine wpS.qs [(10, 43, .int .u8 (iand .u8 (ishr .u8 (rdL (CI .u8) a0 (iquo .i64 x9 8)) (irem .i64 x9 8)) 1)), (11, 44, .int .u32 (iconv .u32 (iand .u8 (ishr .u8 (rdL (CI .u8) a0 (iquo .i64 x9 8)) (irem .i64 x9 8)) 1))), (12, 45, .int .u32 (iadd .u32 (imul .u32 z6 2) (iconv .u32 (iand .u8 (ishr .u8 (rdL (CI .u8) a0 (iquo .i64 x9 8)) (irem .i64 x9 8)) 1))))] ?_
        obtain ⟨x11, hx, h⟩ := of_bind h
        refine wpS.tk 13 false (some 9) (.int .u32 x11) (yld_int hx (fun _ => by kernel_rfl)) ?_
        refine wpS.fin rfl (kr30 _ _ (inBlock_n (then_n (ks27 _ _ (xregS [0, 1, 2] fun KR32 kr32 => ?_)))))
        refine wpS.qs [(0, 26, .int .i64 z7), (1, 27, .int .i64 (isub .i64 z7 1))] ?_
        obtain ⟨x12, hx, h⟩ := of_bind h
        refine wpS.tk 2 false (some 10) (.int .i64 x12) (yld_int hx (fun _ => by kernel_rfl)) ?_
        refine wpS.fin rfl (kr32 _ _ ?_)
        exact then_n (kl1 _ _ ⟨n, Nat.lt_succ_self n, x11, x12, h, (hs.conv rfl), exg (by kernel_rfl)⟩)
       refine wpS.tk 1 false (some 25) (.bool false) (yld_b (df hc) (fun _ => by kernel_rfl)) ?_
       refine wpS.fin rfl (kr26 _ _ (then_n (ks25 _ _ (wp_cond_f (by kernel_rfl) (xexit (then_x (then_x (inBlock_hit ?_))))))))
       have q0 := of_some h
       subst q0
       exact exq_n (nn1 _ _ ⟨(hs.conv rfl), exg (by kernel_rfl)⟩)
     clear hs h hy
     rintro a w ⟨hs, g23, rfl⟩
     have h := hk1
     refine then_n (ks19 _ _ (xregS [0, 1, 2, 3, 4] fun KR33 kr33 => ?_))
     refine wpS.qs [(0, 46, .slice z3_A z3_n z3_c), (1, 47, .int .u32 y8)] ?_
     refine wpS.only 2 (op_lit (C := (CI .u32)) (t := 81) (e := 83) (len := 1) (parts := #[(0, .int .u32 y8)]) (l := [y8]) (d := (some 48)) (by kernel_rfl) hs (by kernel_rfl) (by kernel_rfl) (by kernel_rfl) (z := .int .u32 0) (by kernel_rfl) rfl (by decide) (by decide) (by kernel_rfl) ?_)
     intro s13_A s13_n s13_c w gw hs
     refine ⟨fun _ => trivial, ?_⟩
     obtain ⟨h0, h⟩ := of_chk h
     refine wpS.only 3 (op_appendT (C := (CI .u32)) (t := 81) (ty := 81) (e := 83) (bytes := 4) (B := 35184372088832) (d := (some 49)) (by kernel_rfl) hs 1 rfl (hs.rowL 0 rfl) (by kernel_rfl) (by kernel_rfl) (by kernel_rfl) (by kernel_rfl) (by kernel_rfl) h0 (by decide) (by decide) ?_)
     intro s14_A s14_n s14_c w hs
     refine ⟨fun _ => trivial, ?_⟩
     refine wpS.q 4 7 (.slice s14_A s14_n s14_c) ?_
     refine wpS.fin rfl (kr33 _ _ (inBlock_n (then_n (ks16 _ _ (xregS [0, 1, 2] fun KR34 kr34 => ?_)))))
     refine wpS.qs [(0, 20, .int .i64 z2), (1, 21, .int .i64 (iadd .i64 z2 1))] ?_
     obtain ⟨x15, hx, h⟩ := of_bind h
     refine wpS.tk 2 false (some 8) (.int .i64 x15) (yld_int hx (fun _ => by kernel_rfl)) ?_
     refine wpS.fin rfl (kr34 _ _ ?_)
     exact then_n (kl0 _ _ ⟨n, Nat.lt_succ_self n, x15, (z3 ++ ([y8] : List Int)), s14_A, s14_n, s14_c, h, (hs.drop (.cons _ (.cons_cons _ .slnil))), exg (by kernel_rfl)⟩)
    refine wpS.tk 2 false (some 19) (.bool false) (yld_b (df hc) (fun _ => by kernel_rfl)) ?_
    refine wpS.fin rfl (kr15 _ _ (then_n (ks14 _ _ (wp_cond_f (by kernel_rfl) (xexit (then_x (then_x (inBlock_hit ?_))))))))
    have q0 := of_some h
    subst q0
    exact exq_n (nn0 _ _ ⟨z3_A, z3_n, z3_c, (hs.conv rfl), exg (by kernel_rfl)⟩)
  clear hs h hy
  rintro a w ⟨y4_A, y4_n, y4_c, hs, g12, rfl⟩
  have h := hk0
  refine then_n (ks8 _ _ (xseq_k fun KS35 ks35 => (xregS [0, 1] fun KR36 kr36 => ?_)))
  refine wpS.qs [(0, 50, .slice y4_A y4_n y4_c), (1, 6, .slice y4_A y4_n y4_c)] ?_
  refine wpS.fin rfl (kr36 _ _ (then_n (ks35 _ _ (xret ?_))))
  have q0 := of_some h
  subst q0
  exact qq _ _ (post_ret (by kernel_rfl) (run_results [.tmp 6] [.slice y4_A y4_n y4_c] (by kernel_rfl) (.cons (res_tmp (by kernel_rfl)) .nil)) ⟨⟨y4_A, y4_n, y4_c⟩, congrArg Ending.returned (by kernel_rfl), (hs.pickR pick_nil)⟩)
 | false =>
  have h := of_if_f h
  refine wpS.only 3 (op_call (d := (some 15)) (by kernel_rfl) hs (fun _ => by kernel_rfl) (ref01_such.ok hg _ (hs.rowR 0 rfl)) ?_)
  intro w gw hs
  refine ⟨fun _ => trivial, ?_⟩
  refine wpS.q 4 16 (.bool true) ?_
  refine wpS.fin rfl (kr5 _ _ (then_n (ks4 _ _ (wp_cond_t (by kernel_rfl) (xseq_k fun KS37 ks37 => (xregS [0] fun KR38 kr38 => ?_))))))
  refine wpS.q 0 6 (.slice none 0 0) ?_
  refine wpS.fin rfl (kr38 _ _ (then_n (ks37 _ _ (xret (then_r ?_)))))
  have q0 := of_some h
  subst q0
  have hs := hs.addNilL (CI .u32) 83
  exact qq _ _ (post_ret (by kernel_rfl) (run_results [.tmp 6] [.slice none 0 0] (by kernel_rfl) (.cons (res_tmp (by kernel_rfl)) .nil)) ⟨⟨none, 0, 0⟩, congrArg Ending.returned (by kernel_rfl), (hs.pickR pick_nil)⟩)
end Go.Proofs.YtppohhnfojalbaaDoor
