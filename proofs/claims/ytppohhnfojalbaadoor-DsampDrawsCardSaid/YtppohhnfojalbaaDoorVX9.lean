/- Printed by this work's own program: the code of each function below comes to the answer that its plain form tells. -/
import Derived.Test.YtppohhnfojalbaaDoorMd
import Derived.Test.YtppohhnfojalbaaDoorProg
import Derived.Test.YtppohhnfojalbaaDoorVFDsampDraws
import Derived.Test.YtppohhnfojalbaaDoorVX5
import Derived.Test.YtppohhnfojalbaaDoorVX6
import Derived.Test.YtppohhnfojalbaaDoorVX7
set_option linter.unusedVariables false
set_option linter.unusedSimpArgs false
set_option maxRecDepth 100000
set_option maxHeartbeats 4000000
namespace Go.Proofs.YtppohhnfojalbaaDoor
open Go.Mx
attribute [local irreducible] wpOp

theorem ref22_Unpack.ok {K : Nat} {a0 : List Int} {a1 : Int} {a2 : Int} {r0 : Arr 256} {r1 : Bool} {a0_A : Option Addr} {a0_n : Nat} {a0_c : Nat} (h : ref22_Unpack.f K a0 a1 a2 = some (r0, r1)) (w0 : World) (hp0 : RowL (CI .u8) w0 a0_A a0_n a0_c a0) : Ret Tryd.prog 28 #[.slice a0_A a0_n a0_c, .int .i32 a1, .int .i32 a2] w0 (.tuple #[.agg (enc .i32 r0).toArray, .bool r1]) := by
 refine calls_k Tryd.func28 rfl fun Q qq => ?_
 have hs := St.startR (all_cons (RowP.ent hp0) all_nil)
 refine wp_conv (a' := ⟨#[.slice a0_A a0_n a0_c, .int .i32 a1, .int .i32 a2, undef, undef, undef, undef, undef, undef, undef, undef, undef, undef, undef, undef, undef, undef, undef, undef, undef, undef, undef, undef, undef, undef, undef, undef, undef, undef, undef, undef, undef, undef, undef, undef, undef, undef, undef, undef, undef, undef, undef, undef, undef, undef, undef, undef, undef, undef, undef, undef, undef, undef, undef, undef, undef, undef, undef], []⟩) (by kernel_rfl) ?_
 refine xseq_k fun KS1 ks1 => ?_
 refine xregS [0, 1] fun KR2 kr2 => ?_
 refine wpS.only 0 (op_alloc (t := 26) (d := (some 6)) (by kernel_rfl) hs (enc .i32 (zeroA 256)) (.agg (enc .i32 (zeroA 256)).toArray) (by kernel_rfl) (by kernel_rfl) (by kernel_rfl) ?_)
 intro b1 w gw hs
 refine ⟨fun _ => trivial, ?_⟩
 refine wpS.q 1 7 (.bool false) ?_
 refine wpS.fin rfl (kr2 _ _ (then_n (ks1 _ _ (xseq_k fun KS3 ks3 => (xseq_k fun KS4 ks4 => (xregS [0, 1, 2, 3, 4, 5, 6, 7, 8, 9, 10, 11, 12] fun KR5 kr5 => ?_))))))
 refine wpS.qs [(0, 12, .int .i32 a1), (1, 13, .int .i32 a2)] ?_
 obtain ⟨r2, hg, h⟩ := of_bind h
 cases r2 with
 | true =>
  have h := of_if_t h
  refine wpS.only 2 (op_call (d := (some 14)) (by kernel_rfl) hs (fun _ => by kernel_rfl) (ref22_bounds.ok hg _) ?_)
  intro w gw hs
  refine ⟨fun _ => trivial, ?_⟩
  refine wpS.qs [(3, 15, .bool false), (4, 16, .bool false), (5, 17, .slice a0_A a0_n a0_c)] ?_
  refine wpS.tk 6 false (some 18) (.int .i64 (a0.length : Int)) (yld_lenL (hs.rowR 0 rfl) (fun _ => by kernel_rfl)) ?_
  refine wpS.qs [(7, 19, .int .i32 a1), (8, 20, .int .i32 a2)] ?_
  obtain ⟨r3, hg, h⟩ := of_bind h
  refine wpS.only 9 (op_call (d := (some 21)) (by kernel_rfl) hs (fun _ => by kernel_rfl) (ref22_bitsOf.ok hg _) ?_)
  intro w gw hs
  refine ⟨fun _ => trivial, ?_⟩
  refine wpS.q 10 22 (.int .i64 (imul .i64 32 r3)) ?_
  rcases of_if h with ⟨hc, h⟩ | ⟨hc, h⟩
  ·refine wpS.tk 11 false (some 23) (.bool false) (yld_b (nf hc) (fun _ => by kernel_rfl)) ?_
   refine wpS.q 12 24 (.bool false) ?_
   refine wpS.fin rfl (kr5 _ _ (then_n (ks4 _ _ (wp_cond_f (by kernel_rfl) (xskip (then_n (ks3 _ _ (xseq_k fun KS6 ks6 => (xregS [0, 1, 2, 3, 4, 5] fun KR7 kr7 => ?_)))))))))
   refine wpS.qs [(0, 26, .slice a0_A a0_n a0_c), (1, 27, .int .i32 a1), (2, 28, .int .i32 a2)] ?_
   obtain ⟨r4, hg, h⟩ := of_bind h
   refine wpS.only 3 (op_call (d := (some 29)) (by kernel_rfl) hs (fun _ => by kernel_rfl) (ref22_bitsOf.ok hg _) ?_)
   intro w gw hs
   refine ⟨fun _ => trivial, ?_⟩
   obtain ⟨r5, hg, h⟩ := of_bind h
   refine wpS.only 4 (op_callH (d := (some 30)) (by kernel_rfl) hs (fun _ => by kernel_rfl) (ref01_Unpack.ok hg _ (hs.rowR 0 rfl)) ?_)
   rintro ⟨r5_A, r5_n, r5_c⟩ w gw hs
   have hs := hs.conv (L' := [.ownL (CI .u32) r5_A r5_n r5_c r5 83, .blk b1 (enc .i32 (zeroA 256)) 26]) rfl
   refine ⟨fun _ => trivial, ?_⟩
   refine wpS.q 5 8 (.slice r5_A r5_n r5_c) ?_
   refine wpS.fin rfl (kr7 _ _ (then_n (ks6 _ _ (xseq_k fun KS8 ks8 => (xregS [0] fun KR9 kr9 => ?_)))))
   refine wpS.only 0 (op_alloc (t := 26) (d := (some 9)) (by kernel_rfl) hs (enc .i32 (zeroA 256)) (.agg (enc .i32 (zeroA 256)).toArray) (by kernel_rfl) (by kernel_rfl) (by kernel_rfl) ?_)
   intro b6 w gw hs
   refine ⟨fun _ => trivial, ?_⟩
   refine wpS.fin rfl (kr9 _ _ (then_n (ks8 _ _ (xseq_k fun KS10 ks10 => (xseq_k fun KS11 ks11 => (xregS [0] fun KR12 kr12 => ?_))))))
   refine wpS.q 0 10 (.int .i64 0) ?_
   refine wpS.fin rfl (kr12 _ _ (then_n (ks11 _ _ ?_)))
   obtain ⟨t0, hy, hk0⟩ := of_bind h
   refine wp_exq (N := fun a w => ∃ y10 y11, t0 = .inl (y10, y11) ∧ St w0 [] [.blk b6 (enc .i32 y10) 26, .ownL (CI .u32) r5_A r5_n r5_c r5 83, .blk b1 (enc .i32 y11) 26] [.rowL (CI .u8) a0_A a0_n a0_c a0] w ∧ ∃ g14 : Nat → Value, a = ⟨#[.slice a0_A a0_n a0_c, .int .i32 a1, .int .i32 a2, undef, undef, undef, .pointer (some ⟨b1, 0, none⟩), (g14 7), .slice r5_A r5_n r5_c, .pointer (some ⟨b6, 0, none⟩), (g14 10), (g14 11), .int .i32 a1, .int .i32 a2, .bool true, .bool false, .bool false, .slice a0_A a0_n a0_c, .int .i64 (a0.length : Int), .int .i32 a1, .int .i32 a2, .int .i64 r3, .int .i64 (imul .i64 32 r3), .bool false, .bool false, undef, .slice a0_A a0_n a0_c, .int .i32 a1, .int .i32 a2, .int .i64 r4, .slice r5_A r5_n r5_c, (g14 31), (g14 32), (g14 33), (g14 34), (g14 35), (g14 36), (g14 37), (g14 38), (g14 39), (g14 40), (g14 41), (g14 42), (g14 43), (g14 44), (g14 45), (g14 46), (g14 47), (g14 48), (g14 49), (g14 50), (g14 51), (g14 52), (g14 53), (g14 54), (g14 55), (g14 56), undef], []⟩) (fun N0 nn0 => ?_) ?_
   ·refine xblock ?_
    refine wp_loop_k (fun n a w => ∃ z7 z8 z9, ref22_Unpack.l0 K n a1 a2 r5 z7 z8 z9 = some t0 ∧ St w0 [] [.blk b6 (enc .i32 z8) 26, .ownL (CI .u32) r5_A r5_n r5_c r5 83, .blk b1 (enc .i32 z9) 26] [.rowL (CI .u8) a0_A a0_n a0_c a0] w ∧ ∃ g13 : Nat → Value, a = ⟨#[.slice a0_A a0_n a0_c, .int .i32 a1, .int .i32 a2, undef, undef, undef, .pointer (some ⟨b1, 0, none⟩), (g13 7), .slice r5_A r5_n r5_c, .pointer (some ⟨b6, 0, none⟩), .int .i64 z7, (g13 11), .int .i32 a1, .int .i32 a2, .bool true, .bool false, .bool false, .slice a0_A a0_n a0_c, .int .i64 (a0.length : Int), .int .i32 a1, .int .i32 a2, .int .i64 r3, .int .i64 (imul .i64 32 r3), .bool false, .bool false, undef, .slice a0_A a0_n a0_c, .int .i32 a1, .int .i32 a2, .int .i64 r4, .slice r5_A r5_n r5_c, (g13 31), (g13 32), (g13 33), (g13 34), (g13 35), (g13 36), (g13 37), (g13 38), (g13 39), (g13 40), (g13 41), (g13 42), (g13 43), (g13 44), (g13 45), (g13 46), (g13 47), (g13 48), (g13 49), (g13 50), (g13 51), (g13 52), (g13 53), (g13 54), (g13 55), (g13 56), undef], []⟩) K ⟨0, (zeroA 256), (zeroA 256), hy, hs.conv rfl, exg (by kernel_rfl)⟩ ?_
    clear hs h hy
    rintro n a w ⟨z7, z8, z9, h, hs, g13, rfl⟩ KL0 kl0
    cases n with
    | zero => exact nomatch (show none = some _ from h)
    | succ n =>
     refine xseq_k fun KS15 ks15 => ?_
     refine xseq_k fun KS16 ks16 => ?_
     refine xregS [0, 1] fun KR17 kr17 => ?_
     refine wpS.q 0 31 (.int .i64 z7) ?_
     rcases of_if h with ⟨hc, h⟩ | ⟨hc, h⟩
     ·refine wpS.tk 1 false (some 32) (.bool true) (yld_b (dt hc) (fun _ => by kernel_rfl)) ?_
      refine wpS.fin rfl (kr17 _ _ (then_n (ks16 _ _ (wp_cond_t (by kernel_rfl) (xskip (then_n (ks15 _ _ (xseq_k fun KS18 ks18 => (xblock (xseq_k fun KS19 ks19 => (xregS [0, 1, 2, 3, 4, 5] fun KR20 kr20 => ?_)))))))))))
      refine wpS.qs [(0, 35, .slice r5_A r5_n r5_c), (1, 36, .int .i64 z7)] ?_
      obtain ⟨h0, h⟩ := of_chk h
      obtain ⟨h1, h⟩ := of_chk h
      have i0_21 := h0
      have i1_21 := h1
      refine wpS.tk 2 false (some 37) (.pointer (adr r5_A ((z7 : Int).toNat * Cod.size (CI .u32)))) (yld_idxL (C := (CI .u32)) (t := 81) (e := 83) (k := .i64) (x := z7) (hs.rowL 1 rfl) (by kernel_rfl) (by kernel_rfl) (by kernel_rfl) h0 h1) ?_
      refine wpS.tk 3 true (some 38) (.int .u32 (rdL (CI .u32) r5 z7)) (yld_loadL (C := (CI .u32)) (e := 83) (x := z7) (hs.rowL 1 rfl) (by kernel_rfl) rfl (by kernel_rfl) i0_21 i1_21) ?_
      refine wpS.q 4 39 (.int .i32 (iconv .i32 (rdL (CI .u32) r5 z7))) ?_
      obtain ⟨x12, hx, h⟩ := of_bind h
      refine wpS.tk 5 false (some 11) (.int .i32 x12) (yld_int hx (fun _ => by kernel_rfl)) ?_
      refine wpS.fin rfl (kr20 _ _ (then_n (ks19 _ _ (xseq_k fun KS22 ks22 => (xseq_k fun KS23 ks23 => (xregS [0, 1, 2, 3, 4, 5] fun KR24 kr24 => ?_))))))
      refine wpS.qs [(0, 40, .int .i32 x12), (1, 41, .int .i32 a1), (2, 42, .int .i32 (imax a1 0)), (3, 43, .int .i32 a2), (4, 44, .int .i32 (iadd .i32 (imax a1 0) a2))] ?_
      rcases of_if h with ⟨hc, h⟩ | ⟨hc, h⟩
      ·refine wpS.tk 5 false (some 45) (.bool true) (yld_b (dt hc) (fun _ => by kernel_rfl)) ?_
       refine wpS.fin rfl (kr24 _ _ (then_n (ks23 _ _ (wp_cond_t (by kernel_rfl) (xseq_k fun KS25 ks25 => (xregS [0, 1, 2] fun KR26 kr26 => ?_))))))
       refine wpS.q 0 46 (.agg (enc .i32 (zeroA 256)).toArray) ?_
       refine wpS.only 1 (op_storeW (t := 26) (v := .agg (enc .i32 (zeroA 256)).toArray) (d := none) (by kernel_rfl) hs 2 rfl (vs := enc .i32 (zeroA 256)) (n := 256) (by kernel_rfl) (by kernel_rfl) (by kernel_rfl) (by simp [enc_len]) (by simp [enc_len]) (by intro u hu; exact enc_one _ _ u hu) ?_)
       intro w kp hs
       refine ⟨fun _ => trivial, ?_⟩
       refine wpS.q 2 7 (.bool false) ?_
       refine wpS.fin rfl (kr26 _ _ (then_n (ks25 _ _ (xret (then_r (inBlock_r (then_r (then_r (inBlock_r (exq_r (then_r ?_)))))))))))
       have q0 := of_some h
       subst q0
       obtain ⟨q0, qr0⟩ := Prod.mk.inj (of_some hk0)
       have q1 := qr0
       subst q0
       subst q1
       exact qq _ _ (post_ret (by kernel_rfl) (run_results [.cell 6 26, .tmp 7] [.agg (enc .i32 (zeroA 256)).toArray, .bool false] (by kernel_rfl) (.cons (res_cellN (n := 256) hs 2 rfl (by kernel_rfl) (by kernel_rfl) (by kernel_rfl) (by exact enc_len _ _)) (.cons (res_tmp (by kernel_rfl)) .nil))) ⟨congrArg Ending.returned (by kernel_rfl), hs.none⟩)
      refine wpS.tk 5 false (some 45) (.bool false) (yld_b (df hc) (fun _ => by kernel_rfl)) ?_
      refine wpS.fin rfl (kr24 _ _ (then_n (ks23 _ _ (wp_cond_f (by kernel_rfl) (xskip (then_n (ks22 _ _ ?_)))))))
      obtain ⟨y13, hj, h⟩ := of_bind h
      refine xseq_k fun KS28 ks28 => wp_join (N := fun a w => St w0 [] [.blk b6 (enc .i32 z8) 26, .ownL (CI .u32) r5_A r5_n r5_c r5 83, .blk b1 (enc .i32 z9) 26] [.rowL (CI .u8) a0_A a0_n a0_c a0] w ∧ ∃ g27 : Nat → Value, a = ⟨#[.slice a0_A a0_n a0_c, .int .i32 a1, .int .i32 a2, undef, undef, undef, .pointer (some ⟨b1, 0, none⟩), (g13 7), .slice r5_A r5_n r5_c, .pointer (some ⟨b6, 0, none⟩), .int .i64 z7, .int .i32 y13, .int .i32 a1, .int .i32 a2, .bool true, .bool false, .bool false, .slice a0_A a0_n a0_c, .int .i64 (a0.length : Int), .int .i32 a1, .int .i32 a2, .int .i64 r3, .int .i64 (imul .i64 32 r3), .bool false, .bool false, undef, .slice a0_A a0_n a0_c, .int .i32 a1, .int .i32 a2, .int .i64 r4, .slice r5_A r5_n r5_c, .int .i64 z7, .bool true, (g13 33), (g13 34), .slice r5_A r5_n r5_c, .int .i64 z7, .pointer (adr r5_A ((z7 : Int).toNat * Cod.size (CI .u32))), .int .u32 (rdL (CI .u32) r5 z7), .int .i32 (iconv .i32 (rdL (CI .u32) r5 z7)), .int .i32 x12, .int .i32 a1, .int .i32 (imax a1 0), .int .i32 a2, .int .i32 (iadd .i32 (imax a1 0) a2), .bool false, (g13 46), (g27 47), (g27 48), (g27 49), (g27 50), (g27 51), (g27 52), (g27 53), (g13 54), (g13 55), (g13 56), undef], []⟩) (fun N nj => ?_) ?_
      ·clear h
       have h := hj
       refine xseq_k fun KS29 ks29 => ?_
       refine xregS [0, 1] fun KR30 kr30 => ?_
       refine wpS.q 0 47 (.int .i32 a1) ?_
       rcases of_if h with ⟨hc, h⟩ | ⟨hc, h⟩
       ·refine wpS.tk 1 false (some 48) (.bool true) (yld_b (dt hc) (fun _ => by kernel_rfl)) ?_
        refine wpS.fin rfl (kr30 _ _ (then_n (ks29 _ _ (wp_cond_t (by kernel_rfl) (xregS [0, 1, 2, 3, 4, 5] fun KR31 kr31 => ?_)))))
        refine wpS.qs [(0, 49, .int .i32 a2), (1, 50, .int .i32 x12), (2, 51, .int .i32 (isub .i32 a2 x12)), (3, 52, .int .i32 (iadd .i32 (isub .i32 a2 x12) 8380417)), (4, 53, .int .i32 (irem .i32 (iadd .i32 (isub .i32 a2 x12) 8380417) 8380417))] ?_
        obtain ⟨x14, hx, h⟩ := of_bind h
        refine wpS.tk 5 false (some 11) (.int .i32 x14) (yld_int hx (fun _ => by kernel_rfl)) ?_
        refine wpS.fin rfl (kr31 _ _ ?_)
        have q0 := of_some h
        subst q0
        exact nj _ _ ⟨(hs.conv rfl), exg (by kernel_rfl)⟩
       refine wpS.tk 1 false (some 48) (.bool false) (yld_b (df hc) (fun _ => by kernel_rfl)) ?_
       refine wpS.fin rfl (kr30 _ _ (then_n (ks29 _ _ (wp_cond_f (by kernel_rfl) (xskip ?_)))))
       have q0 := of_some h
       subst q0
       exact nj _ _ ⟨(hs.conv rfl), exg (by kernel_rfl)⟩
      clear hj hs
      rintro a w ⟨hs, g27, rfl⟩
      refine then_n (ks28 _ _ (xregS [0, 1, 2, 3] fun KR32 kr32 => ?_))
      refine wpS.qs [(0, 54, .int .i64 z7), (1, 55, .int .i32 y13)] ?_
      obtain ⟨i0_33, h⟩ := of_chk h
      obtain ⟨i1_33, h⟩ := of_chk h
      refine wpS.tk 2 false (some 56) (.pointer (some ⟨b6, 0 + (z7 : Int).toNat * 1, none⟩)) (yld_idx (t := 26) (e := 21) (n := 256) (sz := 1) (k := .i64) (x := z7) (by kernel_rfl) (by kernel_rfl) (by kernel_rfl) i0_33 i1_33) ?_
      refine wpS.only 3 (op_storeA (t := 21) (x := z7) (v := y13) (d := none) (by kernel_rfl) hs 0 rfl (by kernel_rfl) (by kernel_rfl) i0_33 i1_33 ?_)
      intro w kp hs
      refine ⟨fun _ => trivial, ?_⟩
      refine wpS.fin rfl (kr32 _ _ (inBlock_n (then_n (ks18 _ _ (xregS [0, 1, 2] fun KR34 kr34 => ?_)))))
      refine wpS.qs [(0, 33, .int .i64 z7), (1, 34, .int .i64 (iadd .i64 z7 1))] ?_
      obtain ⟨x15, hx, h⟩ := of_bind h
      refine wpS.tk 2 false (some 10) (.int .i64 x15) (yld_int hx (fun _ => by kernel_rfl)) ?_
      refine wpS.fin rfl (kr34 _ _ ?_)
      exact then_n (kl0 _ _ ⟨n, Nat.lt_succ_self n, x15, (wr z8 z7 y13), z9, h, (hs.conv rfl), exg (by kernel_rfl)⟩)
     refine wpS.tk 1 false (some 32) (.bool false) (yld_b (df hc) (fun _ => by kernel_rfl)) ?_
     refine wpS.fin rfl (kr17 _ _ (then_n (ks16 _ _ (wp_cond_f (by kernel_rfl) (xexit (then_x (then_x (inBlock_hit ?_))))))))
     have q0 := of_some h
     subst q0
     exact exq_n (nn0 _ _ ⟨z8, z9, rfl, (hs.conv rfl), exg (by kernel_rfl)⟩)
   clear hs h hy
   rintro a w ⟨y10, y11, rfl, hs, g14, rfl⟩
   have h := hk0
   refine then_n (ks10 _ _ (xseq_k fun KS35 ks35 => (xregS [0, 1, 2] fun KR36 kr36 => ?_)))
   refine wpS.tk 0 true (some 57) (.agg (enc .i32 y10).toArray) (yld_loadW (e := 26) (n := 256) hs 0 rfl (by kernel_rfl) (by kernel_rfl) (by kernel_rfl) (by exact enc_len _ _) .grow) ?_
   refine wpS.only 1 (op_storeW (t := 26) (v := .agg (enc .i32 y10).toArray) (d := none) (by kernel_rfl) hs 2 rfl (vs := enc .i32 y10) (n := 256) (by kernel_rfl) (by kernel_rfl) (by kernel_rfl) (by simp [enc_len]) (by simp [enc_len]) (by intro u hu; exact enc_one _ _ u hu) ?_)
   intro w kp hs
   refine ⟨fun _ => trivial, ?_⟩
   refine wpS.q 2 7 (.bool true) ?_
   refine wpS.fin rfl (kr36 _ _ (then_n (ks35 _ _ (xret ?_))))
   obtain ⟨q0, qr0⟩ := Prod.mk.inj (of_some h)
   have q1 := qr0
   subst q0
   subst q1
   exact qq _ _ (post_ret (by kernel_rfl) (run_results [.cell 6 26, .tmp 7] [.agg (enc .i32 y10).toArray, .bool true] (by kernel_rfl) (.cons (res_cellN (n := 256) hs 2 rfl (by kernel_rfl) (by kernel_rfl) (by kernel_rfl) (by exact enc_len _ _)) (.cons (res_tmp (by kernel_rfl)) .nil))) ⟨congrArg Ending.returned (by kernel_rfl), hs.none⟩)
  refine wpS.tk 11 false (some 23) (.bool true) (yld_b (nt hc) (fun _ => by kernel_rfl)) ?_
  refine wpS.q 12 24 (.bool true) ?_
  refine wpS.fin rfl (kr5 _ _ (then_n (ks4 _ _ (wp_cond_t (by kernel_rfl) (xseq_k fun KS37 ks37 => (xregS [0, 1, 2] fun KR38 kr38 => ?_))))))
  refine wpS.q 0 25 (.agg (enc .i32 (zeroA 256)).toArray) ?_
  refine wpS.only 1 (op_storeW (t := 26) (v := .agg (enc .i32 (zeroA 256)).toArray) (d := none) (by kernel_rfl) hs 0 rfl (vs := enc .i32 (zeroA 256)) (n := 256) (by kernel_rfl) (by kernel_rfl) (by kernel_rfl) (by simp [enc_len]) (by simp [enc_len]) (by intro u hu; exact enc_one _ _ u hu) ?_)
  intro w kp hs
  refine ⟨fun _ => trivial, ?_⟩
  refine wpS.q 2 7 (.bool false) ?_
  refine wpS.fin rfl (kr38 _ _ (then_n (ks37 _ _ (xret (then_r ?_)))))
  obtain ⟨q0, qr0⟩ := Prod.mk.inj (of_some h)
  have q1 := qr0
  subst q0
  subst q1
  exact qq _ _ (post_ret (by kernel_rfl) (run_results [.cell 6 26, .tmp 7] [.agg (enc .i32 (zeroA 256)).toArray, .bool false] (by kernel_rfl) (.cons (res_cellN (n := 256) hs 0 rfl (by kernel_rfl) (by kernel_rfl) (by kernel_rfl) (by exact enc_len _ _)) (.cons (res_tmp (by kernel_rfl)) .nil))) ⟨congrArg Ending.returned (by kernel_rfl), hs.none⟩)
 | false =>
  have h := of_if_f h
  refine wpS.only 2 (op_call (d := (some 14)) (by kernel_rfl) hs (fun _ => by kernel_rfl) (ref22_bounds.ok hg _) ?_)
  intro w gw hs
  refine ⟨fun _ => trivial, ?_⟩
  refine wpS.qs [(3, 15, .bool true), (4, 16, .bool true), (5, 17, undef), (6, 18, undef), (7, 19, undef), (8, 20, undef), (9, 21, undef), (10, 22, undef), (11, 23, undef), (12, 24, .bool true)] ?_
  refine wpS.fin rfl (kr5 _ _ (then_n (ks4 _ _ (wp_cond_t (by kernel_rfl) (xseq_k fun KS39 ks39 => (xregS [0, 1, 2] fun KR40 kr40 => ?_))))))
  refine wpS.q 0 25 (.agg (enc .i32 (zeroA 256)).toArray) ?_
  refine wpS.only 1 (op_storeW (t := 26) (v := .agg (enc .i32 (zeroA 256)).toArray) (d := none) (by kernel_rfl) hs 0 rfl (vs := enc .i32 (zeroA 256)) (n := 256) (by kernel_rfl) (by kernel_rfl) (by kernel_rfl) (by simp [enc_len]) (by simp [enc_len]) (by intro u hu; exact enc_one _ _ u hu) ?_)
  intro w kp hs
  refine ⟨fun _ => trivial, ?_⟩
  refine wpS.q 2 7 (.bool false) ?_
  refine wpS.fin rfl (kr40 _ _ (then_n (ks39 _ _ (xret (then_r ?_)))))
  obtain ⟨q0, qr0⟩ := Prod.mk.inj (of_some h)
  have q1 := qr0
  subst q0
  subst q1
  exact qq _ _ (post_ret (by kernel_rfl) (run_results [.cell 6 26, .tmp 7] [.agg (enc .i32 (zeroA 256)).toArray, .bool false] (by kernel_rfl) (.cons (res_cellN (n := 256) hs 0 rfl (by kernel_rfl) (by kernel_rfl) (by kernel_rfl) (by exact enc_len _ _)) (.cons (res_tmp (by kernel_rfl)) .nil))) ⟨congrArg Ending.returned (by kernel_rfl), hs.none⟩)

theorem ref23_Mask.ok {K : Nat} {a0 : List Int} {a1 : Int} {a2 : Int} {r0 : Arr 256} {r1 : Int} {a0_A : Option Addr} {a0_n : Nat} {a0_c : Nat} (h : ref23_Mask.f K a0 a1 a2 = some (r0, r1)) (w0 : World) (hp0 : RowL (CI .u8) w0 a0_A a0_n a0_c a0) : Ret Tryd.prog 11 #[.slice a0_A a0_n a0_c, .int .u16 a1, .int .i32 a2] w0 (.tuple #[.agg (enc .i32 r0).toArray, .int .i64 r1]) := by
 refine calls_k Tryd.func11 rfl fun Q qq => ?_
 have hs := St.startR (all_cons (RowP.ent hp0) all_nil)
 refine wp_conv (a' := ⟨#[.slice a0_A a0_n a0_c, .int .u16 a1, .int .i32 a2, undef, undef, undef, undef, undef, undef, undef, undef, undef, undef, undef, undef, undef, undef, undef, undef, undef, undef, undef, undef, undef, undef, undef, undef, undef, undef, undef, undef, undef, undef, undef, undef, undef, undef, undef, undef, undef, undef, undef], []⟩) (by kernel_rfl) ?_
 refine xseq_k fun KS1 ks1 => ?_
 refine xregS [0, 1] fun KR2 kr2 => ?_
 refine wpS.only 0 (op_alloc (t := 26) (d := (some 6)) (by kernel_rfl) hs (enc .i32 (zeroA 256)) (.agg (enc .i32 (zeroA 256)).toArray) (by kernel_rfl) (by kernel_rfl) (by kernel_rfl) ?_)
 intro b1 w gw hs
 refine ⟨fun _ => trivial, ?_⟩
 refine wpS.q 1 7 (.int .i64 0) ?_
 refine wpS.fin rfl (kr2 _ _ (then_n (ks1 _ _ ?_)))
 obtain ⟨tv4, hj, hk_4⟩ := of_bind h
 refine xseq_k fun KS4 ks4 => wp_exj (N := fun a w => ∃ y2, tv4 = .inl y2 ∧ St w0 [] [.blk b1 (enc .i32 y2) 26] [.rowL (CI .u8) a0_A a0_n a0_c a0] w ∧ ∃ g3 : Nat → Value, a = ⟨#[.slice a0_A a0_n a0_c, .int .u16 a1, .int .i32 a2, undef, undef, undef, .pointer (some ⟨b1, 0, none⟩), (g3 7), undef, undef, undef, undef, undef, (g3 13), (g3 14), (g3 15), (g3 16), (g3 17), (g3 18), (g3 19), undef, undef, undef, undef, undef, undef, undef, undef, undef, undef, undef, undef, undef, undef, undef, undef, undef, undef, undef, undef, undef, undef], []⟩) (fun N nj => ?_) ?_
 ·clear h
  have h := hj
  refine xseq_k fun KS5 ks5 => ?_
  refine xregS [0, 1, 2, 3, 4, 5] fun KR6 kr6 => ?_
  refine wpS.q 0 13 (.int .i32 a2) ?_
  rcases of_if h with ⟨hc, h⟩ | ⟨hc, h⟩
  ·refine wpS.tk 1 false (some 14) (.bool false) (yld_b (nf hc) (fun _ => by kernel_rfl)) ?_
   refine wpS.qs [(2, 15, .bool false), (3, 16, undef), (4, 17, undef), (5, 18, .bool false)] ?_
   refine wpS.fin rfl (kr6 _ _ (then_n (ks5 _ _ (wp_cond_f (by kernel_rfl) (xskip ?_)))))
   have q0 := of_some h
   subst q0
   exact exj_n (nj _ _ ⟨(zeroA 256), rfl, (hs.conv rfl), exg (by kernel_rfl)⟩)
  refine wpS.tk 1 false (some 14) (.bool true) (yld_b (nt hc) (fun _ => by kernel_rfl)) ?_
  refine wpS.qs [(2, 15, .bool true), (3, 16, .int .i32 a2)] ?_
  rcases of_if h with ⟨hc, h⟩ | ⟨hc, h⟩
  ·refine wpS.tk 4 false (some 17) (.bool false) (yld_b (nf hc) (fun _ => by kernel_rfl)) ?_
   refine wpS.q 5 18 (.bool false) ?_
   refine wpS.fin rfl (kr6 _ _ (then_n (ks5 _ _ (wp_cond_f (by kernel_rfl) (xskip ?_)))))
   have q0 := of_some h
   subst q0
   exact exj_n (nj _ _ ⟨(zeroA 256), rfl, (hs.conv rfl), exg (by kernel_rfl)⟩)
  refine wpS.tk 4 false (some 17) (.bool true) (yld_b (nt hc) (fun _ => by kernel_rfl)) ?_
  refine wpS.q 5 18 (.bool true) ?_
  refine wpS.fin rfl (kr6 _ _ (then_n (ks5 _ _ (wp_cond_t (by kernel_rfl) (xseq_k fun KS7 ks7 => (xregS [0, 1, 2] fun KR8 kr8 => ?_))))))
  refine wpS.q 0 19 (.agg (enc .i32 (zeroA 256)).toArray) ?_
  refine wpS.only 1 (op_storeW (t := 26) (v := .agg (enc .i32 (zeroA 256)).toArray) (d := none) (by kernel_rfl) hs 0 rfl (vs := enc .i32 (zeroA 256)) (n := 256) (by kernel_rfl) (by kernel_rfl) (by kernel_rfl) (by simp [enc_len]) (by simp [enc_len]) (by intro u hu; exact enc_one _ _ u hu) ?_)
  intro w kp hs
  refine ⟨fun _ => trivial, ?_⟩
  refine wpS.q 2 7 (.int .i64 8) ?_
  refine wpS.fin rfl (kr8 _ _ (then_n (ks7 _ _ (xret ?_))))
  have q0 := of_some h
  subst q0
  have h := hk_4
  refine exj_r ?_
  refine then_r ?_
  obtain ⟨q0, qr0⟩ := Prod.mk.inj (of_some h)
  have q1 := qr0
  subst q0
  subst q1
  exact qq _ _ (post_ret (by kernel_rfl) (run_results [.cell 6 26, .tmp 7] [.agg (enc .i32 (zeroA 256)).toArray, .int .i64 8] (by kernel_rfl) (.cons (res_cellN (n := 256) hs 0 rfl (by kernel_rfl) (by kernel_rfl) (by kernel_rfl) (by exact enc_len _ _)) (.cons (res_tmp (by kernel_rfl)) .nil))) ⟨congrArg Ending.returned (by kernel_rfl), hs.none⟩)
 clear hj hs
 rintro a w ⟨y2, rfl, hs, g3, rfl⟩
 have h := hk_4
 refine then_n (ks4 _ _ (xseq_k fun KS9 ks9 => (xregS [0] fun KR10 kr10 => ?_)))
 refine wpS.q 0 8 (.int .i64 576) ?_
 refine wpS.fin rfl (kr10 _ _ (then_n (ks9 _ _ ?_)))
 obtain ⟨y3, hj, h⟩ := of_bind h
 refine xseq_k fun KS12 ks12 => wp_join (N := fun a w => St w0 [] [.blk b1 (enc .i32 y2) 26] [.rowL (CI .u8) a0_A a0_n a0_c a0] w ∧ ∃ g11 : Nat → Value, a = ⟨#[.slice a0_A a0_n a0_c, .int .u16 a1, .int .i32 a2, undef, undef, undef, .pointer (some ⟨b1, 0, none⟩), (g3 7), .int .i64 y3, undef, undef, undef, undef, (g3 13), (g3 14), (g3 15), (g3 16), (g3 17), (g3 18), (g3 19), (g11 20), (g11 21), undef, undef, undef, undef, undef, undef, undef, undef, undef, undef, undef, undef, undef, undef, undef, undef, undef, undef, undef, undef], []⟩) (fun N nj => ?_) ?_
 ·clear h
  have h := hj
  refine xseq_k fun KS13 ks13 => ?_
  refine xregS [0, 1] fun KR14 kr14 => ?_
  refine wpS.q 0 20 (.int .i32 a2) ?_
  rcases of_if h with ⟨hc, h⟩ | ⟨hc, h⟩
  ·refine wpS.tk 1 false (some 21) (.bool true) (yld_b (et hc) (fun _ => by kernel_rfl)) ?_
   refine wpS.fin rfl (kr14 _ _ (then_n (ks13 _ _ (wp_cond_t (by kernel_rfl) (xregS [0] fun KR15 kr15 => ?_)))))
   refine wpS.q 0 8 (.int .i64 640) ?_
   refine wpS.fin rfl (kr15 _ _ ?_)
   have q0 := of_some h
   subst q0
   exact nj _ _ ⟨(hs.conv rfl), exg (by kernel_rfl)⟩
  refine wpS.tk 1 false (some 21) (.bool false) (yld_b (ef hc) (fun _ => by kernel_rfl)) ?_
  refine wpS.fin rfl (kr14 _ _ (then_n (ks13 _ _ (wp_cond_f (by kernel_rfl) (xskip ?_)))))
  have q0 := of_some h
  subst q0
  exact nj _ _ ⟨(hs.conv rfl), exg (by kernel_rfl)⟩
 clear hj hs
 rintro a w ⟨hs, g11, rfl⟩
 refine then_n (ks12 _ _ (xseq_k fun KS16 ks16 => (xregS [0, 1, 2, 3, 4, 5, 6, 7, 8, 9, 10, 11, 12] fun KR17 kr17 => ?_)))
 refine wpS.qs [(0, 23, .slice a0_A a0_n a0_c), (1, 24, .int .u16 a1), (2, 25, .int .u64 (iconv .u64 a1))] ?_
 obtain ⟨r4, hg, h⟩ := of_bind h
 refine wpS.only 3 (op_callH (d := (some 26)) (by kernel_rfl) hs (fun _ => by kernel_rfl) (ref01_Le.ok hg _) ?_)
 rintro ⟨r4_A, r4_n, r4_c⟩ w gw hs
 have hs := hs.conv (L' := [.ownL (CI .u8) r4_A r4_n r4_c r4 5, .blk b1 (enc .i32 y2) 26]) rfl
 refine ⟨fun _ => trivial, ?_⟩
 refine wpS.only 4 (op_lit (C := CS) (t := 55) (e := 22) (len := 2) (parts := #[(0, .slice a0_A a0_n a0_c), (1, .slice r4_A r4_n r4_c)]) (l := ([(a0_A, a0_n, a0_c), (r4_A, r4_n, r4_c)] : List HS)) (d := (some 27)) (by kernel_rfl) hs (by kernel_rfl) (by kernel_rfl) (by kernel_rfl) (z := .slice none 0 0) (by kernel_rfl) rfl (by decide) (by decide) (by kernel_rfl) ?_)
 intro s5_A s5_n s5_c w gw hs
 refine ⟨fun _ => trivial, ?_⟩
 obtain ⟨r6, hg, h⟩ := of_bind h
 refine wpS.only 5 (op_callH (d := (some 28)) (by kernel_rfl) hs (fun _ => by kernel_rfl) (ref01_Join.ok hg _ (LLP.mk (hs.rowL 0 rfl) (inn_cons (hs.rowR 0 rfl) (inn_cons (hs.rowL 1 rfl) inn_nil)))) ?_)
 rintro ⟨r6_A, r6_n, r6_c⟩ w gw hs
 have hs := hs.conv (L' := [.ownL (CI .u8) r6_A r6_n r6_c r6 5, .ownL CS s5_A s5_n s5_c ([(a0_A, a0_n, a0_c), (r4_A, r4_n, r4_c)] : List HS) 22, .ownL (CI .u8) r4_A r4_n r4_c r4 5, .blk b1 (enc .i32 y2) 26]) rfl
 refine ⟨fun _ => trivial, ?_⟩
 refine wpS.q 6 29 (.int .i64 y3) ?_
 obtain ⟨⟨r7, r8⟩, hg, h⟩ := of_bind h
 refine wpS.only 7 (op_callH (d := (some 30)) (by kernel_rfl) hs (fun _ => by kernel_rfl) (ref08_Sum.ok hg _ (hs.rowL 0 rfl)) ?_)
 rintro ⟨r7_A, r7_n, r7_c⟩ w gw hs
 have hs := hs.conv (L' := [.ownL (CI .u8) r7_A r7_n r7_c r7 5, .ownL (CI .u8) r6_A r6_n r6_c r6 5, .ownL CS s5_A s5_n s5_c ([(a0_A, a0_n, a0_c), (r4_A, r4_n, r4_c)] : List HS) 22, .ownL (CI .u8) r4_A r4_n r4_c r4 5, .blk b1 (enc .i32 y2) 26]) rfl
 refine ⟨fun _ => trivial, ?_⟩
 refine wpS.qs [(8, 22, .tuple #[.slice r7_A r7_n r7_c, .int .i64 r8]), (9, 31, .slice r7_A r7_n r7_c), (10, 32, .int .i64 r8), (11, 9, .slice r7_A r7_n r7_c), (12, 10, .int .i64 r8)] ?_
 refine wpS.fin rfl (kr17 _ _ (then_n (ks16 _ _ (xseq_k fun KS18 ks18 => (xregS [0, 1, 2, 3, 4, 5, 6, 7, 8, 9, 10] fun KR19 kr19 => ?_)))))
 refine wpS.qs [(0, 34, .slice r7_A r7_n r7_c), (1, 35, .int .i32 a2), (2, 36, .int .i32 (isub .i32 a2 1)), (3, 37, .int .i32 a2)] ?_
 obtain ⟨⟨r9, r10⟩, hg, h⟩ := of_bind h
 refine wpS.only 4 (op_call (d := (some 38)) (by kernel_rfl) hs (fun _ => by kernel_rfl) (ref22_Unpack.ok hg _ (hs.rowL 0 rfl)) ?_)
 intro w gw hs
 refine ⟨fun _ => trivial, ?_⟩
 refine wpS.qs [(5, 33, .tuple #[.agg (enc .i32 r9).toArray, .bool r10]), (6, 39, .agg (enc .i32 r9).toArray), (7, 40, .bool r10)] ?_
 refine wpS.only 8 (op_alloc (t := 26) (d := (some 11)) (by kernel_rfl) hs (enc .i32 (zeroA 256)) (.agg (enc .i32 (zeroA 256)).toArray) (by kernel_rfl) (by kernel_rfl) (by kernel_rfl) ?_)
 intro b11 w gw hs
 refine ⟨fun _ => trivial, ?_⟩
 refine wpS.only 9 (op_storeW (t := 26) (v := .agg (enc .i32 r9).toArray) (d := none) (by kernel_rfl) hs 0 rfl (vs := enc .i32 r9) (n := 256) (by kernel_rfl) (by kernel_rfl) (by kernel_rfl) (by simp [enc_len]) (by simp [enc_len]) (by intro u hu; exact enc_one _ _ u hu) ?_)
 intro w kp hs
 refine ⟨fun _ => trivial, ?_⟩
 refine wpS.q 10 12 (.bool r10) ?_
 refine wpS.fin rfl (kr19 _ _ (then_n (ks18 _ _ (xseq_k fun KS20 ks20 => (xregS [0, 1, 2] fun KR21 kr21 => ?_)))))
 refine wpS.tk 0 true (some 41) (.agg (enc .i32 r9).toArray) (yld_loadW (e := 26) (n := 256) hs 0 rfl (by kernel_rfl) (by kernel_rfl) (by kernel_rfl) (by exact enc_len _ _) .grow) ?_
 refine wpS.only 1 (op_storeW (t := 26) (v := .agg (enc .i32 r9).toArray) (d := none) (by kernel_rfl) hs 5 rfl (vs := enc .i32 r9) (n := 256) (by kernel_rfl) (by kernel_rfl) (by kernel_rfl) (by simp [enc_len]) (by simp [enc_len]) (by intro u hu; exact enc_one _ _ u hu) ?_)
 intro w kp hs
 refine ⟨fun _ => trivial, ?_⟩
 refine wpS.q 2 7 (.int .i64 0) ?_
 refine wpS.fin rfl (kr21 _ _ (then_n (ks20 _ _ (xret ?_))))
 obtain ⟨q0, qr0⟩ := Prod.mk.inj (of_some h)
 have q1 := qr0
 subst q0
 subst q1
 exact qq _ _ (post_ret (by kernel_rfl) (run_results [.cell 6 26, .tmp 7] [.agg (enc .i32 r9).toArray, .int .i64 0] (by kernel_rfl) (.cons (res_cellN (n := 256) hs 5 rfl (by kernel_rfl) (by kernel_rfl) (by kernel_rfl) (by exact enc_len _ _)) (.cons (res_tmp (by kernel_rfl)) .nil))) ⟨congrArg Ending.returned (by kernel_rfl), hs.none⟩)

theorem ref01_Num.ok {K : Nat} {a0 : List Int} {r0 : Int} {a0_A : Option Addr} {a0_n : Nat} {a0_c : Nat} (h : ref01_Num.f K a0 = some r0) (w0 : World) (hp0 : RowL (CI .u8) w0 a0_A a0_n a0_c a0) : Ret Tryd.prog 65 #[.slice a0_A a0_n a0_c] w0 (.int .u64 r0) := by
 refine calls_k Tryd.func65 rfl fun Q qq => ?_
 have hs := St.startR (all_cons (RowP.ent hp0) all_nil)
 refine wp_conv (a' := ⟨#[.slice a0_A a0_n a0_c, undef, undef, undef, undef, undef, undef, undef, undef, undef, undef, undef, undef, undef, undef, undef, undef, undef, undef, undef], []⟩) (by kernel_rfl) ?_
 refine xseq_k fun KS1 ks1 => ?_
 refine xregS [0] fun KR2 kr2 => ?_
 refine wpS.q 0 2 (.int .u64 0) ?_
 refine wpS.fin rfl (kr2 _ _ (then_n (ks1 _ _ (xseq_k fun KS3 ks3 => (xregS [0] fun KR4 kr4 => ?_)))))
 refine wpS.q 0 3 (.int .u64 0) ?_
 refine wpS.fin rfl (kr4 _ _ (then_n (ks3 _ _ (xseq_k fun KS5 ks5 => (xseq_k fun KS6 ks6 => (xregS [0] fun KR7 kr7 => ?_))))))
 refine wpS.q 0 4 (.int .i64 0) ?_
 refine wpS.fin rfl (kr7 _ _ (then_n (ks6 _ _ ?_)))
 obtain ⟨y3, hy, hk0⟩ := of_bind h
 refine wp_exq (N := fun a w => St w0 [] [] [.rowL (CI .u8) a0_A a0_n a0_c a0] w ∧ ∃ g9 : Nat → Value, a = ⟨#[.slice a0_A a0_n a0_c, undef, .int .u64 0, .int .u64 y3, (g9 4), (g9 5), (g9 6), (g9 7), (g9 8), (g9 9), (g9 10), (g9 11), (g9 12), (g9 13), (g9 14), (g9 15), (g9 16), (g9 17), (g9 18), undef], []⟩) (fun N0 nn0 => ?_) ?_
 ·clear hk0
  refine xblock ?_
  refine wp_loop_k (fun n a w => ∃ z1 z2, ref01_Num.l0 K n a0 z1 z2 = some y3 ∧ St w0 [] [] [.rowL (CI .u8) a0_A a0_n a0_c a0] w ∧ ∃ g8 : Nat → Value, a = ⟨#[.slice a0_A a0_n a0_c, undef, .int .u64 0, .int .u64 z1, .int .i64 z2, (g8 5), (g8 6), (g8 7), (g8 8), (g8 9), (g8 10), (g8 11), (g8 12), (g8 13), (g8 14), (g8 15), (g8 16), (g8 17), (g8 18), undef], []⟩) K ⟨0, 0, hy, hs.conv rfl, exg (by kernel_rfl)⟩ ?_
  clear hs h hy
  rintro n a w ⟨z1, z2, h, hs, g8, rfl⟩ KL0 kl0
  cases n with
  | zero => exact nomatch (show none = some _ from h)
  | succ n =>
   refine xseq_k fun KS10 ks10 => ?_
   refine xseq_k fun KS11 ks11 => ?_
   refine xregS [0, 1, 2, 3] fun KR12 kr12 => ?_
   refine wpS.qs [(0, 5, .int .i64 z2), (1, 6, .slice a0_A a0_n a0_c)] ?_
   refine wpS.tk 2 false (some 7) (.int .i64 (a0.length : Int)) (yld_lenL (hs.rowR 0 rfl) (fun _ => by kernel_rfl)) ?_
   rcases of_if h with ⟨hc, h⟩ | ⟨hc, h⟩
   ·refine wpS.tk 3 false (some 8) (.bool true) (yld_b (dt hc) (fun _ => by kernel_rfl)) ?_
    refine wpS.fin rfl (kr12 _ _ (then_n (ks11 _ _ (wp_cond_t (by kernel_rfl) (xskip (then_n (ks10 _ _ (xseq_k fun KS13 ks13 => (xblock (xregS [0, 1, 2, 3, 4, 5, 6, 7, 8] fun KR14 kr14 => ?_))))))))))
    refine wpS.qs [(0, 11, .int .u64 z1), (1, 12, .int .u64 (imul .u64 z1 256)), (2, 13, .slice a0_A a0_n a0_c), (3, 14, .int .i64 z2)] ?_
    obtain ⟨h0, h⟩ := of_chk h
    obtain ⟨h1, h⟩ := of_chk h
    have i0_15 := h0
    have i1_15 := h1
    refine wpS.tk 4 false (some 15) (.pointer (adr a0_A ((z2 : Int).toNat * Cod.size (CI .u8)))) (yld_idxL (C := (CI .u8)) (t := 22) (e := 5) (k := .i64) (x := z2) (hs.rowR 0 rfl) (by kernel_rfl) (by kernel_rfl) (by kernel_rfl) h0 h1) ?_
    refine wpS.tk 5 true (some 16) (.int .u8 (rdL (CI .u8) a0 z2)) (yld_loadL (C := (CI .u8)) (e := 5) (x := z2) (hs.rowR 0 rfl) (by kernel_rfl) rfl (by kernel_rfl) i0_15 i1_15) ?_
    refine wpS.qs [(6, 17, .int .u64 (iconv .u64 (rdL (CI .u8) a0 z2))), (7, 18, .int .u64 (iadd .u64 (imul .u64 z1 256) (iconv .u64 (rdL (CI .u8) a0 z2))))] ?_
    obtain ⟨x4, hx, h⟩ := of_bind h
    refine wpS.tk 8 false (some 3) (.int .u64 x4) (yld_int hx (fun _ => by kernel_rfl)) ?_
    refine wpS.fin rfl (kr14 _ _ (inBlock_n (then_n (ks13 _ _ (xregS [0, 1, 2] fun KR16 kr16 => ?_)))))
    refine wpS.qs [(0, 9, .int .i64 z2), (1, 10, .int .i64 (iadd .i64 z2 1))] ?_
    obtain ⟨x5, hx, h⟩ := of_bind h
    refine wpS.tk 2 false (some 4) (.int .i64 x5) (yld_int hx (fun _ => by kernel_rfl)) ?_
    refine wpS.fin rfl (kr16 _ _ ?_)
    exact then_n (kl0 _ _ ⟨n, Nat.lt_succ_self n, x4, x5, h, (hs.conv rfl), exg (by kernel_rfl)⟩)
   refine wpS.tk 3 false (some 8) (.bool false) (yld_b (df hc) (fun _ => by kernel_rfl)) ?_
   refine wpS.fin rfl (kr12 _ _ (then_n (ks11 _ _ (wp_cond_f (by kernel_rfl) (xexit (then_x (then_x (inBlock_hit ?_))))))))
   have q0 := of_some h
   subst q0
   exact exq_n (nn0 _ _ ⟨(hs.conv rfl), exg (by kernel_rfl)⟩)
 clear hs h hy
 rintro a w ⟨hs, g9, rfl⟩
 have h := hk0
 refine then_n (ks5 _ _ (xseq_k fun KS17 ks17 => (xregS [0, 1] fun KR18 kr18 => ?_)))
 refine wpS.qs [(0, 19, .int .u64 y3), (1, 2, .int .u64 y3)] ?_
 refine wpS.fin rfl (kr18 _ _ (then_n (ks17 _ _ (xret ?_))))
 have q0 := of_some h
 subst q0
 exact qq _ _ (post_ret (by kernel_rfl) (run_results [.tmp 2] [.int .u64 y3] (by kernel_rfl) (.cons (res_tmp (by kernel_rfl)) .nil)) ⟨congrArg Ending.returned (by kernel_rfl), hs.none⟩)

theorem ref01_NumLe.ok {K : Nat} {a0 : List Int} {r0 : Int} {a0_A : Option Addr} {a0_n : Nat} {a0_c : Nat} (h : ref01_NumLe.f K a0 = some r0) (w0 : World) (hp0 : RowL (CI .u8) w0 a0_A a0_n a0_c a0) : Ret Tryd.prog 54 #[.slice a0_A a0_n a0_c] w0 (.int .u64 r0) := by
 refine calls_k Tryd.func54 rfl fun Q qq => ?_
 have hs := St.startR (all_cons (RowP.ent hp0) all_nil)
 refine wp_conv (a' := ⟨#[.slice a0_A a0_n a0_c, undef, undef, undef, undef, undef], []⟩) (by kernel_rfl) ?_
 refine xseq_k fun KS1 ks1 => ?_
 refine xregS [0] fun KR2 kr2 => ?_
 refine wpS.q 0 2 (.int .u64 0) ?_
 refine wpS.fin rfl (kr2 _ _ (then_n (ks1 _ _ (xseq_k fun KS3 ks3 => (xregS [0, 1, 2, 3] fun KR4 kr4 => ?_)))))
 refine wpS.q 0 3 (.slice a0_A a0_n a0_c) ?_
 obtain ⟨r1, hg, h⟩ := of_bind h
 refine wpS.only 1 (op_callH (d := (some 4)) (by kernel_rfl) hs (fun _ => by kernel_rfl) (ref01_Back.ok hg _ (hs.rowR 0 rfl)) ?_)
 rintro ⟨r1_A, r1_n, r1_c⟩ w gw hs
 have hs := hs.conv (L' := [.ownL (CI .u8) r1_A r1_n r1_c r1 5]) rfl
 refine ⟨fun _ => trivial, ?_⟩
 obtain ⟨r2, hg, h⟩ := of_bind h
 refine wpS.only 2 (op_call (d := (some 5)) (by kernel_rfl) hs (fun _ => by kernel_rfl) (ref01_Num.ok hg _ (hs.rowL 0 rfl)) ?_)
 intro w gw hs
 refine ⟨fun _ => trivial, ?_⟩
 refine wpS.q 3 2 (.int .u64 r2) ?_
 refine wpS.fin rfl (kr4 _ _ (then_n (ks3 _ _ (xret ?_))))
 have q0 := of_some h
 subst q0
 exact qq _ _ (post_ret (by kernel_rfl) (run_results [.tmp 2] [.int .u64 r2] (by kernel_rfl) (.cons (res_tmp (by kernel_rfl)) .nil)) ⟨congrArg Ending.returned (by kernel_rfl), hs.none⟩)

theorem ref23_ball.ok {K : Nat} {a0 : List Int} {a1 : Int} {a2 : Int} {r0 : Arr 256} {r1 : Bool} {a0_A : Option Addr} {a0_n : Nat} {a0_c : Nat} (h : ref23_ball.f K a0 a1 a2 = some (r0, r1)) (w0 : World) (hp0 : RowL (CI .u8) w0 a0_A a0_n a0_c a0) : Ret Tryd.prog 30 #[.slice a0_A a0_n a0_c, .int .i64 a1, .int .i64 a2] w0 (.tuple #[.agg (enc .i32 r0).toArray, .bool r1]) := by
 refine calls_k Tryd.func30 rfl fun Q qq => ?_
 have hs := St.startR (all_cons (RowP.ent hp0) all_nil)
 refine wp_conv (a' := ⟨#[.slice a0_A a0_n a0_c, .int .i64 a1, .int .i64 a2, undef, undef, undef, undef, undef, undef, undef, undef, undef, undef, undef, undef, undef, undef, undef, undef, undef, undef, undef, undef, undef, undef, undef, undef, undef, undef, undef, undef, undef, undef, undef, undef, undef, undef, undef, undef, undef, undef, undef, undef, undef, undef, undef, undef, undef, undef, undef, undef, undef, undef, undef, undef, undef, undef, undef, undef, undef, undef, undef, undef, undef, undef, undef, undef, undef, undef, undef, undef, undef], []⟩) (by kernel_rfl) ?_
 refine xseq_k fun KS1 ks1 => ?_
 refine xregS [0, 1] fun KR2 kr2 => ?_
 refine wpS.only 0 (op_alloc (t := 26) (d := (some 6)) (by kernel_rfl) hs (enc .i32 (zeroA 256)) (.agg (enc .i32 (zeroA 256)).toArray) (by kernel_rfl) (by kernel_rfl) (by kernel_rfl) ?_)
 intro b1 w gw hs
 refine ⟨fun _ => trivial, ?_⟩
 refine wpS.q 1 7 (.bool false) ?_
 refine wpS.fin rfl (kr2 _ _ (then_n (ks1 _ _ (xseq_k fun KS3 ks3 => (xregS [0, 1, 2, 3, 4, 5, 6, 7] fun KR4 kr4 => ?_)))))
 refine wpS.qs [(0, 16, .slice a0_A a0_n a0_c), (1, 17, .int .i64 a2)] ?_
 obtain ⟨⟨r2, r3⟩, hg, h⟩ := of_bind h
 refine wpS.only 2 (op_callH (d := (some 18)) (by kernel_rfl) hs (fun _ => by kernel_rfl) (ref08_Sum.ok hg _ (hs.rowR 0 rfl)) ?_)
 rintro ⟨r2_A, r2_n, r2_c⟩ w gw hs
 have hs := hs.conv (L' := [.ownL (CI .u8) r2_A r2_n r2_c r2 5, .blk b1 (enc .i32 (zeroA 256)) 26]) rfl
 refine ⟨fun _ => trivial, ?_⟩
 refine wpS.qs [(3, 15, .tuple #[.slice r2_A r2_n r2_c, .int .i64 r3]), (4, 19, .slice r2_A r2_n r2_c), (5, 20, .int .i64 r3), (6, 8, .slice r2_A r2_n r2_c), (7, 9, .int .i64 r3)] ?_
 refine wpS.fin rfl (kr4 _ _ (then_n (ks3 _ _ (xseq_k fun KS5 ks5 => (xregS [0, 1, 2, 3] fun KR6 kr6 => ?_)))))
 refine wpS.q 0 21 (.slice r2_A r2_n r2_c) ?_
 have hs := hs.freeze 0 rfl
 obtain ⟨h0, h⟩ := of_chk h
 obtain ⟨h1, h⟩ := of_chk h
 obtain ⟨h2, h⟩ := of_chk h
 obtain ⟨s4_A, hA⟩ : ∃ A, A = if r2_c = (0 : Int).toNat then r2_A else adr r2_A ((0 : Int).toNat * Cod.size (CI .u8)) := ⟨_, rfl⟩
 obtain ⟨s4_n, hn⟩ : ∃ n, n = (8 : Int).toNat - (0 : Int).toNat := ⟨_, rfl⟩
 obtain ⟨s4_c, hc⟩ : ∃ c, c = r2_c - (0 : Int).toNat := ⟨_, rfl⟩
 refine wpS.tk 1 false (some 22) (.slice s4_A s4_n s4_c) (yld_sub (C := (CI .u8)) (t := 22) (e := 5) (low := none) (high := some (.int .i64 8)) (lo := 0) (hi := 8) (hs.rowR 0 rfl) (by kernel_rfl) (by kernel_rfl) (by kernel_rfl) (.inl ⟨rfl, rfl⟩) (.inr ⟨_, rfl⟩) h0 h1 h2 hA hn hc) ?_
 have hs := hs.addSub (C := (CI .u8)) 0 rfl h0 h1 h2 hA hn hc
 obtain ⟨r5, hg, h⟩ := of_bind h
 refine wpS.only 2 (op_call (d := (some 23)) (by kernel_rfl) hs (fun _ => by kernel_rfl) (ref01_NumLe.ok hg _ (hs.rowR 0 rfl)) ?_)
 intro w gw hs
 refine ⟨fun _ => trivial, ?_⟩
 refine wpS.q 3 10 (.int .u64 r5) ?_
 refine wpS.fin rfl (kr6 _ _ (then_n (ks5 _ _ (xseq_k fun KS7 ks7 => (xregS [0] fun KR8 kr8 => ?_)))))
 refine wpS.q 0 11 (.int .i64 8) ?_
 refine wpS.fin rfl (kr8 _ _ (then_n (ks7 _ _ (xseq_k fun KS9 ks9 => (xregS [0] fun KR10 kr10 => ?_)))))
 refine wpS.only 0 (op_alloc (t := 26) (d := (some 12)) (by kernel_rfl) hs (enc .i32 (zeroA 256)) (.agg (enc .i32 (zeroA 256)).toArray) (by kernel_rfl) (by kernel_rfl) (by kernel_rfl) ?_)
 intro b6 w gw hs
 refine ⟨fun _ => trivial, ?_⟩
 refine wpS.fin rfl (kr10 _ _ (then_n (ks9 _ _ (xseq_k fun KS11 ks11 => (xseq_k fun KS12 ks12 => (xregS [0, 1, 2] fun KR13 kr13 => ?_))))))
 refine wpS.qs [(0, 24, .int .i64 a1), (1, 25, .int .i64 (isub .i64 256 a1))] ?_
 obtain ⟨x7, hx, h⟩ := of_bind h
 refine wpS.tk 2 false (some 13) (.int .i64 x7) (yld_int hx (fun _ => by kernel_rfl)) ?_
 refine wpS.fin rfl (kr13 _ _ (then_n (ks12 _ _ ?_)))
 obtain ⟨t0, hy, hk0⟩ := of_bind h
 refine wp_exq (N := fun a w => ∃ y13 y14, t0 = .inl (y13, y14) ∧ St w0 [] [.blk b6 (enc .i32 y13) 26, .blk b1 (enc .i32 y14) 26] [.rowL (CI .u8) s4_A s4_n s4_c (subL r2 0 8), .rowL (CI .u8) r2_A r2_n r2_c r2, .rowL (CI .u8) a0_A a0_n a0_c a0] w ∧ ∃ g15 : Nat → Value, a = ⟨#[.slice a0_A a0_n a0_c, .int .i64 a1, .int .i64 a2, undef, undef, undef, .pointer (some ⟨b1, 0, none⟩), (g15 7), .slice r2_A r2_n r2_c, .int .i64 r3, (g15 10), (g15 11), .pointer (some ⟨b6, 0, none⟩), (g15 13), (g15 14), .tuple #[.slice r2_A r2_n r2_c, .int .i64 r3], .slice a0_A a0_n a0_c, .int .i64 a2, .tuple #[.slice r2_A r2_n r2_c, .int .i64 r3], .slice r2_A r2_n r2_c, .int .i64 r3, .slice r2_A r2_n r2_c, .slice s4_A s4_n s4_c, .int .u64 r5, .int .i64 a1, .int .i64 (isub .i64 256 a1), (g15 26), (g15 27), (g15 28), (g15 29), (g15 30), (g15 31), (g15 32), (g15 33), (g15 34), (g15 35), (g15 36), (g15 37), (g15 38), (g15 39), (g15 40), (g15 41), (g15 42), (g15 43), (g15 44), (g15 45), (g15 46), (g15 47), (g15 48), (g15 49), (g15 50), (g15 51), (g15 52), (g15 53), (g15 54), (g15 55), (g15 56), (g15 57), (g15 58), (g15 59), (g15 60), (g15 61), (g15 62), (g15 63), (g15 64), (g15 65), (g15 66), (g15 67), (g15 68), (g15 69), (g15 70), undef], []⟩) (fun N0 nn0 => ?_) ?_
 ·refine xblock ?_
  refine wp_loop_k (fun n a w => ∃ z8 z9 z10 z11 z12, ref23_ball.l0 K n r2 z8 z9 z10 z11 z12 = some t0 ∧ St w0 [] [.blk b6 (enc .i32 z11) 26, .blk b1 (enc .i32 z12) 26] [.rowL (CI .u8) s4_A s4_n s4_c (subL r2 0 8), .rowL (CI .u8) r2_A r2_n r2_c r2, .rowL (CI .u8) a0_A a0_n a0_c a0] w ∧ ∃ g14 : Nat → Value, a = ⟨#[.slice a0_A a0_n a0_c, .int .i64 a1, .int .i64 a2, undef, undef, undef, .pointer (some ⟨b1, 0, none⟩), (g14 7), .slice r2_A r2_n r2_c, .int .i64 r3, .int .u64 z8, .int .i64 z9, .pointer (some ⟨b6, 0, none⟩), .int .i64 z10, (g14 14), .tuple #[.slice r2_A r2_n r2_c, .int .i64 r3], .slice a0_A a0_n a0_c, .int .i64 a2, .tuple #[.slice r2_A r2_n r2_c, .int .i64 r3], .slice r2_A r2_n r2_c, .int .i64 r3, .slice r2_A r2_n r2_c, .slice s4_A s4_n s4_c, .int .u64 r5, .int .i64 a1, .int .i64 (isub .i64 256 a1), (g14 26), (g14 27), (g14 28), (g14 29), (g14 30), (g14 31), (g14 32), (g14 33), (g14 34), (g14 35), (g14 36), (g14 37), (g14 38), (g14 39), (g14 40), (g14 41), (g14 42), (g14 43), (g14 44), (g14 45), (g14 46), (g14 47), (g14 48), (g14 49), (g14 50), (g14 51), (g14 52), (g14 53), (g14 54), (g14 55), (g14 56), (g14 57), (g14 58), (g14 59), (g14 60), (g14 61), (g14 62), (g14 63), (g14 64), (g14 65), (g14 66), (g14 67), (g14 68), (g14 69), (g14 70), undef], []⟩) K ⟨r5, 8, x7, (zeroA 256), (zeroA 256), hy, hs.conv rfl, exg (by kernel_rfl)⟩ ?_
  clear hs h hy
  rintro n a w ⟨z8, z9, z10, z11, z12, h, hs, g14, rfl⟩ KL0 kl0
  cases n with
  | zero => exact nomatch (show none = some _ from h)
  | succ n =>
   refine xseq_k fun KS16 ks16 => ?_
   refine xseq_k fun KS17 ks17 => ?_
   refine xregS [0, 1] fun KR18 kr18 => ?_
   refine wpS.q 0 26 (.int .i64 z10) ?_
   rcases of_if h with ⟨hc, h⟩ | ⟨hc, h⟩
   ·refine wpS.tk 1 false (some 27) (.bool true) (yld_b (dt hc) (fun _ => by kernel_rfl)) ?_
    refine wpS.fin rfl (kr18 _ _ (then_n (ks17 _ _ (wp_cond_t (by kernel_rfl) (xskip (then_n (ks16 _ _ (xseq_k fun KS19 ks19 => (xblock (xseq_k fun KS20 ks20 => ?_))))))))))
    obtain ⟨y16, hy, hk1⟩ := of_bind h
    refine wp_exq (N := fun a w => St w0 [] [.blk b6 (enc .i32 z11) 26, .blk b1 (enc .i32 z12) 26] [.rowL (CI .u8) s4_A s4_n s4_c (subL r2 0 8), .rowL (CI .u8) r2_A r2_n r2_c r2, .rowL (CI .u8) a0_A a0_n a0_c a0] w ∧ ∃ g22 : Nat → Value, a = ⟨#[.slice a0_A a0_n a0_c, .int .i64 a1, .int .i64 a2, undef, undef, undef, .pointer (some ⟨b1, 0, none⟩), (g14 7), .slice r2_A r2_n r2_c, .int .i64 r3, .int .u64 z8, .int .i64 y16, .pointer (some ⟨b6, 0, none⟩), .int .i64 z10, (g14 14), .tuple #[.slice r2_A r2_n r2_c, .int .i64 r3], .slice a0_A a0_n a0_c, .int .i64 a2, .tuple #[.slice r2_A r2_n r2_c, .int .i64 r3], .slice r2_A r2_n r2_c, .int .i64 r3, .slice r2_A r2_n r2_c, .slice s4_A s4_n s4_c, .int .u64 r5, .int .i64 a1, .int .i64 (isub .i64 256 a1), .int .i64 z10, .bool true, (g14 28), (g14 29), (g22 30), (g22 31), (g22 32), (g22 33), (g22 34), (g22 35), (g22 36), (g22 37), (g22 38), (g22 39), (g22 40), (g22 41), (g22 42), (g22 43), (g22 44), (g14 45), (g14 46), (g14 47), (g14 48), (g14 49), (g14 50), (g14 51), (g14 52), (g14 53), (g14 54), (g14 55), (g14 56), (g14 57), (g14 58), (g14 59), (g14 60), (g14 61), (g14 62), (g14 63), (g14 64), (g14 65), (g14 66), (g14 67), (g14 68), (g14 69), (g14 70), undef], []⟩) (fun N1 nn1 => ?_) ?_
    ·clear hk1
     refine xblock ?_
     refine wp_loop_k (fun n a w => ∃ z15, ref23_ball.l1 K n r2 z10 z15 = some y16 ∧ St w0 [] [.blk b6 (enc .i32 z11) 26, .blk b1 (enc .i32 z12) 26] [.rowL (CI .u8) s4_A s4_n s4_c (subL r2 0 8), .rowL (CI .u8) r2_A r2_n r2_c r2, .rowL (CI .u8) a0_A a0_n a0_c a0] w ∧ ∃ g21 : Nat → Value, a = ⟨#[.slice a0_A a0_n a0_c, .int .i64 a1, .int .i64 a2, undef, undef, undef, .pointer (some ⟨b1, 0, none⟩), (g14 7), .slice r2_A r2_n r2_c, .int .i64 r3, .int .u64 z8, .int .i64 z15, .pointer (some ⟨b6, 0, none⟩), .int .i64 z10, (g14 14), .tuple #[.slice r2_A r2_n r2_c, .int .i64 r3], .slice a0_A a0_n a0_c, .int .i64 a2, .tuple #[.slice r2_A r2_n r2_c, .int .i64 r3], .slice r2_A r2_n r2_c, .int .i64 r3, .slice r2_A r2_n r2_c, .slice s4_A s4_n s4_c, .int .u64 r5, .int .i64 a1, .int .i64 (isub .i64 256 a1), .int .i64 z10, .bool true, (g14 28), (g14 29), (g21 30), (g21 31), (g21 32), (g21 33), (g21 34), (g21 35), (g21 36), (g21 37), (g21 38), (g21 39), (g21 40), (g21 41), (g21 42), (g21 43), (g21 44), (g14 45), (g14 46), (g14 47), (g14 48), (g14 49), (g14 50), (g14 51), (g14 52), (g14 53), (g14 54), (g14 55), (g14 56), (g14 57), (g14 58), (g14 59), (g14 60), (g14 61), (g14 62), (g14 63), (g14 64), (g14 65), (g14 66), (g14 67), (g14 68), (g14 69), (g14 70), undef], []⟩) K ⟨z9, hy, hs.conv rfl, exg (by kernel_rfl)⟩ ?_
     clear hs h hy
     rintro n a w ⟨z15, h, hs, g21, rfl⟩ KL1 kl1
     cases n with
     | zero => exact nomatch (show none = some _ from h)
     | succ n =>
      refine xseq_k fun KS23 ks23 => ?_
      refine xseq_k fun KS24 ks24 => ?_
      refine xregS [0, 1, 2, 3, 4, 5, 6, 7, 8, 9, 10, 11, 12] fun KR25 kr25 => ?_
      refine wpS.qs [(0, 30, .int .i64 z15), (1, 31, .slice r2_A r2_n r2_c)] ?_
      refine wpS.tk 2 false (some 32) (.int .i64 (r2.length : Int)) (yld_lenL (hs.rowR 1 rfl) (fun _ => by kernel_rfl)) ?_
      rcases of_if h with ⟨hc, h⟩ | ⟨hc, h⟩
      ·refine wpS.tk 3 false (some 33) (.bool true) (yld_b (dt hc) (fun _ => by kernel_rfl)) ?_
       refine wpS.qs [(4, 34, .bool true), (5, 35, .slice r2_A r2_n r2_c), (6, 36, .int .i64 z15)] ?_
       obtain ⟨h0, h⟩ := of_chk h
       obtain ⟨h1, h⟩ := of_chk h
       have i0_26 := h0
       have i1_26 := h1
       refine wpS.tk 7 false (some 37) (.pointer (adr r2_A ((z15 : Int).toNat * Cod.size (CI .u8)))) (yld_idxL (C := (CI .u8)) (t := 22) (e := 5) (k := .i64) (x := z15) (hs.rowR 1 rfl) (by kernel_rfl) (by kernel_rfl) (by kernel_rfl) h0 h1) ?_
       refine wpS.tk 8 true (some 38) (.int .u8 (rdL (CI .u8) r2 z15)) (yld_loadL (C := (CI .u8)) (e := 5) (x := z15) (hs.rowR 1 rfl) (by kernel_rfl) rfl (by kernel_rfl) i0_26 i1_26) ?_
       refine wpS.qs [(9, 39, .int .i64 (iconv .i64 (rdL (CI .u8) r2 z15))), (10, 40, .int .i64 z10)] ?_
       rcases of_if h with ⟨hc, h⟩ | ⟨hc, h⟩
       ·refine wpS.tk 11 false (some 41) (.bool true) (yld_b (dt hc) (fun _ => by kernel_rfl)) ?_
        refine wpS.q 12 42 (.bool true) ?_
        refine wpS.fin rfl (kr25 _ _ (then_n (ks24 _ _ (wp_cond_t (by kernel_rfl) (xskip (then_n (ks23 _ _ (xblock (xregS [0, 1, 2] fun KR27 kr27 => ?_)))))))))
        refine wpS.qs [(0, 43, .int .i64 z15), (1, 44, .int .i64 (iadd .i64 z15 1))] ?_
        obtain ⟨x17, hx, h⟩ := of_bind h
        refine wpS.tk 2 false (some 11) (.int .i64 x17) (yld_int hx (fun _ => by kernel_rfl)) ?_
        refine wpS.fin rfl (kr27 _ _ (inBlock_n ?_))
        exact then_n (kl1 _ _ ⟨n, Nat.lt_succ_self n, x17, h, (hs.conv rfl), exg (by kernel_rfl)⟩)
       refine wpS.tk 11 false (some 41) (.bool false) (yld_b (df hc) (fun _ => by kernel_rfl)) ?_
       refine wpS.q 12 42 (.bool false) ?_
       refine wpS.fin rfl (kr25 _ _ (then_n (ks24 _ _ (wp_cond_f (by kernel_rfl) (xexit (then_x (then_x (inBlock_hit ?_))))))))
       have q0 := of_some h
       subst q0
       exact exq_n (nn1 _ _ ⟨(hs.conv rfl), exg (by kernel_rfl)⟩)
      refine wpS.tk 3 false (some 33) (.bool false) (yld_b (df hc) (fun _ => by kernel_rfl)) ?_
      refine wpS.qs [(4, 34, .bool false), (5, 35, undef), (6, 36, undef), (7, 37, undef), (8, 38, undef), (9, 39, undef), (10, 40, undef), (11, 41, undef), (12, 42, .bool false)] ?_
      refine wpS.fin rfl (kr25 _ _ (then_n (ks24 _ _ (wp_cond_f (by kernel_rfl) (xexit (then_x (then_x (inBlock_hit ?_))))))))
      have q0 := of_some h
      subst q0
      exact exq_n (nn1 _ _ ⟨(hs.conv rfl), exg (by kernel_rfl)⟩)
    clear hs h hy
    rintro a w ⟨hs, g22, rfl⟩
    have h := hk1
    refine then_n (ks20 _ _ (xseq_k fun KS28 ks28 => (xseq_k fun KS29 ks29 => (xregS [0, 1, 2, 3] fun KR30 kr30 => ?_))))
    refine wpS.qs [(0, 45, .int .i64 y16), (1, 46, .slice r2_A r2_n r2_c)] ?_
    refine wpS.tk 2 false (some 47) (.int .i64 (r2.length : Int)) (yld_lenL (hs.rowR 1 rfl) (fun _ => by kernel_rfl)) ?_
    rcases of_if h with ⟨hc, h⟩ | ⟨hc, h⟩
    ·refine wpS.tk 3 false (some 48) (.bool true) (yld_b (et hc) (fun _ => by kernel_rfl)) ?_
     refine wpS.fin rfl (kr30 _ _ (then_n (ks29 _ _ (wp_cond_t (by kernel_rfl) (xseq_k fun KS31 ks31 => (xregS [0, 1, 2] fun KR32 kr32 => ?_))))))
     refine wpS.q 0 49 (.agg (enc .i32 (zeroA 256)).toArray) ?_
     refine wpS.only 1 (op_storeW (t := 26) (v := .agg (enc .i32 (zeroA 256)).toArray) (d := none) (by kernel_rfl) hs 1 rfl (vs := enc .i32 (zeroA 256)) (n := 256) (by kernel_rfl) (by kernel_rfl) (by kernel_rfl) (by simp [enc_len]) (by simp [enc_len]) (by intro u hu; exact enc_one _ _ u hu) ?_)
     intro w kp hs
     refine ⟨fun _ => trivial, ?_⟩
     refine wpS.q 2 7 (.bool false) ?_
     refine wpS.fin rfl (kr32 _ _ (then_n (ks31 _ _ (xret (then_r (inBlock_r (then_r (then_r (inBlock_r (exq_r (then_r ?_)))))))))))
     have q0 := of_some h
     subst q0
     obtain ⟨q0, qr0⟩ := Prod.mk.inj (of_some hk0)
     have q1 := qr0
     subst q0
     subst q1
     exact qq _ _ (post_ret (by kernel_rfl) (run_results [.cell 6 26, .tmp 7] [.agg (enc .i32 (zeroA 256)).toArray, .bool false] (by kernel_rfl) (.cons (res_cellN (n := 256) hs 1 rfl (by kernel_rfl) (by kernel_rfl) (by kernel_rfl) (by exact enc_len _ _)) (.cons (res_tmp (by kernel_rfl)) .nil))) ⟨congrArg Ending.returned (by kernel_rfl), hs.none⟩)
    refine wpS.tk 3 false (some 48) (.bool false) (yld_b (ef hc) (fun _ => by kernel_rfl)) ?_
    refine wpS.fin rfl (kr30 _ _ (then_n (ks29 _ _ (wp_cond_f (by kernel_rfl) (xskip (then_n (ks28 _ _ (xseq_k fun KS33 ks33 => (xregS [0, 1, 2, 3, 4, 5] fun KR34 kr34 => ?_)))))))))
    refine wpS.qs [(0, 50, .slice r2_A r2_n r2_c), (1, 51, .int .i64 y16)] ?_
    obtain ⟨h0, h⟩ := of_chk h
    obtain ⟨h1, h⟩ := of_chk h
    have i0_35 := h0
    have i1_35 := h1
    refine wpS.tk 2 false (some 52) (.pointer (adr r2_A ((y16 : Int).toNat * Cod.size (CI .u8)))) (yld_idxL (C := (CI .u8)) (t := 22) (e := 5) (k := .i64) (x := y16) (hs.rowR 1 rfl) (by kernel_rfl) (by kernel_rfl) (by kernel_rfl) h0 h1) ?_
    refine wpS.tk 3 true (some 53) (.int .u8 (rdL (CI .u8) r2 y16)) (yld_loadL (C := (CI .u8)) (e := 5) (x := y16) (hs.rowR 1 rfl) (by kernel_rfl) rfl (by kernel_rfl) i0_35 i1_35) ?_
    refine wpS.q 4 54 (.int .i64 (iconv .i64 (rdL (CI .u8) r2 y16))) ?_
    obtain ⟨x18, hx, h⟩ := of_bind h
    refine wpS.tk 5 false (some 14) (.int .i64 x18) (yld_int hx (fun _ => by kernel_rfl)) ?_
    refine wpS.fin rfl (kr34 _ _ (then_n (ks33 _ _ (xseq_k fun KS36 ks36 => (xregS [0, 1, 2] fun KR37 kr37 => ?_)))))
    refine wpS.qs [(0, 55, .int .i64 y16), (1, 56, .int .i64 (iadd .i64 y16 1))] ?_
    obtain ⟨x19, hx, h⟩ := of_bind h
    refine wpS.tk 2 false (some 11) (.int .i64 x19) (yld_int hx (fun _ => by kernel_rfl)) ?_
    refine wpS.fin rfl (kr37 _ _ (then_n (ks36 _ _ (xseq_k fun KS38 ks38 => (xregS [0, 1, 2, 3, 4, 5] fun KR39 kr39 => ?_)))))
    refine wpS.qs [(0, 57, .int .i64 z10), (1, 58, .int .i64 x18)] ?_
    obtain ⟨i0_40, h⟩ := of_chk h
    obtain ⟨i1_40, h⟩ := of_chk h
    refine wpS.tk 2 false (some 59) (.pointer (some ⟨b6, 0 + (x18 : Int).toNat * 1, none⟩)) (yld_idx (t := 26) (e := 21) (n := 256) (sz := 1) (k := .i64) (x := x18) (by kernel_rfl) (by kernel_rfl) (by kernel_rfl) i0_40 i1_40) ?_
    refine wpS.tk 3 true (some 60) (.int .i32 (rd z11 x18)) (yld_loadA (e := 21) (x := x18) hs 0 rfl (by kernel_rfl) (by kernel_rfl) i0_40 i1_40 .grow) ?_
    obtain ⟨i0_41, h⟩ := of_chk h
    obtain ⟨i1_41, h⟩ := of_chk h
    refine wpS.tk 4 false (some 61) (.pointer (some ⟨b6, 0 + (z10 : Int).toNat * 1, none⟩)) (yld_idx (t := 26) (e := 21) (n := 256) (sz := 1) (k := .i64) (x := z10) (by kernel_rfl) (by kernel_rfl) (by kernel_rfl) i0_41 i1_41) ?_
    obtain ⟨x20, hx, h⟩ := of_bind h
    refine wpS.only 5 (op_storeA (t := 21) (x := z10) (v := x20) (d := none) (by kernel_rfl) hs 0 rfl (by cases hx; kernel_rfl) (by kernel_rfl) i0_41 i1_41 ?_)
    intro w kp hs
    refine ⟨fun _ => trivial, ?_⟩
    refine wpS.fin rfl (kr39 _ _ (then_n (ks38 _ _ (xseq_k fun KS42 ks42 => (xregS [0, 1, 2] fun KR43 kr43 => ?_)))))
    refine wpS.q 0 62 (.int .i64 x18) ?_
    obtain ⟨i0_44, h⟩ := of_chk h
    obtain ⟨i1_44, h⟩ := of_chk h
    refine wpS.tk 1 false (some 63) (.pointer (some ⟨b6, 0 + (x18 : Int).toNat * 1, none⟩)) (yld_idx (t := 26) (e := 21) (n := 256) (sz := 1) (k := .i64) (x := x18) (by kernel_rfl) (by kernel_rfl) (by kernel_rfl) i0_44 i1_44) ?_
    refine wpS.only 2 (op_storeA (t := 21) (x := x18) (v := 1) (d := none) (by kernel_rfl) hs 0 rfl (by kernel_rfl) (by kernel_rfl) i0_44 i1_44 ?_)
    intro w kp hs
    refine ⟨fun _ => trivial, ?_⟩
    refine wpS.fin rfl (kr43 _ _ (then_n (ks42 _ _ ?_)))
    obtain ⟨y21, hj, h⟩ := of_bind h
    refine xseq_k fun KS46 ks46 => wp_join (N := fun a w => St w0 [] [.blk b6 (enc .i32 y21) 26, .blk b1 (enc .i32 z12) 26] [.rowL (CI .u8) s4_A s4_n s4_c (subL r2 0 8), .rowL (CI .u8) r2_A r2_n r2_c r2, .rowL (CI .u8) a0_A a0_n a0_c a0] w ∧ ∃ g45 : Nat → Value, a = ⟨#[.slice a0_A a0_n a0_c, .int .i64 a1, .int .i64 a2, undef, undef, undef, .pointer (some ⟨b1, 0, none⟩), (g14 7), .slice r2_A r2_n r2_c, .int .i64 r3, .int .u64 z8, .int .i64 x19, .pointer (some ⟨b6, 0, none⟩), .int .i64 z10, .int .i64 x18, .tuple #[.slice r2_A r2_n r2_c, .int .i64 r3], .slice a0_A a0_n a0_c, .int .i64 a2, .tuple #[.slice r2_A r2_n r2_c, .int .i64 r3], .slice r2_A r2_n r2_c, .int .i64 r3, .slice r2_A r2_n r2_c, .slice s4_A s4_n s4_c, .int .u64 r5, .int .i64 a1, .int .i64 (isub .i64 256 a1), .int .i64 z10, .bool true, (g14 28), (g14 29), (g22 30), (g22 31), (g22 32), (g22 33), (g22 34), (g22 35), (g22 36), (g22 37), (g22 38), (g22 39), (g22 40), (g22 41), (g22 42), (g22 43), (g22 44), .int .i64 y16, .slice r2_A r2_n r2_c, .int .i64 (r2.length : Int), .bool false, (g14 49), .slice r2_A r2_n r2_c, .int .i64 y16, .pointer (adr r2_A ((y16 : Int).toNat * Cod.size (CI .u8))), .int .u8 (rdL (CI .u8) r2 y16), .int .i64 (iconv .i64 (rdL (CI .u8) r2 y16)), .int .i64 y16, .int .i64 (iadd .i64 y16 1), .int .i64 z10, .int .i64 x18, .pointer (some ⟨b6, 0 + (x18 : Int).toNat * 1, none⟩), .int .i32 (rd z11 x18), .pointer (some ⟨b6, 0 + (z10 : Int).toNat * 1, none⟩), .int .i64 x18, .pointer (some ⟨b6, 0 + (x18 : Int).toNat * 1, none⟩), (g45 64), (g45 65), (g45 66), (g45 67), (g45 68), (g14 69), (g14 70), undef], []⟩) (fun N nj => ?_) ?_
    ·clear h
     have h := hj
     refine xseq_k fun KS47 ks47 => ?_
     refine xregS [0, 1, 2] fun KR48 kr48 => ?_
     refine wpS.qs [(0, 64, .int .u64 z8), (1, 65, .int .u64 (irem .u64 z8 2))] ?_
     rcases of_if h with ⟨hc, h⟩ | ⟨hc, h⟩
     ·refine wpS.tk 2 false (some 66) (.bool true) (yld_b (et hc) (fun _ => by kernel_rfl)) ?_
      refine wpS.fin rfl (kr48 _ _ (then_n (ks47 _ _ (wp_cond_t (by kernel_rfl) (xregS [0, 1, 2] fun KR49 kr49 => ?_)))))
      refine wpS.q 0 67 (.int .i64 x18) ?_
      obtain ⟨i0_50, h⟩ := of_chk h
      obtain ⟨i1_50, h⟩ := of_chk h
      refine wpS.tk 1 false (some 68) (.pointer (some ⟨b6, 0 + (x18 : Int).toNat * 1, none⟩)) (yld_idx (t := 26) (e := 21) (n := 256) (sz := 1) (k := .i64) (x := x18) (by kernel_rfl) (by kernel_rfl) (by kernel_rfl) i0_50 i1_50) ?_
      refine wpS.only 2 (op_storeA (t := 21) (x := x18) (v := 8380416) (d := none) (by kernel_rfl) hs 0 rfl (by kernel_rfl) (by kernel_rfl) i0_50 i1_50 ?_)
      intro w kp hs
      refine ⟨fun _ => trivial, ?_⟩
      refine wpS.fin rfl (kr49 _ _ ?_)
      have q0 := of_some h
      subst q0
      exact nj _ _ ⟨(hs.conv rfl), exg (by kernel_rfl)⟩
     refine wpS.tk 2 false (some 66) (.bool false) (yld_b (ef hc) (fun _ => by kernel_rfl)) ?_
     refine wpS.fin rfl (kr48 _ _ (then_n (ks47 _ _ (wp_cond_f (by kernel_rfl) (xskip ?_)))))
     have q0 := of_some h
     subst q0
     exact nj _ _ ⟨(hs.conv rfl), exg (by kernel_rfl)⟩
    clear hj hs
    rintro a w ⟨hs, g45, rfl⟩
    refine then_n (ks46 _ _ (xregS [0, 1, 2] fun KR51 kr51 => ?_))
    refine wpS.qs [(0, 69, .int .u64 z8), (1, 70, .int .u64 (iquo .u64 z8 2))] ?_
    obtain ⟨x22, hx, h⟩ := of_bind h
    refine wpS.tk 2 false (some 10) (.int .u64 x22) (yld_int hx (fun _ => by kernel_rfl)) ?_
    refine wpS.fin rfl (kr51 _ _ (inBlock_n (then_n (ks19 _ _ (xregS [0, 1, 2] fun KR52 kr52 => ?_)))))
    refine wpS.qs [(0, 28, .int .i64 z10), (1, 29, .int .i64 (iadd .i64 z10 1))] ?_
    obtain ⟨x23, hx, h⟩ := of_bind h
    refine wpS.tk 2 false (some 13) (.int .i64 x23) (yld_int hx (fun _ => by kernel_rfl)) ?_
    refine wpS.fin rfl (kr52 _ _ ?_)
    exact then_n (kl0 _ _ ⟨n, Nat.lt_succ_self n, x22, x19, x23, y21, z12, h, (hs.conv rfl), exg (by kernel_rfl)⟩)
   refine wpS.tk 1 false (some 27) (.bool false) (yld_b (df hc) (fun _ => by kernel_rfl)) ?_
   refine wpS.fin rfl (kr18 _ _ (then_n (ks17 _ _ (wp_cond_f (by kernel_rfl) (xexit (then_x (then_x (inBlock_hit ?_))))))))
   have q0 := of_some h
   subst q0
   exact exq_n (nn0 _ _ ⟨z11, z12, rfl, (hs.conv rfl), exg (by kernel_rfl)⟩)
 clear hs h hy
 rintro a w ⟨y13, y14, rfl, hs, g15, rfl⟩
 have h := hk0
 refine then_n (ks11 _ _ (xseq_k fun KS53 ks53 => (xregS [0, 1, 2] fun KR54 kr54 => ?_)))
 refine wpS.tk 0 true (some 71) (.agg (enc .i32 y13).toArray) (yld_loadW (e := 26) (n := 256) hs 0 rfl (by kernel_rfl) (by kernel_rfl) (by kernel_rfl) (by exact enc_len _ _) .grow) ?_
 refine wpS.only 1 (op_storeW (t := 26) (v := .agg (enc .i32 y13).toArray) (d := none) (by kernel_rfl) hs 1 rfl (vs := enc .i32 y13) (n := 256) (by kernel_rfl) (by kernel_rfl) (by kernel_rfl) (by simp [enc_len]) (by simp [enc_len]) (by intro u hu; exact enc_one _ _ u hu) ?_)
 intro w kp hs
 refine ⟨fun _ => trivial, ?_⟩
 refine wpS.q 2 7 (.bool true) ?_
 refine wpS.fin rfl (kr54 _ _ (then_n (ks53 _ _ (xret ?_))))
 obtain ⟨q0, qr0⟩ := Prod.mk.inj (of_some h)
 have q1 := qr0
 subst q0
 subst q1
 exact qq _ _ (post_ret (by kernel_rfl) (run_results [.cell 6 26, .tmp 7] [.agg (enc .i32 y13).toArray, .bool true] (by kernel_rfl) (.cons (res_cellN (n := 256) hs 1 rfl (by kernel_rfl) (by kernel_rfl) (by kernel_rfl) (by exact enc_len _ _)) (.cons (res_tmp (by kernel_rfl)) .nil))) ⟨congrArg Ending.returned (by kernel_rfl), hs.none⟩)

theorem ref23_Ball.ok {K : Nat} {a0 : List Int} {a1 : Int} {r0 : Arr 256} {r1 : Int} {a0_A : Option Addr} {a0_n : Nat} {a0_c : Nat} (h : ref23_Ball.f K a0 a1 = some (r0, r1)) (w0 : World) (hp0 : RowL (CI .u8) w0 a0_A a0_n a0_c a0) : Ret Tryd.prog 13 #[.slice a0_A a0_n a0_c, .int .i64 a1] w0 (.tuple #[.agg (enc .i32 r0).toArray, .int .i64 r1]) := by
 refine calls_k Tryd.func13 rfl fun Q qq => ?_
 have hs := St.startR (all_cons (RowP.ent hp0) all_nil)
 refine wp_conv (a' := ⟨#[.slice a0_A a0_n a0_c, .int .i64 a1, undef, undef, undef, undef, undef, undef, undef, undef, undef, undef, undef, undef, undef, undef, undef, undef, undef, undef, undef, undef, undef, undef, undef, undef, undef, undef, undef, undef, undef, undef, undef], []⟩) (by kernel_rfl) ?_
 refine xseq_k fun KS1 ks1 => ?_
 refine xregS [0, 1] fun KR2 kr2 => ?_
 refine wpS.only 0 (op_alloc (t := 26) (d := (some 4)) (by kernel_rfl) hs (enc .i32 (zeroA 256)) (.agg (enc .i32 (zeroA 256)).toArray) (by kernel_rfl) (by kernel_rfl) (by kernel_rfl) ?_)
 intro b1 w gw hs
 refine ⟨fun _ => trivial, ?_⟩
 refine wpS.q 1 5 (.int .i64 0) ?_
 refine wpS.fin rfl (kr2 _ _ (then_n (ks1 _ _ (xseq_k fun KS3 ks3 => (xseq_k fun KS4 ks4 => (xregS [0, 1, 2, 3, 4, 5] fun KR5 kr5 => ?_))))))
 refine wpS.q 0 8 (.int .i64 a1) ?_
 rcases of_if h with ⟨hc, h⟩ | ⟨hc, h⟩
 ·refine wpS.tk 1 false (some 9) (.bool true) (yld_b (dt hc) (fun _ => by kernel_rfl)) ?_
  refine wpS.qs [(2, 10, .bool true), (3, 11, undef), (4, 12, undef), (5, 13, .bool true)] ?_
  refine wpS.fin rfl (kr5 _ _ (then_n (ks4 _ _ (wp_cond_t (by kernel_rfl) (xseq_k fun KS6 ks6 => (xregS [0, 1, 2] fun KR7 kr7 => ?_))))))
  refine wpS.q 0 14 (.agg (enc .i32 (zeroA 256)).toArray) ?_
  refine wpS.only 1 (op_storeW (t := 26) (v := .agg (enc .i32 (zeroA 256)).toArray) (d := none) (by kernel_rfl) hs 0 rfl (vs := enc .i32 (zeroA 256)) (n := 256) (by kernel_rfl) (by kernel_rfl) (by kernel_rfl) (by simp [enc_len]) (by simp [enc_len]) (by intro u hu; exact enc_one _ _ u hu) ?_)
  intro w kp hs
  refine ⟨fun _ => trivial, ?_⟩
  refine wpS.q 2 5 (.int .i64 8) ?_
  refine wpS.fin rfl (kr7 _ _ (then_n (ks6 _ _ (xret (then_r ?_)))))
  obtain ⟨q0, qr0⟩ := Prod.mk.inj (of_some h)
  have q1 := qr0
  subst q0
  subst q1
  exact qq _ _ (post_ret (by kernel_rfl) (run_results [.cell 4 26, .tmp 5] [.agg (enc .i32 (zeroA 256)).toArray, .int .i64 8] (by kernel_rfl) (.cons (res_cellN (n := 256) hs 0 rfl (by kernel_rfl) (by kernel_rfl) (by kernel_rfl) (by exact enc_len _ _)) (.cons (res_tmp (by kernel_rfl)) .nil))) ⟨congrArg Ending.returned (by kernel_rfl), hs.none⟩)
 refine wpS.tk 1 false (some 9) (.bool false) (yld_b (df hc) (fun _ => by kernel_rfl)) ?_
 refine wpS.qs [(2, 10, .bool false), (3, 11, .int .i64 a1)] ?_
 rcases of_if h with ⟨hc, h⟩ | ⟨hc, h⟩
 ·refine wpS.tk 4 false (some 12) (.bool true) (yld_b (dt hc) (fun _ => by kernel_rfl)) ?_
  refine wpS.q 5 13 (.bool true) ?_
  refine wpS.fin rfl (kr5 _ _ (then_n (ks4 _ _ (wp_cond_t (by kernel_rfl) (xseq_k fun KS8 ks8 => (xregS [0, 1, 2] fun KR9 kr9 => ?_))))))
  refine wpS.q 0 14 (.agg (enc .i32 (zeroA 256)).toArray) ?_
  refine wpS.only 1 (op_storeW (t := 26) (v := .agg (enc .i32 (zeroA 256)).toArray) (d := none) (by kernel_rfl) hs 0 rfl (vs := enc .i32 (zeroA 256)) (n := 256) (by kernel_rfl) (by kernel_rfl) (by kernel_rfl) (by simp [enc_len]) (by simp [enc_len]) (by intro u hu; exact enc_one _ _ u hu) ?_)
  intro w kp hs
  refine ⟨fun _ => trivial, ?_⟩
  refine wpS.q 2 5 (.int .i64 8) ?_
  refine wpS.fin rfl (kr9 _ _ (then_n (ks8 _ _ (xret (then_r ?_)))))
  obtain ⟨q0, qr0⟩ := Prod.mk.inj (of_some h)
  have q1 := qr0
  subst q0
  subst q1
  exact qq _ _ (post_ret (by kernel_rfl) (run_results [.cell 4 26, .tmp 5] [.agg (enc .i32 (zeroA 256)).toArray, .int .i64 8] (by kernel_rfl) (.cons (res_cellN (n := 256) hs 0 rfl (by kernel_rfl) (by kernel_rfl) (by kernel_rfl) (by exact enc_len _ _)) (.cons (res_tmp (by kernel_rfl)) .nil))) ⟨congrArg Ending.returned (by kernel_rfl), hs.none⟩)
 refine wpS.tk 4 false (some 12) (.bool false) (yld_b (df hc) (fun _ => by kernel_rfl)) ?_
 refine wpS.q 5 13 (.bool false) ?_
 refine wpS.fin rfl (kr5 _ _ (then_n (ks4 _ _ (wp_cond_f (by kernel_rfl) (xskip (then_n (ks3 _ _ (xseq_k fun KS10 ks10 => (xregS [0, 1, 2, 3, 4, 5, 6, 7, 8] fun KR11 kr11 => ?_)))))))))
 refine wpS.qs [(0, 16, .slice a0_A a0_n a0_c), (1, 17, .int .i64 a1)] ?_
 obtain ⟨⟨r2, r3⟩, hg, h⟩ := of_bind h
 refine wpS.only 2 (op_call (d := (some 18)) (by kernel_rfl) hs (fun _ => by kernel_rfl) (ref23_ball.ok hg _ (hs.rowR 0 rfl)) ?_)
 intro w gw hs
 refine ⟨fun _ => trivial, ?_⟩
 refine wpS.qs [(3, 15, .tuple #[.agg (enc .i32 r2).toArray, .bool r3]), (4, 19, .agg (enc .i32 r2).toArray)] ?_
 cases r3 with
 | true =>
  have h := of_if_t h
  refine wpS.q 5 20 (.bool true) ?_
  refine wpS.only 6 (op_alloc (t := 26) (d := (some 6)) (by kernel_rfl) hs (enc .i32 (zeroA 256)) (.agg (enc .i32 (zeroA 256)).toArray) (by kernel_rfl) (by kernel_rfl) (by kernel_rfl) ?_)
  intro b4 w gw hs
  refine ⟨fun _ => trivial, ?_⟩
  refine wpS.only 7 (op_storeW (t := 26) (v := .agg (enc .i32 r2).toArray) (d := none) (by kernel_rfl) hs 0 rfl (vs := enc .i32 r2) (n := 256) (by kernel_rfl) (by kernel_rfl) (by kernel_rfl) (by simp [enc_len]) (by simp [enc_len]) (by intro u hu; exact enc_one _ _ u hu) ?_)
  intro w kp hs
  refine ⟨fun _ => trivial, ?_⟩
  refine wpS.q 8 7 (.bool true) ?_
  refine wpS.fin rfl (kr11 _ _ (then_n (ks10 _ _ (xseq_k fun KS12 ks12 => (xseq_k fun KS13 ks13 => (xregS [0, 1] fun KR14 kr14 => ?_))))))
  refine wpS.qs [(0, 21, .bool true), (1, 22, .bool false)] ?_
  refine wpS.fin rfl (kr14 _ _ (then_n (ks13 _ _ (wp_cond_f (by kernel_rfl) (xskip (then_n (ks12 _ _ (xseq_k fun KS15 ks15 => (xseq_k fun KS16 ks16 => (xregS [0, 1] fun KR17 kr17 => ?_))))))))))
  refine wpS.qs [(0, 29, .bool true), (1, 30, .bool false)] ?_
  refine wpS.fin rfl (kr17 _ _ (then_n (ks16 _ _ (wp_cond_f (by kernel_rfl) (xskip (then_n (ks15 _ _ (xseq_k fun KS18 ks18 => (xregS [0, 1, 2] fun KR19 kr19 => ?_)))))))))
  refine wpS.tk 0 true (some 32) (.agg (enc .i32 r2).toArray) (yld_loadW (e := 26) (n := 256) hs 0 rfl (by kernel_rfl) (by kernel_rfl) (by kernel_rfl) (by exact enc_len _ _) .grow) ?_
  refine wpS.only 1 (op_storeW (t := 26) (v := .agg (enc .i32 r2).toArray) (d := none) (by kernel_rfl) hs 1 rfl (vs := enc .i32 r2) (n := 256) (by kernel_rfl) (by kernel_rfl) (by kernel_rfl) (by simp [enc_len]) (by simp [enc_len]) (by intro u hu; exact enc_one _ _ u hu) ?_)
  intro w kp hs
  refine ⟨fun _ => trivial, ?_⟩
  refine wpS.q 2 5 (.int .i64 0) ?_
  refine wpS.fin rfl (kr19 _ _ (then_n (ks18 _ _ (xret ?_))))
  obtain ⟨q0, qr0⟩ := Prod.mk.inj (of_some h)
  have q1 := qr0
  subst q0
  subst q1
  exact qq _ _ (post_ret (by kernel_rfl) (run_results [.cell 4 26, .tmp 5] [.agg (enc .i32 r2).toArray, .int .i64 0] (by kernel_rfl) (.cons (res_cellN (n := 256) hs 1 rfl (by kernel_rfl) (by kernel_rfl) (by kernel_rfl) (by exact enc_len _ _)) (.cons (res_tmp (by kernel_rfl)) .nil))) ⟨congrArg Ending.returned (by kernel_rfl), hs.none⟩)
 | false =>
  have h := of_if_f h
  refine wpS.q 5 20 (.bool false) ?_
  refine wpS.only 6 (op_alloc (t := 26) (d := (some 6)) (by kernel_rfl) hs (enc .i32 (zeroA 256)) (.agg (enc .i32 (zeroA 256)).toArray) (by kernel_rfl) (by kernel_rfl) (by kernel_rfl) ?_)
  intro b5 w gw hs
  refine ⟨fun _ => trivial, ?_⟩
  refine wpS.only 7 (op_storeW (t := 26) (v := .agg (enc .i32 r2).toArray) (d := none) (by kernel_rfl) hs 0 rfl (vs := enc .i32 r2) (n := 256) (by kernel_rfl) (by kernel_rfl) (by kernel_rfl) (by simp [enc_len]) (by simp [enc_len]) (by intro u hu; exact enc_one _ _ u hu) ?_)
  intro w kp hs
  refine ⟨fun _ => trivial, ?_⟩
  refine wpS.q 8 7 (.bool false) ?_
  refine wpS.fin rfl (kr11 _ _ (then_n (ks10 _ _ ?_)))
  obtain ⟨⟨y6, y7⟩, hj, h⟩ := of_bind h
  refine xseq_k fun KS21 ks21 => wp_join (N := fun a w => St w0 [] [.blk b5 (enc .i32 y7) 26, .blk b1 (enc .i32 (zeroA 256)) 26] [.rowL (CI .u8) a0_A a0_n a0_c a0] w ∧ ∃ g20 : Nat → Value, a = ⟨#[.slice a0_A a0_n a0_c, .int .i64 a1, undef, undef, .pointer (some ⟨b1, 0, none⟩), .int .i64 0, .pointer (some ⟨b5, 0, none⟩), .bool y6, .int .i64 a1, .bool false, .bool false, .int .i64 a1, .bool false, .bool false, undef, .tuple #[.agg (enc .i32 r2).toArray, .bool false], .slice a0_A a0_n a0_c, .int .i64 a1, .tuple #[.agg (enc .i32 r2).toArray, .bool false], .agg (enc .i32 r2).toArray, .bool false, (g20 21), (g20 22), (g20 23), (g20 24), (g20 25), (g20 26), (g20 27), (g20 28), undef, undef, undef, undef], []⟩) (fun N nj => ?_) ?_
  ·clear h
   have h := hj
   refine xseq_k fun KS22 ks22 => ?_
   refine xregS [0, 1] fun KR23 kr23 => ?_
   refine wpS.qs [(0, 21, .bool false), (1, 22, .bool true)] ?_
   refine wpS.fin rfl (kr23 _ _ (then_n (ks22 _ _ (wp_cond_t (by kernel_rfl) (xregS [0, 1, 2, 3, 4, 5, 6, 7] fun KR24 kr24 => ?_)))))
   refine wpS.qs [(0, 24, .slice a0_A a0_n a0_c), (1, 25, .int .i64 a1)] ?_
   obtain ⟨⟨r8, r9⟩, hg, h⟩ := of_bind h
   refine wpS.only 2 (op_call (d := (some 26)) (by kernel_rfl) hs (fun _ => by kernel_rfl) (ref23_ball.ok hg _ (hs.rowR 0 rfl)) ?_)
   intro w gw hs
   refine ⟨fun _ => trivial, ?_⟩
   refine wpS.qs [(3, 23, .tuple #[.agg (enc .i32 r8).toArray, .bool r9]), (4, 27, .agg (enc .i32 r8).toArray)] ?_
   cases r9 with
   | true =>
    have h := of_if_t h
    refine wpS.q 5 28 (.bool true) ?_
    refine wpS.only 6 (op_storeW (t := 26) (v := .agg (enc .i32 r8).toArray) (d := none) (by kernel_rfl) hs 0 rfl (vs := enc .i32 r8) (n := 256) (by kernel_rfl) (by kernel_rfl) (by kernel_rfl) (by simp [enc_len]) (by simp [enc_len]) (by intro u hu; exact enc_one _ _ u hu) ?_)
    intro w kp hs
    refine ⟨fun _ => trivial, ?_⟩
    refine wpS.q 7 7 (.bool true) ?_
    refine wpS.fin rfl (kr24 _ _ ?_)
    obtain ⟨q0, qr0⟩ := Prod.mk.inj (of_some h)
    have q1 := qr0
    subst q0
    subst q1
    exact nj _ _ ⟨(hs.conv rfl), exg (by kernel_rfl)⟩
   | false =>
    have h := of_if_f h
    refine wpS.q 5 28 (.bool false) ?_
    refine wpS.only 6 (op_storeW (t := 26) (v := .agg (enc .i32 r8).toArray) (d := none) (by kernel_rfl) hs 0 rfl (vs := enc .i32 r8) (n := 256) (by kernel_rfl) (by kernel_rfl) (by kernel_rfl) (by simp [enc_len]) (by simp [enc_len]) (by intro u hu; exact enc_one _ _ u hu) ?_)
    intro w kp hs
    refine ⟨fun _ => trivial, ?_⟩
    refine wpS.q 7 7 (.bool false) ?_
    refine wpS.fin rfl (kr24 _ _ ?_)
    obtain ⟨q0, qr0⟩ := Prod.mk.inj (of_some h)
    have q1 := qr0
    subst q0
    subst q1
    exact nj _ _ ⟨(hs.conv rfl), exg (by kernel_rfl)⟩
  clear hj hs
  rintro a w ⟨hs, g20, rfl⟩
  refine then_n (ks21 _ _ (xseq_k fun KS25 ks25 => (xseq_k fun KS26 ks26 => (xregS [0, 1] fun KR27 kr27 => ?_))))
  cases y6 with
  | true =>
   have h := of_if_t h
   refine wpS.qs [(0, 29, .bool true), (1, 30, .bool false)] ?_
   refine wpS.fin rfl (kr27 _ _ (then_n (ks26 _ _ (wp_cond_f (by kernel_rfl) (xskip (then_n (ks25 _ _ (xseq_k fun KS28 ks28 => (xregS [0, 1, 2] fun KR29 kr29 => ?_)))))))))
   refine wpS.tk 0 true (some 32) (.agg (enc .i32 y7).toArray) (yld_loadW (e := 26) (n := 256) hs 0 rfl (by kernel_rfl) (by kernel_rfl) (by kernel_rfl) (by exact enc_len _ _) .grow) ?_
   refine wpS.only 1 (op_storeW (t := 26) (v := .agg (enc .i32 y7).toArray) (d := none) (by kernel_rfl) hs 1 rfl (vs := enc .i32 y7) (n := 256) (by kernel_rfl) (by kernel_rfl) (by kernel_rfl) (by simp [enc_len]) (by simp [enc_len]) (by intro u hu; exact enc_one _ _ u hu) ?_)
   intro w kp hs
   refine ⟨fun _ => trivial, ?_⟩
   refine wpS.q 2 5 (.int .i64 0) ?_
   refine wpS.fin rfl (kr29 _ _ (then_n (ks28 _ _ (xret ?_))))
   obtain ⟨q0, qr0⟩ := Prod.mk.inj (of_some h)
   have q1 := qr0
   subst q0
   subst q1
   exact qq _ _ (post_ret (by kernel_rfl) (run_results [.cell 4 26, .tmp 5] [.agg (enc .i32 y7).toArray, .int .i64 0] (by kernel_rfl) (.cons (res_cellN (n := 256) hs 1 rfl (by kernel_rfl) (by kernel_rfl) (by kernel_rfl) (by exact enc_len _ _)) (.cons (res_tmp (by kernel_rfl)) .nil))) ⟨congrArg Ending.returned (by kernel_rfl), hs.none⟩)
  | false =>
   have h := of_if_f h
   refine wpS.qs [(0, 29, .bool false), (1, 30, .bool true)] ?_
   refine wpS.fin rfl (kr27 _ _ (then_n (ks26 _ _ (wp_cond_t (by kernel_rfl) (xseq_k fun KS30 ks30 => (xregS [0, 1, 2] fun KR31 kr31 => ?_))))))
   refine wpS.q 0 31 (.agg (enc .i32 (zeroA 256)).toArray) ?_
   refine wpS.only 1 (op_storeW (t := 26) (v := .agg (enc .i32 (zeroA 256)).toArray) (d := none) (by kernel_rfl) hs 1 rfl (vs := enc .i32 (zeroA 256)) (n := 256) (by kernel_rfl) (by kernel_rfl) (by kernel_rfl) (by simp [enc_len]) (by simp [enc_len]) (by intro u hu; exact enc_one _ _ u hu) ?_)
   intro w kp hs
   refine ⟨fun _ => trivial, ?_⟩
   refine wpS.q 2 5 (.int .i64 12) ?_
   refine wpS.fin rfl (kr31 _ _ (then_n (ks30 _ _ (xret (then_r ?_)))))
   obtain ⟨q0, qr0⟩ := Prod.mk.inj (of_some h)
   have q1 := qr0
   subst q0
   subst q1
   exact qq _ _ (post_ret (by kernel_rfl) (run_results [.cell 4 26, .tmp 5] [.agg (enc .i32 (zeroA 256)).toArray, .int .i64 12] (by kernel_rfl) (.cons (res_cellN (n := 256) hs 1 rfl (by kernel_rfl) (by kernel_rfl) (by kernel_rfl) (by exact enc_len _ _)) (.cons (res_tmp (by kernel_rfl)) .nil))) ⟨congrArg Ending.returned (by kernel_rfl), hs.none⟩)
end Go.Proofs.YtppohhnfojalbaaDoor
