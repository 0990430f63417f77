/- Printed by this work's own program: the code of each function below comes to the answer that its plain form tells. -/
import Derived.Test.YtppohhnfojalbaaDoorMd
import Derived.Test.YtppohhnfojalbaaDoorProg
import Derived.Test.YtppohhnfojalbaaDoorVF0
import Derived.Test.YtppohhnfojalbaaDoorVX0
import Derived.Test.YtppohhnfojalbaaDoorVX1
import Derived.Test.YtppohhnfojalbaaDoorVX4
set_option linter.unusedVariables false
set_option linter.unusedSimpArgs false
set_option maxRecDepth 100000
set_option maxHeartbeats 4000000
namespace Go.Proofs.YtppohhnfojalbaaDoor
open Go.Mx
attribute [local irreducible] wpOp

theorem dpack_Unpack.ok {K : Nat} {a0 : List Int} {a1 : Int} {a2 : Int} {r0 : Arr 256} {r1 : Bool} {a0_A : Option Addr} {a0_n : Nat} {a0_c : Nat} (h : dpack_Unpack.f K a0 a1 a2 = some (r0, r1)) (w0 : World) (hp0 : RowL (CI .u8) w0 a0_A a0_n a0_c a0) : Ret Tryd.prog 26 #[.slice a0_A a0_n a0_c, .int .i32 a1, .int .i32 a2] w0 (.tuple #[.agg (enc .i32 r0).toArray, .bool r1]) := by
 refine calls_k Tryd.func26 rfl fun Q qq => ?_
 have hs := St.startR (all_cons (RowP.ent hp0) all_nil)
 refine wp_conv (a' := ⟨#[.slice a0_A a0_n a0_c, .int .i32 a1, .int .i32 a2, undef, undef, undef, undef, undef, undef, undef, undef, undef, undef, undef, undef, undef, undef, undef, undef, undef, undef, undef, undef, undef, undef, undef, undef, undef, undef, undef, undef, undef, undef, undef, undef, undef, undef, undef, undef, undef, undef, undef, undef, undef, undef, undef, undef, undef, undef], []⟩) (by kernel_rfl) ?_
 refine xseq_k fun KS1 ks1 => ?_
 refine xregS [0, 1] fun KR2 kr2 => ?_
 refine wpS.only 0 (op_alloc (t := 26) (d := (some 6)) (by kernel_rfl) hs (enc .i32 (zeroA 256)) (.agg (enc .i32 (zeroA 256)).toArray) (by kernel_rfl) (by kernel_rfl) (by kernel_rfl) ?_)
 intro b1 w gw hs
 refine ⟨fun _ => trivial, ?_⟩
 refine wpS.q 1 7 (.bool false) ?_
 refine wpS.fin rfl (kr2 _ _ (then_n (ks1 _ _ (xseq_k fun KS3 ks3 => (xregS [0, 1, 2, 3, 4] fun KR4 kr4 => ?_)))))
 refine wpS.qs [(0, 12, .int .i32 a1), (1, 13, .int .i32 a2), (2, 14, .agg #[.int .i32 a1, .int .i32 a2])] ?_
 refine wpS.only 3 (op_alloc (t := 79) (d := (some 8)) (by kernel_rfl) hs ([.int .i32 0, .int .i32 0]) (.agg #[.int .i32 0, .int .i32 0]) (by kernel_rfl) (by kernel_rfl) (by kernel_rfl) ?_)
 intro b2 w gw hs
 refine ⟨fun _ => trivial, ?_⟩
 refine wpS.only 4 (op_storeW (t := 79) (v := .agg #[.int .i32 a1, .int .i32 a2]) (d := none) (by kernel_rfl) hs 0 rfl (vs := [.int .i32 a1, .int .i32 a2]) (n := 2) (by kernel_rfl) (by kernel_rfl) (by kernel_rfl) (by simp [enc_len]) (by simp [enc_len]) (by simp [Value.oneCell']) ?_)
 intro w kp hs
 refine ⟨fun _ => trivial, ?_⟩
 refine wpS.fin rfl (kr4 _ _ (then_n (ks3 _ _ (xseq_k fun KS5 ks5 => (xseq_k fun KS6 ks6 => (xregS [0, 1, 2, 3, 4, 5, 6, 7, 8, 9] fun KR7 kr7 => ?_))))))
 refine wpS.tk 0 true (some 15) (.agg #[.int .i32 a1, .int .i32 a2]) (yld_loadW (e := 79) (n := 2) hs 0 rfl (by kernel_rfl) (by kernel_rfl) (by kernel_rfl) (by simp [enc_len]) .grow) ?_
 obtain ⟨r3, hg, h⟩ := of_bind h
 cases r3 with
 | true =>
  have h := of_if_t h
  refine wpS.only 1 (op_call (d := (some 16)) (by kernel_rfl) hs (fun _ => by kernel_rfl) (dpack_span_fit.ok hg _) ?_)
  intro w gw hs
  refine ⟨fun _ => trivial, ?_⟩
  refine wpS.qs [(2, 17, .bool false), (3, 18, .bool false), (4, 19, .slice a0_A a0_n a0_c)] ?_
  refine wpS.tk 5 false (some 20) (.int .i64 (a0.length : Int)) (yld_lenL (hs.rowR 0 rfl) (fun _ => by kernel_rfl)) ?_
  refine wpS.tk 6 true (some 21) (.agg #[.int .i32 a1, .int .i32 a2]) (yld_loadW (e := 79) (n := 2) hs 0 rfl (by kernel_rfl) (by kernel_rfl) (by kernel_rfl) (by simp [enc_len]) .grow) ?_
  obtain ⟨r4, hg, h⟩ := of_bind h
  refine wpS.only 7 (op_call (d := (some 22)) (by kernel_rfl) hs (fun _ => by kernel_rfl) (dpack_span_size.ok hg _) ?_)
  intro w gw hs
  refine ⟨fun _ => trivial, ?_⟩
  rcases of_if h with ⟨hc, h⟩ | ⟨hc, h⟩
  ·refine wpS.tk 8 false (some 23) (.bool false) (yld_b (nf hc) (fun _ => by kernel_rfl)) ?_
   refine wpS.q 9 24 (.bool false) ?_
   refine wpS.fin rfl (kr7 _ _ (then_n (ks6 _ _ (wp_cond_f (by kernel_rfl) (xskip (then_n (ks5 _ _ (xseq_k fun KS8 ks8 => (xregS [0] fun KR9 kr9 => ?_)))))))))
   refine wpS.only 0 (op_alloc (t := 26) (d := (some 9)) (by kernel_rfl) hs (enc .i32 (zeroA 256)) (.agg (enc .i32 (zeroA 256)).toArray) (by kernel_rfl) (by kernel_rfl) (by kernel_rfl) ?_)
   intro b5 w gw hs
   refine ⟨fun _ => trivial, ?_⟩
   refine wpS.fin rfl (kr9 _ _ (then_n (ks8 _ _ (xseq_k fun KS10 ks10 => (xseq_k fun KS11 ks11 => (xregS [0, 1, 2, 3, 4, 5] fun KR12 kr12 => ?_))))))
   refine wpS.q 0 26 (.slice a0_A a0_n a0_c) ?_
   refine wpS.tk 1 true (some 27) (.agg #[.int .i32 a1, .int .i32 a2]) (yld_loadW (e := 79) (n := 2) hs 1 rfl (by kernel_rfl) (by kernel_rfl) (by kernel_rfl) (by simp [enc_len]) .grow) ?_
   obtain ⟨r6, hg, h⟩ := of_bind h
   refine wpS.only 2 (op_call (d := (some 28)) (by kernel_rfl) hs (fun _ => by kernel_rfl) (dpack_span_width.ok hg _) ?_)
   intro w gw hs
   refine ⟨fun _ => trivial, ?_⟩
   obtain ⟨r7, hg, h⟩ := of_bind h
   refine wpS.only 3 (op_callH (d := (some 29)) (by kernel_rfl) hs (fun _ => by kernel_rfl) (bits_Unpack.ok hg _ (hs.rowR 0 rfl)) ?_)
   rintro ⟨r7_A, r7_n, r7_c⟩ w gw hs
   have hs := hs.conv (L' := [.ownL (CI .u32) r7_A r7_n r7_c r7 83, .blk b5 (enc .i32 (zeroA 256)) 26, .blk b2 ([.int .i32 a1, .int .i32 a2]) 79, .blk b1 (enc .i32 (zeroA 256)) 26]) rfl
   refine ⟨fun _ => trivial, ?_⟩
   refine wpS.tk 4 false (some 30) (.int .i64 (r7.length : Int)) (yld_lenL (hs.rowL 0 rfl) (fun _ => by kernel_rfl)) ?_
   refine wpS.q 5 31 (.int .i64 0) ?_
   refine wpS.fin rfl (kr12 _ _ (then_n (ks11 _ _ ?_)))
   obtain ⟨t0, hy, hk0⟩ := of_bind h
   refine wp_exq (N := fun a w => ∃ y11 y12, t0 = .inl (y11, y12) ∧ St w0 [] [.ownL (CI .u32) r7_A r7_n r7_c r7 83, .blk b5 (enc .i32 y11) 26, .blk b2 ([.int .i32 a1, .int .i32 a2]) 79, .blk b1 (enc .i32 y12) 26] [.rowL (CI .u8) a0_A a0_n a0_c a0] w ∧ ∃ g14 : Nat → Value, a = ⟨#[.slice a0_A a0_n a0_c, .int .i32 a1, .int .i32 a2, undef, undef, undef, .pointer (some ⟨b1, 0, none⟩), (g14 7), .pointer (some ⟨b2, 0, none⟩), .pointer (some ⟨b5, 0, none⟩), (g14 10), (g14 11), .int .i32 a1, .int .i32 a2, .agg #[.int .i32 a1, .int .i32 a2], .agg #[.int .i32 a1, .int .i32 a2], .bool true, .bool false, .bool false, .slice a0_A a0_n a0_c, .int .i64 (a0.length : Int), .agg #[.int .i32 a1, .int .i32 a2], .int .i64 r4, .bool false, .bool false, undef, .slice a0_A a0_n a0_c, .agg #[.int .i32 a1, .int .i32 a2], .int .i64 r6, .slice r7_A r7_n r7_c, .int .i64 (r7.length : Int), (g14 31), (g14 32), (g14 33), (g14 34), (g14 35), (g14 36), (g14 37), (g14 38), (g14 39), (g14 40), (g14 41), (g14 42), (g14 43), (g14 44), (g14 45), (g14 46), (g14 47), undef], []⟩) (fun N0 nn0 => ?_) ?_
   ·refine xblock ?_
    refine wp_loop_k (fun n a w => ∃ z8 z9 z10, dpack_Unpack.l0 K n a1 a2 r7 z8 z9 z10 = some t0 ∧ St w0 [] [.ownL (CI .u32) r7_A r7_n r7_c r7 83, .blk b5 (enc .i32 z9) 26, .blk b2 ([.int .i32 a1, .int .i32 a2]) 79, .blk b1 (enc .i32 z10) 26] [.rowL (CI .u8) a0_A a0_n a0_c a0] w ∧ ∃ g13 : Nat → Value, a = ⟨#[.slice a0_A a0_n a0_c, .int .i32 a1, .int .i32 a2, undef, undef, undef, .pointer (some ⟨b1, 0, none⟩), (g13 7), .pointer (some ⟨b2, 0, none⟩), .pointer (some ⟨b5, 0, none⟩), (g13 10), (g13 11), .int .i32 a1, .int .i32 a2, .agg #[.int .i32 a1, .int .i32 a2], .agg #[.int .i32 a1, .int .i32 a2], .bool true, .bool false, .bool false, .slice a0_A a0_n a0_c, .int .i64 (a0.length : Int), .agg #[.int .i32 a1, .int .i32 a2], .int .i64 r4, .bool false, .bool false, undef, .slice a0_A a0_n a0_c, .agg #[.int .i32 a1, .int .i32 a2], .int .i64 r6, .slice r7_A r7_n r7_c, .int .i64 (r7.length : Int), .int .i64 z8, (g13 32), (g13 33), (g13 34), (g13 35), (g13 36), (g13 37), (g13 38), (g13 39), (g13 40), (g13 41), (g13 42), (g13 43), (g13 44), (g13 45), (g13 46), (g13 47), undef], []⟩) K ⟨0, (zeroA 256), (zeroA 256), hy, hs.conv rfl, exg (by kernel_rfl)⟩ ?_
    clear hs h hy
    rintro n a w ⟨z8, z9, z10, h, hs, g13, rfl⟩ KL0 kl0
    cases n with
    | zero => exact nomatch (show none = some _ from h)
    | succ n =>
     refine xseq_k fun KS15 ks15 => ?_
     refine xregS [0] fun KR16 kr16 => ?_
     rcases of_if h with ⟨hc, h⟩ | ⟨hc, h⟩
     ·refine wpS.tk 0 false (some 32) (.bool true) (yld_b (dt hc) (fun _ => by kernel_rfl)) ?_
      refine wpS.fin rfl (kr16 _ _ (then_n (ks15 _ _ (xseq_k fun KS17 ks17 => (wp_cond_t (by kernel_rfl) (xskip (then_n (ks17 _ _ (xseq_k fun KS18 ks18 => (xblock (xseq_k fun KS19 ks19 => (xregS [0, 1, 2, 3, 4] fun KR20 kr20 => ?_))))))))))))
      refine wpS.q 0 33 (.int .i64 z8) ?_
      obtain ⟨h0, h⟩ := of_chk h
      obtain ⟨h1, h⟩ := of_chk h
      have i0_21 := h0
      have i1_21 := h1
      refine wpS.tk 1 false (some 34) (.pointer (adr r7_A ((z8 : Int).toNat * Cod.size (CI .u32)))) (yld_idxL (C := (CI .u32)) (t := 81) (e := 83) (k := .i64) (x := z8) (hs.rowL 0 rfl) (by kernel_rfl) (by kernel_rfl) (by kernel_rfl) h0 h1) ?_
      refine wpS.tk 2 true (some 35) (.int .u32 (rdL (CI .u32) r7 z8)) (yld_loadL (C := (CI .u32)) (e := 83) (x := z8) (hs.rowL 0 rfl) (by kernel_rfl) rfl (by kernel_rfl) i0_21 i1_21) ?_
      refine wpS.q 3 10 (.int .i64 z8) ?_
      obtain ⟨x13, hx, h⟩ := of_bind h
      refine wpS.tk 4 false (some 11) (.int .u32 x13) (yld_int hx (fun _ => by kernel_rfl)) ?_
      refine wpS.fin rfl (kr20 _ _ (then_n (ks19 _ _ (xseq_k fun KS22 ks22 => (xseq_k fun KS23 ks23 => (xregS [0, 1, 2, 3, 4] fun KR24 kr24 => ?_))))))
      refine wpS.q 0 36 (.int .u32 x13) ?_
      refine wpS.tk 1 true (some 37) (.agg #[.int .i32 a1, .int .i32 a2]) (yld_loadW (e := 79) (n := 2) hs 2 rfl (by kernel_rfl) (by kernel_rfl) (by kernel_rfl) (by simp [enc_len]) .grow) ?_
      obtain ⟨r14, hg, h⟩ := of_bind h
      refine wpS.only 2 (op_call (d := (some 38)) (by kernel_rfl) hs (fun _ => by kernel_rfl) (dpack_span_all.ok hg _) ?_)
      intro w gw hs
      refine ⟨fun _ => trivial, ?_⟩
      refine wpS.q 3 39 (.int .u32 (iconv .u32 r14)) ?_
      rcases of_if h with ⟨hc, h⟩ | ⟨hc, h⟩
      ·refine wpS.tk 4 false (some 40) (.bool true) (yld_b (dt hc) (fun _ => by kernel_rfl)) ?_
       refine wpS.fin rfl (kr24 _ _ (then_n (ks23 _ _ (wp_cond_t (by kernel_rfl) (xseq_k fun KS25 ks25 => (xregS [0, 1, 2] fun KR26 kr26 => ?_))))))
       refine wpS.q 0 41 (.agg (enc .i32 (zeroA 256)).toArray) ?_
       refine wpS.only 1 (op_storeW (t := 26) (v := .agg (enc .i32 (zeroA 256)).toArray) (d := none) (by kernel_rfl) hs 3 rfl (vs := enc .i32 (zeroA 256)) (n := 256) (by kernel_rfl) (by kernel_rfl) (by kernel_rfl) (by simp [enc_len]) (by simp [enc_len]) (by intro u hu; exact enc_one _ _ u hu) ?_)
       intro w kp hs
       refine ⟨fun _ => trivial, ?_⟩
       refine wpS.q 2 7 (.bool false) ?_
       refine wpS.fin rfl (kr26 _ _ (then_n (ks25 _ _ (xret (then_r (inBlock_r (then_r (then_r (inBlock_r (exq_r (then_r ?_)))))))))))
       have q0 := of_some h
       subst q0
       obtain ⟨q0, qr0⟩ := Prod.mk.inj (of_some hk0)
       have q1 := qr0
       subst q0
       subst q1
       exact qq _ _ (post_ret (by kernel_rfl) (run_results [.cell 6 26, .tmp 7] [.agg (enc .i32 (zeroA 256)).toArray, .bool false] (by kernel_rfl) (.cons (res_cellN (n := 256) hs 3 rfl (by kernel_rfl) (by kernel_rfl) (by kernel_rfl) (by exact enc_len _ _)) (.cons (res_tmp (by kernel_rfl)) .nil))) ⟨congrArg Ending.returned (by kernel_rfl), hs.none⟩)
      refine wpS.tk 4 false (some 40) (.bool false) (yld_b (df hc) (fun _ => by kernel_rfl)) ?_
      refine wpS.fin rfl (kr24 _ _ (then_n (ks23 _ _ (wp_cond_f (by kernel_rfl) (xskip (then_n (ks22 _ _ (xregS [0, 1, 2, 3, 4, 5] fun KR27 kr27 => ?_))))))))
      refine wpS.q 0 42 (.int .i64 z8) ?_
      refine wpS.tk 1 true (some 43) (.agg #[.int .i32 a1, .int .i32 a2]) (yld_loadW (e := 79) (n := 2) hs 2 rfl (by kernel_rfl) (by kernel_rfl) (by kernel_rfl) (by simp [enc_len]) .grow) ?_
      refine wpS.q 2 44 (.int .u32 x13) ?_
      obtain ⟨r15, hg, h⟩ := of_bind h
      refine wpS.only 3 (op_call (d := (some 45)) (by kernel_rfl) hs (fun _ => by kernel_rfl) (dpack_span_back.ok hg _) ?_)
      intro w gw hs
      refine ⟨fun _ => trivial, ?_⟩
      obtain ⟨i0_28, h⟩ := of_chk h
      obtain ⟨i1_28, h⟩ := of_chk h
      refine wpS.tk 4 false (some 46) (.pointer (some ⟨b5, 0 + (z8 : Int).toNat * 1, none⟩)) (yld_idx (t := 26) (e := 21) (n := 256) (sz := 1) (k := .i64) (x := z8) (by kernel_rfl) (by kernel_rfl) (by kernel_rfl) i0_28 i1_28) ?_
      refine wpS.only 5 (op_storeA (t := 21) (x := z8) (v := r15) (d := none) (by kernel_rfl) hs 1 rfl (by kernel_rfl) (by kernel_rfl) i0_28 i1_28 ?_)
      intro w kp hs
      refine ⟨fun _ => trivial, ?_⟩
      refine wpS.fin rfl (kr27 _ _ (inBlock_n (then_n (ks18 _ _ (xregS [0, 1] fun KR29 kr29 => ?_)))))
      refine wpS.qs [(0, 47, .int .i64 (iadd .i64 z8 1)), (1, 31, .int .i64 (iadd .i64 z8 1))] ?_
      refine wpS.fin rfl (kr29 _ _ ?_)
      exact then_n (kl0 _ _ ⟨n, Nat.lt_succ_self n, (iadd .i64 z8 1), (wr z9 z8 r15), z10, h, (hs.conv rfl), exg (by kernel_rfl)⟩)
     refine wpS.tk 0 false (some 32) (.bool false) (yld_b (df hc) (fun _ => by kernel_rfl)) ?_
     refine wpS.fin rfl (kr16 _ _ (then_n (ks15 _ _ (xseq_k fun KS30 ks30 => (wp_cond_f (by kernel_rfl) (xexit (then_x (then_x (inBlock_hit ?_)))))))))
     have q0 := of_some h
     subst q0
     exact exq_n (nn0 _ _ ⟨z9, z10, rfl, (hs.conv rfl), exg (by kernel_rfl)⟩)
   clear hs h hy
   rintro a w ⟨y11, y12, rfl, hs, g14, rfl⟩
   have h := hk0
   refine then_n (ks10 _ _ (xseq_k fun KS31 ks31 => (xregS [0, 1, 2] fun KR32 kr32 => ?_)))
   refine wpS.tk 0 true (some 48) (.agg (enc .i32 y11).toArray) (yld_loadW (e := 26) (n := 256) hs 1 rfl (by kernel_rfl) (by kernel_rfl) (by kernel_rfl) (by exact enc_len _ _) .grow) ?_
   refine wpS.only 1 (op_storeW (t := 26) (v := .agg (enc .i32 y11).toArray) (d := none) (by kernel_rfl) hs 3 rfl (vs := enc .i32 y11) (n := 256) (by kernel_rfl) (by kernel_rfl) (by kernel_rfl) (by simp [enc_len]) (by simp [enc_len]) (by intro u hu; exact enc_one _ _ u hu) ?_)
   intro w kp hs
   refine ⟨fun _ => trivial, ?_⟩
   refine wpS.q 2 7 (.bool true) ?_
   refine wpS.fin rfl (kr32 _ _ (then_n (ks31 _ _ (xret ?_))))
   obtain ⟨q0, qr0⟩ := Prod.mk.inj (of_some h)
   have q1 := qr0
   subst q0
   subst q1
   exact qq _ _ (post_ret (by kernel_rfl) (run_results [.cell 6 26, .tmp 7] [.agg (enc .i32 y11).toArray, .bool true] (by kernel_rfl) (.cons (res_cellN (n := 256) hs 3 rfl (by kernel_rfl) (by kernel_rfl) (by kernel_rfl) (by exact enc_len _ _)) (.cons (res_tmp (by kernel_rfl)) .nil))) ⟨congrArg Ending.returned (by kernel_rfl), hs.none⟩)
  refine wpS.tk 8 false (some 23) (.bool true) (yld_b (nt hc) (fun _ => by kernel_rfl)) ?_
  refine wpS.q 9 24 (.bool true) ?_
  refine wpS.fin rfl (kr7 _ _ (then_n (ks6 _ _ (wp_cond_t (by kernel_rfl) (xseq_k fun KS33 ks33 => (xregS [0, 1, 2] fun KR34 kr34 => ?_))))))
  refine wpS.q 0 25 (.agg (enc .i32 (zeroA 256)).toArray) ?_
  refine wpS.only 1 (op_storeW (t := 26) (v := .agg (enc .i32 (zeroA 256)).toArray) (d := none) (by kernel_rfl) hs 1 rfl (vs := enc .i32 (zeroA 256)) (n := 256) (by kernel_rfl) (by kernel_rfl) (by kernel_rfl) (by simp [enc_len]) (by simp [enc_len]) (by intro u hu; exact enc_one _ _ u hu) ?_)
  intro w kp hs
  refine ⟨fun _ => trivial, ?_⟩
  refine wpS.q 2 7 (.bool false) ?_
  refine wpS.fin rfl (kr34 _ _ (then_n (ks33 _ _ (xret (then_r ?_)))))
  obtain ⟨q0, qr0⟩ := Prod.mk.inj (of_some h)
  have q1 := qr0
  subst q0
  subst q1
  exact qq _ _ (post_ret (by kernel_rfl) (run_results [.cell 6 26, .tmp 7] [.agg (enc .i32 (zeroA 256)).toArray, .bool false] (by kernel_rfl) (.cons (res_cellN (n := 256) hs 1 rfl (by kernel_rfl) (by kernel_rfl) (by kernel_rfl) (by exact enc_len _ _)) (.cons (res_tmp (by kernel_rfl)) .nil))) ⟨congrArg Ending.returned (by kernel_rfl), hs.none⟩)
 | false =>
  have h := of_if_f h
  refine wpS.only 1 (op_call (d := (some 16)) (by kernel_rfl) hs (fun _ => by kernel_rfl) (dpack_span_fit.ok hg _) ?_)
  intro w gw hs
  refine ⟨fun _ => trivial, ?_⟩
  refine wpS.qs [(2, 17, .bool true), (3, 18, .bool true), (4, 19, undef), (5, 20, undef), (6, 21, undef), (7, 22, undef), (8, 23, undef), (9, 24, .bool true)] ?_
  refine wpS.fin rfl (kr7 _ _ (then_n (ks6 _ _ (wp_cond_t (by kernel_rfl) (xseq_k fun KS35 ks35 => (xregS [0, 1, 2] fun KR36 kr36 => ?_))))))
  refine wpS.q 0 25 (.agg (enc .i32 (zeroA 256)).toArray) ?_
  refine wpS.only 1 (op_storeW (t := 26) (v := .agg (enc .i32 (zeroA 256)).toArray) (d := none) (by kernel_rfl) hs 1 rfl (vs := enc .i32 (zeroA 256)) (n := 256) (by kernel_rfl) (by kernel_rfl) (by kernel_rfl) (by simp [enc_len]) (by simp [enc_len]) (by intro u hu; exact enc_one _ _ u hu) ?_)
  intro w kp hs
  refine ⟨fun _ => trivial, ?_⟩
  refine wpS.q 2 7 (.bool false) ?_
  refine wpS.fin rfl (kr36 _ _ (then_n (ks35 _ _ (xret (then_r ?_)))))
  obtain ⟨q0, qr0⟩ := Prod.mk.inj (of_some h)
  have q1 := qr0
  subst q0
  subst q1
  exact qq _ _ (post_ret (by kernel_rfl) (run_results [.cell 6 26, .tmp 7] [.agg (enc .i32 (zeroA 256)).toArray, .bool false] (by kernel_rfl) (.cons (res_cellN (n := 256) hs 1 rfl (by kernel_rfl) (by kernel_rfl) (by kernel_rfl) (by exact enc_len _ _)) (.cons (res_tmp (by kernel_rfl)) .nil))) ⟨congrArg Ending.returned (by kernel_rfl), hs.none⟩)

theorem dsamp_Mask.ok {K : Nat} {a0 : List Int} {a1 : Int} {a2 : Int} {r0 : Arr 256} {r1 : Int} {a0_A : Option Addr} {a0_n : Nat} {a0_c : Nat} (h : dsamp_Mask.f K a0 a1 a2 = some (r0, r1)) (w0 : World) (hp0 : RowL (CI .u8) w0 a0_A a0_n a0_c a0) (hg0 : RowL (CA .u64 24 (by decide)) w0 (some ⟨0, 0, none⟩) 1 1 [tab_0]) (hg1 : RowL (CA .i64 24 (by decide)) w0 (some ⟨1, 0, none⟩) 1 1 [tab_1]) (hg2 : RowL (CA .i64 24 (by decide)) w0 (some ⟨2, 0, none⟩) 1 1 [tab_2]) : Ret Tryd.prog 10 #[.slice a0_A a0_n a0_c, .int .u16 a1, .int .i32 a2] w0 (.tuple #[.agg (enc .i32 r0).toArray, .int .i64 r1]) := by
 refine calls_k Tryd.func10 rfl fun Q qq => ?_
 have hs := St.startR (all_cons (RowP.ent hp0) (all_cons (RowP.ent hg0) (all_cons (RowP.ent hg1) (all_cons (RowP.ent hg2) all_nil))))
 refine wp_conv (a' := ⟨#[.slice a0_A a0_n a0_c, .int .u16 a1, .int .i32 a2, undef, undef, undef, undef, undef, undef, undef, undef, undef, undef, undef, undef, undef, undef, undef, undef, undef, undef, undef, undef, undef, undef, undef, undef, undef, undef, undef, undef, undef, undef, undef, undef, undef, undef, undef, undef, undef], []⟩) (by kernel_rfl) ?_
 refine xseq_k fun KS1 ks1 => ?_
 refine xregS [0, 1] fun KR2 kr2 => ?_
 refine wpS.only 0 (op_alloc (t := 26) (d := (some 6)) (by kernel_rfl) hs (enc .i32 (zeroA 256)) (.agg (enc .i32 (zeroA 256)).toArray) (by kernel_rfl) (by kernel_rfl) (by kernel_rfl) ?_)
 intro b1 w gw hs
 refine ⟨fun _ => trivial, ?_⟩
 refine wpS.q 1 7 (.int .i64 0) ?_
 refine wpS.fin rfl (kr2 _ _ (then_n (ks1 _ _ (xseq_k fun KS3 ks3 => (xregS [0] fun KR4 kr4 => ?_)))))
 refine wpS.q 0 8 (.int .i64 0) ?_
 refine wpS.fin rfl (kr4 _ _ (then_n (ks3 _ _ ?_)))
 obtain ⟨tv6, hj, hk_6⟩ := of_bind h
 refine xseq_k fun KS6 ks6 => wp_exj (N := fun a w => ∃ y2 y3, tv6 = .inl (y2, y3) ∧ St w0 [] [.blk b1 (enc .i32 y3) 26] [.rowL (CI .u8) a0_A a0_n a0_c a0, .rowL (CA .u64 24 (by decide)) (some ⟨0, 0, none⟩) 1 1 ([tab_0]), .rowL (CA .i64 24 (by decide)) (some ⟨1, 0, none⟩) 1 1 ([tab_1]), .rowL (CA .i64 24 (by decide)) (some ⟨2, 0, none⟩) 1 1 ([tab_2])] w ∧ ∃ g5 : Nat → Value, a = ⟨#[.slice a0_A a0_n a0_c, .int .u16 a1, .int .i32 a2, undef, undef, undef, .pointer (some ⟨b1, 0, none⟩), (g5 7), .int .i64 y2, undef, undef, undef, undef, (g5 13), (g5 14), (g5 15), (g5 16), (g5 17), (g5 18), undef, undef, undef, undef, undef, undef, undef, undef, undef, undef, undef, undef, undef, undef, undef, undef, undef, undef, undef, undef, undef], []⟩) (fun N nj => ?_) ?_
 ·clear h
  have h := hj
  refine xseq_k fun KS7 ks7 => ?_
  refine xregS [0] fun KR8 kr8 => ?_
  refine wpS.q 0 13 (.int .i32 a2) ?_
  refine wpS.fin rfl (kr8 _ _ (then_n (ks7 _ _ (xblock (xseq_k fun KS9 ks9 => (xregS [0, 1] fun KR10 kr10 => ?_))))))
  rcases of_if h with ⟨hc, h⟩ | ⟨hc, h⟩
  ·refine wpS.tk 0 false (some 16) (.bool true) (yld_b (et hc) (fun _ => by kernel_rfl)) ?_
   refine wpS.q 1 15 (.bool true) ?_
   refine wpS.fin rfl (kr10 _ _ (then_n (ks9 _ _ (wp_cond_t (by kernel_rfl) (xregS [0] fun KR11 kr11 => ?_)))))
   refine wpS.q 0 8 (.int .i64 18) ?_
   refine wpS.fin rfl (kr11 _ _ (inBlock_n ?_))
   have q0 := of_some h
   subst q0
   exact exj_n (nj _ _ ⟨18, (zeroA 256), rfl, (hs.conv rfl), exg (by kernel_rfl)⟩)
  refine wpS.tk 0 false (some 16) (.bool false) (yld_b (ef hc) (fun _ => by kernel_rfl)) ?_
  refine wpS.q 1 15 (.bool false) ?_
  refine wpS.fin rfl (kr10 _ _ (then_n (ks9 _ _ (wp_cond_f (by kernel_rfl) (xseq_k fun KS12 ks12 => (xregS [0, 1] fun KR13 kr13 => ?_))))))
  rcases of_if h with ⟨hc, h⟩ | ⟨hc, h⟩
  ·refine wpS.tk 0 false (some 18) (.bool true) (yld_b (et hc) (fun _ => by kernel_rfl)) ?_
   refine wpS.q 1 17 (.bool true) ?_
   refine wpS.fin rfl (kr13 _ _ (then_n (ks12 _ _ (wp_cond_t (by kernel_rfl) (xregS [0] fun KR14 kr14 => ?_)))))
   refine wpS.q 0 8 (.int .i64 20) ?_
   refine wpS.fin rfl (kr14 _ _ (inBlock_n ?_))
   have q0 := of_some h
   subst q0
   exact exj_n (nj _ _ ⟨20, (zeroA 256), rfl, (hs.conv rfl), exg (by kernel_rfl)⟩)
  refine wpS.tk 0 false (some 18) (.bool false) (yld_b (ef hc) (fun _ => by kernel_rfl)) ?_
  refine wpS.q 1 17 (.bool false) ?_
  refine wpS.fin rfl (kr13 _ _ (then_n (ks12 _ _ (wp_cond_f (by kernel_rfl) (xseq_k fun KS15 ks15 => (xregS [0, 1, 2] fun KR16 kr16 => ?_))))))
  refine wpS.q 0 14 (.agg (enc .i32 (zeroA 256)).toArray) ?_
  refine wpS.only 1 (op_storeW (t := 26) (v := .agg (enc .i32 (zeroA 256)).toArray) (d := none) (by kernel_rfl) hs 0 rfl (vs := enc .i32 (zeroA 256)) (n := 256) (by kernel_rfl) (by kernel_rfl) (by kernel_rfl) (by simp [enc_len]) (by simp [enc_len]) (by intro u hu; exact enc_one _ _ u hu) ?_)
  intro w kp hs
  refine ⟨fun _ => trivial, ?_⟩
  refine wpS.q 2 7 (.int .i64 8) ?_
  refine wpS.fin rfl (kr16 _ _ (then_n (ks15 _ _ (xret (inBlock_r ?_)))))
  have q0 := of_some h
  subst q0
  have h := hk_6
  refine exj_r ?_
  refine then_r ?_
  obtain ⟨q0, qr0⟩ := Prod.mk.inj (of_some h)
  have q1 := qr0
  subst q0
  subst q1
  exact qq _ _ (post_ret (by kernel_rfl) (run_results [.cell 6 26, .tmp 7] [.agg (enc .i32 (zeroA 256)).toArray, .int .i64 8] (by kernel_rfl) (.cons (res_cellN (n := 256) hs 0 rfl (by kernel_rfl) (by kernel_rfl) (by kernel_rfl) (by exact enc_len _ _)) (.cons (res_tmp (by kernel_rfl)) .nil))) ⟨congrArg Ending.returned (by kernel_rfl), hs.none⟩)
 clear hj hs
 rintro a w ⟨y2, y3, rfl, hs, g5, rfl⟩
 have h := hk_6
 refine then_n (ks6 _ _ (xseq_k fun KS17 ks17 => (xregS [0, 1, 2, 3, 4, 5, 6, 7, 8, 9, 10, 11, 12, 13, 14] fun KR18 kr18 => ?_)))
 refine wpS.qs [(0, 20, .slice a0_A a0_n a0_c), (1, 21, .int .u16 a1), (2, 22, .int .u64 (iconv .u64 a1))] ?_
 obtain ⟨r4, hg, h⟩ := of_bind h
 refine wpS.only 3 (op_callH (d := (some 23)) (by kernel_rfl) hs (fun _ => by kernel_rfl) (bits_Le.ok hg _) ?_)
 rintro ⟨r4_A, r4_n, r4_c⟩ w gw hs
 have hs := hs.conv (L' := [.ownL (CI .u8) r4_A r4_n r4_c r4 5, .blk b1 (enc .i32 y3) 26]) rfl
 refine ⟨fun _ => trivial, ?_⟩
 refine wpS.only 4 (op_lit (C := CS) (t := 55) (e := 22) (len := 2) (parts := #[(0, .slice a0_A a0_n a0_c), (1, .slice r4_A r4_n r4_c)]) (l := ([(a0_A, a0_n, a0_c), (r4_A, r4_n, r4_c)] : List HS)) (d := (some 24)) (by kernel_rfl) hs (by kernel_rfl) (by kernel_rfl) (by kernel_rfl) (z := .slice none 0 0) (by kernel_rfl) rfl (by decide) (by decide) (by kernel_rfl) ?_)
 intro s5_A s5_n s5_c w gw hs
 refine ⟨fun _ => trivial, ?_⟩
 obtain ⟨⟨r6_0, r6_1, r6_2, r6_3⟩, hg, h⟩ := of_bind h
 refine wpS.only 5 (op_call (d := (some 25)) (by kernel_rfl) hs (fun _ => by kernel_rfl) (dsamp_sponge.ok hg _ (LLP.mk (hs.rowL 0 rfl) (inn_cons (hs.rowR 0 rfl) (inn_cons (hs.rowL 1 rfl) inn_nil))) (hs.rowR 1 rfl) (hs.rowR 2 rfl) (hs.rowR 3 rfl)) ?_)
 intro w gw hs
 refine ⟨fun _ => trivial, ?_⟩
 refine wpS.qs [(6, 26, .int .i64 y2), (7, 27, .int .i64 (imul .i64 32 y2))] ?_
 obtain ⟨⟨r7_0, r7_1, r7_2, r7_3, r8⟩, hg, h⟩ := of_bind h
 refine wpS.only 8 (op_callH (d := (some 28)) (by kernel_rfl) hs (fun _ => by kernel_rfl) (keccak_Squeeze.ok hg _ (hs.rowR 1 rfl) (hs.rowR 2 rfl) (hs.rowR 3 rfl)) ?_)
 rintro ⟨r8_A, r8_n, r8_c⟩ w gw hs
 have hs := hs.conv (L' := [.ownL (CI .u8) r8_A r8_n r8_c r8 5, .ownL CS s5_A s5_n s5_c ([(a0_A, a0_n, a0_c), (r4_A, r4_n, r4_c)] : List HS) 22, .ownL (CI .u8) r4_A r4_n r4_c r4 5, .blk b1 (enc .i32 y3) 26]) rfl
 refine ⟨fun _ => trivial, ?_⟩
 refine wpS.qs [(9, 19, .tuple #[.agg (([.int .i64 r7_0] : List Value) ++ enc .u64 r7_1 ++ ([.int .i64 r7_2, .bool r7_3] : List Value)).toArray, .slice r8_A r8_n r8_c]), (10, 29, .agg (([.int .i64 r7_0] : List Value) ++ enc .u64 r7_1 ++ ([.int .i64 r7_2, .bool r7_3] : List Value)).toArray), (11, 30, .slice r8_A r8_n r8_c)] ?_
 refine wpS.only 12 (op_alloc (t := 50) (d := (some 9)) (by kernel_rfl) hs (([.int .i64 0] : List Value) ++ enc .u64 (zeroA 25) ++ ([.int .i64 0, .bool false] : List Value)) (.agg (([.int .i64 0] : List Value) ++ enc .u64 (zeroA 25) ++ ([.int .i64 0, .bool false] : List Value)).toArray) (by kernel_rfl) (by kernel_rfl) (by kernel_rfl) ?_)
 intro b9 w gw hs
 refine ⟨fun _ => trivial, ?_⟩
 refine wpS.only 13 (op_storeW (t := 50) (v := .agg (([.int .i64 r7_0] : List Value) ++ enc .u64 r7_1 ++ ([.int .i64 r7_2, .bool r7_3] : List Value)).toArray) (d := none) (by kernel_rfl) hs 0 rfl (vs := ([.int .i64 r7_0] : List Value) ++ enc .u64 r7_1 ++ ([.int .i64 r7_2, .bool r7_3] : List Value)) (n := 28) (by kernel_rfl) (by kernel_rfl) (by kernel_rfl) (by simp [enc_len]) (by simp [enc_len]) (one_app (one_app (by simp [Value.oneCell']) (fun u hu => enc_one _ _ u hu)) (by simp [Value.oneCell'])) ?_)
 intro w kp hs
 refine ⟨fun _ => trivial, ?_⟩
 refine wpS.q 14 10 (.slice r8_A r8_n r8_c) ?_
 refine wpS.fin rfl (kr18 _ _ (then_n (ks17 _ _ (xseq_k fun KS19 ks19 => (xregS [0, 1, 2, 3, 4, 5, 6, 7, 8, 9, 10] fun KR20 kr20 => ?_)))))
 refine wpS.qs [(0, 32, .slice r8_A r8_n r8_c), (1, 33, .int .i32 a2), (2, 34, .int .i32 (isub .i32 a2 1)), (3, 35, .int .i32 a2)] ?_
 obtain ⟨⟨r10, r11⟩, hg, h⟩ := of_bind h
 refine wpS.only 4 (op_call (d := (some 36)) (by kernel_rfl) hs (fun _ => by kernel_rfl) (dpack_Unpack.ok hg _ (hs.rowL 1 rfl)) ?_)
 intro w gw hs
 refine ⟨fun _ => trivial, ?_⟩
 refine wpS.qs [(5, 31, .tuple #[.agg (enc .i32 r10).toArray, .bool r11]), (6, 37, .agg (enc .i32 r10).toArray), (7, 38, .bool r11)] ?_
 refine wpS.only 8 (op_alloc (t := 26) (d := (some 11)) (by kernel_rfl) hs (enc .i32 (zeroA 256)) (.agg (enc .i32 (zeroA 256)).toArray) (by kernel_rfl) (by kernel_rfl) (by kernel_rfl) ?_)
 intro b12 w gw hs
 refine ⟨fun _ => trivial, ?_⟩
 refine wpS.only 9 (op_storeW (t := 26) (v := .agg (enc .i32 r10).toArray) (d := none) (by kernel_rfl) hs 0 rfl (vs := enc .i32 r10) (n := 256) (by kernel_rfl) (by kernel_rfl) (by kernel_rfl) (by simp [enc_len]) (by simp [enc_len]) (by intro u hu; exact enc_one _ _ u hu) ?_)
 intro w kp hs
 refine ⟨fun _ => trivial, ?_⟩
 refine wpS.q 10 12 (.bool r11) ?_
 refine wpS.fin rfl (kr20 _ _ (then_n (ks19 _ _ (xseq_k fun KS21 ks21 => (xregS [0, 1, 2] fun KR22 kr22 => ?_)))))
 refine wpS.tk 0 true (some 39) (.agg (enc .i32 r10).toArray) (yld_loadW (e := 26) (n := 256) hs 0 rfl (by kernel_rfl) (by kernel_rfl) (by kernel_rfl) (by exact enc_len _ _) .grow) ?_
 refine wpS.only 1 (op_storeW (t := 26) (v := .agg (enc .i32 r10).toArray) (d := none) (by kernel_rfl) hs 5 rfl (vs := enc .i32 r10) (n := 256) (by kernel_rfl) (by kernel_rfl) (by kernel_rfl) (by simp [enc_len]) (by simp [enc_len]) (by intro u hu; exact enc_one _ _ u hu) ?_)
 intro w kp hs
 refine ⟨fun _ => trivial, ?_⟩
 refine wpS.q 2 7 (.int .i64 0) ?_
 refine wpS.fin rfl (kr22 _ _ (then_n (ks21 _ _ (xret ?_))))
 obtain ⟨q0, qr0⟩ := Prod.mk.inj (of_some h)
 have q1 := qr0
 subst q0
 subst q1
 exact qq _ _ (post_ret (by kernel_rfl) (run_results [.cell 6 26, .tmp 7] [.agg (enc .i32 r10).toArray, .int .i64 0] (by kernel_rfl) (.cons (res_cellN (n := 256) hs 5 rfl (by kernel_rfl) (by kernel_rfl) (by kernel_rfl) (by exact enc_len _ _)) (.cons (res_tmp (by kernel_rfl)) .nil))) ⟨congrArg Ending.returned (by kernel_rfl), hs.none⟩)
end Go.Proofs.YtppohhnfojalbaaDoor
