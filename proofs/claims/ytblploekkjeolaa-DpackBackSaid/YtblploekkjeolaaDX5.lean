/- Printed by this work's own program: the code of each function below comes to the answer that its plain form tells. -/
import Derived.Test.YtblploekkjeolaaMv
import Derived.Test.YtblploekkjeolaaProg
import Derived.Test.YtblploekkjeolaaDF0
import Derived.Test.YtblploekkjeolaaDX0
import Derived.Test.YtblploekkjeolaaDX1
import Derived.Test.YtblploekkjeolaaDX4
set_option linter.unusedVariables false
set_option linter.unusedSimpArgs false
set_option maxRecDepth 100000
set_option maxHeartbeats 4000000
namespace Go.Proofs.Ytblploekkjeolaa
open Go.Mx
attribute [local irreducible] wpOp

theorem dpack_Unpack.ok {K : Nat} {a0 : List Int} {a1 : Int} {a2 : Int} {r0 : Arr 256} {r1 : Bool} {a0_A : Option Addr} {a0_n : Nat} {a0_c : Nat} (h : dpack_Unpack.f K a0 a1 a2 = some (r0, r1)) (w0 : World) (hp0 : RowL (CI .u8) w0 a0_A a0_n a0_c a0) : Ret Try.prog 20 #[.slice a0_A a0_n a0_c, .int .i32 a1, .int .i32 a2] w0 (.tuple #[.agg (enc .i32 r0).toArray, .bool r1]) := by
 refine calls_k Try.func20 rfl fun Q qq => ?_
 have hs := St.startR (all_cons (RowP.ent hp0) all_nil)
 refine wp_conv (a' := ⟨#[.slice a0_A a0_n a0_c, .int .i32 a1, .int .i32 a2, undef, undef, undef, undef, undef, undef, undef, undef, undef, undef, undef, undef, undef, undef, undef, undef, undef, undef, undef, undef, undef, undef, undef, undef, undef, undef, undef, undef, undef, undef, undef, undef, undef, undef, undef, undef, undef, undef, undef, undef, undef, undef, undef, undef, undef, undef], []⟩) (by kernel_rfl) ?_
 refine xseq_k fun KS1 ks1 => ?_
 refine wp_regS (l := [0, 1]) (by kernel_rfl) (by kernel_rfl) fun KR2 kr2 => ?_
 refine wpS.only 0 (op_alloc (t := 40) (d := (some 6)) (by kernel_rfl) hs (enc .i32 (zeroA 256)) (.agg (enc .i32 (zeroA 256)).toArray) (by kernel_rfl) (by kernel_rfl) (by kernel_rfl) ?_)
 intro b1 w gw hs
 refine ⟨fun _ => trivial, ?_⟩
 refine wpS.p 1 7 (.bool false) (by kernel_rfl) ?_
 refine wpS.fin rfl (kr2 _ _ ?_)
 refine then_n (ks1 _ _ ?_)
 refine xseq_k fun KS3 ks3 => ?_
 refine wp_regS (l := [0, 1, 2, 3, 4]) (by kernel_rfl) (by kernel_rfl) fun KR4 kr4 => ?_
 refine wpS.ps [(0, 12, .int .i32 a1), (1, 13, .int .i32 a2), (2, 14, .agg #[.int .i32 a1, .int .i32 a2])] (by kernel_rfl) ?_
 refine wpS.only 3 (op_alloc (t := 73) (d := (some 8)) (by kernel_rfl) hs ([.int .i32 0, .int .i32 0]) (.agg #[.int .i32 0, .int .i32 0]) (by kernel_rfl) (by kernel_rfl) (by kernel_rfl) ?_)
 intro b2 w gw hs
 refine ⟨fun _ => trivial, ?_⟩
 refine wpS.only 4 (op_storeW (t := 73) (v := .agg #[.int .i32 a1, .int .i32 a2]) (d := none) (by kernel_rfl) hs 0 rfl (vs := [.int .i32 a1, .int .i32 a2]) (n := 2) (by kernel_rfl) (by kernel_rfl) (by kernel_rfl) (by simp [enc_len]) (by simp [enc_len]) (by simp [Value.oneCell']) ?_)
 intro w kp hs
 refine ⟨fun _ => trivial, ?_⟩
 refine wpS.fin rfl (kr4 _ _ ?_)
 refine then_n (ks3 _ _ ?_)
 refine xseq_k fun KS5 ks5 => ?_
 refine xseq_k fun KS6 ks6 => ?_
 refine wp_regS (l := [0, 1, 2, 3, 4, 5, 6, 7, 8, 9]) (by kernel_rfl) (by kernel_rfl) fun KR7 kr7 => ?_
 refine wpS.take 0 true (some 15) (.agg #[.int .i32 a1, .int .i32 a2]) (by kernel_rfl) (yld_loadW (e := 73) (n := 2) hs 0 rfl (by kernel_rfl) (by kernel_rfl) (by kernel_rfl) (by simp [enc_len]) .grow) ?_
 obtain ⟨r3, hg, h⟩ := of_bind h
 cases r3 with
 | true =>
  have h := of_if_t h
  refine wpS.only 1 (op_call (d := (some 16)) (by kernel_rfl) hs (fun _ => by kernel_rfl) (dpack_span_fit.ok hg _) ?_)
  intro w gw hs
  refine ⟨fun _ => trivial, ?_⟩
  refine wpS.ps [(2, 17, .bool false), (3, 18, .bool false), (4, 19, .slice a0_A a0_n a0_c)] (by kernel_rfl) ?_
  refine wpS.take 5 false (some 20) (.int .i64 (a0.length : Int)) (by kernel_rfl) (yld_lenL (hs.rowR 0 rfl) (fun _ => by kernel_rfl)) ?_
  refine wpS.take 6 true (some 21) (.agg #[.int .i32 a1, .int .i32 a2]) (by kernel_rfl) (yld_loadW (e := 73) (n := 2) hs 0 rfl (by kernel_rfl) (by kernel_rfl) (by kernel_rfl) (by simp [enc_len]) .grow) ?_
  obtain ⟨r4, hg, h⟩ := of_bind h
  refine wpS.only 7 (op_call (d := (some 22)) (by kernel_rfl) hs (fun _ => by kernel_rfl) (dpack_span_size.ok hg _) ?_)
  intro w gw hs
  refine ⟨fun _ => trivial, ?_⟩
  rcases of_if h with ⟨hc, h⟩ | ⟨hc, h⟩
  ·refine wpS.take 8 false (some 23) (.bool false) (by kernel_rfl) (yld_b (nf hc) (fun _ => by kernel_rfl)) ?_
   refine wpS.p 9 24 (.bool false) (by kernel_rfl) ?_
   refine wpS.fin rfl (kr7 _ _ ?_)
   refine then_n (ks6 _ _ ?_)
   refine wp_cond_f (by kernel_rfl) ?_
   refine xskip ?_
   refine then_n (ks5 _ _ ?_)
   refine xseq_k fun KS8 ks8 => ?_
   refine wp_regS (l := [0]) (by kernel_rfl) (by kernel_rfl) fun KR9 kr9 => ?_
   refine wpS.only 0 (op_alloc (t := 40) (d := (some 9)) (by kernel_rfl) hs (enc .i32 (zeroA 256)) (.agg (enc .i32 (zeroA 256)).toArray) (by kernel_rfl) (by kernel_rfl) (by kernel_rfl) ?_)
   intro b5 w gw hs
   refine ⟨fun _ => trivial, ?_⟩
   refine wpS.fin rfl (kr9 _ _ ?_)
   refine then_n (ks8 _ _ ?_)
   refine xseq_k fun KS10 ks10 => ?_
   refine xseq_k fun KS11 ks11 => ?_
   refine wp_regS (l := [0, 1, 2, 3, 4, 5]) (by kernel_rfl) (by kernel_rfl) fun KR12 kr12 => ?_
   refine wpS.p 0 26 (.slice a0_A a0_n a0_c) (by kernel_rfl) ?_
   refine wpS.take 1 true (some 27) (.agg #[.int .i32 a1, .int .i32 a2]) (by kernel_rfl) (yld_loadW (e := 73) (n := 2) hs 1 rfl (by kernel_rfl) (by kernel_rfl) (by kernel_rfl) (by simp [enc_len]) .grow) ?_
   obtain ⟨r6, hg, h⟩ := of_bind h
   refine wpS.only 2 (op_call (d := (some 28)) (by kernel_rfl) hs (fun _ => by kernel_rfl) (dpack_span_width.ok hg _) ?_)
   intro w gw hs
   refine ⟨fun _ => trivial, ?_⟩
   obtain ⟨r7, hg, h⟩ := of_bind h
   refine wpS.only 3 (op_callH (d := (some 29)) (by kernel_rfl) hs (fun _ => by kernel_rfl) (bits_Unpack.ok hg _ (hs.rowR 0 rfl)) ?_)
   rintro ⟨r7_A, r7_n, r7_c⟩ w gw hs
   have hs := hs.conv (L' := [.ownL (CI .u32) r7_A r7_n r7_c r7 84, .blk b5 (enc .i32 (zeroA 256)) 40, .blk b2 ([.int .i32 a1, .int .i32 a2]) 73, .blk b1 (enc .i32 (zeroA 256)) 40]) rfl
   refine ⟨fun _ => trivial, ?_⟩
   refine wpS.take 4 false (some 30) (.int .i64 (r7.length : Int)) (by kernel_rfl) (yld_lenL (hs.rowL 0 rfl) (fun _ => by kernel_rfl)) ?_
   refine wpS.p 5 31 (.int .i64 0) (by kernel_rfl) ?_
   refine wpS.fin rfl (kr12 _ _ ?_)
   refine then_n (ks11 _ _ ?_)
   obtain ⟨t0, hy, hk0⟩ := of_bind h
   refine wp_exq (N := fun a w => ∃ y11 y12, t0 = .inl (y11, y12) ∧ St w0 [] [.ownL (CI .u32) r7_A r7_n r7_c r7 84, .blk b5 (enc .i32 y11) 40, .blk b2 ([.int .i32 a1, .int .i32 a2]) 73, .blk b1 (enc .i32 y12) 40] [.rowL (CI .u8) a0_A a0_n a0_c a0] w ∧ ∃ g : Nat → Value, a = ⟨#[.slice a0_A a0_n a0_c, .int .i32 a1, .int .i32 a2, undef, undef, undef, .pointer (some ⟨b1, 0, none⟩), (g 7), .pointer (some ⟨b2, 0, none⟩), .pointer (some ⟨b5, 0, none⟩), (g 10), (g 11), .int .i32 a1, .int .i32 a2, .agg #[.int .i32 a1, .int .i32 a2], .agg #[.int .i32 a1, .int .i32 a2], .bool true, .bool false, .bool false, .slice a0_A a0_n a0_c, .int .i64 (a0.length : Int), .agg #[.int .i32 a1, .int .i32 a2], .int .i64 r4, .bool false, .bool false, undef, .slice a0_A a0_n a0_c, .agg #[.int .i32 a1, .int .i32 a2], .int .i64 r6, .slice r7_A r7_n r7_c, .int .i64 (r7.length : Int), (g 31), (g 32), (g 33), (g 34), (g 35), (g 36), (g 37), (g 38), (g 39), (g 40), (g 41), (g 42), (g 43), (g 44), (g 45), (g 46), (g 47), undef], []⟩) (fun N0 nn0 => ?_) ?_
   ·refine xblock ?_
    refine wp_loop_k (fun n a w => ∃ z8 z9 z10, dpack_Unpack.l0 K n a1 a2 r7 z8 z9 z10 = some t0 ∧ St w0 [] [.ownL (CI .u32) r7_A r7_n r7_c r7 84, .blk b5 (enc .i32 z9) 40, .blk b2 ([.int .i32 a1, .int .i32 a2]) 73, .blk b1 (enc .i32 z10) 40] [.rowL (CI .u8) a0_A a0_n a0_c a0] w ∧ ∃ g : Nat → Value, a = ⟨#[.slice a0_A a0_n a0_c, .int .i32 a1, .int .i32 a2, undef, undef, undef, .pointer (some ⟨b1, 0, none⟩), (g 7), .pointer (some ⟨b2, 0, none⟩), .pointer (some ⟨b5, 0, none⟩), (g 10), (g 11), .int .i32 a1, .int .i32 a2, .agg #[.int .i32 a1, .int .i32 a2], .agg #[.int .i32 a1, .int .i32 a2], .bool true, .bool false, .bool false, .slice a0_A a0_n a0_c, .int .i64 (a0.length : Int), .agg #[.int .i32 a1, .int .i32 a2], .int .i64 r4, .bool false, .bool false, undef, .slice a0_A a0_n a0_c, .agg #[.int .i32 a1, .int .i32 a2], .int .i64 r6, .slice r7_A r7_n r7_c, .int .i64 (r7.length : Int), .int .i64 z8, (g 32), (g 33), (g 34), (g 35), (g 36), (g 37), (g 38), (g 39), (g 40), (g 41), (g 42), (g 43), (g 44), (g 45), (g 46), (g 47), undef], []⟩) K ⟨0, (zeroA 256), (zeroA 256), hy, hs.conv rfl, exg (by kernel_rfl)⟩ ?_
    clear hs h hy
    rintro n a w ⟨z8, z9, z10, h, hs, g, rfl⟩ KL0 kl0
    cases n with
    | zero => exact nomatch (show none = some _ from h)
    | succ n =>
     refine xseq_k fun KS13 ks13 => ?_
     refine wp_regS (l := [0]) (by kernel_rfl) (by kernel_rfl) fun KR14 kr14 => ?_
     rcases of_if h with ⟨hc, h⟩ | ⟨hc, h⟩
     ·refine wpS.take 0 false (some 32) (.bool true) (by kernel_rfl) (yld_b (dt hc) (fun _ => by kernel_rfl)) ?_
      refine wpS.fin rfl (kr14 _ _ ?_)
      refine then_n (ks13 _ _ ?_)
      refine xseq_k fun KS15 ks15 => ?_
      refine wp_cond_t (by kernel_rfl) ?_
      refine xskip ?_
      refine then_n (ks15 _ _ ?_)
      refine xseq_k fun KS16 ks16 => ?_
      refine xblock ?_
      refine xseq_k fun KS17 ks17 => ?_
      refine wp_regS (l := [0, 1, 2, 3, 4]) (by kernel_rfl) (by kernel_rfl) fun KR18 kr18 => ?_
      refine wpS.p 0 33 (.int .i64 z8) (by kernel_rfl) ?_
      obtain ⟨h0, h⟩ := of_chk h
      obtain ⟨h1, h⟩ := of_chk h
      have i0_19 := h0
      have i1_19 := h1
      refine wpS.take 1 false (some 34) (.pointer (adr r7_A ((z8 : Int).toNat * Cod.size (CI .u32)))) (by kernel_rfl) (yld_idxL (C := (CI .u32)) (t := 82) (e := 84) (k := .i64) (x := z8) (hs.rowL 0 rfl) (by kernel_rfl) (by kernel_rfl) (by kernel_rfl) h0 h1) ?_
      refine wpS.take 2 true (some 35) (.int .u32 (rdL (CI .u32) r7 z8)) (by kernel_rfl) (yld_loadL (C := (CI .u32)) (e := 84) (x := z8) (hs.rowL 0 rfl) (by kernel_rfl) rfl (by kernel_rfl) i0_19 i1_19) ?_
      refine wpS.p 3 10 (.int .i64 z8) (by kernel_rfl) ?_
      obtain ⟨x13, hx, h⟩ := of_bind h
      refine wpS.take 4 false (some 11) (.int .u32 x13) (by kernel_rfl) (yld_int hx (fun _ => by kernel_rfl)) ?_
      refine wpS.fin rfl (kr18 _ _ ?_)
      refine then_n (ks17 _ _ ?_)
      refine xseq_k fun KS20 ks20 => ?_
      refine xseq_k fun KS21 ks21 => ?_
      refine wp_regS (l := [0, 1, 2, 3, 4]) (by kernel_rfl) (by kernel_rfl) fun KR22 kr22 => ?_
      refine wpS.p 0 36 (.int .u32 x13) (by kernel_rfl) ?_
      refine wpS.take 1 true (some 37) (.agg #[.int .i32 a1, .int .i32 a2]) (by kernel_rfl) (yld_loadW (e := 73) (n := 2) hs 2 rfl (by kernel_rfl) (by kernel_rfl) (by kernel_rfl) (by simp [enc_len]) .grow) ?_
      obtain ⟨r14, hg, h⟩ := of_bind h
      refine wpS.only 2 (op_call (d := (some 38)) (by kernel_rfl) hs (fun _ => by kernel_rfl) (dpack_span_all.ok hg _) ?_)
      intro w gw hs
      refine ⟨fun _ => trivial, ?_⟩
      refine wpS.p 3 39 (.int .u32 (iconv .u32 r14)) (by kernel_rfl) ?_
      rcases of_if h with ⟨hc, h⟩ | ⟨hc, h⟩
      ·refine wpS.take 4 false (some 40) (.bool true) (by kernel_rfl) (yld_b (dt hc) (fun _ => by kernel_rfl)) ?_
       refine wpS.fin rfl (kr22 _ _ ?_)
       refine then_n (ks21 _ _ ?_)
       refine wp_cond_t (by kernel_rfl) ?_
       refine xseq_k fun KS23 ks23 => ?_
       refine wp_regS (l := [0, 1, 2]) (by kernel_rfl) (by kernel_rfl) fun KR24 kr24 => ?_
       refine wpS.p 0 41 (.agg (enc .i32 (zeroA 256)).toArray) (by kernel_rfl) ?_
       refine wpS.only 1 (op_storeW (t := 40) (v := .agg (enc .i32 (zeroA 256)).toArray) (d := none) (by kernel_rfl) hs 3 rfl (vs := enc .i32 (zeroA 256)) (n := 256) (by kernel_rfl) (by kernel_rfl) (by kernel_rfl) (by simp [enc_len]) (by simp [enc_len]) (by intro u hu; exact enc_one _ _ u hu) ?_)
       intro w kp hs
       refine ⟨fun _ => trivial, ?_⟩
       refine wpS.p 2 7 (.bool false) (by kernel_rfl) ?_
       refine wpS.fin rfl (kr24 _ _ ?_)
       refine then_n (ks23 _ _ ?_)
       refine xret ?_
       refine then_r ?_
       refine inBlock_r ?_
       refine then_r ?_
       refine then_r ?_
       refine inBlock_r ?_
       refine exq_r ?_
       refine then_r ?_
       have q0 := of_some h
       subst q0
       obtain ⟨q0, qr0⟩ := Prod.mk.inj (of_some hk0)
       have q1 := qr0
       subst q0
       subst q1
       exact qq _ _ (post_ret (by kernel_rfl) (run_results [.cell 6 40, .tmp 7] [.agg (enc .i32 (zeroA 256)).toArray, .bool false] (by kernel_rfl) (.cons (res_cellN (n := 256) hs 3 rfl (by kernel_rfl) (by kernel_rfl) (by kernel_rfl) (by exact enc_len _ _)) (.cons (res_tmp (by kernel_rfl)) .nil))) ⟨congrArg Ending.returned (by kernel_rfl), hs.none⟩)
      ·refine wpS.take 4 false (some 40) (.bool false) (by kernel_rfl) (yld_b (df hc) (fun _ => by kernel_rfl)) ?_
       refine wpS.fin rfl (kr22 _ _ ?_)
       refine then_n (ks21 _ _ ?_)
       refine wp_cond_f (by kernel_rfl) ?_
       refine xskip ?_
       refine then_n (ks20 _ _ ?_)
       refine wp_regS (l := [0, 1, 2, 3, 4, 5]) (by kernel_rfl) (by kernel_rfl) fun KR25 kr25 => ?_
       refine wpS.p 0 42 (.int .i64 z8) (by kernel_rfl) ?_
       refine wpS.take 1 true (some 43) (.agg #[.int .i32 a1, .int .i32 a2]) (by kernel_rfl) (yld_loadW (e := 73) (n := 2) hs 2 rfl (by kernel_rfl) (by kernel_rfl) (by kernel_rfl) (by simp [enc_len]) .grow) ?_
       refine wpS.p 2 44 (.int .u32 x13) (by kernel_rfl) ?_
       obtain ⟨r15, hg, h⟩ := of_bind h
       refine wpS.only 3 (op_call (d := (some 45)) (by kernel_rfl) hs (fun _ => by kernel_rfl) (dpack_span_back.ok hg _) ?_)
       intro w gw hs
       refine ⟨fun _ => trivial, ?_⟩
       obtain ⟨i0_26, h⟩ := of_chk h
       obtain ⟨i1_26, h⟩ := of_chk h
       refine wpS.take 4 false (some 46) (.pointer (some ⟨b5, 0 + (z8 : Int).toNat * 1, none⟩)) (by kernel_rfl) (yld_idx (t := 40) (e := 21) (n := 256) (sz := 1) (k := .i64) (x := z8) (by kernel_rfl) (by kernel_rfl) (by kernel_rfl) i0_26 i1_26) ?_
       refine wpS.only 5 (op_storeA (t := 21) (x := z8) (v := r15) (d := none) (by kernel_rfl) hs 1 rfl (by kernel_rfl) (by kernel_rfl) i0_26 i1_26 ?_)
       intro w kp hs
       refine ⟨fun _ => trivial, ?_⟩
       refine wpS.fin rfl (kr25 _ _ ?_)
       refine inBlock_n ?_
       refine then_n (ks16 _ _ ?_)
       refine wp_regS (l := [0, 1]) (by kernel_rfl) (by kernel_rfl) fun KR27 kr27 => ?_
       refine wpS.ps [(0, 47, .int .i64 (iadd .i64 z8 1)), (1, 31, .int .i64 (iadd .i64 z8 1))] (by kernel_rfl) ?_
       refine wpS.fin rfl (kr27 _ _ ?_)
       exact then_n (kl0 _ _ ⟨n, Nat.lt_succ_self n, (iadd .i64 z8 1), (wr z9 z8 r15), z10, h, (hs.conv rfl), exg (by kernel_rfl)⟩)
     ·refine wpS.take 0 false (some 32) (.bool false) (by kernel_rfl) (yld_b (df hc) (fun _ => by kernel_rfl)) ?_
      refine wpS.fin rfl (kr14 _ _ ?_)
      refine then_n (ks13 _ _ ?_)
      refine xseq_k fun KS28 ks28 => ?_
      refine wp_cond_f (by kernel_rfl) ?_
      refine xexit ?_
      refine then_x ?_
      refine then_x ?_
      refine inBlock_hit ?_
      have q0 := of_some h
      subst q0
      exact exq_n (nn0 _ _ ⟨z9, z10, rfl, (hs.conv rfl), exg (by kernel_rfl)⟩)
   ·clear hs h hy
    rintro a w ⟨y11, y12, rfl, hs, g, rfl⟩
    have h := hk0
    refine then_n (ks10 _ _ ?_)
    refine xseq_k fun KS29 ks29 => ?_
    refine wp_regS (l := [0, 1, 2]) (by kernel_rfl) (by kernel_rfl) fun KR30 kr30 => ?_
    refine wpS.take 0 true (some 48) (.agg (enc .i32 y11).toArray) (by kernel_rfl) (yld_loadW (e := 40) (n := 256) hs 1 rfl (by kernel_rfl) (by kernel_rfl) (by kernel_rfl) (by exact enc_len _ _) .grow) ?_
    refine wpS.only 1 (op_storeW (t := 40) (v := .agg (enc .i32 y11).toArray) (d := none) (by kernel_rfl) hs 3 rfl (vs := enc .i32 y11) (n := 256) (by kernel_rfl) (by kernel_rfl) (by kernel_rfl) (by simp [enc_len]) (by simp [enc_len]) (by intro u hu; exact enc_one _ _ u hu) ?_)
    intro w kp hs
    refine ⟨fun _ => trivial, ?_⟩
    refine wpS.p 2 7 (.bool true) (by kernel_rfl) ?_
    refine wpS.fin rfl (kr30 _ _ ?_)
    refine then_n (ks29 _ _ ?_)
    refine xret ?_
    obtain ⟨q0, qr0⟩ := Prod.mk.inj (of_some h)
    have q1 := qr0
    subst q0
    subst q1
    exact qq _ _ (post_ret (by kernel_rfl) (run_results [.cell 6 40, .tmp 7] [.agg (enc .i32 y11).toArray, .bool true] (by kernel_rfl) (.cons (res_cellN (n := 256) hs 3 rfl (by kernel_rfl) (by kernel_rfl) (by kernel_rfl) (by exact enc_len _ _)) (.cons (res_tmp (by kernel_rfl)) .nil))) ⟨congrArg Ending.returned (by kernel_rfl), hs.none⟩)
  ·refine wpS.take 8 false (some 23) (.bool true) (by kernel_rfl) (yld_b (nt hc) (fun _ => by kernel_rfl)) ?_
   refine wpS.p 9 24 (.bool true) (by kernel_rfl) ?_
   refine wpS.fin rfl (kr7 _ _ ?_)
   refine then_n (ks6 _ _ ?_)
   refine wp_cond_t (by kernel_rfl) ?_
   refine xseq_k fun KS31 ks31 => ?_
   refine wp_regS (l := [0, 1, 2]) (by kernel_rfl) (by kernel_rfl) fun KR32 kr32 => ?_
   refine wpS.p 0 25 (.agg (enc .i32 (zeroA 256)).toArray) (by kernel_rfl) ?_
   refine wpS.only 1 (op_storeW (t := 40) (v := .agg (enc .i32 (zeroA 256)).toArray) (d := none) (by kernel_rfl) hs 1 rfl (vs := enc .i32 (zeroA 256)) (n := 256) (by kernel_rfl) (by kernel_rfl) (by kernel_rfl) (by simp [enc_len]) (by simp [enc_len]) (by intro u hu; exact enc_one _ _ u hu) ?_)
   intro w kp hs
   refine ⟨fun _ => trivial, ?_⟩
   refine wpS.p 2 7 (.bool false) (by kernel_rfl) ?_
   refine wpS.fin rfl (kr32 _ _ ?_)
   refine then_n (ks31 _ _ ?_)
   refine xret ?_
   refine then_r ?_
   obtain ⟨q0, qr0⟩ := Prod.mk.inj (of_some h)
   have q1 := qr0
   subst q0
   subst q1
   exact qq _ _ (post_ret (by kernel_rfl) (run_results [.cell 6 40, .tmp 7] [.agg (enc .i32 (zeroA 256)).toArray, .bool false] (by kernel_rfl) (.cons (res_cellN (n := 256) hs 1 rfl (by kernel_rfl) (by kernel_rfl) (by kernel_rfl) (by exact enc_len _ _)) (.cons (res_tmp (by kernel_rfl)) .nil))) ⟨congrArg Ending.returned (by kernel_rfl), hs.none⟩)
 | false =>
  have h := of_if_f h
  refine wpS.only 1 (op_call (d := (some 16)) (by kernel_rfl) hs (fun _ => by kernel_rfl) (dpack_span_fit.ok hg _) ?_)
  intro w gw hs
  refine ⟨fun _ => trivial, ?_⟩
  refine wpS.ps [(2, 17, .bool true), (3, 18, .bool true), (4, 19, undef), (5, 20, undef), (6, 21, undef), (7, 22, undef), (8, 23, undef), (9, 24, .bool true)] (by kernel_rfl) ?_
  refine wpS.fin rfl (kr7 _ _ ?_)
  refine then_n (ks6 _ _ ?_)
  refine wp_cond_t (by kernel_rfl) ?_
  refine xseq_k fun KS33 ks33 => ?_
  refine wp_regS (l := [0, 1, 2]) (by kernel_rfl) (by kernel_rfl) fun KR34 kr34 => ?_
  refine wpS.p 0 25 (.agg (enc .i32 (zeroA 256)).toArray) (by kernel_rfl) ?_
  refine wpS.only 1 (op_storeW (t := 40) (v := .agg (enc .i32 (zeroA 256)).toArray) (d := none) (by kernel_rfl) hs 1 rfl (vs := enc .i32 (zeroA 256)) (n := 256) (by kernel_rfl) (by kernel_rfl) (by kernel_rfl) (by simp [enc_len]) (by simp [enc_len]) (by intro u hu; exact enc_one _ _ u hu) ?_)
  intro w kp hs
  refine ⟨fun _ => trivial, ?_⟩
  refine wpS.p 2 7 (.bool false) (by kernel_rfl) ?_
  refine wpS.fin rfl (kr34 _ _ ?_)
  refine then_n (ks33 _ _ ?_)
  refine xret ?_
  refine then_r ?_
  obtain ⟨q0, qr0⟩ := Prod.mk.inj (of_some h)
  have q1 := qr0
  subst q0
  subst q1
  exact qq _ _ (post_ret (by kernel_rfl) (run_results [.cell 6 40, .tmp 7] [.agg (enc .i32 (zeroA 256)).toArray, .bool false] (by kernel_rfl) (.cons (res_cellN (n := 256) hs 1 rfl (by kernel_rfl) (by kernel_rfl) (by kernel_rfl) (by exact enc_len _ _)) (.cons (res_tmp (by kernel_rfl)) .nil))) ⟨congrArg Ending.returned (by kernel_rfl), hs.none⟩)

theorem dpack_Unhints_1.ok {K : Nat} {a0 : Int} {r0 : Bool} (h : dpack_Unhints_1.f K a0 = some r0) (w0 : World) : Ret Try.prog 55 #[.int .u8 a0] w0 (.bool r0) := by
 refine calls_k Try.func55 rfl fun Q qq => ?_
 have hs := St.start w0
 refine wp_conv (a' := ⟨#[.int .u8 a0, undef, undef, undef, undef], []⟩) (by kernel_rfl) ?_
 refine xseq_k fun KS1 ks1 => ?_
 refine wp_regS (l := [0]) (by kernel_rfl) (by kernel_rfl) fun KR2 kr2 => ?_
 refine wpS.p 0 2 (.bool false) (by kernel_rfl) ?_
 refine wpS.fin rfl (kr2 _ _ ?_)
 refine then_n (ks1 _ _ ?_)
 refine xseq_k fun KS3 ks3 => ?_
 refine wp_regS (l := [0, 1, 2]) (by kernel_rfl) (by kernel_rfl) fun KR4 kr4 => ?_
 refine wpS.ps [(0, 3, .int .u8 a0), (1, 4, .bool (a0 != 0)), (2, 2, .bool (a0 != 0))] (by kernel_rfl) ?_
 refine wpS.fin rfl (kr4 _ _ ?_)
 refine then_n (ks3 _ _ ?_)
 refine xret ?_
 have q0 := of_some h
 subst q0
 exact qq _ _ (post_ret (by kernel_rfl) (run_results [.tmp 2] [.bool (a0 != 0)] (by kernel_rfl) (.cons (res_tmp (by kernel_rfl)) .nil)) ⟨congrArg Ending.returned (by kernel_rfl), hs.none⟩)

theorem dpack_Unhints.ok {K : Nat} {a0 : List Int} {a1 : Int} {a2 : Int} {r0 : List (Arr 256)} {r1 : Bool} {a0_A : Option Addr} {a0_n : Nat} {a0_c : Nat} (h : dpack_Unhints.f K a0 a1 a2 = some (r0, r1)) (w0 : World) (hp0 : RowL (CI .u8) w0 a0_A a0_n a0_c a0) : Calls Try.prog 22 #[.slice a0_A a0_n a0_c, .int .i64 a1, .int .i64 a2] w0 fun e w' => ∃ h : (Option Addr × Nat × Nat), e = .returned (.tuple #[.slice h.1 h.2.1 h.2.2, .bool r1]) ∧ St w0 [] [.ownL (CA .i32 256 (by decide)) h.1 h.2.1 h.2.2 r0 40] [] w' := by
 refine calls_k Try.func22 rfl fun Q qq => ?_
 have hs := St.startR (all_cons (RowP.ent hp0) all_nil)
 refine wp_conv (a' := ⟨#[.slice a0_A a0_n a0_c, .int .i64 a1, .int .i64 a2, undef, undef, undef, undef, undef, undef, undef, undef, undef, undef, undef, undef, undef, undef, undef, undef, undef, undef, undef, undef, undef, undef, undef, undef, undef, undef, undef, undef, undef, undef, undef, undef, undef, undef, undef, undef, undef, undef, undef, undef, undef, undef, undef, undef, undef, undef, undef, undef, undef, undef, undef, undef, undef, undef, undef, undef, undef, undef, undef, undef, undef, undef, undef, undef, undef, undef, undef, undef, undef, undef, undef, undef, undef, undef, undef, undef, undef, undef, undef, undef, undef, undef, undef, undef, undef, undef, undef, undef, undef, undef], []⟩) (by kernel_rfl) ?_
 refine xseq_k fun KS1 ks1 => ?_
 refine wp_regS (l := [0, 1]) (by kernel_rfl) (by kernel_rfl) fun KR2 kr2 => ?_
 refine wpS.ps [(0, 6, .slice none 0 0), (1, 7, .bool false)] (by kernel_rfl) ?_
 refine wpS.fin rfl (kr2 _ _ ?_)
 refine then_n (ks1 _ _ ?_)
 refine xseq_k fun KS3 ks3 => ?_
 refine xseq_k fun KS4 ks4 => ?_
 refine wp_regS (l := [0, 1, 2, 3, 4, 5, 6, 7, 8, 9, 10, 11, 12, 13, 14, 15, 16, 17, 18, 19, 20, 21]) (by kernel_rfl) (by kernel_rfl) fun KR5 kr5 => ?_
 refine wpS.p 0 13 (.int .i64 a1) (by kernel_rfl) ?_
 rcases of_if h with ⟨hc, h⟩ | ⟨hc, h⟩
 ·refine wpS.take 1 false (some 14) (.bool true) (by kernel_rfl) (yld_b (dt hc) (fun _ => by kernel_rfl)) ?_
  refine wpS.ps [(2, 15, .bool true), (3, 16, undef), (4, 17, undef), (5, 18, .bool true), (6, 19, .bool true), (7, 20, undef), (8, 21, undef), (9, 22, .bool true), (10, 23, .bool true), (11, 24, undef), (12, 25, undef), (13, 26, .bool true), (14, 27, .bool true), (15, 28, undef), (16, 29, undef), (17, 30, undef), (18, 31, undef), (19, 32, undef), (20, 33, undef), (21, 34, .bool true)] (by kernel_rfl) ?_
  refine wpS.fin rfl (kr5 _ _ ?_)
  refine then_n (ks4 _ _ ?_)
  refine wp_cond_t (by kernel_rfl) ?_
  refine xseq_k fun KS6 ks6 => ?_
  refine wp_regS (l := [0, 1]) (by kernel_rfl) (by kernel_rfl) fun KR7 kr7 => ?_
  refine wpS.ps [(0, 6, .slice none 0 0), (1, 7, .bool false)] (by kernel_rfl) ?_
  refine wpS.fin rfl (kr7 _ _ ?_)
  refine then_n (ks6 _ _ ?_)
  refine xret ?_
  refine then_r ?_
  obtain ⟨q0, qr0⟩ := Prod.mk.inj (of_some h)
  have q1 := qr0
  subst q0
  subst q1
  have hs := hs.addNilL (CA .i32 256 (by decide)) 40
  exact qq _ _ (post_ret (by kernel_rfl) (run_results [.tmp 6, .tmp 7] [.slice none 0 0, .bool false] (by kernel_rfl) (.cons (res_tmp (by kernel_rfl)) (.cons (res_tmp (by kernel_rfl)) .nil))) ⟨⟨none, 0, 0⟩, congrArg Ending.returned (by kernel_rfl), (hs.pickR pick_nil)⟩)
 ·refine wpS.take 1 false (some 14) (.bool false) (by kernel_rfl) (yld_b (df hc) (fun _ => by kernel_rfl)) ?_
  refine wpS.ps [(2, 15, .bool false), (3, 16, .int .i64 a1)] (by kernel_rfl) ?_
  rcases of_if h with ⟨hc, h⟩ | ⟨hc, h⟩
  ·refine wpS.take 4 false (some 17) (.bool true) (by kernel_rfl) (yld_b (dt hc) (fun _ => by kernel_rfl)) ?_
   refine wpS.ps [(5, 18, .bool true), (6, 19, .bool true), (7, 20, undef), (8, 21, undef), (9, 22, .bool true), (10, 23, .bool true), (11, 24, undef), (12, 25, undef), (13, 26, .bool true), (14, 27, .bool true), (15, 28, undef), (16, 29, undef), (17, 30, undef), (18, 31, undef), (19, 32, undef), (20, 33, undef), (21, 34, .bool true)] (by kernel_rfl) ?_
   refine wpS.fin rfl (kr5 _ _ ?_)
   refine then_n (ks4 _ _ ?_)
   refine wp_cond_t (by kernel_rfl) ?_
   refine xseq_k fun KS8 ks8 => ?_
   refine wp_regS (l := [0, 1]) (by kernel_rfl) (by kernel_rfl) fun KR9 kr9 => ?_
   refine wpS.ps [(0, 6, .slice none 0 0), (1, 7, .bool false)] (by kernel_rfl) ?_
   refine wpS.fin rfl (kr9 _ _ ?_)
   refine then_n (ks8 _ _ ?_)
   refine xret ?_
   refine then_r ?_
   obtain ⟨q0, qr0⟩ := Prod.mk.inj (of_some h)
   have q1 := qr0
   subst q0
   subst q1
   have hs := hs.addNilL (CA .i32 256 (by decide)) 40
   exact qq _ _ (post_ret (by kernel_rfl) (run_results [.tmp 6, .tmp 7] [.slice none 0 0, .bool false] (by kernel_rfl) (.cons (res_tmp (by kernel_rfl)) (.cons (res_tmp (by kernel_rfl)) .nil))) ⟨⟨none, 0, 0⟩, congrArg Ending.returned (by kernel_rfl), (hs.pickR pick_nil)⟩)
  ·refine wpS.take 4 false (some 17) (.bool false) (by kernel_rfl) (yld_b (df hc) (fun _ => by kernel_rfl)) ?_
   refine wpS.ps [(5, 18, .bool false), (6, 19, .bool false), (7, 20, .int .i64 a2)] (by kernel_rfl) ?_
   rcases of_if h with ⟨hc, h⟩ | ⟨hc, h⟩
   ·refine wpS.take 8 false (some 21) (.bool true) (by kernel_rfl) (yld_b (dt hc) (fun _ => by kernel_rfl)) ?_
    refine wpS.ps [(9, 22, .bool true), (10, 23, .bool true), (11, 24, undef), (12, 25, undef), (13, 26, .bool true), (14, 27, .bool true), (15, 28, undef), (16, 29, undef), (17, 30, undef), (18, 31, undef), (19, 32, undef), (20, 33, undef), (21, 34, .bool true)] (by kernel_rfl) ?_
    refine wpS.fin rfl (kr5 _ _ ?_)
    refine then_n (ks4 _ _ ?_)
    refine wp_cond_t (by kernel_rfl) ?_
    refine xseq_k fun KS10 ks10 => ?_
    refine wp_regS (l := [0, 1]) (by kernel_rfl) (by kernel_rfl) fun KR11 kr11 => ?_
    refine wpS.ps [(0, 6, .slice none 0 0), (1, 7, .bool false)] (by kernel_rfl) ?_
    refine wpS.fin rfl (kr11 _ _ ?_)
    refine then_n (ks10 _ _ ?_)
    refine xret ?_
    refine then_r ?_
    obtain ⟨q0, qr0⟩ := Prod.mk.inj (of_some h)
    have q1 := qr0
    subst q0
    subst q1
    have hs := hs.addNilL (CA .i32 256 (by decide)) 40
    exact qq _ _ (post_ret (by kernel_rfl) (run_results [.tmp 6, .tmp 7] [.slice none 0 0, .bool false] (by kernel_rfl) (.cons (res_tmp (by kernel_rfl)) (.cons (res_tmp (by kernel_rfl)) .nil))) ⟨⟨none, 0, 0⟩, congrArg Ending.returned (by kernel_rfl), (hs.pickR pick_nil)⟩)
   ·refine wpS.take 8 false (some 21) (.bool false) (by kernel_rfl) (yld_b (df hc) (fun _ => by kernel_rfl)) ?_
    refine wpS.ps [(9, 22, .bool false), (10, 23, .bool false), (11, 24, .int .i64 a2)] (by kernel_rfl) ?_
    rcases of_if h with ⟨hc, h⟩ | ⟨hc, h⟩
    ·refine wpS.take 12 false (some 25) (.bool true) (by kernel_rfl) (yld_b (dt hc) (fun _ => by kernel_rfl)) ?_
     refine wpS.ps [(13, 26, .bool true), (14, 27, .bool true), (15, 28, undef), (16, 29, undef), (17, 30, undef), (18, 31, undef), (19, 32, undef), (20, 33, undef), (21, 34, .bool true)] (by kernel_rfl) ?_
     refine wpS.fin rfl (kr5 _ _ ?_)
     refine then_n (ks4 _ _ ?_)
     refine wp_cond_t (by kernel_rfl) ?_
     refine xseq_k fun KS12 ks12 => ?_
     refine wp_regS (l := [0, 1]) (by kernel_rfl) (by kernel_rfl) fun KR13 kr13 => ?_
     refine wpS.ps [(0, 6, .slice none 0 0), (1, 7, .bool false)] (by kernel_rfl) ?_
     refine wpS.fin rfl (kr13 _ _ ?_)
     refine then_n (ks12 _ _ ?_)
     refine xret ?_
     refine then_r ?_
     obtain ⟨q0, qr0⟩ := Prod.mk.inj (of_some h)
     have q1 := qr0
     subst q0
     subst q1
     have hs := hs.addNilL (CA .i32 256 (by decide)) 40
     exact qq _ _ (post_ret (by kernel_rfl) (run_results [.tmp 6, .tmp 7] [.slice none 0 0, .bool false] (by kernel_rfl) (.cons (res_tmp (by kernel_rfl)) (.cons (res_tmp (by kernel_rfl)) .nil))) ⟨⟨none, 0, 0⟩, congrArg Ending.returned (by kernel_rfl), (hs.pickR pick_nil)⟩)
    ·refine wpS.take 12 false (some 25) (.bool false) (by kernel_rfl) (yld_b (df hc) (fun _ => by kernel_rfl)) ?_
     refine wpS.ps [(13, 26, .bool false), (14, 27, .bool false), (15, 28, .slice a0_A a0_n a0_c)] (by kernel_rfl) ?_
     refine wpS.take 16 false (some 29) (.int .i64 (a0.length : Int)) (by kernel_rfl) (yld_lenL (hs.rowR 0 rfl) (fun _ => by kernel_rfl)) ?_
     refine wpS.ps [(17, 30, .int .i64 a1), (18, 31, .int .i64 a2), (19, 32, .int .i64 (iadd .i64 a1 a2))] (by kernel_rfl) ?_
     rcases of_if h with ⟨hc, h⟩ | ⟨hc, h⟩
     ·refine wpS.take 20 false (some 33) (.bool false) (by kernel_rfl) (yld_b (nf hc) (fun _ => by kernel_rfl)) ?_
      refine wpS.p 21 34 (.bool false) (by kernel_rfl) ?_
      refine wpS.fin rfl (kr5 _ _ ?_)
      refine then_n (ks4 _ _ ?_)
      refine wp_cond_f (by kernel_rfl) ?_
      refine xskip ?_
      refine then_n (ks3 _ _ ?_)
      refine xseq_k fun KS14 ks14 => ?_
      refine wp_regS (l := [0, 1, 2]) (by kernel_rfl) (by kernel_rfl) fun KR15 kr15 => ?_
      refine wpS.p 0 35 (.int .i64 a1) (by kernel_rfl) ?_
      obtain ⟨h0, h⟩ := of_chk h
      obtain ⟨h1, h⟩ := of_chk h
      refine wpS.only 1 (op_makeT (C := (CA .i32 256 (by decide))) (t := 25) (e := 40) (bytes := 1024) (B := 137438953472) (kl := .i64) (kc := .i64) (x := a1) (d := (some 36)) (by kernel_rfl) hs (by kernel_rfl) (by kernel_rfl) (by kernel_rfl) (by kernel_rfl) (by kernel_rfl) h0 h1 (by decide) (by decide) ?_)
      intro s1_A s1_n s1_c w gw hs
      refine ⟨fun _ => trivial, ?_⟩
      refine wpS.p 2 8 (.slice s1_A s1_n s1_c) (by kernel_rfl) ?_
      refine wpS.fin rfl (kr15 _ _ ?_)
      refine then_n (ks14 _ _ ?_)
      refine xseq_k fun KS16 ks16 => ?_
      refine wp_regS (l := [0]) (by kernel_rfl) (by kernel_rfl) fun KR17 kr17 => ?_
      refine wpS.p 0 9 (.int .i64 0) (by kernel_rfl) ?_
      refine wpS.fin rfl (kr17 _ _ ?_)
      refine then_n (ks16 _ _ ?_)
      refine xseq_k fun KS18 ks18 => ?_
      refine xseq_k fun KS19 ks19 => ?_
      refine wp_regS (l := [0, 1, 2]) (by kernel_rfl) (by kernel_rfl) fun KR20 kr20 => ?_
      refine wpS.p 0 37 (.slice s1_A s1_n s1_c) (by kernel_rfl) ?_
      refine wpS.take 1 false (some 38) (.int .i64 ((List.replicate (a1 : Int).toNat (Cod.zero (CA .i32 256 (by decide)))).length : Int)) (by kernel_rfl) (yld_lenL (hs.rowL 0 rfl) (fun _ => by kernel_rfl)) ?_
      refine wpS.p 2 39 (.int .i64 0) (by kernel_rfl) ?_
      refine wpS.fin rfl (kr20 _ _ ?_)
      refine then_n (ks19 _ _ ?_)
      obtain ⟨t0, hy, hk0⟩ := of_bind h
      refine wp_exq (N := fun a w => ∃ y5 y6, t0 = .inl (y5, y6) ∧ St w0 [] [.ownL (CA .i32 256 (by decide)) s1_A s1_n s1_c y6 40] [.rowL (CI .u8) a0_A a0_n a0_c a0] w ∧ ∃ g : Nat → Value, a = ⟨#[.slice a0_A a0_n a0_c, .int .i64 a1, .int .i64 a2, undef, undef, undef, (g 6), (g 7), .slice s1_A s1_n s1_c, .int .i64 y5, (g 10), (g 11), (g 12), .int .i64 a1, .bool false, .bool false, .int .i64 a1, .bool false, .bool false, .bool false, .int .i64 a2, .bool false, .bool false, .bool false, .int .i64 a2, .bool false, .bool false, .bool false, .slice a0_A a0_n a0_c, .int .i64 (a0.length : Int), .int .i64 a1, .int .i64 a2, .int .i64 (iadd .i64 a1 a2), .bool false, .bool false, .int .i64 a1, .slice s1_A s1_n s1_c, .slice s1_A s1_n s1_c, .int .i64 ((List.replicate (a1 : Int).toNat (Cod.zero (CA .i32 256 (by decide)))).length : Int), (g 39), (g 40), (g 41), (g 42), (g 43), (g 44), (g 45), (g 46), (g 47), (g 48), (g 49), (g 50), (g 51), (g 52), (g 53), (g 54), (g 55), (g 56), (g 57), (g 58), (g 59), (g 60), (g 61), (g 62), (g 63), (g 64), (g 65), (g 66), (g 67), (g 68), (g 69), (g 70), (g 71), (g 72), (g 73), (g 74), (g 75), (g 76), (g 77), (g 78), (g 79), (g 80), (g 81), (g 82), (g 83), (g 84), (g 85), (g 86), undef, undef, undef, undef, undef, undef], []⟩) (fun N0 nn0 => ?_) ?_
      ·refine xblock ?_
       refine wp_loop_k (fun n a w => ∃ z2 z3 z4, dpack_Unhints.l0 K n a0 a1 a2 z2 z3 z4 = some t0 ∧ St w0 [] [.ownL (CA .i32 256 (by decide)) s1_A s1_n s1_c z4 40] [.rowL (CI .u8) a0_A a0_n a0_c a0] w ∧ ∃ g : Nat → Value, a = ⟨#[.slice a0_A a0_n a0_c, .int .i64 a1, .int .i64 a2, undef, undef, undef, (g 6), (g 7), .slice s1_A s1_n s1_c, .int .i64 z2, (g 10), (g 11), (g 12), .int .i64 a1, .bool false, .bool false, .int .i64 a1, .bool false, .bool false, .bool false, .int .i64 a2, .bool false, .bool false, .bool false, .int .i64 a2, .bool false, .bool false, .bool false, .slice a0_A a0_n a0_c, .int .i64 (a0.length : Int), .int .i64 a1, .int .i64 a2, .int .i64 (iadd .i64 a1 a2), .bool false, .bool false, .int .i64 a1, .slice s1_A s1_n s1_c, .slice s1_A s1_n s1_c, .int .i64 ((List.replicate (a1 : Int).toNat (Cod.zero (CA .i32 256 (by decide)))).length : Int), .int .i64 z3, (g 40), (g 41), (g 42), (g 43), (g 44), (g 45), (g 46), (g 47), (g 48), (g 49), (g 50), (g 51), (g 52), (g 53), (g 54), (g 55), (g 56), (g 57), (g 58), (g 59), (g 60), (g 61), (g 62), (g 63), (g 64), (g 65), (g 66), (g 67), (g 68), (g 69), (g 70), (g 71), (g 72), (g 73), (g 74), (g 75), (g 76), (g 77), (g 78), (g 79), (g 80), (g 81), (g 82), (g 83), (g 84), (g 85), (g 86), undef, undef, undef, undef, undef, undef], []⟩) K ⟨0, 0, (List.replicate (a1 : Int).toNat (Cod.zero (CA .i32 256 (by decide)))), hy, hs.conv rfl, exg (by kernel_rfl)⟩ ?_
       clear hs h hy
       rintro n a w ⟨z2, z3, z4, h, hs, g, rfl⟩ KL0 kl0
       cases n with
       | zero => exact nomatch (show none = some _ from h)
       | succ n =>
        refine xseq_k fun KS21 ks21 => ?_
        refine wp_regS (l := [0]) (by kernel_rfl) (by kernel_rfl) fun KR22 kr22 => ?_
        rcases of_if h with ⟨hc, h⟩ | ⟨hc, h⟩
        ·refine wpS.take 0 false (some 40) (.bool true) (by kernel_rfl) (yld_b (dt hc) (fun _ => by kernel_rfl)) ?_
         refine wpS.fin rfl (kr22 _ _ ?_)
         refine then_n (ks21 _ _ ?_)
         refine xseq_k fun KS23 ks23 => ?_
         refine wp_cond_t (by kernel_rfl) ?_
         refine xskip ?_
         refine then_n (ks23 _ _ ?_)
         refine xseq_k fun KS24 ks24 => ?_
         refine xblock ?_
         refine xseq_k fun KS25 ks25 => ?_
         refine wp_regS (l := [0, 1]) (by kernel_rfl) (by kernel_rfl) fun KR26 kr26 => ?_
         refine wpS.ps [(0, 41, .int .i64 z3), (1, 10, .int .i64 z3)] (by kernel_rfl) ?_
         refine wpS.fin rfl (kr26 _ _ ?_)
         refine then_n (ks25 _ _ ?_)
         refine xseq_k fun KS27 ks27 => ?_
         refine wp_regS (l := [0, 1, 2, 3, 4, 5, 6, 7]) (by kernel_rfl) (by kernel_rfl) fun KR28 kr28 => ?_
         refine wpS.ps [(0, 42, .slice a0_A a0_n a0_c), (1, 43, .int .i64 a2), (2, 44, .int .i64 z3), (3, 45, .int .i64 (iadd .i64 a2 z3))] (by kernel_rfl) ?_
         obtain ⟨x7, hx, h⟩ := of_bind h
         have hx := of_some hx
         subst hx
         obtain ⟨h0, h⟩ := of_chk h
         obtain ⟨h1, h⟩ := of_chk h
         have i0_29 := h0
         have i1_29 := h1
         refine wpS.take 4 false (some 46) (.pointer (adr a0_A (((iadd .i64 a2 z3) : Int).toNat * Cod.size (CI .u8)))) (by kernel_rfl) (yld_idxL (C := (CI .u8)) (t := 24) (e := 5) (k := .i64) (x := (iadd .i64 a2 z3)) (hs.rowR 0 rfl) (by kernel_rfl) (by kernel_rfl) (by kernel_rfl) h0 h1) ?_
         refine wpS.take 5 true (some 47) (.int .u8 (rdL (CI .u8) a0 (iadd .i64 a2 z3))) (by kernel_rfl) (yld_loadL (C := (CI .u8)) (e := 5) (x := (iadd .i64 a2 z3)) (hs.rowR 0 rfl) (by kernel_rfl) rfl (by kernel_rfl) i0_29 i1_29) ?_
         refine wpS.p 6 48 (.int .i64 (iconv .i64 (rdL (CI .u8) a0 (iadd .i64 a2 z3)))) (by kernel_rfl) ?_
         obtain ⟨x8, hx, h⟩ := of_bind h
         refine wpS.take 7 false (some 11) (.int .i64 x8) (by kernel_rfl) (yld_int hx (fun _ => by kernel_rfl)) ?_
         refine wpS.fin rfl (kr28 _ _ ?_)
         refine then_n (ks27 _ _ ?_)
         refine xseq_k fun KS30 ks30 => ?_
         refine xseq_k fun KS31 ks31 => ?_
         refine wp_regS (l := [0, 1, 2, 3, 4, 5, 6, 7]) (by kernel_rfl) (by kernel_rfl) fun KR32 kr32 => ?_
         refine wpS.ps [(0, 49, .int .i64 x8), (1, 50, .int .i64 z2)] (by kernel_rfl) ?_
         rcases of_if h with ⟨hc, h⟩ | ⟨hc, h⟩
         ·refine wpS.take 2 false (some 51) (.bool true) (by kernel_rfl) (yld_b (dt hc) (fun _ => by kernel_rfl)) ?_
          refine wpS.ps [(3, 52, .bool true), (4, 53, undef), (5, 54, undef), (6, 55, undef), (7, 56, .bool true)] (by kernel_rfl) ?_
          refine wpS.fin rfl (kr32 _ _ ?_)
          refine then_n (ks31 _ _ ?_)
          refine wp_cond_t (by kernel_rfl) ?_
          refine xseq_k fun KS33 ks33 => ?_
          refine wp_regS (l := [0, 1]) (by kernel_rfl) (by kernel_rfl) fun KR34 kr34 => ?_
          refine wpS.ps [(0, 6, .slice none 0 0), (1, 7, .bool false)] (by kernel_rfl) ?_
          refine wpS.fin rfl (kr34 _ _ ?_)
          refine then_n (ks33 _ _ ?_)
          refine xret ?_
          refine then_r ?_
          refine inBlock_r ?_
          refine then_r ?_
          refine then_r ?_
          refine inBlock_r ?_
          refine exq_r ?_
          refine then_r ?_
          have q0 := of_some h
          subst q0
          obtain ⟨q0, qr0⟩ := Prod.mk.inj (of_some hk0)
          have q1 := qr0
          subst q0
          subst q1
          have hs := hs.addNilL (CA .i32 256 (by decide)) 40
          exact qq _ _ (post_ret (by kernel_rfl) (run_results [.tmp 6, .tmp 7] [.slice none 0 0, .bool false] (by kernel_rfl) (.cons (res_tmp (by kernel_rfl)) (.cons (res_tmp (by kernel_rfl)) .nil))) ⟨⟨none, 0, 0⟩, congrArg Ending.returned (by kernel_rfl), ((hs.drop (.cons_cons _ (.cons _ .slnil))).pickR pick_nil)⟩)
         ·refine wpS.take 2 false (some 51) (.bool false) (by kernel_rfl) (yld_b (df hc) (fun _ => by kernel_rfl)) ?_
          refine wpS.ps [(3, 52, .bool false), (4, 53, .int .i64 x8), (5, 54, .int .i64 a2)] (by kernel_rfl) ?_
          rcases of_if h with ⟨hc, h⟩ | ⟨hc, h⟩
          ·refine wpS.take 6 false (some 55) (.bool true) (by kernel_rfl) (yld_b (dt hc) (fun _ => by kernel_rfl)) ?_
           refine wpS.p 7 56 (.bool true) (by kernel_rfl) ?_
           refine wpS.fin rfl (kr32 _ _ ?_)
           refine then_n (ks31 _ _ ?_)
           refine wp_cond_t (by kernel_rfl) ?_
           refine xseq_k fun KS35 ks35 => ?_
           refine wp_regS (l := [0, 1]) (by kernel_rfl) (by kernel_rfl) fun KR36 kr36 => ?_
           refine wpS.ps [(0, 6, .slice none 0 0), (1, 7, .bool false)] (by kernel_rfl) ?_
           refine wpS.fin rfl (kr36 _ _ ?_)
           refine then_n (ks35 _ _ ?_)
           refine xret ?_
           refine then_r ?_
           refine inBlock_r ?_
           refine then_r ?_
           refine then_r ?_
           refine inBlock_r ?_
           refine exq_r ?_
           refine then_r ?_
           have q0 := of_some h
           subst q0
           obtain ⟨q0, qr0⟩ := Prod.mk.inj (of_some hk0)
           have q1 := qr0
           subst q0
           subst q1
           have hs := hs.addNilL (CA .i32 256 (by decide)) 40
           exact qq _ _ (post_ret (by kernel_rfl) (run_results [.tmp 6, .tmp 7] [.slice none 0 0, .bool false] (by kernel_rfl) (.cons (res_tmp (by kernel_rfl)) (.cons (res_tmp (by kernel_rfl)) .nil))) ⟨⟨none, 0, 0⟩, congrArg Ending.returned (by kernel_rfl), ((hs.drop (.cons_cons _ (.cons _ .slnil))).pickR pick_nil)⟩)
          ·refine wpS.take 6 false (some 55) (.bool false) (by kernel_rfl) (yld_b (df hc) (fun _ => by kernel_rfl)) ?_
           refine wpS.p 7 56 (.bool false) (by kernel_rfl) ?_
           refine wpS.fin rfl (kr32 _ _ ?_)
           refine then_n (ks31 _ _ ?_)
           refine wp_cond_f (by kernel_rfl) ?_
           refine xskip ?_
           refine then_n (ks30 _ _ ?_)
           refine xseq_k fun KS37 ks37 => ?_
           refine wp_regS (l := [0, 1]) (by kernel_rfl) (by kernel_rfl) fun KR38 kr38 => ?_
           refine wpS.ps [(0, 57, .int .i64 z2), (1, 12, .int .i64 z2)] (by kernel_rfl) ?_
           refine wpS.fin rfl (kr38 _ _ ?_)
           refine then_n (ks37 _ _ ?_)
           obtain ⟨t1, hy, hk1⟩ := of_bind h
           refine wp_exq (N := fun a w => ∃ y11 y12, t1 = .inl (y11, y12) ∧ St w0 [] [.ownL (CA .i32 256 (by decide)) s1_A s1_n s1_c y12 40] [.rowL (CI .u8) a0_A a0_n a0_c a0] w ∧ ∃ g : Nat → Value, a = ⟨#[.slice a0_A a0_n a0_c, .int .i64 a1, .int .i64 a2, undef, undef, undef, (g 6), (g 7), .slice s1_A s1_n s1_c, .int .i64 y11, .int .i64 z3, .int .i64 x8, .int .i64 z2, .int .i64 a1, .bool false, .bool false, .int .i64 a1, .bool false, .bool false, .bool false, .int .i64 a2, .bool false, .bool false, .bool false, .int .i64 a2, .bool false, .bool false, .bool false, .slice a0_A a0_n a0_c, .int .i64 (a0.length : Int), .int .i64 a1, .int .i64 a2, .int .i64 (iadd .i64 a1 a2), .bool false, .bool false, .int .i64 a1, .slice s1_A s1_n s1_c, .slice s1_A s1_n s1_c, .int .i64 ((List.replicate (a1 : Int).toNat (Cod.zero (CA .i32 256 (by decide)))).length : Int), .int .i64 z3, .bool true, .int .i64 z3, .slice a0_A a0_n a0_c, .int .i64 a2, .int .i64 z3, .int .i64 (iadd .i64 a2 z3), .pointer (adr a0_A (((iadd .i64 a2 z3) : Int).toNat * Cod.size (CI .u8))), .int .u8 (rdL (CI .u8) a0 (iadd .i64 a2 z3)), .int .i64 (iconv .i64 (rdL (CI .u8) a0 (iadd .i64 a2 z3))), .int .i64 x8, .int .i64 z2, .bool false, .bool false, .int .i64 x8, .int .i64 a2, .bool false, .bool false, .int .i64 z2, (g 58), (g 59), (g 60), (g 61), (g 62), (g 63), (g 64), (g 65), (g 66), (g 67), (g 68), (g 69), (g 70), (g 71), (g 72), (g 73), (g 74), (g 75), (g 76), (g 77), (g 78), (g 79), (g 80), (g 81), (g 82), (g 83), (g 84), (g 85), (g 86), undef, undef, undef, undef, undef, undef], []⟩) (fun N1 nn1 => ?_) ?_
           ·refine xblock ?_
            refine wp_loop_k (fun n a w => ∃ z9 z10, dpack_Unhints.l1 K n a0 z2 z3 x8 z9 z10 = some t1 ∧ St w0 [] [.ownL (CA .i32 256 (by decide)) s1_A s1_n s1_c z10 40] [.rowL (CI .u8) a0_A a0_n a0_c a0] w ∧ ∃ g : Nat → Value, a = ⟨#[.slice a0_A a0_n a0_c, .int .i64 a1, .int .i64 a2, undef, undef, undef, (g 6), (g 7), .slice s1_A s1_n s1_c, .int .i64 z9, .int .i64 z3, .int .i64 x8, .int .i64 z2, .int .i64 a1, .bool false, .bool false, .int .i64 a1, .bool false, .bool false, .bool false, .int .i64 a2, .bool false, .bool false, .bool false, .int .i64 a2, .bool false, .bool false, .bool false, .slice a0_A a0_n a0_c, .int .i64 (a0.length : Int), .int .i64 a1, .int .i64 a2, .int .i64 (iadd .i64 a1 a2), .bool false, .bool false, .int .i64 a1, .slice s1_A s1_n s1_c, .slice s1_A s1_n s1_c, .int .i64 ((List.replicate (a1 : Int).toNat (Cod.zero (CA .i32 256 (by decide)))).length : Int), .int .i64 z3, .bool true, .int .i64 z3, .slice a0_A a0_n a0_c, .int .i64 a2, .int .i64 z3, .int .i64 (iadd .i64 a2 z3), .pointer (adr a0_A (((iadd .i64 a2 z3) : Int).toNat * Cod.size (CI .u8))), .int .u8 (rdL (CI .u8) a0 (iadd .i64 a2 z3)), .int .i64 (iconv .i64 (rdL (CI .u8) a0 (iadd .i64 a2 z3))), .int .i64 x8, .int .i64 z2, .bool false, .bool false, .int .i64 x8, .int .i64 a2, .bool false, .bool false, .int .i64 z2, (g 58), (g 59), (g 60), (g 61), (g 62), (g 63), (g 64), (g 65), (g 66), (g 67), (g 68), (g 69), (g 70), (g 71), (g 72), (g 73), (g 74), (g 75), (g 76), (g 77), (g 78), (g 79), (g 80), (g 81), (g 82), (g 83), (g 84), (g 85), (g 86), undef, undef, undef, undef, undef, undef], []⟩) K ⟨z2, z4, hy, hs.conv rfl, exg (by kernel_rfl)⟩ ?_
            clear hs h hy
            rintro n a w ⟨z9, z10, h, hs, g, rfl⟩ KL1 kl1
            cases n with
            | zero => exact nomatch (show none = some _ from h)
            | succ n =>
             refine xseq_k fun KS39 ks39 => ?_
             refine xseq_k fun KS40 ks40 => ?_
             refine wp_regS (l := [0, 1, 2]) (by kernel_rfl) (by kernel_rfl) fun KR41 kr41 => ?_
             refine wpS.ps [(0, 58, .int .i64 z9), (1, 59, .int .i64 x8)] (by kernel_rfl) ?_
             rcases of_if h with ⟨hc, h⟩ | ⟨hc, h⟩
             ·refine wpS.take 2 false (some 60) (.bool true) (by kernel_rfl) (yld_b (dt hc) (fun _ => by kernel_rfl)) ?_
              refine wpS.fin rfl (kr41 _ _ ?_)
              refine then_n (ks40 _ _ ?_)
              refine wp_cond_t (by kernel_rfl) ?_
              refine xskip ?_
              refine then_n (ks39 _ _ ?_)
              refine xseq_k fun KS42 ks42 => ?_
              refine xblock ?_
              obtain ⟨tv43, hj, hk_43⟩ := of_bind h
              refine xseq_k fun KS43 ks43 => wp_exj (N := fun a w => tv43 = .inl () ∧ St w0 [] [.ownL (CA .i32 256 (by decide)) s1_A s1_n s1_c z10 40] [.rowL (CI .u8) a0_A a0_n a0_c a0] w ∧ ∃ g : Nat → Value, a = ⟨#[.slice a0_A a0_n a0_c, .int .i64 a1, .int .i64 a2, undef, undef, undef, (g 6), (g 7), .slice s1_A s1_n s1_c, .int .i64 z9, .int .i64 z3, .int .i64 x8, .int .i64 z2, .int .i64 a1, .bool false, .bool false, .int .i64 a1, .bool false, .bool false, .bool false, .int .i64 a2, .bool false, .bool false, .bool false, .int .i64 a2, .bool false, .bool false, .bool false, .slice a0_A a0_n a0_c, .int .i64 (a0.length : Int), .int .i64 a1, .int .i64 a2, .int .i64 (iadd .i64 a1 a2), .bool false, .bool false, .int .i64 a1, .slice s1_A s1_n s1_c, .slice s1_A s1_n s1_c, .int .i64 ((List.replicate (a1 : Int).toNat (Cod.zero (CA .i32 256 (by decide)))).length : Int), .int .i64 z3, .bool true, .int .i64 z3, .slice a0_A a0_n a0_c, .int .i64 a2, .int .i64 z3, .int .i64 (iadd .i64 a2 z3), .pointer (adr a0_A (((iadd .i64 a2 z3) : Int).toNat * Cod.size (CI .u8))), .int .u8 (rdL (CI .u8) a0 (iadd .i64 a2 z3)), .int .i64 (iconv .i64 (rdL (CI .u8) a0 (iadd .i64 a2 z3))), .int .i64 x8, .int .i64 z2, .bool false, .bool false, .int .i64 x8, .int .i64 a2, .bool false, .bool false, .int .i64 z2, .int .i64 z9, .int .i64 x8, .bool true, (g 61), (g 62), (g 63), (g 64), (g 65), (g 66), (g 67), (g 68), (g 69), (g 70), (g 71), (g 72), (g 73), (g 74), (g 75), (g 76), (g 77), (g 78), (g 79), (g 80), (g 81), (g 82), (g 83), (g 84), (g 85), (g 86), undef, undef, undef, undef, undef, undef], []⟩) (fun N nj => ?_) ?_
              ·clear h
               have h := hj
               refine xseq_k fun KS44 ks44 => ?_
               refine wp_regG [] (fun k => True) 15 (by kernel_rfl) (by kernel_rfl) (by kernel_rfl) fun KR45 kr45 => ?_
               have hs := hs.drawn1
               refine wpG.takeD 0 false (some 63) (.int .i64 z9) (by kernel_rfl) (by kernel_rfl) (yld fun _ => by kernel_rfl) ?_
               refine wpG.takeD 1 false (some 64) (.int .i64 z2) (by kernel_rfl) (by kernel_rfl) (yld fun _ => by kernel_rfl) ?_
               rcases of_if h with ⟨hc, h⟩ | ⟨hc, h⟩
               ·refine wpG.takeD 2 false (some 65) (.bool true) (by kernel_rfl) (by kernel_rfl) (yld_b (dt hc) (fun _ => by kernel_rfl)) ?_
                refine wpG.p 3 66 (.bool true) (by kernel_rfl) (by kernel_rfl) ?_
                refine wpG.takeD 4 false (some 67) (.slice a0_A a0_n a0_c) (by kernel_rfl) (by kernel_rfl) (yld fun _ => by kernel_rfl) ?_
                refine wpG.takeD 5 false (some 68) (.int .i64 z9) (by kernel_rfl) (by kernel_rfl) (yld fun _ => by kernel_rfl) ?_
                obtain ⟨h0, h⟩ := of_chk h
                obtain ⟨h1, h⟩ := of_chk h
                have i0_46 := h0
                have i1_46 := h1
                refine wpG.takeD 6 false (some 69) (.pointer (adr a0_A ((z9 : Int).toNat * Cod.size (CI .u8)))) (by kernel_rfl) (by kernel_rfl) (yld_idxL (C := (CI .u8)) (t := 24) (e := 5) (k := .i64) (x := z9) (hs.rowR 0 rfl) (by kernel_rfl) (by kernel_rfl) (by kernel_rfl) h0 h1) ?_
                refine wpG.takeD 7 true (some 70) (.int .u8 (rdL (CI .u8) a0 z9)) (by kernel_rfl) (by kernel_rfl) (yld_loadL (C := (CI .u8)) (e := 5) (x := z9) (hs.rowR 0 rfl) (by kernel_rfl) rfl (by kernel_rfl) i0_46 i1_46) ?_
                refine wpG.takeD 8 false (some 71) (.slice a0_A a0_n a0_c) (by kernel_rfl) (by kernel_rfl) (yld fun _ => by kernel_rfl) ?_
                refine wpG.takeD 9 false (some 72) (.int .i64 z9) (by kernel_rfl) (by kernel_rfl) (yld fun _ => by kernel_rfl) ?_
                refine wpG.takeD 10 false (some 73) (.int .i64 (isub .i64 z9 1)) (by kernel_rfl) (by kernel_rfl) (yld fun _ => by kernel_rfl) ?_
                obtain ⟨x13, hx, h⟩ := of_bind h
                have hx := of_some hx
                subst hx
                obtain ⟨h0, h⟩ := of_chk h
                obtain ⟨h1, h⟩ := of_chk h
                have i0_47 := h0
                have i1_47 := h1
                refine wpG.takeD 11 false (some 74) (.pointer (adr a0_A (((isub .i64 z9 1) : Int).toNat * Cod.size (CI .u8)))) (by kernel_rfl) (by kernel_rfl) (yld_idxL (C := (CI .u8)) (t := 24) (e := 5) (k := .i64) (x := (isub .i64 z9 1)) (hs.rowR 0 rfl) (by kernel_rfl) (by kernel_rfl) (by kernel_rfl) h0 h1) ?_
                refine wpG.takeD 12 true (some 75) (.int .u8 (rdL (CI .u8) a0 (isub .i64 z9 1))) (by kernel_rfl) (by kernel_rfl) (yld_loadL (C := (CI .u8)) (e := 5) (x := (isub .i64 z9 1)) (hs.rowR 0 rfl) (by kernel_rfl) rfl (by kernel_rfl) i0_47 i1_47) ?_
                rcases of_if h with ⟨hc, h⟩ | ⟨hc, h⟩
                ·refine wpG.takeD 13 false (some 76) (.bool true) (by kernel_rfl) (by kernel_rfl) (yld_b (dt hc) (fun _ => by kernel_rfl)) ?_
                 refine wpG.p 14 77 (.bool true) (by kernel_rfl) (by kernel_rfl) ?_
                 refine wpG.fin (by kernel_rfl) rfl (kr45 _ _ ?_)
                 refine then_n (ks44 _ _ ?_)
                 refine wp_cond_t (by kernel_rfl) ?_
                 refine xseq_k fun KS48 ks48 => ?_
                 refine wp_regS (l := [0, 1]) (by kernel_rfl) (by kernel_rfl) fun KR49 kr49 => ?_
                 refine wpS.ps [(0, 6, .slice none 0 0), (1, 7, .bool false)] (by kernel_rfl) ?_
                 refine wpS.fin rfl (kr49 _ _ ?_)
                 refine then_n (ks48 _ _ ?_)
                 refine xret ?_
                 have q0 := of_some h
                 subst q0
                 have h := hk_43
                 refine exj_r ?_
                 refine then_r ?_
                 refine inBlock_r ?_
                 refine then_r ?_
                 refine then_r ?_
                 refine inBlock_r ?_
                 refine exq_r ?_
                 refine inBlock_r ?_
                 refine then_r ?_
                 refine then_r ?_
                 refine inBlock_r ?_
                 refine exq_r ?_
                 refine then_r ?_
                 have q0 := of_some h
                 subst q0
                 have q0 := of_some hk1
                 subst q0
                 obtain ⟨q0, qr0⟩ := Prod.mk.inj (of_some hk0)
                 have q1 := qr0
                 subst q0
                 subst q1
                 have hs := hs.addNilL (CA .i32 256 (by decide)) 40
                 exact qq _ _ (post_ret (by kernel_rfl) (run_results [.tmp 6, .tmp 7] [.slice none 0 0, .bool false] (by kernel_rfl) (.cons (res_tmp (by kernel_rfl)) (.cons (res_tmp (by kernel_rfl)) .nil))) ⟨⟨none, 0, 0⟩, congrArg Ending.returned (by kernel_rfl), ((hs.drop (.cons_cons _ (.cons _ .slnil))).pickR pick_nil)⟩)
                ·refine wpG.takeD 13 false (some 76) (.bool false) (by kernel_rfl) (by kernel_rfl) (yld_b (df hc) (fun _ => by kernel_rfl)) ?_
                 refine wpG.p 14 77 (.bool false) (by kernel_rfl) (by kernel_rfl) ?_
                 refine wpG.fin (by kernel_rfl) rfl (kr45 _ _ ?_)
                 refine then_n (ks44 _ _ ?_)
                 refine wp_cond_f (by kernel_rfl) ?_
                 refine xskip ?_
                 have q0 := of_some h
                 subst q0
                 exact exj_n (nj _ _ ⟨rfl, (hs.conv rfl), exg (by kernel_rfl)⟩)
               ·refine wpG.takeD 2 false (some 65) (.bool false) (by kernel_rfl) (by kernel_rfl) (yld_b (df hc) (fun _ => by kernel_rfl)) ?_
                refine wpG.p 3 66 (.bool false) (by kernel_rfl) (by kernel_rfl) ?_
                refine wpG.takeD 4 false (some 67) (undef) (by kernel_rfl) (by kernel_rfl) (yld fun _ => by kernel_rfl) ?_
                refine wpG.takeD 5 false (some 68) (undef) (by kernel_rfl) (by kernel_rfl) (yld fun _ => by kernel_rfl) ?_
                refine wpG.takeD 6 false (some 69) (undef) (by kernel_rfl) (by kernel_rfl) (yld fun _ => by kernel_rfl) ?_
                refine wpG.takeD 7 false (some 70) (undef) (by kernel_rfl) (by kernel_rfl) (yld fun _ => by kernel_rfl) ?_
                refine wpG.takeD 8 false (some 71) (undef) (by kernel_rfl) (by kernel_rfl) (yld fun _ => by kernel_rfl) ?_
                refine wpG.takeD 9 false (some 72) (undef) (by kernel_rfl) (by kernel_rfl) (yld fun _ => by kernel_rfl) ?_
                refine wpG.takeD 10 false (some 73) (undef) (by kernel_rfl) (by kernel_rfl) (yld fun _ => by kernel_rfl) ?_
                refine wpG.takeD 11 false (some 74) (undef) (by kernel_rfl) (by kernel_rfl) (yld fun _ => by kernel_rfl) ?_
                refine wpG.takeD 12 false (some 75) (undef) (by kernel_rfl) (by kernel_rfl) (yld fun _ => by kernel_rfl) ?_
                refine wpG.p 13 76 (undef) (by kernel_rfl) (by kernel_rfl) ?_
                refine wpG.p 14 77 (.bool false) (by kernel_rfl) (by kernel_rfl) ?_
                refine wpG.fin (by kernel_rfl) rfl (kr45 _ _ ?_)
                refine then_n (ks44 _ _ ?_)
                refine wp_cond_f (by kernel_rfl) ?_
                refine xskip ?_
                have q0 := of_some h
                subst q0
                exact exj_n (nj _ _ ⟨rfl, (hs.conv rfl), exg (by kernel_rfl)⟩)
              ·clear hj hs
               rintro a w ⟨rfl, hs, g, rfl⟩
               have h := hk_43
               refine then_n (ks43 _ _ ?_)
               refine wp_regG [8] (fun k => True) 9 (by kernel_rfl) (by kernel_rfl) (by kernel_rfl) fun KR50 kr50 => ?_
               have hs := hs.drawn1
               refine wpG.p 0 78 (.slice s1_A s1_n s1_c) (by kernel_rfl) (by kernel_rfl) ?_
               refine wpG.p 1 79 (.int .i64 z3) (by kernel_rfl) (by kernel_rfl) ?_
               refine wpG.takeD 2 false (some 80) (.slice a0_A a0_n a0_c) (by kernel_rfl) (by kernel_rfl) (yld fun _ => by kernel_rfl) ?_
               refine wpG.takeD 3 false (some 81) (.int .i64 z9) (by kernel_rfl) (by kernel_rfl) (yld fun _ => by kernel_rfl) ?_
               obtain ⟨h0, h⟩ := of_chk h
               obtain ⟨h1, h⟩ := of_chk h
               have i0_51 := h0
               have i1_51 := h1
               refine wpG.takeD 4 false (some 82) (.pointer (adr a0_A ((z9 : Int).toNat * Cod.size (CI .u8)))) (by kernel_rfl) (by kernel_rfl) (yld_idxL (C := (CI .u8)) (t := 24) (e := 5) (k := .i64) (x := z9) (hs.rowR 0 rfl) (by kernel_rfl) (by kernel_rfl) (by kernel_rfl) h0 h1) ?_
               refine wpG.takeD 5 true (some 83) (.int .u8 (rdL (CI .u8) a0 z9)) (by kernel_rfl) (by kernel_rfl) (yld_loadL (C := (CI .u8)) (e := 5) (x := z9) (hs.rowR 0 rfl) (by kernel_rfl) rfl (by kernel_rfl) i0_51 i1_51) ?_
               obtain ⟨h0, h⟩ := of_chk h
               obtain ⟨h1, h⟩ := of_chk h
               have i0_52 := h0
               have i1_52 := h1
               refine wpG.takeD 6 false (some 84) (.pointer (adr s1_A ((z3 : Int).toNat * Cod.size (CA .i32 256 (by decide))))) (by kernel_rfl) (by kernel_rfl) (yld_idxL (C := (CA .i32 256 (by decide))) (t := 25) (e := 40) (k := .i64) (x := z3) (hs.rowL 0 rfl) (by kernel_rfl) (by kernel_rfl) (by kernel_rfl) h0 h1) ?_
               obtain ⟨x14, hx, h⟩ := of_bind h
               have hx := of_some hx
               subst hx
               obtain ⟨h0, h⟩ := of_chk h
               obtain ⟨h1, h⟩ := of_chk h
               have j0_53 := h0
               have j1_53 := h1
               refine wpG.takeD 7 false (some 85) (.pointer (adr s1_A ((z3 : Int).toNat * Cod.size (CA .i32 256 (by decide)) + ((rdL (CI .u8) a0 z9) : Int).toNat * 1))) (by kernel_rfl) (by kernel_rfl) (yld_idxLA (t := 40) (e := 21) (k' := .u8) (x := z3) (y := (rdL (CI .u8) a0 z9)) (hs.rowL 0 rfl) (by kernel_rfl) (by kernel_rfl) (by kernel_rfl) i0_52 i1_52 h0 h1) ?_
               refine wpG.only 8 (by kernel_rfl) (op_storeLE (t := 21) (x := z3) (y := (rdL (CI .u8) a0 z9)) (v := 1) (d := none) (by kernel_rfl) hs 0 rfl (by kernel_rfl) (by kernel_rfl) i0_52 i1_52 j0_53 j1_53 ?_)
               intro w hs
               refine ⟨⟨fun hf => absurd hf (by decide), .all _ _⟩, ?_⟩
               refine wpG.fin (by kernel_rfl) rfl (kr50 _ _ ?_)
               refine inBlock_n ?_
               refine then_n (ks42 _ _ ?_)
               refine wp_regS (l := [0, 1, 2]) (by kernel_rfl) (by kernel_rfl) fun KR54 kr54 => ?_
               refine wpS.ps [(0, 61, .int .i64 z9), (1, 62, .int .i64 (iadd .i64 z9 1))] (by kernel_rfl) ?_
               obtain ⟨x15, hx, h⟩ := of_bind h
               refine wpS.take 2 false (some 9) (.int .i64 x15) (by kernel_rfl) (yld_int hx (fun _ => by kernel_rfl)) ?_
               refine wpS.fin rfl (kr54 _ _ ?_)
               exact then_n (kl1 _ _ ⟨n, Nat.lt_succ_self n, x15, (wrL z10 z3 (wr (rdL (CA .i32 256 (by decide)) z10 z3) (rdL (CI .u8) a0 z9) 1)), h, (hs.conv rfl), exg (by kernel_rfl)⟩)
             ·refine wpS.take 2 false (some 60) (.bool false) (by kernel_rfl) (yld_b (df hc) (fun _ => by kernel_rfl)) ?_
              refine wpS.fin rfl (kr41 _ _ ?_)
              refine then_n (ks40 _ _ ?_)
              refine wp_cond_f (by kernel_rfl) ?_
              refine xexit ?_
              refine then_x ?_
              refine then_x ?_
              refine inBlock_hit ?_
              have q0 := of_some h
              subst q0
              exact exq_n (nn1 _ _ ⟨z9, z10, rfl, (hs.conv rfl), exg (by kernel_rfl)⟩)
           ·clear hs h hy
            rintro a w ⟨y11, y12, rfl, hs, g, rfl⟩
            have h := hk1
            refine inBlock_n ?_
            refine then_n (ks24 _ _ ?_)
            refine wp_regS (l := [0, 1]) (by kernel_rfl) (by kernel_rfl) fun KR55 kr55 => ?_
            refine wpS.ps [(0, 86, .int .i64 (iadd .i64 z3 1)), (1, 39, .int .i64 (iadd .i64 z3 1))] (by kernel_rfl) ?_
            refine wpS.fin rfl (kr55 _ _ ?_)
            exact then_n (kl0 _ _ ⟨n, Nat.lt_succ_self n, y11, (iadd .i64 z3 1), y12, h, (hs.conv rfl), exg (by kernel_rfl)⟩)
        ·refine wpS.take 0 false (some 40) (.bool false) (by kernel_rfl) (yld_b (df hc) (fun _ => by kernel_rfl)) ?_
         refine wpS.fin rfl (kr22 _ _ ?_)
         refine then_n (ks21 _ _ ?_)
         refine xseq_k fun KS56 ks56 => ?_
         refine wp_cond_f (by kernel_rfl) ?_
         refine xexit ?_
         refine then_x ?_
         refine then_x ?_
         refine inBlock_hit ?_
         have q0 := of_some h
         subst q0
         exact exq_n (nn0 _ _ ⟨z2, z4, rfl, (hs.conv rfl), exg (by kernel_rfl)⟩)
      ·clear hs h hy
       rintro a w ⟨y5, y6, rfl, hs, g, rfl⟩
       have h := hk0
       refine then_n (ks18 _ _ ?_)
       refine xseq_k fun KS57 ks57 => ?_
       refine xseq_k fun KS58 ks58 => ?_
       refine wp_regS (l := [0, 1, 2, 3, 4]) (by kernel_rfl) (by kernel_rfl) fun KR59 kr59 => ?_
       refine wpS.ps [(0, 87, .slice a0_A a0_n a0_c), (1, 88, .int .i64 y5), (2, 89, .int .i64 a2)] (by kernel_rfl) ?_
       obtain ⟨h0, h⟩ := of_chk h
       obtain ⟨h1, h⟩ := of_chk h
       obtain ⟨h2, h⟩ := of_chk h
       obtain ⟨s16_A, hA⟩ : ∃ A, A = if a0_c = (y5 : Int).toNat then a0_A else adr a0_A ((y5 : Int).toNat * Cod.size (CI .u8)) := ⟨_, rfl⟩
       obtain ⟨s16_n, hn⟩ : ∃ n, n = (a2 : Int).toNat - (y5 : Int).toNat := ⟨_, rfl⟩
       obtain ⟨s16_c, hc⟩ : ∃ c, c = a0_c - (y5 : Int).toNat := ⟨_, rfl⟩
       refine wpS.take 3 false (some 90) (.slice s16_A s16_n s16_c) (by kernel_rfl) (yld_sub (C := (CI .u8)) (t := 24) (e := 5) (low := some (.int .i64 y5)) (high := some (.int .i64 a2)) (lo := y5) (hi := a2) (hs.rowR 0 rfl) (by kernel_rfl) (by kernel_rfl) (by kernel_rfl) (.inr ⟨_, rfl⟩) (.inr ⟨_, rfl⟩) h0 h1 h2 hA hn hc) ?_
       have hs := hs.addSub (C := (CI .u8)) 0 rfl h0 h1 h2 hA hn hc
       obtain ⟨y17, hj, h⟩ := of_bind h
       refine wpS.only 4 (op_inlineJ (d := (some 91)) (f := 54) (args := #[.slice s16_A s16_n s16_c, .func (.func 55) #[] #[]]) (by kernel_rfl) (fun _ => by kernel_rfl) (N := fun v w => v = .bool y17 ∧ St w0 [] [.ownL (CA .i32 256 (by decide)) s1_A s1_n s1_c y6 40] [.rowL (CI .u8) s16_A s16_n s16_c (subL a0 y5 a2), .rowL (CI .u8) a0_A a0_n a0_c a0] w) (fun R60 kI60 => ?_) ?_)
       ·clear h
        have h := hj
        refine calls_k Try.func54 rfl fun Q60 qq60 => ?_
        refine wp_conv (a' := ⟨#[.slice s16_A s16_n s16_c, .func (.func 55) #[] #[], undef, undef, undef, undef, undef, undef, undef], []⟩) (by kernel_rfl) ?_
        refine xseq_k fun KS61 ks61 => ?_
        refine wp_regS (l := [0]) (by kernel_rfl) (by kernel_rfl) fun KR62 kr62 => ?_
        refine wpS.p 0 4 (.bool false) (by kernel_rfl) ?_
        refine wpS.fin rfl (kr62 _ _ ?_)
        refine then_n (ks61 _ _ ?_)
        refine xseq_k fun KS63 ks63 => ?_
        refine wp_regS (l := [0, 1, 2, 3, 4]) (by kernel_rfl) (by kernel_rfl) fun KR64 kr64 => ?_
        refine wpS.ps [(0, 5, .slice s16_A s16_n s16_c), (1, 6, .func (.func 55) #[] #[])] (by kernel_rfl) ?_
        obtain ⟨y18, hj, h⟩ := of_bind h
        refine wpS.only 2 (op_inlineJ (d := (some 7)) (f := 69) (args := #[.slice s16_A s16_n s16_c, .func (.func 55) #[] #[]]) (by kernel_rfl) (fun _ => by kernel_rfl) (N := fun v w => v = .int .i64 y18 ∧ St w0 [] [.ownL (CA .i32 256 (by decide)) s1_A s1_n s1_c y6 40] [.rowL (CI .u8) s16_A s16_n s16_c (subL a0 y5 a2), .rowL (CI .u8) a0_A a0_n a0_c a0] w) (fun R65 kI65 => ?_) ?_)
        ·clear h
         have h := hj
         refine calls_k Try.func69 rfl fun Q65 qq65 => ?_
         refine wp_conv (a' := ⟨#[.slice s16_A s16_n s16_c, .func (.func 55) #[] #[], undef, undef, undef, undef, undef, undef, undef, undef, undef, undef, undef, undef, undef, undef, undef, undef, undef], []⟩) (by kernel_rfl) ?_
         refine xseq_k fun KS66 ks66 => ?_
         refine wp_regS (l := [0]) (by kernel_rfl) (by kernel_rfl) fun KR67 kr67 => ?_
         refine wpS.p 0 4 (.int .i64 0) (by kernel_rfl) ?_
         refine wpS.fin rfl (kr67 _ _ ?_)
         refine then_n (ks66 _ _ ?_)
         refine xseq_k fun KS68 ks68 => ?_
         refine xseq_k fun KS69 ks69 => ?_
         refine wp_regS (l := [0, 1, 2]) (by kernel_rfl) (by kernel_rfl) fun KR70 kr70 => ?_
         refine wpS.p 0 6 (.slice s16_A s16_n s16_c) (by kernel_rfl) ?_
         refine wpS.take 1 false (some 7) (.int .i64 ((subL a0 y5 a2).length : Int)) (by kernel_rfl) (yld_lenL (hs.rowR 0 rfl) (fun _ => by kernel_rfl)) ?_
         refine wpS.p 2 8 (.int .i64 0) (by kernel_rfl) ?_
         refine wpS.fin rfl (kr70 _ _ ?_)
         refine then_n (ks69 _ _ ?_)
         obtain ⟨t2, hy, hk2⟩ := of_bind h
         refine wp_exq (N := fun a w => t2 = .inl () ∧ St w0 [] [.ownL (CA .i32 256 (by decide)) s1_A s1_n s1_c y6 40] [.rowL (CI .u8) s16_A s16_n s16_c (subL a0 y5 a2), .rowL (CI .u8) a0_A a0_n a0_c a0] w ∧ ∃ g : Nat → Value, a = ⟨#[.slice s16_A s16_n s16_c, .func (.func 55) #[] #[], undef, undef, (g 4), (g 5), .slice s16_A s16_n s16_c, .int .i64 ((subL a0 y5 a2).length : Int), (g 8), (g 9), (g 10), (g 11), (g 12), (g 13), (g 14), (g 15), (g 16), (g 17), (g 18)], []⟩) (fun N2 nn2 => ?_) ?_
         ·refine xblock ?_
          refine wp_loop_k (fun n a w => ∃ z19, dpack_Unhints.l2 K n a0 a2 y5 z19 = some t2 ∧ St w0 [] [.ownL (CA .i32 256 (by decide)) s1_A s1_n s1_c y6 40] [.rowL (CI .u8) s16_A s16_n s16_c (subL a0 y5 a2), .rowL (CI .u8) a0_A a0_n a0_c a0] w ∧ ∃ g : Nat → Value, a = ⟨#[.slice s16_A s16_n s16_c, .func (.func 55) #[] #[], undef, undef, (g 4), (g 5), .slice s16_A s16_n s16_c, .int .i64 ((subL a0 y5 a2).length : Int), .int .i64 z19, (g 9), (g 10), (g 11), (g 12), (g 13), (g 14), (g 15), (g 16), (g 17), (g 18)], []⟩) K ⟨0, hy, hs.conv rfl, exg (by kernel_rfl)⟩ ?_
          clear hs h hy
          rintro n a w ⟨z19, h, hs, g, rfl⟩ KL2 kl2
          cases n with
          | zero => exact nomatch (show none = some _ from h)
          | succ n =>
           refine xseq_k fun KS71 ks71 => ?_
           refine wp_regS (l := [0]) (by kernel_rfl) (by kernel_rfl) fun KR72 kr72 => ?_
           rcases of_if h with ⟨hc, h⟩ | ⟨hc, h⟩
           ·refine wpS.take 0 false (some 9) (.bool true) (by kernel_rfl) (yld_b (dt hc) (fun _ => by kernel_rfl)) ?_
            refine wpS.fin rfl (kr72 _ _ ?_)
            refine then_n (ks71 _ _ ?_)
            refine xseq_k fun KS73 ks73 => ?_
            refine wp_cond_t (by kernel_rfl) ?_
            refine xskip ?_
            refine then_n (ks73 _ _ ?_)
            refine xseq_k fun KS74 ks74 => ?_
            refine xblock ?_
            refine xseq_k fun KS75 ks75 => ?_
            refine wp_regS (l := [0, 1]) (by kernel_rfl) (by kernel_rfl) fun KR76 kr76 => ?_
            refine wpS.ps [(0, 10, .int .i64 z19), (1, 5, .int .i64 z19)] (by kernel_rfl) ?_
            refine wpS.fin rfl (kr76 _ _ ?_)
            refine then_n (ks75 _ _ ?_)
            refine xseq_k fun KS77 ks77 => ?_
            refine wp_regS (l := [0, 1, 2, 3, 4, 5]) (by kernel_rfl) (by kernel_rfl) fun KR78 kr78 => ?_
            refine wpS.ps [(0, 11, .func (.func 55) #[] #[]), (1, 12, .slice s16_A s16_n s16_c), (2, 13, .int .i64 z19)] (by kernel_rfl) ?_
            obtain ⟨h0, h⟩ := of_chk h
            obtain ⟨h1, h⟩ := of_chk h
            have i0_79 := h0
            have i1_79 := h1
            refine wpS.take 3 false (some 14) (.pointer (adr s16_A ((z19 : Int).toNat * Cod.size (CI .u8)))) (by kernel_rfl) (yld_idxL (C := (CI .u8)) (t := 24) (e := 5) (k := .i64) (x := z19) (hs.rowR 0 rfl) (by kernel_rfl) (by kernel_rfl) (by kernel_rfl) h0 h1) ?_
            refine wpS.take 4 true (some 15) (.int .u8 (rdL (CI .u8) (subL a0 y5 a2) z19)) (by kernel_rfl) (yld_loadL (C := (CI .u8)) (e := 5) (x := z19) (hs.rowR 0 rfl) (by kernel_rfl) rfl (by kernel_rfl) i0_79 i1_79) ?_
            obtain ⟨y20, hj, h⟩ := of_bind h
            refine wpS.only 5 (op_inlineJ (d := (some 16)) (f := 55) (args := #[.int .u8 (rdL (CI .u8) (subL a0 y5 a2) z19)]) (by kernel_rfl) (fun _ => by kernel_rfl) (N := fun v w => v = .bool y20 ∧ St w0 [] [.ownL (CA .i32 256 (by decide)) s1_A s1_n s1_c y6 40] [.rowL (CI .u8) s16_A s16_n s16_c (subL a0 y5 a2), .rowL (CI .u8) a0_A a0_n a0_c a0] w) (fun R80 kI80 => ?_) ?_)
            ·clear h
             have h := hj
             refine calls_k Try.func55 rfl fun Q80 qq80 => ?_
             refine wp_conv (a' := ⟨#[.int .u8 (rdL (CI .u8) (subL a0 y5 a2) z19), undef, undef, undef, undef], []⟩) (by kernel_rfl) ?_
             refine xseq_k fun KS81 ks81 => ?_
             refine wp_regS (l := [0]) (by kernel_rfl) (by kernel_rfl) fun KR82 kr82 => ?_
             refine wpS.p 0 2 (.bool false) (by kernel_rfl) ?_
             refine wpS.fin rfl (kr82 _ _ ?_)
             refine then_n (ks81 _ _ ?_)
             refine xseq_k fun KS83 ks83 => ?_
             refine wp_regS (l := [0, 1, 2]) (by kernel_rfl) (by kernel_rfl) fun KR84 kr84 => ?_
             refine wpS.ps [(0, 3, .int .u8 (rdL (CI .u8) (subL a0 y5 a2) z19)), (1, 4, .bool ((rdL (CI .u8) (subL a0 y5 a2) z19) != 0)), (2, 2, .bool ((rdL (CI .u8) (subL a0 y5 a2) z19) != 0))] (by kernel_rfl) ?_
             refine wpS.fin rfl (kr84 _ _ ?_)
             refine then_n (ks83 _ _ ?_)
             refine xret ?_
             have q0 := of_some h
             subst q0
             exact qq80 _ _ (post_ret (by kernel_rfl) (run_results [.tmp 2] [.bool ((rdL (CI .u8) (subL a0 y5 a2) z19) != 0)] (by kernel_rfl) (.cons (res_tmp (by kernel_rfl)) .nil)) (kI80 _ _ ⟨rfl, (hs.conv rfl)⟩))
            ·clear hj hs
             rintro v w ⟨rfl, hs⟩
             refine ⟨fun _ => trivial, ?_⟩
             cases y20 with
             | true =>
              have h := of_if_t h
              refine wpS.fin rfl (kr78 _ _ ?_)
              refine then_n (ks77 _ _ ?_)
              refine wp_cond_t (by kernel_rfl) ?_
              refine xseq_k fun KS85 ks85 => ?_
              refine wp_regS (l := [0, 1]) (by kernel_rfl) (by kernel_rfl) fun KR86 kr86 => ?_
              refine wpS.ps [(0, 17, .int .i64 z19), (1, 4, .int .i64 z19)] (by kernel_rfl) ?_
              refine wpS.fin rfl (kr86 _ _ ?_)
              refine then_n (ks85 _ _ ?_)
              refine xret ?_
              refine inBlock_r ?_
              refine then_r ?_
              refine then_r ?_
              refine inBlock_r ?_
              refine exq_r ?_
              refine then_r ?_
              have q0 := of_some h
              subst q0
              have q0 := of_some hk2
              subst q0
              exact qq65 _ _ (post_ret (by kernel_rfl) (run_results [.tmp 4] [.int .i64 z19] (by kernel_rfl) (.cons (res_tmp (by kernel_rfl)) .nil)) (kI65 _ _ ⟨rfl, (hs.conv rfl)⟩))
             | false =>
              have h := of_if_f h
              refine wpS.fin rfl (kr78 _ _ ?_)
              refine then_n (ks77 _ _ ?_)
              refine wp_cond_f (by kernel_rfl) ?_
              refine xskip ?_
              refine inBlock_n ?_
              refine then_n (ks74 _ _ ?_)
              refine wp_regS (l := [0, 1]) (by kernel_rfl) (by kernel_rfl) fun KR87 kr87 => ?_
              refine wpS.ps [(0, 18, .int .i64 (iadd .i64 z19 1)), (1, 8, .int .i64 (iadd .i64 z19 1))] (by kernel_rfl) ?_
              refine wpS.fin rfl (kr87 _ _ ?_)
              exact then_n (kl2 _ _ ⟨n, Nat.lt_succ_self n, (iadd .i64 z19 1), h, (hs.conv rfl), exg (by kernel_rfl)⟩)
           ·refine wpS.take 0 false (some 9) (.bool false) (by kernel_rfl) (yld_b (df hc) (fun _ => by kernel_rfl)) ?_
            refine wpS.fin rfl (kr72 _ _ ?_)
            refine then_n (ks71 _ _ ?_)
            refine xseq_k fun KS88 ks88 => ?_
            refine wp_cond_f (by kernel_rfl) ?_
            refine xexit ?_
            refine then_x ?_
            refine then_x ?_
            refine inBlock_hit ?_
            have q0 := of_some h
            subst q0
            exact exq_n (nn2 _ _ ⟨rfl, (hs.conv rfl), exg (by kernel_rfl)⟩)
         ·clear hs h hy
          rintro a w ⟨rfl, hs, g, rfl⟩
          have h := hk2
          refine then_n (ks68 _ _ ?_)
          refine xseq_k fun KS89 ks89 => ?_
          refine wp_regS (l := [0]) (by kernel_rfl) (by kernel_rfl) fun KR90 kr90 => ?_
          refine wpS.p 0 4 (.int .i64 (-1)) (by kernel_rfl) ?_
          refine wpS.fin rfl (kr90 _ _ ?_)
          refine then_n (ks89 _ _ ?_)
          refine xret ?_
          have q0 := of_some h
          subst q0
          exact qq65 _ _ (post_ret (by kernel_rfl) (run_results [.tmp 4] [.int .i64 (-1)] (by kernel_rfl) (.cons (res_tmp (by kernel_rfl)) .nil)) (kI65 _ _ ⟨rfl, (hs.conv rfl)⟩))
        ·clear hj hs
         rintro v w ⟨rfl, hs⟩
         refine ⟨fun _ => trivial, ?_⟩
         refine wpS.ps [(3, 8, .bool (decide (y18 ≥ 0))), (4, 4, .bool (decide (y18 ≥ 0)))] (by kernel_rfl) ?_
         refine wpS.fin rfl (kr64 _ _ ?_)
         refine then_n (ks63 _ _ ?_)
         refine xret ?_
         have q0 := of_some h
         subst q0
         exact qq60 _ _ (post_ret (by kernel_rfl) (run_results [.tmp 4] [.bool (decide (y18 ≥ 0))] (by kernel_rfl) (.cons (res_tmp (by kernel_rfl)) .nil)) (kI60 _ _ ⟨rfl, (hs.conv rfl)⟩))
       ·clear hj hs
        rintro v w ⟨rfl, hs⟩
        refine ⟨fun _ => trivial, ?_⟩
        cases y17 with
        | true =>
         have h := of_if_t h
         refine wpS.fin rfl (kr59 _ _ ?_)
         refine then_n (ks58 _ _ ?_)
         refine wp_cond_t (by kernel_rfl) ?_
         refine xseq_k fun KS91 ks91 => ?_
         refine wp_regS (l := [0, 1]) (by kernel_rfl) (by kernel_rfl) fun KR92 kr92 => ?_
         refine wpS.ps [(0, 6, .slice none 0 0), (1, 7, .bool false)] (by kernel_rfl) ?_
         refine wpS.fin rfl (kr92 _ _ ?_)
         refine then_n (ks91 _ _ ?_)
         refine xret ?_
         refine then_r ?_
         obtain ⟨q0, qr0⟩ := Prod.mk.inj (of_some h)
         have q1 := qr0
         subst q0
         subst q1
         have hs := hs.addNilL (CA .i32 256 (by decide)) 40
         exact qq _ _ (post_ret (by kernel_rfl) (run_results [.tmp 6, .tmp 7] [.slice none 0 0, .bool false] (by kernel_rfl) (.cons (res_tmp (by kernel_rfl)) (.cons (res_tmp (by kernel_rfl)) .nil))) ⟨⟨none, 0, 0⟩, congrArg Ending.returned (by kernel_rfl), ((hs.drop (.cons_cons _ (.cons _ .slnil))).pickR pick_nil)⟩)
        | false =>
         have h := of_if_f h
         refine wpS.fin rfl (kr59 _ _ ?_)
         refine then_n (ks58 _ _ ?_)
         refine wp_cond_f (by kernel_rfl) ?_
         refine xskip ?_
         refine then_n (ks57 _ _ ?_)
         refine xseq_k fun KS93 ks93 => ?_
         refine wp_regS (l := [0, 1, 2]) (by kernel_rfl) (by kernel_rfl) fun KR94 kr94 => ?_
         refine wpS.ps [(0, 92, .slice s1_A s1_n s1_c), (1, 6, .slice s1_A s1_n s1_c), (2, 7, .bool true)] (by kernel_rfl) ?_
         refine wpS.fin rfl (kr94 _ _ ?_)
         refine then_n (ks93 _ _ ?_)
         refine xret ?_
         obtain ⟨q0, qr0⟩ := Prod.mk.inj (of_some h)
         have q1 := qr0
         subst q0
         subst q1
         exact qq _ _ (post_ret (by kernel_rfl) (run_results [.tmp 6, .tmp 7] [.slice s1_A s1_n s1_c, .bool true] (by kernel_rfl) (.cons (res_tmp (by kernel_rfl)) (.cons (res_tmp (by kernel_rfl)) .nil))) ⟨⟨s1_A, s1_n, s1_c⟩, congrArg Ending.returned (by kernel_rfl), (hs.pickR pick_nil)⟩)
     ·refine wpS.take 20 false (some 33) (.bool true) (by kernel_rfl) (yld_b (nt hc) (fun _ => by kernel_rfl)) ?_
      refine wpS.p 21 34 (.bool true) (by kernel_rfl) ?_
      refine wpS.fin rfl (kr5 _ _ ?_)
      refine then_n (ks4 _ _ ?_)
      refine wp_cond_t (by kernel_rfl) ?_
      refine xseq_k fun KS95 ks95 => ?_
      refine wp_regS (l := [0, 1]) (by kernel_rfl) (by kernel_rfl) fun KR96 kr96 => ?_
      refine wpS.ps [(0, 6, .slice none 0 0), (1, 7, .bool false)] (by kernel_rfl) ?_
      refine wpS.fin rfl (kr96 _ _ ?_)
      refine then_n (ks95 _ _ ?_)
      refine xret ?_
      refine then_r ?_
      obtain ⟨q0, qr0⟩ := Prod.mk.inj (of_some h)
      have q1 := qr0
      subst q0
      subst q1
      have hs := hs.addNilL (CA .i32 256 (by decide)) 40
      exact qq _ _ (post_ret (by kernel_rfl) (run_results [.tmp 6, .tmp 7] [.slice none 0 0, .bool false] (by kernel_rfl) (.cons (res_tmp (by kernel_rfl)) (.cons (res_tmp (by kernel_rfl)) .nil))) ⟨⟨none, 0, 0⟩, congrArg Ending.returned (by kernel_rfl), (hs.pickR pick_nil)⟩)

theorem ref22_Same.ok {K : Nat} {a0 : List (Arr 256)} {a1 : List (Arr 256)} {r0 : Bool} {a0_A : Option Addr} {a0_n : Nat} {a0_c : Nat} {a1_A : Option Addr} {a1_n : Nat} {a1_c : Nat} (h : ref22_Same.f K a0 a1 = some r0) (w0 : World) (hp0 : RowL (CA .i32 256 (by decide)) w0 a0_A a0_n a0_c a0) (hp1 : RowL (CA .i32 256 (by decide)) w0 a1_A a1_n a1_c a1) : Ret Try.prog 24 #[.slice a0_A a0_n a0_c, .slice a1_A a1_n a1_c] w0 (.bool r0) := by
 refine calls_k Try.func24 rfl fun Q qq => ?_
 have hs := St.startR (all_cons (RowP.ent hp0) (all_cons (RowP.ent hp1) all_nil))
 refine wp_conv (a' := ⟨#[.slice a0_A a0_n a0_c, .slice a1_A a1_n a1_c, undef, undef, undef, undef, undef, undef, undef, undef, undef, undef, undef, undef, undef, undef, undef, undef, undef, undef, undef, undef, undef, undef, undef, undef], []⟩) (by kernel_rfl) ?_
 refine xseq_k fun KS1 ks1 => ?_
 refine wp_regS (l := [0]) (by kernel_rfl) (by kernel_rfl) fun KR2 kr2 => ?_
 refine wpS.p 0 4 (.bool false) (by kernel_rfl) ?_
 refine wpS.fin rfl (kr2 _ _ ?_)
 refine then_n (ks1 _ _ ?_)
 refine xseq_k fun KS3 ks3 => ?_
 refine xseq_k fun KS4 ks4 => ?_
 refine wp_regS (l := [0, 1, 2, 3, 4]) (by kernel_rfl) (by kernel_rfl) fun KR5 kr5 => ?_
 refine wpS.p 0 6 (.slice a0_A a0_n a0_c) (by kernel_rfl) ?_
 refine wpS.take 1 false (some 7) (.int .i64 (a0.length : Int)) (by kernel_rfl) (yld_lenL (hs.rowR 0 rfl) (fun _ => by kernel_rfl)) ?_
 refine wpS.p 2 8 (.slice a1_A a1_n a1_c) (by kernel_rfl) ?_
 refine wpS.take 3 false (some 9) (.int .i64 (a1.length : Int)) (by kernel_rfl) (yld_lenL (hs.rowR 1 rfl) (fun _ => by kernel_rfl)) ?_
 rcases of_if h with ⟨hc, h⟩ | ⟨hc, h⟩
 ·refine wpS.take 4 false (some 10) (.bool false) (by kernel_rfl) (yld_b (nf hc) (fun _ => by kernel_rfl)) ?_
  refine wpS.fin rfl (kr5 _ _ ?_)
  refine then_n (ks4 _ _ ?_)
  refine wp_cond_f (by kernel_rfl) ?_
  refine xskip ?_
  refine then_n (ks3 _ _ ?_)
  refine xseq_k fun KS6 ks6 => ?_
  refine xseq_k fun KS7 ks7 => ?_
  refine wp_regS (l := [0]) (by kernel_rfl) (by kernel_rfl) fun KR8 kr8 => ?_
  refine wpS.p 0 5 (.int .i64 0) (by kernel_rfl) ?_
  refine wpS.fin rfl (kr8 _ _ ?_)
  refine then_n (ks7 _ _ ?_)
  obtain ⟨t0, hy, hk0⟩ := of_bind h
  refine wp_exq (N := fun a w => t0 = .inl () ∧ St w0 [] [] [.rowL (CA .i32 256 (by decide)) a0_A a0_n a0_c a0, .rowL (CA .i32 256 (by decide)) a1_A a1_n a1_c a1] w ∧ ∃ g : Nat → Value, a = ⟨#[.slice a0_A a0_n a0_c, .slice a1_A a1_n a1_c, undef, undef, (g 4), (g 5), .slice a0_A a0_n a0_c, .int .i64 (a0.length : Int), .slice a1_A a1_n a1_c, .int .i64 (a1.length : Int), .bool false, (g 11), (g 12), (g 13), (g 14), (g 15), (g 16), (g 17), (g 18), (g 19), (g 20), (g 21), (g 22), (g 23), (g 24), (g 25)], []⟩) (fun N0 nn0 => ?_) ?_
  ·refine xblock ?_
   refine wp_loop_k (fun n a w => ∃ z1, ref22_Same.l0 K n a0 a1 z1 = some t0 ∧ St w0 [] [] [.rowL (CA .i32 256 (by decide)) a0_A a0_n a0_c a0, .rowL (CA .i32 256 (by decide)) a1_A a1_n a1_c a1] w ∧ ∃ g : Nat → Value, a = ⟨#[.slice a0_A a0_n a0_c, .slice a1_A a1_n a1_c, undef, undef, (g 4), .int .i64 z1, .slice a0_A a0_n a0_c, .int .i64 (a0.length : Int), .slice a1_A a1_n a1_c, .int .i64 (a1.length : Int), .bool false, (g 11), (g 12), (g 13), (g 14), (g 15), (g 16), (g 17), (g 18), (g 19), (g 20), (g 21), (g 22), (g 23), (g 24), (g 25)], []⟩) K ⟨0, hy, hs.conv rfl, exg (by kernel_rfl)⟩ ?_
   clear hs h hy
   rintro n a w ⟨z1, h, hs, g, rfl⟩ KL0 kl0
   cases n with
   | zero => exact nomatch (show none = some _ from h)
   | succ n =>
    refine xseq_k fun KS9 ks9 => ?_
    refine xseq_k fun KS10 ks10 => ?_
    refine wp_regS (l := [0, 1, 2, 3]) (by kernel_rfl) (by kernel_rfl) fun KR11 kr11 => ?_
    refine wpS.ps [(0, 11, .int .i64 z1), (1, 12, .slice a0_A a0_n a0_c)] (by kernel_rfl) ?_
    refine wpS.take 2 false (some 13) (.int .i64 (a0.length : Int)) (by kernel_rfl) (yld_lenL (hs.rowR 0 rfl) (fun _ => by kernel_rfl)) ?_
    rcases of_if h with ⟨hc, h⟩ | ⟨hc, h⟩
    ·refine wpS.take 3 false (some 14) (.bool true) (by kernel_rfl) (yld_b (dt hc) (fun _ => by kernel_rfl)) ?_
     refine wpS.fin rfl (kr11 _ _ ?_)
     refine then_n (ks10 _ _ ?_)
     refine wp_cond_t (by kernel_rfl) ?_
     refine xskip ?_
     refine then_n (ks9 _ _ ?_)
     refine xseq_k fun KS12 ks12 => ?_
     refine xblock ?_
     refine xseq_k fun KS13 ks13 => ?_
     refine wp_regG [] (fun k => True) 9 (by kernel_rfl) (by kernel_rfl) (by kernel_rfl) fun KR14 kr14 => ?_
     have hs := hs.drawn1
     refine wpG.takeD 0 false (some 17) (.slice a0_A a0_n a0_c) (by kernel_rfl) (by kernel_rfl) (yld fun _ => by kernel_rfl) ?_
     refine wpG.takeD 1 false (some 18) (.int .i64 z1) (by kernel_rfl) (by kernel_rfl) (yld fun _ => by kernel_rfl) ?_
     obtain ⟨h0, h⟩ := of_chk h
     obtain ⟨h1, h⟩ := of_chk h
     have i0_15 := h0
     have i1_15 := h1
     refine wpG.takeD 2 false (some 19) (.pointer (adr a0_A ((z1 : Int).toNat * Cod.size (CA .i32 256 (by decide))))) (by kernel_rfl) (by kernel_rfl) (yld_idxL (C := (CA .i32 256 (by decide))) (t := 25) (e := 40) (k := .i64) (x := z1) (hs.rowR 0 rfl) (by kernel_rfl) (by kernel_rfl) (by kernel_rfl) h0 h1) ?_
     refine wpG.takeD 3 true (some 20) (.agg (enc .i32 (rdL (CA .i32 256 (by decide)) a0 z1)).toArray) (by kernel_rfl) (by kernel_rfl) (yld_loadLA (C := (CA .i32 256 (by decide))) (e := 40) (x := z1) (hs.rowR 0 rfl) (by kernel_rfl) rfl (by kernel_rfl) (by kernel_rfl) i0_15 i1_15) ?_
     refine wpG.takeD 4 false (some 21) (.slice a1_A a1_n a1_c) (by kernel_rfl) (by kernel_rfl) (yld fun _ => by kernel_rfl) ?_
     refine wpG.takeD 5 false (some 22) (.int .i64 z1) (by kernel_rfl) (by kernel_rfl) (yld fun _ => by kernel_rfl) ?_
     obtain ⟨h0, h⟩ := of_chk h
     obtain ⟨h1, h⟩ := of_chk h
     have i0_16 := h0
     have i1_16 := h1
     refine wpG.takeD 6 false (some 23) (.pointer (adr a1_A ((z1 : Int).toNat * Cod.size (CA .i32 256 (by decide))))) (by kernel_rfl) (by kernel_rfl) (yld_idxL (C := (CA .i32 256 (by decide))) (t := 25) (e := 40) (k := .i64) (x := z1) (hs.rowR 1 rfl) (by kernel_rfl) (by kernel_rfl) (by kernel_rfl) h0 h1) ?_
     refine wpG.takeD 7 true (some 24) (.agg (enc .i32 (rdL (CA .i32 256 (by decide)) a1 z1)).toArray) (by kernel_rfl) (by kernel_rfl) (yld_loadLA (C := (CA .i32 256 (by decide))) (e := 40) (x := z1) (hs.rowR 1 rfl) (by kernel_rfl) rfl (by kernel_rfl) (by kernel_rfl) i0_16 i1_16) ?_
     rcases of_ifb h with ⟨hc, h⟩ | ⟨hc, h⟩
     ·refine wpG.takeD 8 false (some 25) (.bool true) (by kernel_rfl) (by kernel_rfl) (yld_bb hc (yld_eqAn (t := 40) (e := 21) (k := .i32) (.tmp 20) (.tmp 24) (by kernel_rfl) (by kernel_rfl) (by kernel_rfl) (by kernel_rfl) (by kernel_rfl) (by kernel_rfl))) ?_
      refine wpG.fin (by kernel_rfl) rfl (kr14 _ _ ?_)
      refine then_n (ks13 _ _ ?_)
      refine wp_cond_t (by kernel_rfl) ?_
      refine xseq_k fun KS17 ks17 => ?_
      refine wp_regS (l := [0]) (by kernel_rfl) (by kernel_rfl) fun KR18 kr18 => ?_
      refine wpS.p 0 4 (.bool false) (by kernel_rfl) ?_
      refine wpS.fin rfl (kr18 _ _ ?_)
      refine then_n (ks17 _ _ ?_)
      refine xret ?_
      refine inBlock_r ?_
      refine then_r ?_
      refine then_r ?_
      refine inBlock_r ?_
      refine exq_r ?_
      refine then_r ?_
      have q0 := of_some h
      subst q0
      have q0 := of_some hk0
      subst q0
      exact qq _ _ (post_ret (by kernel_rfl) (run_results [.tmp 4] [.bool false] (by kernel_rfl) (.cons (res_tmp (by kernel_rfl)) .nil)) ⟨congrArg Ending.returned (by kernel_rfl), hs.none⟩)
     ·refine wpG.takeD 8 false (some 25) (.bool false) (by kernel_rfl) (by kernel_rfl) (yld_bb hc (yld_eqAn (t := 40) (e := 21) (k := .i32) (.tmp 20) (.tmp 24) (by kernel_rfl) (by kernel_rfl) (by kernel_rfl) (by kernel_rfl) (by kernel_rfl) (by kernel_rfl))) ?_
      refine wpG.fin (by kernel_rfl) rfl (kr14 _ _ ?_)
      refine then_n (ks13 _ _ ?_)
      refine wp_cond_f (by kernel_rfl) ?_
      refine xskip ?_
      refine inBlock_n ?_
      refine then_n (ks12 _ _ ?_)
      refine wp_regS (l := [0, 1, 2]) (by kernel_rfl) (by kernel_rfl) fun KR19 kr19 => ?_
      refine wpS.ps [(0, 15, .int .i64 z1), (1, 16, .int .i64 (iadd .i64 z1 1))] (by kernel_rfl) ?_
      obtain ⟨x2, hx, h⟩ := of_bind h
      refine wpS.take 2 false (some 5) (.int .i64 x2) (by kernel_rfl) (yld_int hx (fun _ => by kernel_rfl)) ?_
      refine wpS.fin rfl (kr19 _ _ ?_)
      exact then_n (kl0 _ _ ⟨n, Nat.lt_succ_self n, x2, h, (hs.conv rfl), exg (by kernel_rfl)⟩)
    ·refine wpS.take 3 false (some 14) (.bool false) (by kernel_rfl) (yld_b (df hc) (fun _ => by kernel_rfl)) ?_
     refine wpS.fin rfl (kr11 _ _ ?_)
     refine then_n (ks10 _ _ ?_)
     refine wp_cond_f (by kernel_rfl) ?_
     refine xexit ?_
     refine then_x ?_
     refine then_x ?_
     refine inBlock_hit ?_
     have q0 := of_some h
     subst q0
     exact exq_n (nn0 _ _ ⟨rfl, (hs.conv rfl), exg (by kernel_rfl)⟩)
  ·clear hs h hy
   rintro a w ⟨rfl, hs, g, rfl⟩
   have h := hk0
   refine then_n (ks6 _ _ ?_)
   refine xseq_k fun KS20 ks20 => ?_
   refine wp_regS (l := [0]) (by kernel_rfl) (by kernel_rfl) fun KR21 kr21 => ?_
   refine wpS.p 0 4 (.bool true) (by kernel_rfl) ?_
   refine wpS.fin rfl (kr21 _ _ ?_)
   refine then_n (ks20 _ _ ?_)
   refine xret ?_
   have q0 := of_some h
   subst q0
   exact qq _ _ (post_ret (by kernel_rfl) (run_results [.tmp 4] [.bool true] (by kernel_rfl) (.cons (res_tmp (by kernel_rfl)) .nil)) ⟨congrArg Ending.returned (by kernel_rfl), hs.none⟩)
 ·refine wpS.take 4 false (some 10) (.bool true) (by kernel_rfl) (yld_b (nt hc) (fun _ => by kernel_rfl)) ?_
  refine wpS.fin rfl (kr5 _ _ ?_)
  refine then_n (ks4 _ _ ?_)
  refine wp_cond_t (by kernel_rfl) ?_
  refine xseq_k fun KS22 ks22 => ?_
  refine wp_regS (l := [0]) (by kernel_rfl) (by kernel_rfl) fun KR23 kr23 => ?_
  refine wpS.p 0 4 (.bool false) (by kernel_rfl) ?_
  refine wpS.fin rfl (kr23 _ _ ?_)
  refine then_n (ks22 _ _ ?_)
  refine xret ?_
  refine then_r ?_
  have q0 := of_some h
  subst q0
  exact qq _ _ (post_ret (by kernel_rfl) (run_results [.tmp 4] [.bool false] (by kernel_rfl) (.cons (res_tmp (by kernel_rfl)) .nil)) ⟨congrArg Ending.returned (by kernel_rfl), hs.none⟩)

theorem slices_Clone_byte_byte.ok {K : Nat} {a0 : List Int} {r0 : List Int} {a0_A : Option Addr} {a0_n : Nat} {a0_c : Nat} (h : slices_Clone_byte_byte.f K a0 = some r0) (w0 : World) (hp0 : RowL (CI .u8) w0 a0_A a0_n a0_c a0) : Calls Try.prog 70 #[.slice a0_A a0_n a0_c] w0 fun e w' => ∃ h : (Option Addr × Nat × Nat), e = .returned (.slice h.1 h.2.1 h.2.2) ∧ St w0 [] [.ownL (CI .u8) h.1 h.2.1 h.2.2 r0 5] [] w' := by
 refine calls_k Try.func70 rfl fun Q qq => ?_
 have hs := St.startR (all_cons (RowP.ent hp0) all_nil)
 refine wp_conv (a' := ⟨#[.slice a0_A a0_n a0_c, undef, undef, undef, undef, undef, undef, undef], []⟩) (by kernel_rfl) ?_
 refine xseq_k fun KS1 ks1 => ?_
 refine wp_regS (l := [0]) (by kernel_rfl) (by kernel_rfl) fun KR2 kr2 => ?_
 refine wpS.p 0 2 (.slice none 0 0) (by kernel_rfl) ?_
 refine wpS.fin rfl (kr2 _ _ ?_)
 refine then_n (ks1 _ _ ?_)
 refine xseq_k fun KS3 ks3 => ?_
 refine xseq_k fun KS4 ks4 => ?_
 refine wp_regS (l := [0, 1]) (by kernel_rfl) (by kernel_rfl) fun KR5 kr5 => ?_
 refine wpS.p 0 3 (.slice a0_A a0_n a0_c) (by kernel_rfl) ?_
 cases hn : (a0_A : Option Addr).isNone with
 | true =>
  have hl := nil_list (hs.rowR 0 rfl) hn
  have h := of_isE_t hl h
  refine wpS.take 1 false (some 4) (.bool true) (by kernel_rfl) (yld_nilB (t := 24) (e := 5) (C := (CI .u8)) (.tmp 3) (.const (.slice none 0 0)) (hs.rowR 0 rfl) hn (by kernel_rfl) (by kernel_rfl) (by kernel_rfl)) ?_
  refine wpS.fin rfl (kr5 _ _ ?_)
  refine then_n (ks4 _ _ ?_)
  refine wp_cond_t (by kernel_rfl) ?_
  refine xseq_k fun KS6 ks6 => ?_
  refine wp_regS (l := [0]) (by kernel_rfl) (by kernel_rfl) fun KR7 kr7 => ?_
  refine wpS.p 0 2 (.slice none 0 0) (by kernel_rfl) ?_
  refine wpS.fin rfl (kr7 _ _ ?_)
  refine then_n (ks6 _ _ ?_)
  refine xret ?_
  refine then_r ?_
  have q0 := of_some h
  subst q0
  have hs := hs.addNilL (CI .u8) 5
  exact qq _ _ (post_ret (by kernel_rfl) (run_results [.tmp 2] [.slice none 0 0] (by kernel_rfl) (.cons (res_tmp (by kernel_rfl)) .nil)) ⟨⟨none, 0, 0⟩, congrArg Ending.returned (by kernel_rfl), (hs.pickR pick_nil)⟩)
 | false =>
  have h := of_isE_f (fun hl => by simp [hl]) h
  refine wpS.take 1 false (some 4) (.bool false) (by kernel_rfl) (yld_nilB (t := 24) (e := 5) (C := (CI .u8)) (.tmp 3) (.const (.slice none 0 0)) (hs.rowR 0 rfl) hn (by kernel_rfl) (by kernel_rfl) (by kernel_rfl)) ?_
  refine wpS.fin rfl (kr5 _ _ ?_)
  refine then_n (ks4 _ _ ?_)
  refine wp_cond_f (by kernel_rfl) ?_
  refine xskip ?_
  refine then_n (ks3 _ _ ?_)
  refine xseq_k fun KS8 ks8 => ?_
  refine wp_regS (l := [0, 1, 2, 3]) (by kernel_rfl) (by kernel_rfl) fun KR9 kr9 => ?_
  refine wpS.only 0 (op_lit0 (C := (CI .u8)) (t := 24) (e := 5) (parts := #[]) (d := (some 5)) (by kernel_rfl) hs rfl (by kernel_rfl) (by kernel_rfl) (by kernel_rfl) ?_)
  intro s1_A s1_n s1_c w gw hs
  refine ⟨fun _ => trivial, ?_⟩
  refine wpS.p 1 6 (.slice a0_A a0_n a0_c) (by kernel_rfl) ?_
  obtain ⟨h0, h⟩ := of_chk h
  refine wpS.only 2 (op_appendT (C := (CI .u8)) (t := 24) (ty := 24) (e := 5) (bytes := 1) (B := 140737488355328) (d := (some 7)) (by kernel_rfl) hs 0 rfl (hs.rowR 0 rfl) (by kernel_rfl) (by kernel_rfl) (by kernel_rfl) (by kernel_rfl) (by kernel_rfl) h0 (by decide) (by decide) ?_)
  intro s2_A s2_n s2_c w hs
  refine ⟨fun _ => trivial, ?_⟩
  refine wpS.p 3 2 (.slice s2_A s2_n s2_c) (by kernel_rfl) ?_
  refine wpS.fin rfl (kr9 _ _ ?_)
  refine then_n (ks8 _ _ ?_)
  refine xret ?_
  have q0 := of_some h
  subst q0
  exact qq _ _ (post_ret (by kernel_rfl) (run_results [.tmp 2] [.slice s2_A s2_n s2_c] (by kernel_rfl) (.cons (res_tmp (by kernel_rfl)) .nil)) ⟨⟨s2_A, s2_n, s2_c⟩, congrArg Ending.returned (by kernel_rfl), (hs.pickR pick_nil)⟩)
end Go.Proofs.Ytblploekkjeolaa
