/- Printed by this work's own program: the code of each function below comes to the answer that its plain form tells. -/
import Derived.Test.YtblploekkjeolaaMj
import Derived.Test.YtblploekkjeolaaProg
import Derived.Test.YtblploekkjeolaaDF0
import Derived.Test.YtblploekkjeolaaDX0
import Derived.Test.YtblploekkjeolaaDX2
set_option linter.unusedVariables false
set_option linter.unusedSimpArgs false
set_option maxRecDepth 100000
set_option maxHeartbeats 4000000
namespace Go.Proofs.Ytblploekkjeolaa
open Go.Mx
attribute [local irreducible] wpOp

theorem dpack_Unpack.ok {K : Nat} {a0 : List Int} {a1 : Int} {a2 : Int} {r0 : Arr 256} {r1 : Bool} {a0_A : Option Addr} {a0_n : Nat} {a0_c : Nat} (h : dpack_Unpack.f K a0 a1 a2 = some (r0, r1)) (w0 : World) (hp0 : RowL (CI .u8) w0 a0_A a0_n a0_c a0) : Ret Try.prog 20 #[.slice a0_A a0_n a0_c, .int .i32 a1, .int .i32 a2] w0 (.tuple #[.agg (enc .i32 r0).toArray, .bool r1]) := by
  refine calls_k Try.func20 rfl fun Q qq => ?_
  have hs := St.startR (all_cons (RowP.ent hp0) all_nil)
  refine wp_conv (a' := ⟨#[.slice a0_A a0_n a0_c, .int .i32 a1, .int .i32 a2, undef, undef, undef, undef, undef, undef, undef, undef, undef, undef, undef, undef, undef, undef, undef, undef, undef, undef, undef, undef, undef, undef, undef, undef, undef, undef, undef, undef, undef, undef, undef, undef, undef, undef, undef, undef, undef, undef, undef, undef, undef, undef, undef, undef, undef, undef], []⟩) (by kernel_rfl) ?_
  refine xseq_k fun KS1 ks1 => ?_
  refine wp_regS (l := [0, 1]) (by kernel_rfl) (by kernel_rfl) fun KR2 kr2 => ?_
  refine wpS.only 0 (op_alloc (t := 40) (d := (some 6)) (by kernel_rfl) hs (enc .i32 (zeroA 256)) (.agg (enc .i32 (zeroA 256)).toArray) (by kernel_rfl) (by kernel_rfl) (by kernel_rfl) ?_)
  intro b1 w gw hs
  refine ⟨fun _ => trivial, ?_⟩
  refine wpS.take 1 false (some 7) (.bool false) (by kernel_rfl) (yld fun _ => by kernel_rfl) ?_
  refine wpS.fin rfl (kr2 _ _ ?_)
  refine then_n (ks1 _ _ ?_)
  refine xseq_k fun KS3 ks3 => ?_
  refine wp_regS (l := [0, 1, 2, 3, 4]) (by kernel_rfl) (by kernel_rfl) fun KR4 kr4 => ?_
  refine wpS.take 0 false (some 12) (.int .i32 a1) (by kernel_rfl) (yld fun _ => by kernel_rfl) ?_
  refine wpS.take 1 false (some 13) (.int .i32 a2) (by kernel_rfl) (yld fun _ => by kernel_rfl) ?_
  refine wpS.take 2 false (some 14) (.agg #[.int .i32 a1, .int .i32 a2]) (by kernel_rfl) (yld fun _ => by kernel_rfl) ?_
  refine wpS.only 3 (op_alloc (t := 73) (d := (some 8)) (by kernel_rfl) hs ([.int .i32 0, .int .i32 0]) (.agg #[.int .i32 0, .int .i32 0]) (by kernel_rfl) (by kernel_rfl) (by kernel_rfl) ?_)
  intro b2 w gw hs
  refine ⟨fun _ => trivial, ?_⟩
  refine wpS.only 4 (op_storeW (t := 73) (v := .agg #[.int .i32 a1, .int .i32 a2]) (d := none) (by kernel_rfl) hs 0 rfl (vs := [.int .i32 a1, .int .i32 a2]) (n := 2) (by kernel_rfl) (by kernel_rfl) (by kernel_rfl) (by simp [enc_len]) (by simp [enc_len]) (by simp [Value.oneCell']) ?_)
  intro w kp hs
  refine ⟨fun _ => trivial, ?_⟩
  refine wpS.fin rfl (kr4 _ _ ?_)
  refine then_n (ks3 _ _ ?_)
  refine xseq_k fun KS11 ks11 => ?_
  refine xseq_k fun KS12 ks12 => ?_
  refine wp_regS (l := [0, 1, 2, 3, 4, 5, 6, 7, 8, 9]) (by kernel_rfl) (by kernel_rfl) fun KR13 kr13 => ?_
  refine wpS.take 0 true (some 15) (.agg #[.int .i32 a1, .int .i32 a2]) (by kernel_rfl) (yld_loadW (e := 73) (n := 2) hs 0 rfl (by kernel_rfl) (by kernel_rfl) (by kernel_rfl) (by simp [enc_len]) .grow) ?_
  obtain ⟨r3, hg, h⟩ := of_bind h
  cases r3 with
  | true =>
    have h := of_if_t h
    refine wpS.only 1 (op_call (d := (some 16)) (by kernel_rfl) hs (fun _ => by kernel_rfl) (dpack_span_fit.ok hg _) ?_)
    intro w gw hs
    refine ⟨fun _ => trivial, ?_⟩
    refine wpS.take 2 false (some 17) (.bool false) (by kernel_rfl) (yld fun _ => by kernel_rfl) ?_
    refine wpS.take 3 false (some 18) (.bool false) (by kernel_rfl) (yld fun _ => by kernel_rfl) ?_
    refine wpS.take 4 false (some 19) (.slice a0_A a0_n a0_c) (by kernel_rfl) (yld fun _ => by kernel_rfl) ?_
    refine wpS.take 5 false (some 20) (.int .i64 (a0.length : Int)) (by kernel_rfl) (yld_lenL (hs.rowR 0 rfl) (fun _ => by kernel_rfl)) ?_
    refine wpS.take 6 true (some 21) (.agg #[.int .i32 a1, .int .i32 a2]) (by kernel_rfl) (yld_loadW (e := 73) (n := 2) hs 0 rfl (by kernel_rfl) (by kernel_rfl) (by kernel_rfl) (by simp [enc_len]) .grow) ?_
    obtain ⟨r4, hg, h⟩ := of_bind h
    refine wpS.only 7 (op_call (d := (some 22)) (by kernel_rfl) hs (fun _ => by kernel_rfl) (dpack_span_size.ok hg _) ?_)
    intro w gw hs
    refine ⟨fun _ => trivial, ?_⟩
    rcases of_if h with ⟨hc, h⟩ | ⟨hc, h⟩
    · refine wpS.take 8 false (some 23) (.bool false) (by kernel_rfl) (yld_b (nf hc) (fun _ => by kernel_rfl)) ?_
      refine wpS.take 9 false (some 24) (.bool false) (by kernel_rfl) (yld fun _ => by kernel_rfl) ?_
      refine wpS.fin rfl (kr13 _ _ ?_)
      refine then_n (ks12 _ _ ?_)
      refine wp_cond_f (by kernel_rfl) ?_
      refine xskip ?_
      refine then_n (ks11 _ _ ?_)
      refine xseq_k fun KS14 ks14 => ?_
      refine wp_regS (l := [0]) (by kernel_rfl) (by kernel_rfl) fun KR15 kr15 => ?_
      refine wpS.only 0 (op_alloc (t := 40) (d := (some 9)) (by kernel_rfl) hs (enc .i32 (zeroA 256)) (.agg (enc .i32 (zeroA 256)).toArray) (by kernel_rfl) (by kernel_rfl) (by kernel_rfl) ?_)
      intro b5 w gw hs
      refine ⟨fun _ => trivial, ?_⟩
      refine wpS.fin rfl (kr15 _ _ ?_)
      refine then_n (ks14 _ _ ?_)
      refine xseq_k fun KS86 ks86 => ?_
      refine xseq_k fun KS87 ks87 => ?_
      refine wp_regS (l := [0, 1, 2, 3, 4, 5]) (by kernel_rfl) (by kernel_rfl) fun KR88 kr88 => ?_
      refine wpS.take 0 false (some 26) (.slice a0_A a0_n a0_c) (by kernel_rfl) (yld fun _ => by kernel_rfl) ?_
      refine wpS.take 1 true (some 27) (.agg #[.int .i32 a1, .int .i32 a2]) (by kernel_rfl) (yld_loadW (e := 73) (n := 2) hs 1 rfl (by kernel_rfl) (by kernel_rfl) (by kernel_rfl) (by simp [enc_len]) .grow) ?_
      obtain ⟨r6, hg, h⟩ := of_bind h
      refine wpS.only 2 (op_call (d := (some 28)) (by kernel_rfl) hs (fun _ => by kernel_rfl) (dpack_span_width.ok hg _) ?_)
      intro w gw hs
      refine ⟨fun _ => trivial, ?_⟩
      obtain ⟨r7, hg, h⟩ := of_bind h
      refine wpS.only 3 (op_callH (d := (some 29)) (by kernel_rfl) hs (fun _ => by kernel_rfl) (bits_Unpack.ok hg _ (hs.rowR 0 rfl)) ?_)
      rintro ⟨r7_A, r7_n, r7_c⟩ w gw hs
      have hs := hs.conv (L' := [.ownL (CI .u32) r7_A r7_n r7_c r7 84, .blk b5 (enc .i32 (zeroA 256)) 40, .blk b2 ([.int .i32 a1, .int .i32 a2]) 73, .blk b1 (enc .i32 (zeroA 256)) 40]) rfl
      refine ⟨fun _ => trivial, ?_⟩
      refine wpS.take 4 false (some 30) (.int .i64 (r7.length : Int)) (by kernel_rfl) (yld_lenL (hs.rowL 0 rfl) (fun _ => by kernel_rfl)) ?_
      refine wpS.take 5 false (some 31) (.int .i64 0) (by kernel_rfl) (yld fun _ => by kernel_rfl) ?_
      refine wpS.fin rfl (kr88 _ _ ?_)
      refine then_n (ks87 _ _ ?_)
      obtain ⟨t0, hy, hk0⟩ := of_bind h
      refine wp_exq (N := fun a w => ∃ y11 y12, t0 = .inl (y11, y12) ∧ St w0 [] [.ownL (CI .u32) r7_A r7_n r7_c r7 84, .blk b5 (enc .i32 y11) 40, .blk b2 ([.int .i32 a1, .int .i32 a2]) 73, .blk b1 (enc .i32 y12) 40] [.rowL (CI .u8) a0_A a0_n a0_c a0] w ∧ ∃ g : Nat → Value, a = ⟨#[.slice a0_A a0_n a0_c, .int .i32 a1, .int .i32 a2, undef, undef, undef, .pointer (some ⟨b1, 0, none⟩), (g 7), .pointer (some ⟨b2, 0, none⟩), .pointer (some ⟨b5, 0, none⟩), (g 10), (g 11), .int .i32 a1, .int .i32 a2, .agg #[.int .i32 a1, .int .i32 a2], .agg #[.int .i32 a1, .int .i32 a2], .bool true, .bool false, .bool false, .slice a0_A a0_n a0_c, .int .i64 (a0.length : Int), .agg #[.int .i32 a1, .int .i32 a2], .int .i64 r4, .bool false, .bool false, undef, .slice a0_A a0_n a0_c, .agg #[.int .i32 a1, .int .i32 a2], .int .i64 r6, .slice r7_A r7_n r7_c, .int .i64 (r7.length : Int), (g 31), (g 32), (g 33), (g 34), (g 35), (g 36), (g 37), (g 38), (g 39), (g 40), (g 41), (g 42), (g 43), (g 44), (g 45), (g 46), (g 47), undef], []⟩) (fun N0 nn0 => ?_) ?_
      · refine xblock ?_
        refine wp_loop_k (fun n a w => ∃ z8 z9 z10, dpack_Unpack.l0 K n a1 a2 r7 z8 z9 z10 = some t0 ∧ St w0 [] [.ownL (CI .u32) r7_A r7_n r7_c r7 84, .blk b5 (enc .i32 z9) 40, .blk b2 ([.int .i32 a1, .int .i32 a2]) 73, .blk b1 (enc .i32 z10) 40] [.rowL (CI .u8) a0_A a0_n a0_c a0] w ∧ ∃ g : Nat → Value, a = ⟨#[.slice a0_A a0_n a0_c, .int .i32 a1, .int .i32 a2, undef, undef, undef, .pointer (some ⟨b1, 0, none⟩), (g 7), .pointer (some ⟨b2, 0, none⟩), .pointer (some ⟨b5, 0, none⟩), (g 10), (g 11), .int .i32 a1, .int .i32 a2, .agg #[.int .i32 a1, .int .i32 a2], .agg #[.int .i32 a1, .int .i32 a2], .bool true, .bool false, .bool false, .slice a0_A a0_n a0_c, .int .i64 (a0.length : Int), .agg #[.int .i32 a1, .int .i32 a2], .int .i64 r4, .bool false, .bool false, undef, .slice a0_A a0_n a0_c, .agg #[.int .i32 a1, .int .i32 a2], .int .i64 r6, .slice r7_A r7_n r7_c, .int .i64 (r7.length : Int), .int .i64 z8, (g 32), (g 33), (g 34), (g 35), (g 36), (g 37), (g 38), (g 39), (g 40), (g 41), (g 42), (g 43), (g 44), (g 45), (g 46), (g 47), undef], []⟩) K ⟨0, (zeroA 256), (zeroA 256), hy, hs.conv rfl, exg (by kernel_rfl)⟩ ?_
        clear hs h hy
        rintro n a w ⟨z8, z9, z10, h, hs, g, rfl⟩ KL0 kl0
        cases n with
        | zero => exact nomatch (show none = some _ from h)
        | succ n =>
          refine xseq_k fun KS123 ks123 => ?_
          refine wp_regS (l := [0]) (by kernel_rfl) (by kernel_rfl) fun KR124 kr124 => ?_
          rcases of_if h with ⟨hc, h⟩ | ⟨hc, h⟩
          · refine wpS.take 0 false (some 32) (.bool true) (by kernel_rfl) (yld_b (dt hc) (fun _ => by kernel_rfl)) ?_
            refine wpS.fin rfl (kr124 _ _ ?_)
            refine then_n (ks123 _ _ ?_)
            refine xseq_k fun KS125 ks125 => ?_
            refine wp_cond_t (by kernel_rfl) ?_
            refine xskip ?_
            refine then_n (ks125 _ _ ?_)
            refine xseq_k fun KS140 ks140 => ?_
            refine xblock ?_
            refine xseq_k fun KS141 ks141 => ?_
            refine wp_regS (l := [0, 1, 2, 3, 4]) (by kernel_rfl) (by kernel_rfl) fun KR142 kr142 => ?_
            refine wpS.take 0 false (some 33) (.int .i64 z8) (by kernel_rfl) (yld fun _ => by kernel_rfl) ?_
            obtain ⟨h0, h⟩ := of_chk h
            obtain ⟨h1, h⟩ := of_chk h
            have i0_143 := h0
            have i1_143 := h1
            refine wpS.take 1 false (some 34) (.pointer (adr r7_A ((z8 : Int).toNat * Cod.size (CI .u32)))) (by kernel_rfl) (yld_idxL (C := (CI .u32)) (t := 82) (e := 84) (k := .i64) (x := z8) (hs.rowL 0 rfl) (by kernel_rfl) (by kernel_rfl) (by kernel_rfl) h0 h1) ?_
            refine wpS.take 2 true (some 35) (.int .u32 (rdL (CI .u32) r7 z8)) (by kernel_rfl) (yld_loadL (C := (CI .u32)) (e := 84) (x := z8) (hs.rowL 0 rfl) (by kernel_rfl) rfl (by kernel_rfl) i0_143 i1_143) ?_
            refine wpS.take 3 false (some 10) (.int .i64 z8) (by kernel_rfl) (yld fun _ => by kernel_rfl) ?_
            obtain ⟨x13, hx, h⟩ := of_bind h
            refine wpS.take 4 false (some 11) (.int .u32 x13) (by kernel_rfl) (yld_int hx (fun _ => by kernel_rfl)) ?_
            refine wpS.fin rfl (kr142 _ _ ?_)
            refine then_n (ks141 _ _ ?_)
            refine xseq_k fun KS148 ks148 => ?_
            refine xseq_k fun KS149 ks149 => ?_
            refine wp_regS (l := [0, 1, 2, 3, 4]) (by kernel_rfl) (by kernel_rfl) fun KR150 kr150 => ?_
            refine wpS.take 0 false (some 36) (.int .u32 x13) (by kernel_rfl) (yld fun _ => by kernel_rfl) ?_
            refine wpS.take 1 true (some 37) (.agg #[.int .i32 a1, .int .i32 a2]) (by kernel_rfl) (yld_loadW (e := 73) (n := 2) hs 2 rfl (by kernel_rfl) (by kernel_rfl) (by kernel_rfl) (by simp [enc_len]) .grow) ?_
            obtain ⟨r14, hg, h⟩ := of_bind h
            refine wpS.only 2 (op_call (d := (some 38)) (by kernel_rfl) hs (fun _ => by kernel_rfl) (dpack_span_all.ok hg _) ?_)
            intro w gw hs
            refine ⟨fun _ => trivial, ?_⟩
            refine wpS.take 3 false (some 39) (.int .u32 (iconv .u32 r14)) (by kernel_rfl) (yld fun _ => by kernel_rfl) ?_
            rcases of_if h with ⟨hc, h⟩ | ⟨hc, h⟩
            · refine wpS.take 4 false (some 40) (.bool true) (by kernel_rfl) (yld_b (dt hc) (fun _ => by kernel_rfl)) ?_
              refine wpS.fin rfl (kr150 _ _ ?_)
              refine then_n (ks149 _ _ ?_)
              refine wp_cond_t (by kernel_rfl) ?_
              refine xseq_k fun KS151 ks151 => ?_
              refine wp_regS (l := [0, 1, 2]) (by kernel_rfl) (by kernel_rfl) fun KR152 kr152 => ?_
              refine wpS.take 0 false (some 41) (.agg (enc .i32 (zeroA 256)).toArray) (by kernel_rfl) (yld fun _ => by kernel_rfl) ?_
              refine wpS.only 1 (op_storeW (t := 40) (v := .agg (enc .i32 (zeroA 256)).toArray) (d := none) (by kernel_rfl) hs 3 rfl (vs := enc .i32 (zeroA 256)) (n := 256) (by kernel_rfl) (by kernel_rfl) (by kernel_rfl) (by simp [enc_len]) (by simp [enc_len]) (by intro u hu; exact enc_one _ _ u hu) ?_)
              intro w kp hs
              refine ⟨fun _ => trivial, ?_⟩
              refine wpS.take 2 false (some 7) (.bool false) (by kernel_rfl) (yld fun _ => by kernel_rfl) ?_
              refine wpS.fin rfl (kr152 _ _ ?_)
              refine then_n (ks151 _ _ ?_)
              refine xret ?_
              refine then_r ?_
              refine inBlock_r ?_
              refine then_r ?_
              refine then_r ?_
              refine inBlock_r ?_
              refine exq_r ?_
              refine then_r ?_
              have q0 := of_some h
              subst q0
              obtain ⟨q0, qr0⟩ := Prod.mk.inj (of_some hk0)
              have q1 := qr0
              subst q0
              subst q1
              exact qq _ _ (post_ret (by kernel_rfl) (run_results [.cell 6 40, .tmp 7] [.agg (enc .i32 (zeroA 256)).toArray, .bool false] (by kernel_rfl) (.cons (res_cellN (n := 256) hs 3 rfl (by kernel_rfl) (by kernel_rfl) (by kernel_rfl) (by exact enc_len _ _)) (.cons (res_tmp (by kernel_rfl)) .nil))) ⟨congrArg Ending.returned (by kernel_rfl), hs.none⟩)
            · refine wpS.take 4 false (some 40) (.bool false) (by kernel_rfl) (yld_b (df hc) (fun _ => by kernel_rfl)) ?_
              refine wpS.fin rfl (kr150 _ _ ?_)
              refine then_n (ks149 _ _ ?_)
              refine wp_cond_f (by kernel_rfl) ?_
              refine xskip ?_
              refine then_n (ks148 _ _ ?_)
              refine wp_regS (l := [0, 1, 2, 3, 4, 5]) (by kernel_rfl) (by kernel_rfl) fun KR153 kr153 => ?_
              refine wpS.take 0 false (some 42) (.int .i64 z8) (by kernel_rfl) (yld fun _ => by kernel_rfl) ?_
              refine wpS.take 1 true (some 43) (.agg #[.int .i32 a1, .int .i32 a2]) (by kernel_rfl) (yld_loadW (e := 73) (n := 2) hs 2 rfl (by kernel_rfl) (by kernel_rfl) (by kernel_rfl) (by simp [enc_len]) .grow) ?_
              refine wpS.take 2 false (some 44) (.int .u32 x13) (by kernel_rfl) (yld fun _ => by kernel_rfl) ?_
              obtain ⟨r15, hg, h⟩ := of_bind h
              refine wpS.only 3 (op_call (d := (some 45)) (by kernel_rfl) hs (fun _ => by kernel_rfl) (dpack_span_back.ok hg _) ?_)
              intro w gw hs
              refine ⟨fun _ => trivial, ?_⟩
              obtain ⟨i0_154, h⟩ := of_chk h
              obtain ⟨i1_154, h⟩ := of_chk h
              refine wpS.take 4 false (some 46) (.pointer (some ⟨b5, 0 + (z8 : Int).toNat * 1, none⟩)) (by kernel_rfl) (yld_idx (t := 40) (e := 21) (n := 256) (sz := 1) (k := .i64) (x := z8) (by kernel_rfl) (by kernel_rfl) (by kernel_rfl) i0_154 i1_154) ?_
              refine wpS.only 5 (op_storeA (t := 21) (x := z8) (v := r15) (d := none) (by kernel_rfl) hs 1 rfl (by kernel_rfl) (by kernel_rfl) i0_154 i1_154 ?_)
              intro w kp hs
              refine ⟨fun _ => trivial, ?_⟩
              refine wpS.fin rfl (kr153 _ _ ?_)
              refine inBlock_n ?_
              refine then_n (ks140 _ _ ?_)
              refine wp_regS (l := [0, 1]) (by kernel_rfl) (by kernel_rfl) fun KR155 kr155 => ?_
              refine wpS.take 0 false (some 47) (.int .i64 (iadd .i64 z8 1)) (by kernel_rfl) (yld fun _ => by kernel_rfl) ?_
              refine wpS.take 1 false (some 31) (.int .i64 (iadd .i64 z8 1)) (by kernel_rfl) (yld fun _ => by kernel_rfl) ?_
              refine wpS.fin rfl (kr155 _ _ ?_)
              exact then_n (kl0 _ _ ⟨n, Nat.lt_succ_self n, (iadd .i64 z8 1), (wr z9 z8 r15), z10, h, (hs.conv rfl), exg (by kernel_rfl)⟩)
          · refine wpS.take 0 false (some 32) (.bool false) (by kernel_rfl) (yld_b (df hc) (fun _ => by kernel_rfl)) ?_
            refine wpS.fin rfl (kr124 _ _ ?_)
            refine then_n (ks123 _ _ ?_)
            refine xseq_k fun KS156 ks156 => ?_
            refine wp_cond_f (by kernel_rfl) ?_
            refine xexit ?_
            refine then_x ?_
            refine then_x ?_
            refine inBlock_hit ?_
            have q0 := of_some h
            subst q0
            exact exq_n (nn0 _ _ ⟨z9, z10, rfl, (hs.conv rfl), exg (by kernel_rfl)⟩)
      · clear hs h hy
        rintro a w ⟨y11, y12, rfl, hs, g, rfl⟩
        have h := hk0
        refine then_n (ks86 _ _ ?_)
        refine xseq_k fun KS157 ks157 => ?_
        refine wp_regS (l := [0, 1, 2]) (by kernel_rfl) (by kernel_rfl) fun KR158 kr158 => ?_
        refine wpS.take 0 true (some 48) (.agg (enc .i32 y11).toArray) (by kernel_rfl) (yld_loadW (e := 40) (n := 256) hs 1 rfl (by kernel_rfl) (by kernel_rfl) (by kernel_rfl) (by exact enc_len _ _) .grow) ?_
        refine wpS.only 1 (op_storeW (t := 40) (v := .agg (enc .i32 y11).toArray) (d := none) (by kernel_rfl) hs 3 rfl (vs := enc .i32 y11) (n := 256) (by kernel_rfl) (by kernel_rfl) (by kernel_rfl) (by simp [enc_len]) (by simp [enc_len]) (by intro u hu; exact enc_one _ _ u hu) ?_)
        intro w kp hs
        refine ⟨fun _ => trivial, ?_⟩
        refine wpS.take 2 false (some 7) (.bool true) (by kernel_rfl) (yld fun _ => by kernel_rfl) ?_
        refine wpS.fin rfl (kr158 _ _ ?_)
        refine then_n (ks157 _ _ ?_)
        refine xret ?_
        obtain ⟨q0, qr0⟩ := Prod.mk.inj (of_some h)
        have q1 := qr0
        subst q0
        subst q1
        exact qq _ _ (post_ret (by kernel_rfl) (run_results [.cell 6 40, .tmp 7] [.agg (enc .i32 y11).toArray, .bool true] (by kernel_rfl) (.cons (res_cellN (n := 256) hs 3 rfl (by kernel_rfl) (by kernel_rfl) (by kernel_rfl) (by exact enc_len _ _)) (.cons (res_tmp (by kernel_rfl)) .nil))) ⟨congrArg Ending.returned (by kernel_rfl), hs.none⟩)
    · refine wpS.take 8 false (some 23) (.bool true) (by kernel_rfl) (yld_b (nt hc) (fun _ => by kernel_rfl)) ?_
      refine wpS.take 9 false (some 24) (.bool true) (by kernel_rfl) (yld fun _ => by kernel_rfl) ?_
      refine wpS.fin rfl (kr13 _ _ ?_)
      refine then_n (ks12 _ _ ?_)
      refine wp_cond_t (by kernel_rfl) ?_
      refine xseq_k fun KS159 ks159 => ?_
      refine wp_regS (l := [0, 1, 2]) (by kernel_rfl) (by kernel_rfl) fun KR160 kr160 => ?_
      refine wpS.take 0 false (some 25) (.agg (enc .i32 (zeroA 256)).toArray) (by kernel_rfl) (yld fun _ => by kernel_rfl) ?_
      refine wpS.only 1 (op_storeW (t := 40) (v := .agg (enc .i32 (zeroA 256)).toArray) (d := none) (by kernel_rfl) hs 1 rfl (vs := enc .i32 (zeroA 256)) (n := 256) (by kernel_rfl) (by kernel_rfl) (by kernel_rfl) (by simp [enc_len]) (by simp [enc_len]) (by intro u hu; exact enc_one _ _ u hu) ?_)
      intro w kp hs
      refine ⟨fun _ => trivial, ?_⟩
      refine wpS.take 2 false (some 7) (.bool false) (by kernel_rfl) (yld fun _ => by kernel_rfl) ?_
      refine wpS.fin rfl (kr160 _ _ ?_)
      refine then_n (ks159 _ _ ?_)
      refine xret ?_
      refine then_r ?_
      obtain ⟨q0, qr0⟩ := Prod.mk.inj (of_some h)
      have q1 := qr0
      subst q0
      subst q1
      exact qq _ _ (post_ret (by kernel_rfl) (run_results [.cell 6 40, .tmp 7] [.agg (enc .i32 (zeroA 256)).toArray, .bool false] (by kernel_rfl) (.cons (res_cellN (n := 256) hs 1 rfl (by kernel_rfl) (by kernel_rfl) (by kernel_rfl) (by exact enc_len _ _)) (.cons (res_tmp (by kernel_rfl)) .nil))) ⟨congrArg Ending.returned (by kernel_rfl), hs.none⟩)
  | false =>
    have h := of_if_f h
    refine wpS.only 1 (op_call (d := (some 16)) (by kernel_rfl) hs (fun _ => by kernel_rfl) (dpack_span_fit.ok hg _) ?_)
    intro w gw hs
    refine ⟨fun _ => trivial, ?_⟩
    refine wpS.take 2 false (some 17) (.bool true) (by kernel_rfl) (yld fun _ => by kernel_rfl) ?_
    refine wpS.take 3 false (some 18) (.bool true) (by kernel_rfl) (yld fun _ => by kernel_rfl) ?_
    refine wpS.take 4 false (some 19) (undef) (by kernel_rfl) (yld fun _ => by kernel_rfl) ?_
    refine wpS.take 5 false (some 20) (undef) (by kernel_rfl) (yld fun _ => by kernel_rfl) ?_
    refine wpS.take 6 false (some 21) (undef) (by kernel_rfl) (yld fun _ => by kernel_rfl) ?_
    refine wpS.take 7 false (some 22) (undef) (by kernel_rfl) (yld fun _ => by kernel_rfl) ?_
    refine wpS.take 8 false (some 23) (undef) (by kernel_rfl) (yld fun _ => by kernel_rfl) ?_
    refine wpS.take 9 false (some 24) (.bool true) (by kernel_rfl) (yld fun _ => by kernel_rfl) ?_
    refine wpS.fin rfl (kr13 _ _ ?_)
    refine then_n (ks12 _ _ ?_)
    refine wp_cond_t (by kernel_rfl) ?_
    refine xseq_k fun KS161 ks161 => ?_
    refine wp_regS (l := [0, 1, 2]) (by kernel_rfl) (by kernel_rfl) fun KR162 kr162 => ?_
    refine wpS.take 0 false (some 25) (.agg (enc .i32 (zeroA 256)).toArray) (by kernel_rfl) (yld fun _ => by kernel_rfl) ?_
    refine wpS.only 1 (op_storeW (t := 40) (v := .agg (enc .i32 (zeroA 256)).toArray) (d := none) (by kernel_rfl) hs 1 rfl (vs := enc .i32 (zeroA 256)) (n := 256) (by kernel_rfl) (by kernel_rfl) (by kernel_rfl) (by simp [enc_len]) (by simp [enc_len]) (by intro u hu; exact enc_one _ _ u hu) ?_)
    intro w kp hs
    refine ⟨fun _ => trivial, ?_⟩
    refine wpS.take 2 false (some 7) (.bool false) (by kernel_rfl) (yld fun _ => by kernel_rfl) ?_
    refine wpS.fin rfl (kr162 _ _ ?_)
    refine then_n (ks161 _ _ ?_)
    refine xret ?_
    refine then_r ?_
    obtain ⟨q0, qr0⟩ := Prod.mk.inj (of_some h)
    have q1 := qr0
    subst q0
    subst q1
    exact qq _ _ (post_ret (by kernel_rfl) (run_results [.cell 6 40, .tmp 7] [.agg (enc .i32 (zeroA 256)).toArray, .bool false] (by kernel_rfl) (.cons (res_cellN (n := 256) hs 1 rfl (by kernel_rfl) (by kernel_rfl) (by kernel_rfl) (by exact enc_len _ _)) (.cons (res_tmp (by kernel_rfl)) .nil))) ⟨congrArg Ending.returned (by kernel_rfl), hs.none⟩)

theorem ref22_bounds.ok {K : Nat} {a0 : Int} {a1 : Int} {r0 : Bool} (h : ref22_bounds.f K a0 a1 = some r0) (w0 : World) : Ret Try.prog 52 #[.int .i32 a0, .int .i32 a1] w0 (.bool r0) := by
  refine calls_k Try.func52 rfl fun Q qq => ?_
  have hs := St.start w0
  refine wp_conv (a' := ⟨#[.int .i32 a0, .int .i32 a1, undef, undef, undef, undef, undef, undef, undef, undef, undef, undef, undef, undef, undef, undef, undef, undef, undef], []⟩) (by kernel_rfl) ?_
  refine xseq_k fun KS1 ks1 => ?_
  refine wp_regS (l := [0]) (by kernel_rfl) (by kernel_rfl) fun KR2 kr2 => ?_
  refine wpS.take 0 false (some 4) (.bool false) (by kernel_rfl) (yld fun _ => by kernel_rfl) ?_
  refine wpS.fin rfl (kr2 _ _ ?_)
  refine then_n (ks1 _ _ ?_)
  refine xseq_k fun KS3 ks3 => ?_
  refine wp_regS (l := [0, 1, 2, 3, 4, 5, 6, 7, 8, 9, 10, 11, 12, 13, 14]) (by kernel_rfl) (by kernel_rfl) fun KR4 kr4 => ?_
  refine wpS.take 0 false (some 5) (.int .i32 a0) (by kernel_rfl) (yld fun _ => by kernel_rfl) ?_
  rcases of_if h with ⟨hc, h⟩ | ⟨hc, h⟩
  · refine wpS.take 1 false (some 6) (.bool true) (by kernel_rfl) (yld_b (dt hc) (fun _ => by kernel_rfl)) ?_
    refine wpS.take 2 false (some 7) (.bool true) (by kernel_rfl) (yld fun _ => by kernel_rfl) ?_
    refine wpS.take 3 false (some 8) (.int .i32 a0) (by kernel_rfl) (yld fun _ => by kernel_rfl) ?_
    rcases of_if h with ⟨hc, h⟩ | ⟨hc, h⟩
    · refine wpS.take 4 false (some 9) (.bool true) (by kernel_rfl) (yld_b (dt hc) (fun _ => by kernel_rfl)) ?_
      refine wpS.take 5 false (some 10) (.bool true) (by kernel_rfl) (yld fun _ => by kernel_rfl) ?_
      refine wpS.take 6 false (some 11) (.bool true) (by kernel_rfl) (yld fun _ => by kernel_rfl) ?_
      refine wpS.take 7 false (some 12) (.int .i32 a1) (by kernel_rfl) (yld fun _ => by kernel_rfl) ?_
      rcases of_if h with ⟨hc, h⟩ | ⟨hc, h⟩
      · refine wpS.take 8 false (some 13) (.bool true) (by kernel_rfl) (yld_b (dt hc) (fun _ => by kernel_rfl)) ?_
        refine wpS.take 9 false (some 14) (.bool true) (by kernel_rfl) (yld fun _ => by kernel_rfl) ?_
        refine wpS.take 10 false (some 15) (.bool true) (by kernel_rfl) (yld fun _ => by kernel_rfl) ?_
        refine wpS.take 11 false (some 16) (.int .i32 a1) (by kernel_rfl) (yld fun _ => by kernel_rfl) ?_
        refine wpS.take 12 false (some 17) (.bool (decide (a1 ≤ 1048576))) (by kernel_rfl) (yld fun _ => by kernel_rfl) ?_
        refine wpS.take 13 false (some 18) (.bool (decide (a1 ≤ 1048576))) (by kernel_rfl) (yld fun _ => by kernel_rfl) ?_
        refine wpS.take 14 false (some 4) (.bool (decide (a1 ≤ 1048576))) (by kernel_rfl) (yld fun _ => by kernel_rfl) ?_
        refine wpS.fin rfl (kr4 _ _ ?_)
        refine then_n (ks3 _ _ ?_)
        refine xret ?_
        have q0 := of_some h
        subst q0
        exact qq _ _ (post_ret (by kernel_rfl) (run_results [.tmp 4] [.bool (decide (a1 ≤ 1048576))] (by kernel_rfl) (.cons (res_tmp (by kernel_rfl)) .nil)) ⟨congrArg Ending.returned (by kernel_rfl), hs.none⟩)
      · refine wpS.take 8 false (some 13) (.bool false) (by kernel_rfl) (yld_b (df hc) (fun _ => by kernel_rfl)) ?_
        refine wpS.take 9 false (some 14) (.bool false) (by kernel_rfl) (yld fun _ => by kernel_rfl) ?_
        refine wpS.take 10 false (some 15) (.bool false) (by kernel_rfl) (yld fun _ => by kernel_rfl) ?_
        refine wpS.take 11 false (some 16) (undef) (by kernel_rfl) (yld fun _ => by kernel_rfl) ?_
        refine wpS.take 12 false (some 17) (undef) (by kernel_rfl) (yld fun _ => by kernel_rfl) ?_
        refine wpS.take 13 false (some 18) (.bool false) (by kernel_rfl) (yld fun _ => by kernel_rfl) ?_
        refine wpS.take 14 false (some 4) (.bool false) (by kernel_rfl) (yld fun _ => by kernel_rfl) ?_
        refine wpS.fin rfl (kr4 _ _ ?_)
        refine then_n (ks3 _ _ ?_)
        refine xret ?_
        have q0 := of_some h
        subst q0
        exact qq _ _ (post_ret (by kernel_rfl) (run_results [.tmp 4] [.bool false] (by kernel_rfl) (.cons (res_tmp (by kernel_rfl)) .nil)) ⟨congrArg Ending.returned (by kernel_rfl), hs.none⟩)
    · refine wpS.take 4 false (some 9) (.bool false) (by kernel_rfl) (yld_b (df hc) (fun _ => by kernel_rfl)) ?_
      refine wpS.take 5 false (some 10) (.bool false) (by kernel_rfl) (yld fun _ => by kernel_rfl) ?_
      refine wpS.take 6 false (some 11) (.bool false) (by kernel_rfl) (yld fun _ => by kernel_rfl) ?_
      refine wpS.take 7 false (some 12) (undef) (by kernel_rfl) (yld fun _ => by kernel_rfl) ?_
      refine wpS.take 8 false (some 13) (undef) (by kernel_rfl) (yld fun _ => by kernel_rfl) ?_
      refine wpS.take 9 false (some 14) (.bool false) (by kernel_rfl) (yld fun _ => by kernel_rfl) ?_
      refine wpS.take 10 false (some 15) (.bool false) (by kernel_rfl) (yld fun _ => by kernel_rfl) ?_
      refine wpS.take 11 false (some 16) (undef) (by kernel_rfl) (yld fun _ => by kernel_rfl) ?_
      refine wpS.take 12 false (some 17) (undef) (by kernel_rfl) (yld fun _ => by kernel_rfl) ?_
      refine wpS.take 13 false (some 18) (.bool false) (by kernel_rfl) (yld fun _ => by kernel_rfl) ?_
      refine wpS.take 14 false (some 4) (.bool false) (by kernel_rfl) (yld fun _ => by kernel_rfl) ?_
      refine wpS.fin rfl (kr4 _ _ ?_)
      refine then_n (ks3 _ _ ?_)
      refine xret ?_
      have q0 := of_some h
      subst q0
      exact qq _ _ (post_ret (by kernel_rfl) (run_results [.tmp 4] [.bool false] (by kernel_rfl) (.cons (res_tmp (by kernel_rfl)) .nil)) ⟨congrArg Ending.returned (by kernel_rfl), hs.none⟩)
  · refine wpS.take 1 false (some 6) (.bool false) (by kernel_rfl) (yld_b (df hc) (fun _ => by kernel_rfl)) ?_
    refine wpS.take 2 false (some 7) (.bool false) (by kernel_rfl) (yld fun _ => by kernel_rfl) ?_
    refine wpS.take 3 false (some 8) (undef) (by kernel_rfl) (yld fun _ => by kernel_rfl) ?_
    refine wpS.take 4 false (some 9) (undef) (by kernel_rfl) (yld fun _ => by kernel_rfl) ?_
    refine wpS.take 5 false (some 10) (.bool false) (by kernel_rfl) (yld fun _ => by kernel_rfl) ?_
    refine wpS.take 6 false (some 11) (.bool false) (by kernel_rfl) (yld fun _ => by kernel_rfl) ?_
    refine wpS.take 7 false (some 12) (undef) (by kernel_rfl) (yld fun _ => by kernel_rfl) ?_
    refine wpS.take 8 false (some 13) (undef) (by kernel_rfl) (yld fun _ => by kernel_rfl) ?_
    refine wpS.take 9 false (some 14) (.bool false) (by kernel_rfl) (yld fun _ => by kernel_rfl) ?_
    refine wpS.take 10 false (some 15) (.bool false) (by kernel_rfl) (yld fun _ => by kernel_rfl) ?_
    refine wpS.take 11 false (some 16) (undef) (by kernel_rfl) (yld fun _ => by kernel_rfl) ?_
    refine wpS.take 12 false (some 17) (undef) (by kernel_rfl) (yld fun _ => by kernel_rfl) ?_
    refine wpS.take 13 false (some 18) (.bool false) (by kernel_rfl) (yld fun _ => by kernel_rfl) ?_
    refine wpS.take 14 false (some 4) (.bool false) (by kernel_rfl) (yld fun _ => by kernel_rfl) ?_
    refine wpS.fin rfl (kr4 _ _ ?_)
    refine then_n (ks3 _ _ ?_)
    refine xret ?_
    have q0 := of_some h
    subst q0
    exact qq _ _ (post_ret (by kernel_rfl) (run_results [.tmp 4] [.bool false] (by kernel_rfl) (.cons (res_tmp (by kernel_rfl)) .nil)) ⟨congrArg Ending.returned (by kernel_rfl), hs.none⟩)

theorem ref01_such.ok {K : Nat} {a0 : List Int} {a1 : Int} {a2 : Int} {r0 : Bool} {a0_A : Option Addr} {a0_n : Nat} {a0_c : Nat} (h : ref01_such.f K a0 a1 a2 = some r0) (w0 : World) (hp0 : RowL (CI .u8) w0 a0_A a0_n a0_c a0) : Ret Try.prog 68 #[.slice a0_A a0_n a0_c, .int .i64 a1, .int .i64 a2] w0 (.bool r0) := by
  refine calls_k Try.func68 rfl fun Q qq => ?_
  have hs := St.startR (all_cons (RowP.ent hp0) all_nil)
  refine wp_conv (a' := ⟨#[.slice a0_A a0_n a0_c, .int .i64 a1, .int .i64 a2, undef, undef, undef, undef, undef, undef, undef, undef, undef, undef, undef, undef, undef, undef, undef, undef, undef, undef, undef, undef, undef, undef, undef], []⟩) (by kernel_rfl) ?_
  refine xseq_k fun KS1 ks1 => ?_
  refine wp_regS (l := [0]) (by kernel_rfl) (by kernel_rfl) fun KR2 kr2 => ?_
  refine wpS.take 0 false (some 6) (.bool false) (by kernel_rfl) (yld fun _ => by kernel_rfl) ?_
  refine wpS.fin rfl (kr2 _ _ ?_)
  refine then_n (ks1 _ _ ?_)
  refine xseq_k fun KS3 ks3 => ?_
  refine wp_regS (l := [0, 1, 2, 3, 4, 5, 6, 7, 8, 9, 10, 11, 12, 13, 14, 15, 16, 17, 18, 19]) (by kernel_rfl) (by kernel_rfl) fun KR4 kr4 => ?_
  refine wpS.take 0 false (some 7) (.int .i64 a1) (by kernel_rfl) (yld fun _ => by kernel_rfl) ?_
  rcases of_if h with ⟨hc, h⟩ | ⟨hc, h⟩
  · refine wpS.take 1 false (some 8) (.bool true) (by kernel_rfl) (yld_b (dt hc) (fun _ => by kernel_rfl)) ?_
    refine wpS.take 2 false (some 9) (.bool true) (by kernel_rfl) (yld fun _ => by kernel_rfl) ?_
    refine wpS.take 3 false (some 10) (.int .i64 a1) (by kernel_rfl) (yld fun _ => by kernel_rfl) ?_
    rcases of_if h with ⟨hc, h⟩ | ⟨hc, h⟩
    · refine wpS.take 4 false (some 11) (.bool true) (by kernel_rfl) (yld_b (dt hc) (fun _ => by kernel_rfl)) ?_
      refine wpS.take 5 false (some 12) (.bool true) (by kernel_rfl) (yld fun _ => by kernel_rfl) ?_
      refine wpS.take 6 false (some 13) (.bool true) (by kernel_rfl) (yld fun _ => by kernel_rfl) ?_
      refine wpS.take 7 false (some 14) (.int .i64 a2) (by kernel_rfl) (yld fun _ => by kernel_rfl) ?_
      rcases of_if h with ⟨hc, h⟩ | ⟨hc, h⟩
      · refine wpS.take 8 false (some 15) (.bool true) (by kernel_rfl) (yld_b (dt hc) (fun _ => by kernel_rfl)) ?_
        refine wpS.take 9 false (some 16) (.bool true) (by kernel_rfl) (yld fun _ => by kernel_rfl) ?_
        refine wpS.take 10 false (some 17) (.bool true) (by kernel_rfl) (yld fun _ => by kernel_rfl) ?_
        refine wpS.take 11 false (some 18) (.int .i64 a2) (by kernel_rfl) (yld fun _ => by kernel_rfl) ?_
        refine wpS.take 12 false (some 19) (.slice a0_A a0_n a0_c) (by kernel_rfl) (yld fun _ => by kernel_rfl) ?_
        refine wpS.take 13 false (some 20) (.int .i64 (a0.length : Int)) (by kernel_rfl) (yld_lenL (hs.rowR 0 rfl) (fun _ => by kernel_rfl)) ?_
        refine wpS.take 14 false (some 21) (.int .i64 (imul .i64 (a0.length : Int) 8)) (by kernel_rfl) (yld fun _ => by kernel_rfl) ?_
        refine wpS.take 15 false (some 22) (.int .i64 a1) (by kernel_rfl) (yld fun _ => by kernel_rfl) ?_
        obtain ⟨h0, h⟩ := of_chk h
        refine wpS.take 16 false (some 23) (.int .i64 (iquo .i64 (imul .i64 (a0.length : Int) 8) a1)) (by kernel_rfl) (yld_quo (t := 3) (by kernel_rfl) h0) ?_
        refine wpS.take 17 false (some 24) (.bool (decide (a2 ≤ (iquo .i64 (imul .i64 (a0.length : Int) 8) a1)))) (by kernel_rfl) (yld fun _ => by kernel_rfl) ?_
        refine wpS.take 18 false (some 25) (.bool (decide (a2 ≤ (iquo .i64 (imul .i64 (a0.length : Int) 8) a1)))) (by kernel_rfl) (yld fun _ => by kernel_rfl) ?_
        refine wpS.take 19 false (some 6) (.bool (decide (a2 ≤ (iquo .i64 (imul .i64 (a0.length : Int) 8) a1)))) (by kernel_rfl) (yld fun _ => by kernel_rfl) ?_
        refine wpS.fin rfl (kr4 _ _ ?_)
        refine then_n (ks3 _ _ ?_)
        refine xret ?_
        have q0 := of_some h
        subst q0
        exact qq _ _ (post_ret (by kernel_rfl) (run_results [.tmp 6] [.bool (decide (a2 ≤ (iquo .i64 (imul .i64 (a0.length : Int) 8) a1)))] (by kernel_rfl) (.cons (res_tmp (by kernel_rfl)) .nil)) ⟨congrArg Ending.returned (by kernel_rfl), hs.none⟩)
      · refine wpS.take 8 false (some 15) (.bool false) (by kernel_rfl) (yld_b (df hc) (fun _ => by kernel_rfl)) ?_
        refine wpS.take 9 false (some 16) (.bool false) (by kernel_rfl) (yld fun _ => by kernel_rfl) ?_
        refine wpS.take 10 false (some 17) (.bool false) (by kernel_rfl) (yld fun _ => by kernel_rfl) ?_
        refine wpS.take 11 false (some 18) (undef) (by kernel_rfl) (yld fun _ => by kernel_rfl) ?_
        refine wpS.take 12 false (some 19) (undef) (by kernel_rfl) (yld fun _ => by kernel_rfl) ?_
        refine wpS.take 13 false (some 20) (undef) (by kernel_rfl) (yld fun _ => by kernel_rfl) ?_
        refine wpS.take 14 false (some 21) (undef) (by kernel_rfl) (yld fun _ => by kernel_rfl) ?_
        refine wpS.take 15 false (some 22) (undef) (by kernel_rfl) (yld fun _ => by kernel_rfl) ?_
        refine wpS.take 16 false (some 23) (undef) (by kernel_rfl) (yld fun _ => by kernel_rfl) ?_
        refine wpS.take 17 false (some 24) (undef) (by kernel_rfl) (yld fun _ => by kernel_rfl) ?_
        refine wpS.take 18 false (some 25) (.bool false) (by kernel_rfl) (yld fun _ => by kernel_rfl) ?_
        refine wpS.take 19 false (some 6) (.bool false) (by kernel_rfl) (yld fun _ => by kernel_rfl) ?_
        refine wpS.fin rfl (kr4 _ _ ?_)
        refine then_n (ks3 _ _ ?_)
        refine xret ?_
        have q0 := of_some h
        subst q0
        exact qq _ _ (post_ret (by kernel_rfl) (run_results [.tmp 6] [.bool false] (by kernel_rfl) (.cons (res_tmp (by kernel_rfl)) .nil)) ⟨congrArg Ending.returned (by kernel_rfl), hs.none⟩)
    · refine wpS.take 4 false (some 11) (.bool false) (by kernel_rfl) (yld_b (df hc) (fun _ => by kernel_rfl)) ?_
      refine wpS.take 5 false (some 12) (.bool false) (by kernel_rfl) (yld fun _ => by kernel_rfl) ?_
      refine wpS.take 6 false (some 13) (.bool false) (by kernel_rfl) (yld fun _ => by kernel_rfl) ?_
      refine wpS.take 7 false (some 14) (undef) (by kernel_rfl) (yld fun _ => by kernel_rfl) ?_
      refine wpS.take 8 false (some 15) (undef) (by kernel_rfl) (yld fun _ => by kernel_rfl) ?_
      refine wpS.take 9 false (some 16) (.bool false) (by kernel_rfl) (yld fun _ => by kernel_rfl) ?_
      refine wpS.take 10 false (some 17) (.bool false) (by kernel_rfl) (yld fun _ => by kernel_rfl) ?_
      refine wpS.take 11 false (some 18) (undef) (by kernel_rfl) (yld fun _ => by kernel_rfl) ?_
      refine wpS.take 12 false (some 19) (undef) (by kernel_rfl) (yld fun _ => by kernel_rfl) ?_
      refine wpS.take 13 false (some 20) (undef) (by kernel_rfl) (yld fun _ => by kernel_rfl) ?_
      refine wpS.take 14 false (some 21) (undef) (by kernel_rfl) (yld fun _ => by kernel_rfl) ?_
      refine wpS.take 15 false (some 22) (undef) (by kernel_rfl) (yld fun _ => by kernel_rfl) ?_
      refine wpS.take 16 false (some 23) (undef) (by kernel_rfl) (yld fun _ => by kernel_rfl) ?_
      refine wpS.take 17 false (some 24) (undef) (by kernel_rfl) (yld fun _ => by kernel_rfl) ?_
      refine wpS.take 18 false (some 25) (.bool false) (by kernel_rfl) (yld fun _ => by kernel_rfl) ?_
      refine wpS.take 19 false (some 6) (.bool false) (by kernel_rfl) (yld fun _ => by kernel_rfl) ?_
      refine wpS.fin rfl (kr4 _ _ ?_)
      refine then_n (ks3 _ _ ?_)
      refine xret ?_
      have q0 := of_some h
      subst q0
      exact qq _ _ (post_ret (by kernel_rfl) (run_results [.tmp 6] [.bool false] (by kernel_rfl) (.cons (res_tmp (by kernel_rfl)) .nil)) ⟨congrArg Ending.returned (by kernel_rfl), hs.none⟩)
  · refine wpS.take 1 false (some 8) (.bool false) (by kernel_rfl) (yld_b (df hc) (fun _ => by kernel_rfl)) ?_
    refine wpS.take 2 false (some 9) (.bool false) (by kernel_rfl) (yld fun _ => by kernel_rfl) ?_
    refine wpS.take 3 false (some 10) (undef) (by kernel_rfl) (yld fun _ => by kernel_rfl) ?_
    refine wpS.take 4 false (some 11) (undef) (by kernel_rfl) (yld fun _ => by kernel_rfl) ?_
    refine wpS.take 5 false (some 12) (.bool false) (by kernel_rfl) (yld fun _ => by kernel_rfl) ?_
    refine wpS.take 6 false (some 13) (.bool false) (by kernel_rfl) (yld fun _ => by kernel_rfl) ?_
    refine wpS.take 7 false (some 14) (undef) (by kernel_rfl) (yld fun _ => by kernel_rfl) ?_
    refine wpS.take 8 false (some 15) (undef) (by kernel_rfl) (yld fun _ => by kernel_rfl) ?_
    refine wpS.take 9 false (some 16) (.bool false) (by kernel_rfl) (yld fun _ => by kernel_rfl) ?_
    refine wpS.take 10 false (some 17) (.bool false) (by kernel_rfl) (yld fun _ => by kernel_rfl) ?_
    refine wpS.take 11 false (some 18) (undef) (by kernel_rfl) (yld fun _ => by kernel_rfl) ?_
    refine wpS.take 12 false (some 19) (undef) (by kernel_rfl) (yld fun _ => by kernel_rfl) ?_
    refine wpS.take 13 false (some 20) (undef) (by kernel_rfl) (yld fun _ => by kernel_rfl) ?_
    refine wpS.take 14 false (some 21) (undef) (by kernel_rfl) (yld fun _ => by kernel_rfl) ?_
    refine wpS.take 15 false (some 22) (undef) (by kernel_rfl) (yld fun _ => by kernel_rfl) ?_
    refine wpS.take 16 false (some 23) (undef) (by kernel_rfl) (yld fun _ => by kernel_rfl) ?_
    refine wpS.take 17 false (some 24) (undef) (by kernel_rfl) (yld fun _ => by kernel_rfl) ?_
    refine wpS.take 18 false (some 25) (.bool false) (by kernel_rfl) (yld fun _ => by kernel_rfl) ?_
    refine wpS.take 19 false (some 6) (.bool false) (by kernel_rfl) (yld fun _ => by kernel_rfl) ?_
    refine wpS.fin rfl (kr4 _ _ ?_)
    refine then_n (ks3 _ _ ?_)
    refine xret ?_
    have q0 := of_some h
    subst q0
    exact qq _ _ (post_ret (by kernel_rfl) (run_results [.tmp 6] [.bool false] (by kernel_rfl) (.cons (res_tmp (by kernel_rfl)) .nil)) ⟨congrArg Ending.returned (by kernel_rfl), hs.none⟩)

theorem ref01_Unpack.ok {K : Nat} {a0 : List Int} {a1 : Int} {a2 : Int} {r0 : List Int} {a0_A : Option Addr} {a0_n : Nat} {a0_c : Nat} (h : ref01_Unpack.f K a0 a1 a2 = some r0) (w0 : World) (hp0 : RowL (CI .u8) w0 a0_A a0_n a0_c a0) : Calls Try.prog 53 #[.slice a0_A a0_n a0_c, .int .i64 a1, .int .i64 a2] w0 fun e w' => ∃ h : (Option Addr × Nat × Nat), e = .returned (.slice h.1 h.2.1 h.2.2) ∧ St w0 [] [.ownL (CI .u32) h.1 h.2.1 h.2.2 r0 84] [] w' := by
  refine calls_k Try.func53 rfl fun Q qq => ?_
  have hs := St.startR (all_cons (RowP.ent hp0) all_nil)
  refine wp_conv (a' := ⟨#[.slice a0_A a0_n a0_c, .int .i64 a1, .int .i64 a2, undef, undef, undef, undef, undef, undef, undef, undef, undef, undef, undef, undef, undef, undef, undef, undef, undef, undef, undef, undef, undef, undef, undef, undef, undef, undef, undef, undef, undef, undef, undef, undef, undef, undef, undef, undef, undef, undef, undef, undef, undef, undef, undef, undef, undef, undef, undef, undef], []⟩) (by kernel_rfl) ?_
  refine xseq_k fun KS1 ks1 => ?_
  refine wp_regS (l := [0]) (by kernel_rfl) (by kernel_rfl) fun KR2 kr2 => ?_
  refine wpS.take 0 false (some 6) (.slice none 0 0) (by kernel_rfl) (yld fun _ => by kernel_rfl) ?_
  refine wpS.fin rfl (kr2 _ _ ?_)
  refine then_n (ks1 _ _ ?_)
  refine xseq_k fun KS7 ks7 => ?_
  refine xseq_k fun KS8 ks8 => ?_
  refine wp_regS (l := [0, 1, 2, 3, 4]) (by kernel_rfl) (by kernel_rfl) fun KR9 kr9 => ?_
  refine wpS.take 0 false (some 12) (.slice a0_A a0_n a0_c) (by kernel_rfl) (yld fun _ => by kernel_rfl) ?_
  refine wpS.take 1 false (some 13) (.int .i64 a1) (by kernel_rfl) (yld fun _ => by kernel_rfl) ?_
  refine wpS.take 2 false (some 14) (.int .i64 a2) (by kernel_rfl) (yld fun _ => by kernel_rfl) ?_
  obtain ⟨r1, hg, h⟩ := of_bind h
  cases r1 with
  | true =>
    have h := of_if_t h
    refine wpS.only 3 (op_call (d := (some 15)) (by kernel_rfl) hs (fun _ => by kernel_rfl) (ref01_such.ok hg _ (hs.rowR 0 rfl)) ?_)
    intro w gw hs
    refine ⟨fun _ => trivial, ?_⟩
    refine wpS.take 4 false (some 16) (.bool false) (by kernel_rfl) (yld fun _ => by kernel_rfl) ?_
    refine wpS.fin rfl (kr9 _ _ ?_)
    refine then_n (ks8 _ _ ?_)
    refine wp_cond_f (by kernel_rfl) ?_
    refine xskip ?_
    refine then_n (ks7 _ _ ?_)
    refine xseq_k fun KS10 ks10 => ?_
    refine wp_regS (l := [0]) (by kernel_rfl) (by kernel_rfl) fun KR11 kr11 => ?_
    refine wpS.take 0 false (some 7) (.slice none 0 0) (by kernel_rfl) (yld fun _ => by kernel_rfl) ?_
    refine wpS.fin rfl (kr11 _ _ ?_)
    refine then_n (ks10 _ _ ?_)
    refine xseq_k fun KS347 ks347 => ?_
    refine xseq_k fun KS348 ks348 => ?_
    refine wp_regS (l := [0]) (by kernel_rfl) (by kernel_rfl) fun KR349 kr349 => ?_
    refine wpS.take 0 false (some 8) (.int .i64 0) (by kernel_rfl) (yld fun _ => by kernel_rfl) ?_
    refine wpS.fin rfl (kr349 _ _ ?_)
    refine then_n (ks348 _ _ ?_)
    have hs := hs.addNilL (CI .u32) 84
    obtain ⟨y4, hy, hk0⟩ := of_bind h
    refine wp_exq (N := fun a w => ∃ (y4_A : Option Addr) (y4_n : Nat) (y4_c : Nat), St w0 [] [.ownL (CI .u32) y4_A y4_n y4_c y4 84] [.rowL (CI .u8) a0_A a0_n a0_c a0] w ∧ ∃ g : Nat → Value, a = ⟨#[.slice a0_A a0_n a0_c, .int .i64 a1, .int .i64 a2, undef, undef, undef, .slice none 0 0, .slice y4_A y4_n y4_c, (g 8), (g 9), (g 10), (g 11), .slice a0_A a0_n a0_c, .int .i64 a1, .int .i64 a2, .bool true, .bool false, (g 17), (g 18), (g 19), (g 20), (g 21), (g 22), (g 23), (g 24), (g 25), (g 26), (g 27), (g 28), (g 29), (g 30), (g 31), (g 32), (g 33), (g 34), (g 35), (g 36), (g 37), (g 38), (g 39), (g 40), (g 41), (g 42), (g 43), (g 44), (g 45), (g 46), (g 47), (g 48), (g 49), undef], []⟩) (fun N0 nn0 => ?_) ?_
    · clear hk0
      refine xblock ?_
      refine wp_loop_k (fun n a w => ∃ z2 z3, ∃ (z3_A : Option Addr) (z3_n : Nat) (z3_c : Nat), ref01_Unpack.l0 K n a0 a1 a2 z2 z3 = some y4 ∧ St w0 [] [.ownL (CI .u32) z3_A z3_n z3_c z3 84] [.rowL (CI .u8) a0_A a0_n a0_c a0] w ∧ ∃ g : Nat → Value, a = ⟨#[.slice a0_A a0_n a0_c, .int .i64 a1, .int .i64 a2, undef, undef, undef, .slice none 0 0, .slice z3_A z3_n z3_c, .int .i64 z2, (g 9), (g 10), (g 11), .slice a0_A a0_n a0_c, .int .i64 a1, .int .i64 a2, .bool true, .bool false, (g 17), (g 18), (g 19), (g 20), (g 21), (g 22), (g 23), (g 24), (g 25), (g 26), (g 27), (g 28), (g 29), (g 30), (g 31), (g 32), (g 33), (g 34), (g 35), (g 36), (g 37), (g 38), (g 39), (g 40), (g 41), (g 42), (g 43), (g 44), (g 45), (g 46), (g 47), (g 48), (g 49), undef], []⟩) K ⟨0, ([] : List Int), none, 0, 0, hy, hs.conv rfl, exg (by kernel_rfl)⟩ ?_
      clear hs h hy
      rintro n a w ⟨z2, z3, z3_A, z3_n, z3_c, h, hs, g, rfl⟩ KL0 kl0
      cases n with
      | zero => exact nomatch (show none = some _ from h)
      | succ n =>
        refine xseq_k fun KS574 ks574 => ?_
        refine xseq_k fun KS575 ks575 => ?_
        refine wp_regS (l := [0, 1, 2]) (by kernel_rfl) (by kernel_rfl) fun KR576 kr576 => ?_
        refine wpS.take 0 false (some 17) (.int .i64 z2) (by kernel_rfl) (yld fun _ => by kernel_rfl) ?_
        refine wpS.take 1 false (some 18) (.int .i64 a2) (by kernel_rfl) (yld fun _ => by kernel_rfl) ?_
        rcases of_if h with ⟨hc, h⟩ | ⟨hc, h⟩
        · refine wpS.take 2 false (some 19) (.bool true) (by kernel_rfl) (yld_b (dt hc) (fun _ => by kernel_rfl)) ?_
          refine wpS.fin rfl (kr576 _ _ ?_)
          refine then_n (ks575 _ _ ?_)
          refine wp_cond_t (by kernel_rfl) ?_
          refine xskip ?_
          refine then_n (ks574 _ _ ?_)
          refine xseq_k fun KS629 ks629 => ?_
          refine xblock ?_
          refine xseq_k fun KS630 ks630 => ?_
          refine wp_regS (l := [0]) (by kernel_rfl) (by kernel_rfl) fun KR631 kr631 => ?_
          refine wpS.take 0 false (some 9) (.int .u32 0) (by kernel_rfl) (yld fun _ => by kernel_rfl) ?_
          refine wpS.fin rfl (kr631 _ _ ?_)
          refine then_n (ks630 _ _ ?_)
          refine xseq_k fun KS656 ks656 => ?_
          refine xseq_k fun KS657 ks657 => ?_
          refine wp_regS (l := [0, 1, 2]) (by kernel_rfl) (by kernel_rfl) fun KR658 kr658 => ?_
          refine wpS.take 0 false (some 22) (.int .i64 a1) (by kernel_rfl) (yld fun _ => by kernel_rfl) ?_
          refine wpS.take 1 false (some 23) (.int .i64 (isub .i64 a1 1)) (by kernel_rfl) (yld fun _ => by kernel_rfl) ?_
          obtain ⟨x5, hx, h⟩ := of_bind h
          refine wpS.take 2 false (some 10) (.int .i64 x5) (by kernel_rfl) (yld_int hx (fun _ => by kernel_rfl)) ?_
          refine wpS.fin rfl (kr658 _ _ ?_)
          refine then_n (ks657 _ _ ?_)
          obtain ⟨y8, hy, hk1⟩ := of_bind h
          refine wp_exq (N := fun a w => St w0 [] [.ownL (CI .u32) z3_A z3_n z3_c z3 84] [.rowL (CI .u8) a0_A a0_n a0_c a0] w ∧ ∃ g : Nat → Value, a = ⟨#[.slice a0_A a0_n a0_c, .int .i64 a1, .int .i64 a2, undef, undef, undef, .slice none 0 0, .slice z3_A z3_n z3_c, .int .i64 z2, .int .u32 y8, (g 10), (g 11), .slice a0_A a0_n a0_c, .int .i64 a1, .int .i64 a2, .bool true, .bool false, .int .i64 z2, .int .i64 a2, .bool true, (g 20), (g 21), .int .i64 a1, .int .i64 (isub .i64 a1 1), (g 24), (g 25), (g 26), (g 27), (g 28), (g 29), (g 30), (g 31), (g 32), (g 33), (g 34), (g 35), (g 36), (g 37), (g 38), (g 39), (g 40), (g 41), (g 42), (g 43), (g 44), (g 45), (g 46), (g 47), (g 48), (g 49), undef], []⟩) (fun N1 nn1 => ?_) ?_
          · clear hk1
            refine xblock ?_
            refine wp_loop_k (fun n a w => ∃ z6 z7, ref01_Unpack.l1 K n a0 a1 z2 z6 z7 = some y8 ∧ St w0 [] [.ownL (CI .u32) z3_A z3_n z3_c z3 84] [.rowL (CI .u8) a0_A a0_n a0_c a0] w ∧ ∃ g : Nat → Value, a = ⟨#[.slice a0_A a0_n a0_c, .int .i64 a1, .int .i64 a2, undef, undef, undef, .slice none 0 0, .slice z3_A z3_n z3_c, .int .i64 z2, .int .u32 z6, .int .i64 z7, (g 11), .slice a0_A a0_n a0_c, .int .i64 a1, .int .i64 a2, .bool true, .bool false, .int .i64 z2, .int .i64 a2, .bool true, (g 20), (g 21), .int .i64 a1, .int .i64 (isub .i64 a1 1), (g 24), (g 25), (g 26), (g 27), (g 28), (g 29), (g 30), (g 31), (g 32), (g 33), (g 34), (g 35), (g 36), (g 37), (g 38), (g 39), (g 40), (g 41), (g 42), (g 43), (g 44), (g 45), (g 46), (g 47), (g 48), (g 49), undef], []⟩) K ⟨0, x5, hy, hs.conv rfl, exg (by kernel_rfl)⟩ ?_
            clear hs h hy
            rintro n a w ⟨z6, z7, h, hs, g, rfl⟩ KL1 kl1
            cases n with
            | zero => exact nomatch (show none = some _ from h)
            | succ n =>
              refine xseq_k fun KS672 ks672 => ?_
              refine xseq_k fun KS673 ks673 => ?_
              refine wp_regS (l := [0, 1]) (by kernel_rfl) (by kernel_rfl) fun KR674 kr674 => ?_
              refine wpS.take 0 false (some 24) (.int .i64 z7) (by kernel_rfl) (yld fun _ => by kernel_rfl) ?_
              rcases of_if h with ⟨hc, h⟩ | ⟨hc, h⟩
              · refine wpS.take 1 false (some 25) (.bool true) (by kernel_rfl) (yld_b (dt hc) (fun _ => by kernel_rfl)) ?_
                refine wpS.fin rfl (kr674 _ _ ?_)
                refine then_n (ks673 _ _ ?_)
                refine wp_cond_t (by kernel_rfl) ?_
                refine xskip ?_
                refine then_n (ks672 _ _ ?_)
                refine xseq_k fun KS675 ks675 => ?_
                refine xblock ?_
                refine xseq_k fun KS676 ks676 => ?_
                refine wp_regS (l := [0, 1, 2, 3, 4, 5]) (by kernel_rfl) (by kernel_rfl) fun KR677 kr677 => ?_
                refine wpS.take 0 false (some 28) (.int .i64 z2) (by kernel_rfl) (yld fun _ => by kernel_rfl) ?_
                refine wpS.take 1 false (some 29) (.int .i64 a1) (by kernel_rfl) (yld fun _ => by kernel_rfl) ?_
                refine wpS.take 2 false (some 30) (.int .i64 (imul .i64 z2 a1)) (by kernel_rfl) (yld fun _ => by kernel_rfl) ?_
                refine wpS.take 3 false (some 31) (.int .i64 z7) (by kernel_rfl) (yld fun _ => by kernel_rfl) ?_
                refine wpS.take 4 false (some 32) (.int .i64 (iadd .i64 (imul .i64 z2 a1) z7)) (by kernel_rfl) (yld fun _ => by kernel_rfl) ?_
                obtain ⟨x9, hx, h⟩ := of_bind h
                refine wpS.take 5 false (some 11) (.int .i64 x9) (by kernel_rfl) (yld_int hx (fun _ => by kernel_rfl)) ?_
                refine wpS.fin rfl (kr677 _ _ ?_)
                refine then_n (ks676 _ _ ?_)
                refine wp_regS (l := [0, 1, 2, 3, 4, 5, 6, 7, 8, 9, 10, 11, 12, 13]) (by kernel_rfl) (by kernel_rfl) fun KR678 kr678 => ?_
                refine wpS.take 0 false (some 33) (.int .u32 z6) (by kernel_rfl) (yld fun _ => by kernel_rfl) ?_
                refine wpS.take 1 false (some 34) (.int .u32 (imul .u32 z6 2)) (by kernel_rfl) (yld fun _ => by kernel_rfl) ?_
                refine wpS.take 2 false (some 35) (.slice a0_A a0_n a0_c) (by kernel_rfl) (yld fun _ => by kernel_rfl) ?_
                refine wpS.take 3 false (some 36) (.int .i64 x9) (by kernel_rfl) (yld fun _ => by kernel_rfl) ?_
                refine wpS.take 4 false (some 37) (.int .i64 (iquo .i64 x9 8)) (by kernel_rfl) (yld fun _ => by kernel_rfl) ?_
                obtain ⟨x10, hx, h⟩ := of_bind h
                have hx := of_some hx
                subst hx
                obtain ⟨h0, h⟩ := of_chk h
                obtain ⟨h1, h⟩ := of_chk h
                have i0_679 := h0
                have i1_679 := h1
                refine wpS.take 5 false (some 38) (.pointer (adr a0_A (((iquo .i64 x9 8) : Int).toNat * Cod.size (CI .u8)))) (by kernel_rfl) (yld_idxL (C := (CI .u8)) (t := 24) (e := 5) (k := .i64) (x := (iquo .i64 x9 8)) (hs.rowR 0 rfl) (by kernel_rfl) (by kernel_rfl) (by kernel_rfl) h0 h1) ?_
                refine wpS.take 6 true (some 39) (.int .u8 (rdL (CI .u8) a0 (iquo .i64 x9 8))) (by kernel_rfl) (yld_loadL (C := (CI .u8)) (e := 5) (x := (iquo .i64 x9 8)) (hs.rowR 0 rfl) (by kernel_rfl) rfl (by kernel_rfl) i0_679 i1_679) ?_
                refine wpS.take 7 false (some 40) (.int .i64 x9) (by kernel_rfl) (yld fun _ => by kernel_rfl) ?_
                refine wpS.take 8 false (some 41) (.int .i64 (irem .i64 x9 8)) (by kernel_rfl) (yld fun _ => by kernel_rfl) ?_
                obtain ⟨h0, h⟩ := of_chk h
                refine wpS.take 9 false (some 42) (.int .u8 (ishr .u8 (rdL (CI .u8) a0 (iquo .i64 x9 8)) (irem .i64 x9 8))) (by kernel_rfl) (yld_shr (t := 5) (k' := .i64) (by kernel_rfl) h0) ?_
                refine wpS.take 10 false (some 43) (.int .u8 (iand .u8 (ishr .u8 (rdL (CI .u8) a0 (iquo .i64 x9 8)) (irem .i64 x9 8)) 1)) (by kernel_rfl) (yld fun _ => by kernel_rfl) ?_
                refine wpS.take 11 false (some 44) (.int .u32 (iconv .u32 (iand .u8 (ishr .u8 (rdL (CI .u8) a0 (iquo .i64 x9 8)) (irem .i64 x9 8)) 1))) (by kernel_rfl) (yld fun _ => by kernel_rfl) ?_
                refine wpS.take 12 false (some 45) (.int .u32 (iadd .u32 (imul .u32 z6 2) (iconv .u32 (iand .u8 (ishr .u8 (rdL (CI .u8) a0 (iquo .i64 x9 8)) (irem .i64 x9 8)) 1)))) (by kernel_rfl) (yld fun _ => by kernel_rfl) ?_
                obtain ⟨x11, hx, h⟩ := of_bind h
                refine wpS.take 13 false (some 9) (.int .u32 x11) (by kernel_rfl) (yld_int hx (fun _ => by kernel_rfl)) ?_
                refine wpS.fin rfl (kr678 _ _ ?_)
                refine inBlock_n ?_
                refine then_n (ks675 _ _ ?_)
                refine wp_regS (l := [0, 1, 2]) (by kernel_rfl) (by kernel_rfl) fun KR680 kr680 => ?_
                refine wpS.take 0 false (some 26) (.int .i64 z7) (by kernel_rfl) (yld fun _ => by kernel_rfl) ?_
                refine wpS.take 1 false (some 27) (.int .i64 (isub .i64 z7 1)) (by kernel_rfl) (yld fun _ => by kernel_rfl) ?_
                obtain ⟨x12, hx, h⟩ := of_bind h
                refine wpS.take 2 false (some 10) (.int .i64 x12) (by kernel_rfl) (yld_int hx (fun _ => by kernel_rfl)) ?_
                refine wpS.fin rfl (kr680 _ _ ?_)
                exact then_n (kl1 _ _ ⟨n, Nat.lt_succ_self n, x11, x12, h, (hs.conv rfl), exg (by kernel_rfl)⟩)
              · refine wpS.take 1 false (some 25) (.bool false) (by kernel_rfl) (yld_b (df hc) (fun _ => by kernel_rfl)) ?_
                refine wpS.fin rfl (kr674 _ _ ?_)
                refine then_n (ks673 _ _ ?_)
                refine wp_cond_f (by kernel_rfl) ?_
                refine xexit ?_
                refine then_x ?_
                refine then_x ?_
                refine inBlock_hit ?_
                have q0 := of_some h
                subst q0
                exact exq_n (nn1 _ _ ⟨(hs.conv rfl), exg (by kernel_rfl)⟩)
          · clear hs h hy
            rintro a w ⟨hs, g, rfl⟩
            have h := hk1
            refine then_n (ks656 _ _ ?_)
            refine wp_regS (l := [0, 1, 2, 3, 4]) (by kernel_rfl) (by kernel_rfl) fun KR681 kr681 => ?_
            refine wpS.take 0 false (some 46) (.slice z3_A z3_n z3_c) (by kernel_rfl) (yld fun _ => by kernel_rfl) ?_
            refine wpS.take 1 false (some 47) (.int .u32 y8) (by kernel_rfl) (yld fun _ => by kernel_rfl) ?_
            refine wpS.only 2 (op_lit (C := (CI .u32)) (t := 82) (e := 84) (len := 1) (parts := #[(0, .int .u32 y8)]) (l := [y8]) (d := (some 48)) (by kernel_rfl) hs (by kernel_rfl) (by kernel_rfl) (by kernel_rfl) (z := .int .u32 0) (by kernel_rfl) rfl (by decide) (by decide) (by kernel_rfl) ?_)
            intro s13_A s13_n s13_c w gw hs
            refine ⟨fun _ => trivial, ?_⟩
            obtain ⟨h0, h⟩ := of_chk h
            refine wpS.only 3 (op_appendT (C := (CI .u32)) (t := 82) (ty := 82) (e := 84) (bytes := 4) (B := 35184372088832) (d := (some 49)) (by kernel_rfl) hs 1 rfl (hs.rowL 0 rfl) (by kernel_rfl) (by kernel_rfl) (by kernel_rfl) (by kernel_rfl) (by kernel_rfl) h0 (by decide) (by decide) ?_)
            intro s14_A s14_n s14_c w hs
            refine ⟨fun _ => trivial, ?_⟩
            refine wpS.take 4 false (some 7) (.slice s14_A s14_n s14_c) (by kernel_rfl) (yld fun _ => by kernel_rfl) ?_
            refine wpS.fin rfl (kr681 _ _ ?_)
            refine inBlock_n ?_
            refine then_n (ks629 _ _ ?_)
            refine wp_regS (l := [0, 1, 2]) (by kernel_rfl) (by kernel_rfl) fun KR682 kr682 => ?_
            refine wpS.take 0 false (some 20) (.int .i64 z2) (by kernel_rfl) (yld fun _ => by kernel_rfl) ?_
            refine wpS.take 1 false (some 21) (.int .i64 (iadd .i64 z2 1)) (by kernel_rfl) (yld fun _ => by kernel_rfl) ?_
            obtain ⟨x15, hx, h⟩ := of_bind h
            refine wpS.take 2 false (some 8) (.int .i64 x15) (by kernel_rfl) (yld_int hx (fun _ => by kernel_rfl)) ?_
            refine wpS.fin rfl (kr682 _ _ ?_)
            exact then_n (kl0 _ _ ⟨n, Nat.lt_succ_self n, x15, (z3 ++ ([y8] : List Int)), s14_A, s14_n, s14_c, h, ((hs.conv (L' := [.ownL (CI .u32) s13_A s13_n s13_c ([y8] : List Int) 84, .ownL (CI .u32) s14_A s14_n s14_c (z3 ++ ([y8] : List Int)) 84]) rfl).drop (.cons _ (.cons_cons _ .slnil))), exg (by kernel_rfl)⟩)
        · refine wpS.take 2 false (some 19) (.bool false) (by kernel_rfl) (yld_b (df hc) (fun _ => by kernel_rfl)) ?_
          refine wpS.fin rfl (kr576 _ _ ?_)
          refine then_n (ks575 _ _ ?_)
          refine wp_cond_f (by kernel_rfl) ?_
          refine xexit ?_
          refine then_x ?_
          refine then_x ?_
          refine inBlock_hit ?_
          have q0 := of_some h
          subst q0
          exact exq_n (nn0 _ _ ⟨z3_A, z3_n, z3_c, (hs.conv rfl), exg (by kernel_rfl)⟩)
    · clear hs h hy
      rintro a w ⟨y4_A, y4_n, y4_c, hs, g, rfl⟩
      have h := hk0
      refine then_n (ks347 _ _ ?_)
      refine xseq_k fun KS683 ks683 => ?_
      refine wp_regS (l := [0, 1]) (by kernel_rfl) (by kernel_rfl) fun KR684 kr684 => ?_
      refine wpS.take 0 false (some 50) (.slice y4_A y4_n y4_c) (by kernel_rfl) (yld fun _ => by kernel_rfl) ?_
      refine wpS.take 1 false (some 6) (.slice y4_A y4_n y4_c) (by kernel_rfl) (yld fun _ => by kernel_rfl) ?_
      refine wpS.fin rfl (kr684 _ _ ?_)
      refine then_n (ks683 _ _ ?_)
      refine xret ?_
      have q0 := of_some h
      subst q0
      exact qq _ _ (post_ret (by kernel_rfl) (run_results [.tmp 6] [.slice y4_A y4_n y4_c] (by kernel_rfl) (.cons (res_tmp (by kernel_rfl)) .nil)) ⟨⟨y4_A, y4_n, y4_c⟩, congrArg Ending.returned (by kernel_rfl), ((hs.conv (L' := [.ownL (CI .u32) y4_A y4_n y4_c y4 84]) rfl).pickR pick_nil)⟩)
  | false =>
    have h := of_if_f h
    refine wpS.only 3 (op_call (d := (some 15)) (by kernel_rfl) hs (fun _ => by kernel_rfl) (ref01_such.ok hg _ (hs.rowR 0 rfl)) ?_)
    intro w gw hs
    refine ⟨fun _ => trivial, ?_⟩
    refine wpS.take 4 false (some 16) (.bool true) (by kernel_rfl) (yld fun _ => by kernel_rfl) ?_
    refine wpS.fin rfl (kr9 _ _ ?_)
    refine then_n (ks8 _ _ ?_)
    refine wp_cond_t (by kernel_rfl) ?_
    refine xseq_k fun KS685 ks685 => ?_
    refine wp_regS (l := [0]) (by kernel_rfl) (by kernel_rfl) fun KR686 kr686 => ?_
    refine wpS.take 0 false (some 6) (.slice none 0 0) (by kernel_rfl) (yld fun _ => by kernel_rfl) ?_
    refine wpS.fin rfl (kr686 _ _ ?_)
    refine then_n (ks685 _ _ ?_)
    refine xret ?_
    refine then_r ?_
    have q0 := of_some h
    subst q0
    have hs := hs.addNilL (CI .u32) 84
    exact qq _ _ (post_ret (by kernel_rfl) (run_results [.tmp 6] [.slice none 0 0] (by kernel_rfl) (.cons (res_tmp (by kernel_rfl)) .nil)) ⟨⟨none, 0, 0⟩, congrArg Ending.returned (by kernel_rfl), ((hs.conv (L' := [.ownL (CI .u32) none 0 0 ([] : List Int) 84]) rfl).pickR pick_nil)⟩)

theorem ref22_Unpack.ok {K : Nat} {a0 : List Int} {a1 : Int} {a2 : Int} {r0 : Arr 256} {r1 : Bool} {a0_A : Option Addr} {a0_n : Nat} {a0_c : Nat} (h : ref22_Unpack.f K a0 a1 a2 = some (r0, r1)) (w0 : World) (hp0 : RowL (CI .u8) w0 a0_A a0_n a0_c a0) : Ret Try.prog 21 #[.slice a0_A a0_n a0_c, .int .i32 a1, .int .i32 a2] w0 (.tuple #[.agg (enc .i32 r0).toArray, .bool r1]) := by
  refine calls_k Try.func21 rfl fun Q qq => ?_
  have hs := St.startR (all_cons (RowP.ent hp0) all_nil)
  refine wp_conv (a' := ⟨#[.slice a0_A a0_n a0_c, .int .i32 a1, .int .i32 a2, undef, undef, undef, undef, undef, undef, undef, undef, undef, undef, undef, undef, undef, undef, undef, undef, undef, undef, undef, undef, undef, undef, undef, undef, undef, undef, undef, undef, undef, undef, undef, undef, undef, undef, undef, undef, undef, undef, undef, undef, undef, undef, undef, undef, undef, undef, undef, undef, undef, undef, undef, undef, undef, undef, undef], []⟩) (by kernel_rfl) ?_
  refine xseq_k fun KS1 ks1 => ?_
  refine wp_regS (l := [0, 1]) (by kernel_rfl) (by kernel_rfl) fun KR2 kr2 => ?_
  refine wpS.only 0 (op_alloc (t := 40) (d := (some 6)) (by kernel_rfl) hs (enc .i32 (zeroA 256)) (.agg (enc .i32 (zeroA 256)).toArray) (by kernel_rfl) (by kernel_rfl) (by kernel_rfl) ?_)
  intro b1 w gw hs
  refine ⟨fun _ => trivial, ?_⟩
  refine wpS.take 1 false (some 7) (.bool false) (by kernel_rfl) (yld fun _ => by kernel_rfl) ?_
  refine wpS.fin rfl (kr2 _ _ ?_)
  refine then_n (ks1 _ _ ?_)
  refine xseq_k fun KS9 ks9 => ?_
  refine xseq_k fun KS10 ks10 => ?_
  refine wp_regS (l := [0, 1, 2, 3, 4, 5, 6, 7, 8, 9, 10, 11, 12]) (by kernel_rfl) (by kernel_rfl) fun KR11 kr11 => ?_
  refine wpS.take 0 false (some 12) (.int .i32 a1) (by kernel_rfl) (yld fun _ => by kernel_rfl) ?_
  refine wpS.take 1 false (some 13) (.int .i32 a2) (by kernel_rfl) (yld fun _ => by kernel_rfl) ?_
  obtain ⟨r2, hg, h⟩ := of_bind h
  cases r2 with
  | true =>
    have h := of_if_t h
    refine wpS.only 2 (op_call (d := (some 14)) (by kernel_rfl) hs (fun _ => by kernel_rfl) (ref22_bounds.ok hg _) ?_)
    intro w gw hs
    refine ⟨fun _ => trivial, ?_⟩
    refine wpS.take 3 false (some 15) (.bool false) (by kernel_rfl) (yld fun _ => by kernel_rfl) ?_
    refine wpS.take 4 false (some 16) (.bool false) (by kernel_rfl) (yld fun _ => by kernel_rfl) ?_
    refine wpS.take 5 false (some 17) (.slice a0_A a0_n a0_c) (by kernel_rfl) (yld fun _ => by kernel_rfl) ?_
    refine wpS.take 6 false (some 18) (.int .i64 (a0.length : Int)) (by kernel_rfl) (yld_lenL (hs.rowR 0 rfl) (fun _ => by kernel_rfl)) ?_
    refine wpS.take 7 false (some 19) (.int .i32 a1) (by kernel_rfl) (yld fun _ => by kernel_rfl) ?_
    refine wpS.take 8 false (some 20) (.int .i32 a2) (by kernel_rfl) (yld fun _ => by kernel_rfl) ?_
    obtain ⟨r3, hg, h⟩ := of_bind h
    refine wpS.only 9 (op_call (d := (some 21)) (by kernel_rfl) hs (fun _ => by kernel_rfl) (ref22_bitsOf.ok hg _) ?_)
    intro w gw hs
    refine ⟨fun _ => trivial, ?_⟩
    refine wpS.take 10 false (some 22) (.int .i64 (imul .i64 32 r3)) (by kernel_rfl) (yld fun _ => by kernel_rfl) ?_
    rcases of_if h with ⟨hc, h⟩ | ⟨hc, h⟩
    · refine wpS.take 11 false (some 23) (.bool false) (by kernel_rfl) (yld_b (nf hc) (fun _ => by kernel_rfl)) ?_
      refine wpS.take 12 false (some 24) (.bool false) (by kernel_rfl) (yld fun _ => by kernel_rfl) ?_
      refine wpS.fin rfl (kr11 _ _ ?_)
      refine then_n (ks10 _ _ ?_)
      refine wp_cond_f (by kernel_rfl) ?_
      refine xskip ?_
      refine then_n (ks9 _ _ ?_)
      refine xseq_k fun KS12 ks12 => ?_
      refine wp_regS (l := [0, 1, 2, 3, 4, 5]) (by kernel_rfl) (by kernel_rfl) fun KR13 kr13 => ?_
      refine wpS.take 0 false (some 26) (.slice a0_A a0_n a0_c) (by kernel_rfl) (yld fun _ => by kernel_rfl) ?_
      refine wpS.take 1 false (some 27) (.int .i32 a1) (by kernel_rfl) (yld fun _ => by kernel_rfl) ?_
      refine wpS.take 2 false (some 28) (.int .i32 a2) (by kernel_rfl) (yld fun _ => by kernel_rfl) ?_
      obtain ⟨r4, hg, h⟩ := of_bind h
      refine wpS.only 3 (op_call (d := (some 29)) (by kernel_rfl) hs (fun _ => by kernel_rfl) (ref22_bitsOf.ok hg _) ?_)
      intro w gw hs
      refine ⟨fun _ => trivial, ?_⟩
      obtain ⟨r5, hg, h⟩ := of_bind h
      refine wpS.only 4 (op_callH (d := (some 30)) (by kernel_rfl) hs (fun _ => by kernel_rfl) (ref01_Unpack.ok hg _ (hs.rowR 0 rfl)) ?_)
      rintro ⟨r5_A, r5_n, r5_c⟩ w gw hs
      have hs := hs.conv (L' := [.ownL (CI .u32) r5_A r5_n r5_c r5 84, .blk b1 (enc .i32 (zeroA 256)) 40]) rfl
      refine ⟨fun _ => trivial, ?_⟩
      refine wpS.take 5 false (some 8) (.slice r5_A r5_n r5_c) (by kernel_rfl) (yld fun _ => by kernel_rfl) ?_
      refine wpS.fin rfl (kr13 _ _ ?_)
      refine then_n (ks12 _ _ ?_)
      refine xseq_k fun KS14 ks14 => ?_
      refine wp_regS (l := [0]) (by kernel_rfl) (by kernel_rfl) fun KR15 kr15 => ?_
      refine wpS.only 0 (op_alloc (t := 40) (d := (some 9)) (by kernel_rfl) hs (enc .i32 (zeroA 256)) (.agg (enc .i32 (zeroA 256)).toArray) (by kernel_rfl) (by kernel_rfl) (by kernel_rfl) ?_)
      intro b6 w gw hs
      refine ⟨fun _ => trivial, ?_⟩
      refine wpS.fin rfl (kr15 _ _ ?_)
      refine then_n (ks14 _ _ ?_)
      refine xseq_k fun KS128 ks128 => ?_
      refine xseq_k fun KS129 ks129 => ?_
      refine wp_regS (l := [0]) (by kernel_rfl) (by kernel_rfl) fun KR130 kr130 => ?_
      refine wpS.take 0 false (some 10) (.int .i64 0) (by kernel_rfl) (yld fun _ => by kernel_rfl) ?_
      refine wpS.fin rfl (kr130 _ _ ?_)
      refine then_n (ks129 _ _ ?_)
      obtain ⟨t0, hy, hk0⟩ := of_bind h
      refine wp_exq (N := fun a w => ∃ y10 y11, t0 = .inl (y10, y11) ∧ St w0 [] [.blk b6 (enc .i32 y10) 40, .ownL (CI .u32) r5_A r5_n r5_c r5 84, .blk b1 (enc .i32 y11) 40] [.rowL (CI .u8) a0_A a0_n a0_c a0] w ∧ ∃ g : Nat → Value, a = ⟨#[.slice a0_A a0_n a0_c, .int .i32 a1, .int .i32 a2, undef, undef, undef, .pointer (some ⟨b1, 0, none⟩), (g 7), .slice r5_A r5_n r5_c, .pointer (some ⟨b6, 0, none⟩), (g 10), (g 11), .int .i32 a1, .int .i32 a2, .bool true, .bool false, .bool false, .slice a0_A a0_n a0_c, .int .i64 (a0.length : Int), .int .i32 a1, .int .i32 a2, .int .i64 r3, .int .i64 (imul .i64 32 r3), .bool false, .bool false, undef, .slice a0_A a0_n a0_c, .int .i32 a1, .int .i32 a2, .int .i64 r4, .slice r5_A r5_n r5_c, (g 31), (g 32), (g 33), (g 34), (g 35), (g 36), (g 37), (g 38), (g 39), (g 40), (g 41), (g 42), (g 43), (g 44), (g 45), (g 46), (g 47), (g 48), (g 49), (g 50), (g 51), (g 52), (g 53), (g 54), (g 55), (g 56), undef], []⟩) (fun N0 nn0 => ?_) ?_
      · refine xblock ?_
        refine wp_loop_k (fun n a w => ∃ z7 z8 z9, ref22_Unpack.l0 K n a1 a2 r5 z7 z8 z9 = some t0 ∧ St w0 [] [.blk b6 (enc .i32 z8) 40, .ownL (CI .u32) r5_A r5_n r5_c r5 84, .blk b1 (enc .i32 z9) 40] [.rowL (CI .u8) a0_A a0_n a0_c a0] w ∧ ∃ g : Nat → Value, a = ⟨#[.slice a0_A a0_n a0_c, .int .i32 a1, .int .i32 a2, undef, undef, undef, .pointer (some ⟨b1, 0, none⟩), (g 7), .slice r5_A r5_n r5_c, .pointer (some ⟨b6, 0, none⟩), .int .i64 z7, (g 11), .int .i32 a1, .int .i32 a2, .bool true, .bool false, .bool false, .slice a0_A a0_n a0_c, .int .i64 (a0.length : Int), .int .i32 a1, .int .i32 a2, .int .i64 r3, .int .i64 (imul .i64 32 r3), .bool false, .bool false, undef, .slice a0_A a0_n a0_c, .int .i32 a1, .int .i32 a2, .int .i64 r4, .slice r5_A r5_n r5_c, (g 31), (g 32), (g 33), (g 34), (g 35), (g 36), (g 37), (g 38), (g 39), (g 40), (g 41), (g 42), (g 43), (g 44), (g 45), (g 46), (g 47), (g 48), (g 49), (g 50), (g 51), (g 52), (g 53), (g 54), (g 55), (g 56), undef], []⟩) K ⟨0, (zeroA 256), (zeroA 256), hy, hs.conv rfl, exg (by kernel_rfl)⟩ ?_
        clear hs h hy
        rintro n a w ⟨z7, z8, z9, h, hs, g, rfl⟩ KL0 kl0
        cases n with
        | zero => exact nomatch (show none = some _ from h)
        | succ n =>
          refine xseq_k fun KS188 ks188 => ?_
          refine xseq_k fun KS189 ks189 => ?_
          refine wp_regS (l := [0, 1]) (by kernel_rfl) (by kernel_rfl) fun KR190 kr190 => ?_
          refine wpS.take 0 false (some 31) (.int .i64 z7) (by kernel_rfl) (yld fun _ => by kernel_rfl) ?_
          rcases of_if h with ⟨hc, h⟩ | ⟨hc, h⟩
          · refine wpS.take 1 false (some 32) (.bool true) (by kernel_rfl) (yld_b (dt hc) (fun _ => by kernel_rfl)) ?_
            refine wpS.fin rfl (kr190 _ _ ?_)
            refine then_n (ks189 _ _ ?_)
            refine wp_cond_t (by kernel_rfl) ?_
            refine xskip ?_
            refine then_n (ks188 _ _ ?_)
            refine xseq_k fun KS215 ks215 => ?_
            refine xblock ?_
            refine xseq_k fun KS216 ks216 => ?_
            refine wp_regS (l := [0, 1, 2, 3, 4, 5]) (by kernel_rfl) (by kernel_rfl) fun KR217 kr217 => ?_
            refine wpS.take 0 false (some 35) (.slice r5_A r5_n r5_c) (by kernel_rfl) (yld fun _ => by kernel_rfl) ?_
            refine wpS.take 1 false (some 36) (.int .i64 z7) (by kernel_rfl) (yld fun _ => by kernel_rfl) ?_
            obtain ⟨h0, h⟩ := of_chk h
            obtain ⟨h1, h⟩ := of_chk h
            have i0_218 := h0
            have i1_218 := h1
            refine wpS.take 2 false (some 37) (.pointer (adr r5_A ((z7 : Int).toNat * Cod.size (CI .u32)))) (by kernel_rfl) (yld_idxL (C := (CI .u32)) (t := 82) (e := 84) (k := .i64) (x := z7) (hs.rowL 1 rfl) (by kernel_rfl) (by kernel_rfl) (by kernel_rfl) h0 h1) ?_
            refine wpS.take 3 true (some 38) (.int .u32 (rdL (CI .u32) r5 z7)) (by kernel_rfl) (yld_loadL (C := (CI .u32)) (e := 84) (x := z7) (hs.rowL 1 rfl) (by kernel_rfl) rfl (by kernel_rfl) i0_218 i1_218) ?_
            refine wpS.take 4 false (some 39) (.int .i32 (iconv .i32 (rdL (CI .u32) r5 z7))) (by kernel_rfl) (yld fun _ => by kernel_rfl) ?_
            obtain ⟨x12, hx, h⟩ := of_bind h
            refine wpS.take 5 false (some 11) (.int .i32 x12) (by kernel_rfl) (yld_int hx (fun _ => by kernel_rfl)) ?_
            refine wpS.fin rfl (kr217 _ _ ?_)
            refine then_n (ks216 _ _ ?_)
            refine xseq_k fun KS223 ks223 => ?_
            refine xseq_k fun KS224 ks224 => ?_
            refine wp_regS (l := [0, 1, 2, 3, 4, 5]) (by kernel_rfl) (by kernel_rfl) fun KR225 kr225 => ?_
            refine wpS.take 0 false (some 40) (.int .i32 x12) (by kernel_rfl) (yld fun _ => by kernel_rfl) ?_
            refine wpS.take 1 false (some 41) (.int .i32 a1) (by kernel_rfl) (yld fun _ => by kernel_rfl) ?_
            refine wpS.take 2 false (some 42) (.int .i32 (imax a1 0)) (by kernel_rfl) (yld fun _ => by kernel_rfl) ?_
            refine wpS.take 3 false (some 43) (.int .i32 a2) (by kernel_rfl) (yld fun _ => by kernel_rfl) ?_
            refine wpS.take 4 false (some 44) (.int .i32 (iadd .i32 (imax a1 0) a2)) (by kernel_rfl) (yld fun _ => by kernel_rfl) ?_
            rcases of_if h with ⟨hc, h⟩ | ⟨hc, h⟩
            · refine wpS.take 5 false (some 45) (.bool true) (by kernel_rfl) (yld_b (dt hc) (fun _ => by kernel_rfl)) ?_
              refine wpS.fin rfl (kr225 _ _ ?_)
              refine then_n (ks224 _ _ ?_)
              refine wp_cond_t (by kernel_rfl) ?_
              refine xseq_k fun KS226 ks226 => ?_
              refine wp_regS (l := [0, 1, 2]) (by kernel_rfl) (by kernel_rfl) fun KR227 kr227 => ?_
              refine wpS.take 0 false (some 46) (.agg (enc .i32 (zeroA 256)).toArray) (by kernel_rfl) (yld fun _ => by kernel_rfl) ?_
              refine wpS.only 1 (op_storeW (t := 40) (v := .agg (enc .i32 (zeroA 256)).toArray) (d := none) (by kernel_rfl) hs 2 rfl (vs := enc .i32 (zeroA 256)) (n := 256) (by kernel_rfl) (by kernel_rfl) (by kernel_rfl) (by simp [enc_len]) (by simp [enc_len]) (by intro u hu; exact enc_one _ _ u hu) ?_)
              intro w kp hs
              refine ⟨fun _ => trivial, ?_⟩
              refine wpS.take 2 false (some 7) (.bool false) (by kernel_rfl) (yld fun _ => by kernel_rfl) ?_
              refine wpS.fin rfl (kr227 _ _ ?_)
              refine then_n (ks226 _ _ ?_)
              refine xret ?_
              refine then_r ?_
              refine inBlock_r ?_
              refine then_r ?_
              refine then_r ?_
              refine inBlock_r ?_
              refine exq_r ?_
              refine then_r ?_
              have q0 := of_some h
              subst q0
              obtain ⟨q0, qr0⟩ := Prod.mk.inj (of_some hk0)
              have q1 := qr0
              subst q0
              subst q1
              exact qq _ _ (post_ret (by kernel_rfl) (run_results [.cell 6 40, .tmp 7] [.agg (enc .i32 (zeroA 256)).toArray, .bool false] (by kernel_rfl) (.cons (res_cellN (n := 256) hs 2 rfl (by kernel_rfl) (by kernel_rfl) (by kernel_rfl) (by exact enc_len _ _)) (.cons (res_tmp (by kernel_rfl)) .nil))) ⟨congrArg Ending.returned (by kernel_rfl), hs.none⟩)
            · refine wpS.take 5 false (some 45) (.bool false) (by kernel_rfl) (yld_b (df hc) (fun _ => by kernel_rfl)) ?_
              refine wpS.fin rfl (kr225 _ _ ?_)
              refine then_n (ks224 _ _ ?_)
              refine wp_cond_f (by kernel_rfl) ?_
              refine xskip ?_
              refine then_n (ks223 _ _ ?_)
              obtain ⟨y13, hj, h⟩ := of_bind h
              refine xseq_k fun KS240 ks240 => wp_join (N := fun a w => St w0 [] [.blk b6 (enc .i32 z8) 40, .ownL (CI .u32) r5_A r5_n r5_c r5 84, .blk b1 (enc .i32 z9) 40] [.rowL (CI .u8) a0_A a0_n a0_c a0] w ∧ ∃ g : Nat → Value, a = ⟨#[.slice a0_A a0_n a0_c, .int .i32 a1, .int .i32 a2, undef, undef, undef, .pointer (some ⟨b1, 0, none⟩), (g 7), .slice r5_A r5_n r5_c, .pointer (some ⟨b6, 0, none⟩), .int .i64 z7, .int .i32 y13, .int .i32 a1, .int .i32 a2, .bool true, .bool false, .bool false, .slice a0_A a0_n a0_c, .int .i64 (a0.length : Int), .int .i32 a1, .int .i32 a2, .int .i64 r3, .int .i64 (imul .i64 32 r3), .bool false, .bool false, undef, .slice a0_A a0_n a0_c, .int .i32 a1, .int .i32 a2, .int .i64 r4, .slice r5_A r5_n r5_c, .int .i64 z7, .bool true, (g 33), (g 34), .slice r5_A r5_n r5_c, .int .i64 z7, .pointer (adr r5_A ((z7 : Int).toNat * Cod.size (CI .u32))), .int .u32 (rdL (CI .u32) r5 z7), .int .i32 (iconv .i32 (rdL (CI .u32) r5 z7)), .int .i32 x12, .int .i32 a1, .int .i32 (imax a1 0), .int .i32 a2, .int .i32 (iadd .i32 (imax a1 0) a2), .bool false, (g 46), (g 47), (g 48), (g 49), (g 50), (g 51), (g 52), (g 53), (g 54), (g 55), (g 56), undef], []⟩) (fun N nj => ?_) ?_
              · clear h
                have h := hj
                refine xseq_k fun KS234 ks234 => ?_
                refine wp_regS (l := [0, 1]) (by kernel_rfl) (by kernel_rfl) fun KR235 kr235 => ?_
                refine wpS.take 0 false (some 47) (.int .i32 a1) (by kernel_rfl) (yld fun _ => by kernel_rfl) ?_
                rcases of_if h with ⟨hc, h⟩ | ⟨hc, h⟩
                · refine wpS.take 1 false (some 48) (.bool true) (by kernel_rfl) (yld_b (dt hc) (fun _ => by kernel_rfl)) ?_
                  refine wpS.fin rfl (kr235 _ _ ?_)
                  refine then_n (ks234 _ _ ?_)
                  refine wp_cond_t (by kernel_rfl) ?_
                  refine wp_regS (l := [0, 1, 2, 3, 4, 5]) (by kernel_rfl) (by kernel_rfl) fun KR236 kr236 => ?_
                  refine wpS.take 0 false (some 49) (.int .i32 a2) (by kernel_rfl) (yld fun _ => by kernel_rfl) ?_
                  refine wpS.take 1 false (some 50) (.int .i32 x12) (by kernel_rfl) (yld fun _ => by kernel_rfl) ?_
                  refine wpS.take 2 false (some 51) (.int .i32 (isub .i32 a2 x12)) (by kernel_rfl) (yld fun _ => by kernel_rfl) ?_
                  refine wpS.take 3 false (some 52) (.int .i32 (iadd .i32 (isub .i32 a2 x12) 8380417)) (by kernel_rfl) (yld fun _ => by kernel_rfl) ?_
                  refine wpS.take 4 false (some 53) (.int .i32 (irem .i32 (iadd .i32 (isub .i32 a2 x12) 8380417) 8380417)) (by kernel_rfl) (yld fun _ => by kernel_rfl) ?_
                  obtain ⟨x14, hx, h⟩ := of_bind h
                  refine wpS.take 5 false (some 11) (.int .i32 x14) (by kernel_rfl) (yld_int hx (fun _ => by kernel_rfl)) ?_
                  refine wpS.fin rfl (kr236 _ _ ?_)
                  have q0 := of_some h
                  subst q0
                  exact nj _ _ ⟨(hs.conv rfl), exg (by kernel_rfl)⟩
                · refine wpS.take 1 false (some 48) (.bool false) (by kernel_rfl) (yld_b (df hc) (fun _ => by kernel_rfl)) ?_
                  refine wpS.fin rfl (kr235 _ _ ?_)
                  refine then_n (ks234 _ _ ?_)
                  refine wp_cond_f (by kernel_rfl) ?_
                  refine xskip ?_
                  have q0 := of_some h
                  subst q0
                  exact nj _ _ ⟨(hs.conv rfl), exg (by kernel_rfl)⟩
              · clear hj hs
                rintro a w ⟨hs, g, rfl⟩
                refine then_n (ks240 _ _ ?_)
                refine wp_regS (l := [0, 1, 2, 3]) (by kernel_rfl) (by kernel_rfl) fun KR237 kr237 => ?_
                refine wpS.take 0 false (some 54) (.int .i64 z7) (by kernel_rfl) (yld fun _ => by kernel_rfl) ?_
                refine wpS.take 1 false (some 55) (.int .i32 y13) (by kernel_rfl) (yld fun _ => by kernel_rfl) ?_
                obtain ⟨i0_238, h⟩ := of_chk h
                obtain ⟨i1_238, h⟩ := of_chk h
                refine wpS.take 2 false (some 56) (.pointer (some ⟨b6, 0 + (z7 : Int).toNat * 1, none⟩)) (by kernel_rfl) (yld_idx (t := 40) (e := 21) (n := 256) (sz := 1) (k := .i64) (x := z7) (by kernel_rfl) (by kernel_rfl) (by kernel_rfl) i0_238 i1_238) ?_
                refine wpS.only 3 (op_storeA (t := 21) (x := z7) (v := y13) (d := none) (by kernel_rfl) hs 0 rfl (by kernel_rfl) (by kernel_rfl) i0_238 i1_238 ?_)
                intro w kp hs
                refine ⟨fun _ => trivial, ?_⟩
                refine wpS.fin rfl (kr237 _ _ ?_)
                refine inBlock_n ?_
                refine then_n (ks215 _ _ ?_)
                refine wp_regS (l := [0, 1, 2]) (by kernel_rfl) (by kernel_rfl) fun KR239 kr239 => ?_
                refine wpS.take 0 false (some 33) (.int .i64 z7) (by kernel_rfl) (yld fun _ => by kernel_rfl) ?_
                refine wpS.take 1 false (some 34) (.int .i64 (iadd .i64 z7 1)) (by kernel_rfl) (yld fun _ => by kernel_rfl) ?_
                obtain ⟨x15, hx, h⟩ := of_bind h
                refine wpS.take 2 false (some 10) (.int .i64 x15) (by kernel_rfl) (yld_int hx (fun _ => by kernel_rfl)) ?_
                refine wpS.fin rfl (kr239 _ _ ?_)
                exact then_n (kl0 _ _ ⟨n, Nat.lt_succ_self n, x15, (wr z8 z7 y13), z9, h, (hs.conv rfl), exg (by kernel_rfl)⟩)
          · refine wpS.take 1 false (some 32) (.bool false) (by kernel_rfl) (yld_b (df hc) (fun _ => by kernel_rfl)) ?_
            refine wpS.fin rfl (kr190 _ _ ?_)
            refine then_n (ks189 _ _ ?_)
            refine wp_cond_f (by kernel_rfl) ?_
            refine xexit ?_
            refine then_x ?_
            refine then_x ?_
            refine inBlock_hit ?_
            have q0 := of_some h
            subst q0
            exact exq_n (nn0 _ _ ⟨z8, z9, rfl, (hs.conv rfl), exg (by kernel_rfl)⟩)
      · clear hs h hy
        rintro a w ⟨y10, y11, rfl, hs, g, rfl⟩
        have h := hk0
        refine then_n (ks128 _ _ ?_)
        refine xseq_k fun KS241 ks241 => ?_
        refine wp_regS (l := [0, 1, 2]) (by kernel_rfl) (by kernel_rfl) fun KR242 kr242 => ?_
        refine wpS.take 0 true (some 57) (.agg (enc .i32 y10).toArray) (by kernel_rfl) (yld_loadW (e := 40) (n := 256) hs 0 rfl (by kernel_rfl) (by kernel_rfl) (by kernel_rfl) (by exact enc_len _ _) .grow) ?_
        refine wpS.only 1 (op_storeW (t := 40) (v := .agg (enc .i32 y10).toArray) (d := none) (by kernel_rfl) hs 2 rfl (vs := enc .i32 y10) (n := 256) (by kernel_rfl) (by kernel_rfl) (by kernel_rfl) (by simp [enc_len]) (by simp [enc_len]) (by intro u hu; exact enc_one _ _ u hu) ?_)
        intro w kp hs
        refine ⟨fun _ => trivial, ?_⟩
        refine wpS.take 2 false (some 7) (.bool true) (by kernel_rfl) (yld fun _ => by kernel_rfl) ?_
        refine wpS.fin rfl (kr242 _ _ ?_)
        refine then_n (ks241 _ _ ?_)
        refine xret ?_
        obtain ⟨q0, qr0⟩ := Prod.mk.inj (of_some h)
        have q1 := qr0
        subst q0
        subst q1
        exact qq _ _ (post_ret (by kernel_rfl) (run_results [.cell 6 40, .tmp 7] [.agg (enc .i32 y10).toArray, .bool true] (by kernel_rfl) (.cons (res_cellN (n := 256) hs 2 rfl (by kernel_rfl) (by kernel_rfl) (by kernel_rfl) (by exact enc_len _ _)) (.cons (res_tmp (by kernel_rfl)) .nil))) ⟨congrArg Ending.returned (by kernel_rfl), hs.none⟩)
    · refine wpS.take 11 false (some 23) (.bool true) (by kernel_rfl) (yld_b (nt hc) (fun _ => by kernel_rfl)) ?_
      refine wpS.take 12 false (some 24) (.bool true) (by kernel_rfl) (yld fun _ => by kernel_rfl) ?_
      refine wpS.fin rfl (kr11 _ _ ?_)
      refine then_n (ks10 _ _ ?_)
      refine wp_cond_t (by kernel_rfl) ?_
      refine xseq_k fun KS243 ks243 => ?_
      refine wp_regS (l := [0, 1, 2]) (by kernel_rfl) (by kernel_rfl) fun KR244 kr244 => ?_
      refine wpS.take 0 false (some 25) (.agg (enc .i32 (zeroA 256)).toArray) (by kernel_rfl) (yld fun _ => by kernel_rfl) ?_
      refine wpS.only 1 (op_storeW (t := 40) (v := .agg (enc .i32 (zeroA 256)).toArray) (d := none) (by kernel_rfl) hs 0 rfl (vs := enc .i32 (zeroA 256)) (n := 256) (by kernel_rfl) (by kernel_rfl) (by kernel_rfl) (by simp [enc_len]) (by simp [enc_len]) (by intro u hu; exact enc_one _ _ u hu) ?_)
      intro w kp hs
      refine ⟨fun _ => trivial, ?_⟩
      refine wpS.take 2 false (some 7) (.bool false) (by kernel_rfl) (yld fun _ => by kernel_rfl) ?_
      refine wpS.fin rfl (kr244 _ _ ?_)
      refine then_n (ks243 _ _ ?_)
      refine xret ?_
      refine then_r ?_
      obtain ⟨q0, qr0⟩ := Prod.mk.inj (of_some h)
      have q1 := qr0
      subst q0
      subst q1
      exact qq _ _ (post_ret (by kernel_rfl) (run_results [.cell 6 40, .tmp 7] [.agg (enc .i32 (zeroA 256)).toArray, .bool false] (by kernel_rfl) (.cons (res_cellN (n := 256) hs 0 rfl (by kernel_rfl) (by kernel_rfl) (by kernel_rfl) (by exact enc_len _ _)) (.cons (res_tmp (by kernel_rfl)) .nil))) ⟨congrArg Ending.returned (by kernel_rfl), hs.none⟩)
  | false =>
    have h := of_if_f h
    refine wpS.only 2 (op_call (d := (some 14)) (by kernel_rfl) hs (fun _ => by kernel_rfl) (ref22_bounds.ok hg _) ?_)
    intro w gw hs
    refine ⟨fun _ => trivial, ?_⟩
    refine wpS.take 3 false (some 15) (.bool true) (by kernel_rfl) (yld fun _ => by kernel_rfl) ?_
    refine wpS.take 4 false (some 16) (.bool true) (by kernel_rfl) (yld fun _ => by kernel_rfl) ?_
    refine wpS.take 5 false (some 17) (undef) (by kernel_rfl) (yld fun _ => by kernel_rfl) ?_
    refine wpS.take 6 false (some 18) (undef) (by kernel_rfl) (yld fun _ => by kernel_rfl) ?_
    refine wpS.take 7 false (some 19) (undef) (by kernel_rfl) (yld fun _ => by kernel_rfl) ?_
    refine wpS.take 8 false (some 20) (undef) (by kernel_rfl) (yld fun _ => by kernel_rfl) ?_
    refine wpS.take 9 false (some 21) (undef) (by kernel_rfl) (yld fun _ => by kernel_rfl) ?_
    refine wpS.take 10 false (some 22) (undef) (by kernel_rfl) (yld fun _ => by kernel_rfl) ?_
    refine wpS.take 11 false (some 23) (undef) (by kernel_rfl) (yld fun _ => by kernel_rfl) ?_
    refine wpS.take 12 false (some 24) (.bool true) (by kernel_rfl) (yld fun _ => by kernel_rfl) ?_
    refine wpS.fin rfl (kr11 _ _ ?_)
    refine then_n (ks10 _ _ ?_)
    refine wp_cond_t (by kernel_rfl) ?_
    refine xseq_k fun KS245 ks245 => ?_
    refine wp_regS (l := [0, 1, 2]) (by kernel_rfl) (by kernel_rfl) fun KR246 kr246 => ?_
    refine wpS.take 0 false (some 25) (.agg (enc .i32 (zeroA 256)).toArray) (by kernel_rfl) (yld fun _ => by kernel_rfl) ?_
    refine wpS.only 1 (op_storeW (t := 40) (v := .agg (enc .i32 (zeroA 256)).toArray) (d := none) (by kernel_rfl) hs 0 rfl (vs := enc .i32 (zeroA 256)) (n := 256) (by kernel_rfl) (by kernel_rfl) (by kernel_rfl) (by simp [enc_len]) (by simp [enc_len]) (by intro u hu; exact enc_one _ _ u hu) ?_)
    intro w kp hs
    refine ⟨fun _ => trivial, ?_⟩
    refine wpS.take 2 false (some 7) (.bool false) (by kernel_rfl) (yld fun _ => by kernel_rfl) ?_
    refine wpS.fin rfl (kr246 _ _ ?_)
    refine then_n (ks245 _ _ ?_)
    refine xret ?_
    refine then_r ?_
    obtain ⟨q0, qr0⟩ := Prod.mk.inj (of_some h)
    have q1 := qr0
    subst q0
    subst q1
    exact qq _ _ (post_ret (by kernel_rfl) (run_results [.cell 6 40, .tmp 7] [.agg (enc .i32 (zeroA 256)).toArray, .bool false] (by kernel_rfl) (.cons (res_cellN (n := 256) hs 0 rfl (by kernel_rfl) (by kernel_rfl) (by kernel_rfl) (by exact enc_len _ _)) (.cons (res_tmp (by kernel_rfl)) .nil))) ⟨congrArg Ending.returned (by kernel_rfl), hs.none⟩)

theorem dpack_Unhints_1.ok {K : Nat} {a0 : Int} {r0 : Bool} (h : dpack_Unhints_1.f K a0 = some r0) (w0 : World) : Ret Try.prog 55 #[.int .u8 a0] w0 (.bool r0) := by
  refine calls_k Try.func55 rfl fun Q qq => ?_
  have hs := St.start w0
  refine wp_conv (a' := ⟨#[.int .u8 a0, undef, undef, undef, undef], []⟩) (by kernel_rfl) ?_
  refine xseq_k fun KS1 ks1 => ?_
  refine wp_regS (l := [0]) (by kernel_rfl) (by kernel_rfl) fun KR2 kr2 => ?_
  refine wpS.take 0 false (some 2) (.bool false) (by kernel_rfl) (yld fun _ => by kernel_rfl) ?_
  refine wpS.fin rfl (kr2 _ _ ?_)
  refine then_n (ks1 _ _ ?_)
  refine xseq_k fun KS3 ks3 => ?_
  refine wp_regS (l := [0, 1, 2]) (by kernel_rfl) (by kernel_rfl) fun KR4 kr4 => ?_
  refine wpS.take 0 false (some 3) (.int .u8 a0) (by kernel_rfl) (yld fun _ => by kernel_rfl) ?_
  refine wpS.take 1 false (some 4) (.bool (a0 != 0)) (by kernel_rfl) (yld fun _ => by kernel_rfl) ?_
  refine wpS.take 2 false (some 2) (.bool (a0 != 0)) (by kernel_rfl) (yld fun _ => by kernel_rfl) ?_
  refine wpS.fin rfl (kr4 _ _ ?_)
  refine then_n (ks3 _ _ ?_)
  refine xret ?_
  have q0 := of_some h
  subst q0
  exact qq _ _ (post_ret (by kernel_rfl) (run_results [.tmp 2] [.bool (a0 != 0)] (by kernel_rfl) (.cons (res_tmp (by kernel_rfl)) .nil)) ⟨congrArg Ending.returned (by kernel_rfl), hs.none⟩)
end Go.Proofs.Ytblploekkjeolaa
