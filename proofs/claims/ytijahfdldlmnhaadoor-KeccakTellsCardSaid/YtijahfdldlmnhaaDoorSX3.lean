/- Printed by this work's own program: the code of each function below comes to the answer that its plain form tells. -/
import Derived.Test.YtijahfdldlmnhaaDoorMr
import Derived.Test.YtijahfdldlmnhaaDoorProg
import Derived.Test.YtijahfdldlmnhaaDoorSF0
set_option linter.unusedVariables false
set_option linter.unusedSimpArgs false
set_option maxRecDepth 100000
set_option maxHeartbeats 4000000
namespace Go.Proofs.YtijahfdldlmnhaaDoor
open Go.Mx
attribute [local irreducible] wpOp

theorem ref08_constants.ok {K : Nat} {r0 : Arr 24} (h : ref08_constants.f K = some r0) (w0 : World) : Ret Tryd.prog 28 #[] w0 (.agg (enc .u64 r0).toArray) := by
  refine calls_k Tryd.func28 rfl fun Q qq => ?_
  have hs := St.start w0
  refine wp_conv (a' := ⟨#[undef, undef, undef, undef, undef, undef, undef, undef, undef, undef, undef, undef, undef, undef, undef, undef, undef, undef, undef, undef, undef, undef, undef, undef, undef, undef, undef, undef, undef, undef, undef, undef], []⟩) (by kernel_rfl) ?_
  refine wp_seq_k fun KS1 ks1 => ?_
  refine wp_regS (l := [0]) (by kernel_rfl) fun KR kr => ?_
  refine wpS.only 0 (op_alloc (t := 54) (d := (some 0)) (by kernel_rfl) hs (enc .u64 (zeroA 24)) (.agg (enc .u64 (zeroA 24)).toArray) (by kernel_rfl) (by kernel_rfl) (by kernel_rfl) ?_)
  intro b1 w gw hs
  refine ⟨fun _ => trivial, ?_⟩
  refine wpS.fin rfl (kr _ _ ?_)
  refine then_n (ks1 _ _ ?_)
  refine wp_seq_k fun KS2 ks2 => ?_
  refine wp_regS (l := [0]) (by kernel_rfl) fun KR kr => ?_
  refine wpS.only 0 (op_alloc (t := 54) (d := (some 1)) (by kernel_rfl) hs (enc .u64 (zeroA 24)) (.agg (enc .u64 (zeroA 24)).toArray) (by kernel_rfl) (by kernel_rfl) (by kernel_rfl) ?_)
  intro b2 w gw hs
  refine ⟨fun _ => trivial, ?_⟩
  refine wpS.fin rfl (kr _ _ ?_)
  refine then_n (ks2 _ _ ?_)
  refine wp_seq_k fun KS3 ks3 => ?_
  refine wp_regS (l := [0]) (by kernel_rfl) fun KR kr => ?_
  refine wpS.take 0 false (some 2) (.int .u64 1) (by kernel_rfl) (yld fun _ => by kernel_rfl) ?_
  refine wpS.fin rfl (kr _ _ ?_)
  refine then_n (ks3 _ _ ?_)
  refine wp_seq_k fun KS121 ks121 => ?_
  refine wp_seq_k fun KS122 ks122 => ?_
  refine wp_regS (l := [0]) (by kernel_rfl) fun KR kr => ?_
  refine wpS.take 0 false (some 3) (.int .i64 0) (by kernel_rfl) (yld fun _ => by kernel_rfl) ?_
  refine wpS.fin rfl (kr _ _ ?_)
  refine then_n (ks122 _ _ ?_)
  obtain ⟨y6, hy, hk0⟩ := of_bind h
  refine wp_exq (N := fun a w => St w0 [] [.blk b2 (enc .u64 y6) 54, .blk b1 (enc .u64 (zeroA 24)) 54] [] w ∧ ∃ g : Nat → Value, a = ⟨#[.pointer (some ⟨b1, 0, none⟩), .pointer (some ⟨b2, 0, none⟩), (g 2), (g 3), (g 4), (g 5), (g 6), (g 7), (g 8), (g 9), (g 10), (g 11), (g 12), (g 13), (g 14), (g 15), (g 16), (g 17), (g 18), (g 19), (g 20), (g 21), (g 22), (g 23), (g 24), (g 25), (g 26), (g 27), (g 28), (g 29), (g 30), undef], []⟩) (fun N0 nn0 => ?_) ?_
  · clear hk0
    refine wp_block ?_
    refine wp_loop_k (fun n a w => ∃ z3 z4 z5, ref08_constants.l0 K n z3 z4 z5 = some y6 ∧ St w0 [] [.blk b2 (enc .u64 z5) 54, .blk b1 (enc .u64 (zeroA 24)) 54] [] w ∧ ∃ g : Nat → Value, a = ⟨#[.pointer (some ⟨b1, 0, none⟩), .pointer (some ⟨b2, 0, none⟩), .int .u64 z3, .int .i64 z4, (g 4), (g 5), (g 6), (g 7), (g 8), (g 9), (g 10), (g 11), (g 12), (g 13), (g 14), (g 15), (g 16), (g 17), (g 18), (g 19), (g 20), (g 21), (g 22), (g 23), (g 24), (g 25), (g 26), (g 27), (g 28), (g 29), (g 30), undef], []⟩) K ⟨1, 0, (zeroA 24), hy, hs.conv rfl, exg (by kernel_rfl)⟩ ?_
    clear hs h hy
    rintro n a w ⟨z3, z4, z5, h, hs, g, rfl⟩ KL0 kl0
    cases n with
    | zero => exact nomatch (show none = some _ from h)
    | succ n =>
      refine wp_seq_k fun KS182 ks182 => ?_
      refine wp_seq_k fun KS183 ks183 => ?_
      refine wp_regS (l := [0, 1]) (by kernel_rfl) fun KR kr => ?_
      refine wpS.take 0 false (some 4) (.int .i64 z4) (by kernel_rfl) (yld fun _ => by kernel_rfl) ?_
      rcases of_if h with ⟨hc, h⟩ | ⟨hc, h⟩
      · refine wpS.take 1 false (some 5) (.bool true) (by kernel_rfl) (yld_b (dt hc) (fun _ => by kernel_rfl)) ?_
        refine wpS.fin rfl (kr _ _ ?_)
        refine then_n (ks183 _ _ ?_)
        refine wp_cond_t (by kernel_rfl) ?_
        refine wp_skip ?_
        refine then_n (ks182 _ _ ?_)
        obtain ⟨⟨y7, y8⟩, hj, h⟩ := of_bind h
        refine wp_seq_k fun KS238 ks238 => wp_join (N := fun a w => St w0 [] [.blk b2 (enc .u64 y8) 54, .blk b1 (enc .u64 (zeroA 24)) 54] [] w ∧ ∃ g : Nat → Value, a = ⟨#[.pointer (some ⟨b1, 0, none⟩), .pointer (some ⟨b2, 0, none⟩), .int .u64 y7, .int .i64 z4, .int .i64 z4, .bool true, (g 6), (g 7), (g 8), (g 9), (g 10), (g 11), (g 12), (g 13), (g 14), (g 15), (g 16), (g 17), (g 18), (g 19), (g 20), (g 21), (g 22), (g 23), (g 24), (g 25), (g 26), (g 27), (g 28), (g 29), (g 30), undef], []⟩) (fun N nj => ?_) ?_
        · clear h
          have h := hj
          refine wp_block ?_
          obtain ⟨y9, hj, h⟩ := of_bind h
          refine wp_seq_k fun KS237 ks237 => wp_join (N := fun a w => St w0 [] [.blk b2 (enc .u64 y9) 54, .blk b1 (enc .u64 (zeroA 24)) 54] [] w ∧ ∃ g : Nat → Value, a = ⟨#[.pointer (some ⟨b1, 0, none⟩), .pointer (some ⟨b2, 0, none⟩), .int .u64 z3, .int .i64 z4, .int .i64 z4, .bool true, (g 6), (g 7), (g 8), (g 9), (g 10), (g 11), (g 12), (g 13), (g 14), (g 15), (g 16), (g 17), (g 18), (g 19), (g 20), (g 21), (g 22), (g 23), (g 24), (g 25), (g 26), (g 27), (g 28), (g 29), (g 30), undef], []⟩) (fun N nj => ?_) ?_
          · clear h
            have h := hj
            refine wp_seq_k fun KS230 ks230 => ?_
            refine wp_regS (l := [0, 1, 2]) (by kernel_rfl) fun KR kr => ?_
            refine wpS.take 0 false (some 8) (.int .u64 z3) (by kernel_rfl) (yld fun _ => by kernel_rfl) ?_
            refine wpS.take 1 false (some 9) (.int .u64 (iand .u64 z3 1)) (by kernel_rfl) (yld fun _ => by kernel_rfl) ?_
            rcases of_if h with ⟨hc, h⟩ | ⟨hc, h⟩
            · refine wpS.take 2 false (some 10) (.bool true) (by kernel_rfl) (yld_b (et hc) (fun _ => by kernel_rfl)) ?_
              refine wpS.fin rfl (kr _ _ ?_)
              refine then_n (ks230 _ _ ?_)
              refine wp_cond_t (by kernel_rfl) ?_
              refine wp_regG [13] (fun k => k = b2) 14 (by kernel_rfl) (by kernel_rfl) fun KR kr => ?_
              have hs := hs.drawn1
              refine wpG.takeD 0 false (some 11) (.int .i64 z4) (by kernel_rfl) (by kernel_rfl) (yld fun _ => by kernel_rfl) ?_
              refine wpG.takeD 1 false (some 12) (.int .i64 (iquo .i64 z4 7)) (by kernel_rfl) (by kernel_rfl) (yld fun _ => by kernel_rfl) ?_
              refine wpG.takeD 2 false (some 13) (.int .i64 z4) (by kernel_rfl) (by kernel_rfl) (yld fun _ => by kernel_rfl) ?_
              refine wpG.takeD 3 false (some 14) (.int .i64 (iquo .i64 z4 7)) (by kernel_rfl) (by kernel_rfl) (yld fun _ => by kernel_rfl) ?_
              obtain ⟨x10, hx, h⟩ := of_bind h
              have hx := of_some hx
              subst hx
              obtain ⟨i0_233, h⟩ := of_chk h
              obtain ⟨i1_233, h⟩ := of_chk h
              refine wpG.takeD 4 false (some 15) (.pointer (some ⟨b2, 0 + ((iquo .i64 z4 7) : Int).toNat * 1, none⟩)) (by kernel_rfl) (by kernel_rfl) (yld_idx (t := 54) (e := 22) (n := 24) (sz := 1) (k := .i64) (x := (iquo .i64 z4 7)) (by kernel_rfl) (by kernel_rfl) (by kernel_rfl) i0_233 i1_233) ?_
              refine wpG.takeD 5 true (some 16) (.int .u64 (rd z5 (iquo .i64 z4 7))) (by kernel_rfl) (by kernel_rfl) (yld_loadA (e := 22) (x := (iquo .i64 z4 7)) hs 0 rfl (by kernel_rfl) (by kernel_rfl) i0_233 i1_233 .grow) ?_
              refine wpG.takeD 6 false (some 17) (.int .i64 z4) (by kernel_rfl) (by kernel_rfl) (yld fun _ => by kernel_rfl) ?_
              refine wpG.takeD 7 false (some 18) (.int .i64 (irem .i64 z4 7)) (by kernel_rfl) (by kernel_rfl) (yld fun _ => by kernel_rfl) ?_
              obtain ⟨h0, h⟩ := of_chk h
              refine wpG.takeD 8 false (some 19) (.int .u64 (ishl .u64 1 (irem .i64 z4 7))) (by kernel_rfl) (by kernel_rfl) (yld_shl (t := 63) (k' := .i64) (by kernel_rfl) h0) ?_
              refine wpG.takeD 9 false (some 20) (.int .u64 (isub .u64 (ishl .u64 1 (irem .i64 z4 7)) 1)) (by kernel_rfl) (by kernel_rfl) (yld fun _ => by kernel_rfl) ?_
              obtain ⟨h0, h⟩ := of_chk h
              refine wpG.takeD 10 false (some 21) (.int .u64 (ishl .u64 1 (isub .u64 (ishl .u64 1 (irem .i64 z4 7)) 1))) (by kernel_rfl) (by kernel_rfl) (yld_shl (t := 22) (k' := .u64) (by kernel_rfl) h0) ?_
              refine wpG.takeD 11 false (some 22) (.int .u64 (ior .u64 (rd z5 (iquo .i64 z4 7)) (ishl .u64 1 (isub .u64 (ishl .u64 1 (irem .i64 z4 7)) 1)))) (by kernel_rfl) (by kernel_rfl) (yld fun _ => by kernel_rfl) ?_
              obtain ⟨x11, hx, h⟩ := of_bind h
              have hx := of_some hx
              subst hx
              obtain ⟨i0_234, h⟩ := of_chk h
              obtain ⟨i1_234, h⟩ := of_chk h
              refine wpG.takeD 12 false (some 23) (.pointer (some ⟨b2, 0 + ((iquo .i64 z4 7) : Int).toNat * 1, none⟩)) (by kernel_rfl) (by kernel_rfl) (yld_idx (t := 54) (e := 22) (n := 24) (sz := 1) (k := .i64) (x := (iquo .i64 z4 7)) (by kernel_rfl) (by kernel_rfl) (by kernel_rfl) i0_234 i1_234) ?_
              obtain ⟨x12, hx, h⟩ := of_bind h
              refine wpG.only 13 (by kernel_rfl) (op_storeA (t := 22) (x := (iquo .i64 z4 7)) (v := x12) (d := none) (by kernel_rfl) hs 0 rfl (by cases hx; kernel_rfl) (by kernel_rfl) i0_234 i1_234 ?_)
              intro w kp hs
              refine ⟨⟨fun hf => absurd hf (by decide), kp.mono fun _ h => h⟩, ?_⟩
              refine wpG.fin (by kernel_rfl) rfl (kr _ _ ?_)
              have q0 := of_some h
              subst q0
              exact nj _ _ ⟨(hs.conv rfl), exg (by kernel_rfl)⟩
            · refine wpS.take 2 false (some 10) (.bool false) (by kernel_rfl) (yld_b (ef hc) (fun _ => by kernel_rfl)) ?_
              refine wpS.fin rfl (kr _ _ ?_)
              refine then_n (ks230 _ _ ?_)
              refine wp_cond_f (by kernel_rfl) ?_
              refine wp_skip ?_
              have q0 := of_some h
              subst q0
              exact nj _ _ ⟨(hs.conv rfl), exg (by kernel_rfl)⟩
          · clear hj hs
            rintro a w ⟨hs, g, rfl⟩
            refine then_n (ks237 _ _ ?_)
            refine wp_seq_k fun KS235 ks235 => ?_
            refine wp_regS (l := [0, 1, 2]) (by kernel_rfl) fun KR kr => ?_
            refine wpS.take 0 false (some 24) (.int .u64 z3) (by kernel_rfl) (yld fun _ => by kernel_rfl) ?_
            refine wpS.take 1 false (some 25) (.int .u64 (imul .u64 z3 2)) (by kernel_rfl) (yld fun _ => by kernel_rfl) ?_
            obtain ⟨x13, hx, h⟩ := of_bind h
            refine wpS.take 2 false (some 2) (.int .u64 x13) (by kernel_rfl) (yld_int hx (fun _ => by kernel_rfl)) ?_
            refine wpS.fin rfl (kr _ _ ?_)
            refine then_n (ks235 _ _ ?_)
            refine wp_seq_k fun KS236 ks236 => ?_
            refine wp_regS (l := [0, 1]) (by kernel_rfl) fun KR kr => ?_
            refine wpS.take 0 false (some 26) (.int .u64 x13) (by kernel_rfl) (yld fun _ => by kernel_rfl) ?_
            rcases of_if h with ⟨hc, h⟩ | ⟨hc, h⟩
            · refine wpS.take 1 false (some 27) (.bool true) (by kernel_rfl) (yld_b (dt hc) (fun _ => by kernel_rfl)) ?_
              refine wpS.fin rfl (kr _ _ ?_)
              refine then_n (ks236 _ _ ?_)
              refine wp_cond_t (by kernel_rfl) ?_
              refine wp_regS (l := [0, 1, 2, 3]) (by kernel_rfl) fun KR kr => ?_
              refine wpS.take 0 false (some 28) (.int .u64 x13) (by kernel_rfl) (yld fun _ => by kernel_rfl) ?_
              refine wpS.take 1 false (some 29) (.int .u64 (iand .u64 x13 255)) (by kernel_rfl) (yld fun _ => by kernel_rfl) ?_
              refine wpS.take 2 false (some 30) (.int .u64 (ixor .u64 (iand .u64 x13 255) 113)) (by kernel_rfl) (yld fun _ => by kernel_rfl) ?_
              obtain ⟨x14, hx, h⟩ := of_bind h
              refine wpS.take 3 false (some 2) (.int .u64 x14) (by kernel_rfl) (yld_int hx (fun _ => by kernel_rfl)) ?_
              refine wpS.fin rfl (kr _ _ ?_)
              refine inBlock_n ?_
              obtain ⟨q0, qr0⟩ := Prod.mk.inj (of_some h)
              have q1 := qr0
              subst q0
              subst q1
              exact nj _ _ ⟨(hs.conv rfl), exg (by kernel_rfl)⟩
            · refine wpS.take 1 false (some 27) (.bool false) (by kernel_rfl) (yld_b (df hc) (fun _ => by kernel_rfl)) ?_
              refine wpS.fin rfl (kr _ _ ?_)
              refine then_n (ks236 _ _ ?_)
              refine wp_cond_f (by kernel_rfl) ?_
              refine wp_skip ?_
              refine inBlock_n ?_
              obtain ⟨q0, qr0⟩ := Prod.mk.inj (of_some h)
              have q1 := qr0
              subst q0
              subst q1
              exact nj _ _ ⟨(hs.conv rfl), exg (by kernel_rfl)⟩
        · clear hj hs
          rintro a w ⟨hs, g, rfl⟩
          refine then_n (ks238 _ _ ?_)
          refine wp_regS (l := [0, 1, 2]) (by kernel_rfl) fun KR kr => ?_
          refine wpS.take 0 false (some 6) (.int .i64 z4) (by kernel_rfl) (yld fun _ => by kernel_rfl) ?_
          refine wpS.take 1 false (some 7) (.int .i64 (iadd .i64 z4 1)) (by kernel_rfl) (yld fun _ => by kernel_rfl) ?_
          obtain ⟨x15, hx, h⟩ := of_bind h
          refine wpS.take 2 false (some 3) (.int .i64 x15) (by kernel_rfl) (yld_int hx (fun _ => by kernel_rfl)) ?_
          refine wpS.fin rfl (kr _ _ ?_)
          exact then_n (kl0 _ _ ⟨n, Nat.lt_succ_self n, y7, x15, y8, h, (hs.conv rfl), exg (by kernel_rfl)⟩)
      · refine wpS.take 1 false (some 5) (.bool false) (by kernel_rfl) (yld_b (df hc) (fun _ => by kernel_rfl)) ?_
        refine wpS.fin rfl (kr _ _ ?_)
        refine then_n (ks183 _ _ ?_)
        refine wp_cond_f (by kernel_rfl) ?_
        refine wp_exit ?_
        refine then_x ?_
        refine then_x ?_
        refine inBlock_hit ?_
        have q0 := of_some h
        subst q0
        exact exq_n (nn0 _ _ ⟨(hs.conv rfl), exg (by kernel_rfl)⟩)
  · clear hs h hy
    rintro a w ⟨hs, g, rfl⟩
    have h := hk0
    refine then_n (ks121 _ _ ?_)
    refine wp_seq_k fun KS239 ks239 => ?_
    refine wp_regS (l := [0, 1]) (by kernel_rfl) fun KR kr => ?_
    refine wpS.take 0 true (some 31) (.agg (enc .u64 y6).toArray) (by kernel_rfl) (yld_loadW (e := 54) (n := 24) hs 0 rfl (by kernel_rfl) (by kernel_rfl) (by kernel_rfl) (by exact enc_len _ _) .grow) ?_
    refine wpS.only 1 (op_storeW (t := 54) (v := .agg (enc .u64 y6).toArray) (d := none) (by kernel_rfl) hs 1 rfl (vs := enc .u64 y6) (n := 24) (by kernel_rfl) (by kernel_rfl) (by kernel_rfl) (by simp [enc_len]) (by simp [enc_len]) (by intro u hu; exact enc_one _ _ u hu) ?_)
    intro w kp hs
    refine ⟨fun _ => trivial, ?_⟩
    refine wpS.fin rfl (kr _ _ ?_)
    refine then_n (ks239 _ _ ?_)
    refine wp_ret ?_
    have q0 := of_some h
    subst q0
    exact qq _ _ (post_ret (by kernel_rfl) (run_results [.cell 0 54] [.agg (enc .u64 y6).toArray] (by kernel_rfl) (.cons (res_cellN (n := 24) hs 1 rfl (by kernel_rfl) (by kernel_rfl) (by kernel_rfl) (by exact enc_len _ _)) .nil)) ⟨congrArg Ending.returned (by kernel_rfl), hs.none⟩)

theorem ref08_left.ok {K : Nat} {a0 : Int} {a1 : Int} {r0 : Int} (h : ref08_left.f K a0 a1 = some r0) (w0 : World) : Ret Tryd.prog 33 #[.int .u64 a0, .int .i64 a1] w0 (.int .u64 r0) := by
  refine calls_k Tryd.func33 rfl fun Q qq => ?_
  have hs := St.start w0
  refine wp_conv (a' := ⟨#[.int .u64 a0, .int .i64 a1, undef, undef, undef, undef, undef, undef, undef, undef, undef, undef, undef, undef, undef], []⟩) (by kernel_rfl) ?_
  refine wp_seq_k fun KS1 ks1 => ?_
  refine wp_regS (l := [0]) (by kernel_rfl) fun KR kr => ?_
  refine wpS.take 0 false (some 4) (.int .u64 0) (by kernel_rfl) (yld fun _ => by kernel_rfl) ?_
  refine wpS.fin rfl (kr _ _ ?_)
  refine then_n (ks1 _ _ ?_)
  refine wp_seq_k fun KS2 ks2 => ?_
  refine wp_regS (l := [0, 1, 2]) (by kernel_rfl) fun KR kr => ?_
  refine wpS.take 0 false (some 5) (.int .i64 a1) (by kernel_rfl) (yld fun _ => by kernel_rfl) ?_
  refine wpS.take 1 false (some 6) (.int .i64 (irem .i64 a1 64)) (by kernel_rfl) (yld fun _ => by kernel_rfl) ?_
  obtain ⟨x1, hx, h⟩ := of_bind h
  refine wpS.take 2 false (some 1) (.int .i64 x1) (by kernel_rfl) (yld_int hx (fun _ => by kernel_rfl)) ?_
  refine wpS.fin rfl (kr _ _ ?_)
  refine then_n (ks2 _ _ ?_)
  refine wp_seq_k fun KS3 ks3 => ?_
  refine wp_regG [] (fun k => True) 9 (by kernel_rfl) (by kernel_rfl) fun KR kr => ?_
  have hs := hs.drawn1
  refine wpG.takeD 0 false (some 7) (.int .u64 a0) (by kernel_rfl) (by kernel_rfl) (yld fun _ => by kernel_rfl) ?_
  refine wpG.takeD 1 false (some 8) (.int .i64 x1) (by kernel_rfl) (by kernel_rfl) (yld fun _ => by kernel_rfl) ?_
  obtain ⟨h0, h⟩ := of_chk h
  refine wpG.takeD 2 false (some 9) (.int .u64 (ishl .u64 a0 x1)) (by kernel_rfl) (by kernel_rfl) (yld_shl (t := 22) (k' := .i64) (by kernel_rfl) h0) ?_
  refine wpG.takeD 3 false (some 10) (.int .u64 a0) (by kernel_rfl) (by kernel_rfl) (yld fun _ => by kernel_rfl) ?_
  refine wpG.takeD 4 false (some 11) (.int .i64 x1) (by kernel_rfl) (by kernel_rfl) (yld fun _ => by kernel_rfl) ?_
  refine wpG.takeD 5 false (some 12) (.int .i64 (isub .i64 64 x1)) (by kernel_rfl) (by kernel_rfl) (yld fun _ => by kernel_rfl) ?_
  obtain ⟨h0, h⟩ := of_chk h
  refine wpG.takeD 6 false (some 13) (.int .u64 (ishr .u64 a0 (isub .i64 64 x1))) (by kernel_rfl) (by kernel_rfl) (yld_shr (t := 22) (k' := .i64) (by kernel_rfl) h0) ?_
  refine wpG.takeD 7 false (some 14) (.int .u64 (ior .u64 (ishl .u64 a0 x1) (ishr .u64 a0 (isub .i64 64 x1)))) (by kernel_rfl) (by kernel_rfl) (yld fun _ => by kernel_rfl) ?_
  obtain ⟨x2, hx, h⟩ := of_bind h
  refine wpG.takeD 8 false (some 4) (.int .u64 x2) (by kernel_rfl) (by kernel_rfl) (yld_int hx (fun _ => by kernel_rfl)) ?_
  refine wpG.fin (by kernel_rfl) rfl (kr _ _ ?_)
  refine then_n (ks3 _ _ ?_)
  refine wp_ret ?_
  have q0 := of_some h
  subst q0
  exact qq _ _ (post_ret (by kernel_rfl) (run_results [.tmp 4] [.int .u64 x2] (by kernel_rfl) (.cons (res_tmp (by kernel_rfl)) .nil)) ⟨congrArg Ending.returned (by kernel_rfl), hs.none⟩)

theorem ref08_move.ok {K : Nat} {a0 : Arr 25} {r0 : Arr 25} (h : ref08_move.f K a0 = some r0) (w0 : World) : Ret Tryd.prog 29 #[.agg (enc .u64 a0).toArray] w0 (.agg (enc .u64 r0).toArray) := by
  refine calls_k Tryd.func29 rfl fun Q qq => ?_
  have hs := St.start w0
  refine wp_conv (a' := ⟨#[.agg (enc .u64 a0).toArray, undef, undef, undef, undef, undef, undef, undef, undef, undef, undef, undef, undef, undef, undef, undef, undef, undef, undef, undef, undef, undef, undef, undef, undef, undef, undef, undef, undef, undef, undef, undef, undef, undef, undef, undef, undef, undef, undef, undef, undef, undef, undef, undef], []⟩) (by kernel_rfl) ?_
  refine wp_seq_k fun KS1 ks1 => ?_
  refine wp_regS (l := [0, 1]) (by kernel_rfl) fun KR kr => ?_
  refine wpS.only 0 (op_box (t := 23) (v := .agg (enc .u64 a0).toArray) (d := (some 1)) (by kernel_rfl) hs (enc .u64 a0) (by kernel_rfl) (by kernel_rfl) ?_)
  intro b1 w gw hs
  refine ⟨fun _ => trivial, ?_⟩
  refine wpS.only 1 (op_alloc (t := 23) (d := (some 2)) (by kernel_rfl) hs (enc .u64 (zeroA 25)) (.agg (enc .u64 (zeroA 25)).toArray) (by kernel_rfl) (by kernel_rfl) (by kernel_rfl) ?_)
  intro b2 w gw hs
  refine ⟨fun _ => trivial, ?_⟩
  refine wpS.fin rfl (kr _ _ ?_)
  refine then_n (ks1 _ _ ?_)
  refine wp_seq_k fun KS2 ks2 => ?_
  refine wp_regS (l := [0]) (by kernel_rfl) fun KR kr => ?_
  refine wpS.only 0 (op_alloc (t := 23) (d := (some 3)) (by kernel_rfl) hs (enc .u64 (zeroA 25)) (.agg (enc .u64 (zeroA 25)).toArray) (by kernel_rfl) (by kernel_rfl) (by kernel_rfl) ?_)
  intro b3 w gw hs
  refine ⟨fun _ => trivial, ?_⟩
  refine wpS.fin rfl (kr _ _ ?_)
  refine then_n (ks2 _ _ ?_)
  refine wp_seq_k fun KS3 ks3 => ?_
  refine wp_regS (l := [0, 1, 2, 3]) (by kernel_rfl) fun KR kr => ?_
  refine wpS.take 0 false (some 9) (.pointer (some ⟨b1, 0 + (0 : Int).toNat * 1, none⟩)) (by kernel_rfl) (yld_idx (t := 23) (e := 22) (n := 25) (sz := 1) (k := .i64) (x := 0) (by kernel_rfl) (by kernel_rfl) (by kernel_rfl) (by decide) (by decide)) ?_
  refine wpS.take 1 true (some 10) (.int .u64 (rd a0 0)) (by kernel_rfl) (yld_loadA (e := 22) (x := 0) hs 2 rfl (by kernel_rfl) (by kernel_rfl) (by decide) (by decide) .grow) ?_
  refine wpS.take 2 false (some 11) (.pointer (some ⟨b3, 0 + (0 : Int).toNat * 1, none⟩)) (by kernel_rfl) (yld_idx (t := 23) (e := 22) (n := 25) (sz := 1) (k := .i64) (x := 0) (by kernel_rfl) (by kernel_rfl) (by kernel_rfl) (by decide) (by decide)) ?_
  obtain ⟨x4, hx, h⟩ := of_bind h
  refine wpS.only 3 (op_storeA (t := 22) (x := 0) (v := x4) (d := none) (by kernel_rfl) hs 0 rfl (by cases hx; kernel_rfl) (by kernel_rfl) (by decide) (by decide) ?_)
  intro w kp hs
  refine ⟨fun _ => trivial, ?_⟩
  refine wpS.fin rfl (kr _ _ ?_)
  refine then_n (ks3 _ _ ?_)
  refine wp_seq_k fun KS6 ks6 => ?_
  refine wp_regS (l := [0]) (by kernel_rfl) fun KR kr => ?_
  refine wpS.take 0 false (some 4) (.int .i64 1) (by kernel_rfl) (yld fun _ => by kernel_rfl) ?_
  refine wpS.fin rfl (kr _ _ ?_)
  refine then_n (ks6 _ _ ?_)
  refine wp_seq_k fun KS7 ks7 => ?_
  refine wp_regS (l := [0]) (by kernel_rfl) fun KR kr => ?_
  refine wpS.take 0 false (some 5) (.int .i64 0) (by kernel_rfl) (yld fun _ => by kernel_rfl) ?_
  refine wpS.fin rfl (kr _ _ ?_)
  refine then_n (ks7 _ _ ?_)
  refine wp_seq_k fun KS29 ks29 => ?_
  refine wp_seq_k fun KS30 ks30 => ?_
  refine wp_regS (l := [0]) (by kernel_rfl) fun KR kr => ?_
  refine wpS.take 0 false (some 6) (.int .i64 0) (by kernel_rfl) (yld fun _ => by kernel_rfl) ?_
  refine wpS.fin rfl (kr _ _ ?_)
  refine then_n (ks30 _ _ ?_)
  obtain ⟨y9, hy, hk0⟩ := of_bind h
  refine wp_exq (N := fun a w => St w0 [] [.blk b3 (enc .u64 y9) 23, .blk b2 (enc .u64 (zeroA 25)) 23, .blk b1 (enc .u64 a0) 23] [] w ∧ ∃ g : Nat → Value, a = ⟨#[.agg (enc .u64 a0).toArray, .pointer (some ⟨b1, 0, none⟩), .pointer (some ⟨b2, 0, none⟩), .pointer (some ⟨b3, 0, none⟩), (g 4), (g 5), (g 6), (g 7), (g 8), .pointer (some ⟨b1, 0 + (0 : Int).toNat * 1, none⟩), .int .u64 (rd a0 0), .pointer (some ⟨b3, 0 + (0 : Int).toNat * 1, none⟩), (g 12), (g 13), (g 14), (g 15), (g 16), (g 17), (g 18), (g 19), (g 20), (g 21), (g 22), (g 23), (g 24), (g 25), (g 26), (g 27), (g 28), (g 29), (g 30), (g 31), (g 32), (g 33), (g 34), (g 35), (g 36), (g 37), (g 38), (g 39), (g 40), (g 41), (g 42), undef], []⟩) (fun N0 nn0 => ?_) ?_
  · clear hk0
    refine wp_block ?_
    refine wp_loop_k (fun n a w => ∃ z5 z6 z7 z8, ref08_move.l0 K n a0 z5 z6 z7 z8 = some y9 ∧ St w0 [] [.blk b3 (enc .u64 z8) 23, .blk b2 (enc .u64 (zeroA 25)) 23, .blk b1 (enc .u64 a0) 23] [] w ∧ ∃ g : Nat → Value, a = ⟨#[.agg (enc .u64 a0).toArray, .pointer (some ⟨b1, 0, none⟩), .pointer (some ⟨b2, 0, none⟩), .pointer (some ⟨b3, 0, none⟩), .int .i64 z5, .int .i64 z6, .int .i64 z7, (g 7), (g 8), .pointer (some ⟨b1, 0 + (0 : Int).toNat * 1, none⟩), .int .u64 (rd a0 0), .pointer (some ⟨b3, 0 + (0 : Int).toNat * 1, none⟩), (g 12), (g 13), (g 14), (g 15), (g 16), (g 17), (g 18), (g 19), (g 20), (g 21), (g 22), (g 23), (g 24), (g 25), (g 26), (g 27), (g 28), (g 29), (g 30), (g 31), (g 32), (g 33), (g 34), (g 35), (g 36), (g 37), (g 38), (g 39), (g 40), (g 41), (g 42), undef], []⟩) K ⟨1, 0, 0, (wr (zeroA 25) 0 x4), hy, hs.conv rfl, exg (by kernel_rfl)⟩ ?_
    clear hs h hy
    rintro n a w ⟨z5, z6, z7, z8, h, hs, g, rfl⟩ KL0 kl0
    cases n with
    | zero => exact nomatch (show none = some _ from h)
    | succ n =>
      refine wp_seq_k fun KS42 ks42 => ?_
      refine wp_seq_k fun KS43 ks43 => ?_
      refine wp_regS (l := [0, 1]) (by kernel_rfl) fun KR kr => ?_
      refine wpS.take 0 false (some 12) (.int .i64 z7) (by kernel_rfl) (yld fun _ => by kernel_rfl) ?_
      rcases of_if h with ⟨hc, h⟩ | ⟨hc, h⟩
      · refine wpS.take 1 false (some 13) (.bool true) (by kernel_rfl) (yld_b (dt hc) (fun _ => by kernel_rfl)) ?_
        refine wpS.fin rfl (kr _ _ ?_)
        refine then_n (ks43 _ _ ?_)
        refine wp_cond_t (by kernel_rfl) ?_
        refine wp_skip ?_
        refine then_n (ks42 _ _ ?_)
        refine wp_seq_k fun KS44 ks44 => ?_
        refine wp_block ?_
        refine wp_seq_k fun KS45 ks45 => ?_
        refine wp_regS (l := [0, 1]) (by kernel_rfl) fun KR kr => ?_
        refine wpS.take 0 false (some 16) (.int .i64 z6) (by kernel_rfl) (yld fun _ => by kernel_rfl) ?_
        refine wpS.take 1 false (some 7) (.int .i64 z6) (by kernel_rfl) (yld fun _ => by kernel_rfl) ?_
        refine wpS.fin rfl (kr _ _ ?_)
        refine then_n (ks45 _ _ ?_)
        refine wp_seq_k fun KS46 ks46 => ?_
        refine wp_regS (l := [0, 1, 2, 3, 4, 5, 6]) (by kernel_rfl) fun KR kr => ?_
        refine wpS.take 0 false (some 17) (.int .i64 z5) (by kernel_rfl) (yld fun _ => by kernel_rfl) ?_
        refine wpS.take 1 false (some 18) (.int .i64 (imul .i64 2 z5)) (by kernel_rfl) (yld fun _ => by kernel_rfl) ?_
        refine wpS.take 2 false (some 19) (.int .i64 z6) (by kernel_rfl) (yld fun _ => by kernel_rfl) ?_
        refine wpS.take 3 false (some 20) (.int .i64 (imul .i64 3 z6)) (by kernel_rfl) (yld fun _ => by kernel_rfl) ?_
        refine wpS.take 4 false (some 21) (.int .i64 (iadd .i64 (imul .i64 2 z5) (imul .i64 3 z6))) (by kernel_rfl) (yld fun _ => by kernel_rfl) ?_
        refine wpS.take 5 false (some 22) (.int .i64 (irem .i64 (iadd .i64 (imul .i64 2 z5) (imul .i64 3 z6)) 5)) (by kernel_rfl) (yld fun _ => by kernel_rfl) ?_
        obtain ⟨x10, hx, h⟩ := of_bind h
        refine wpS.take 6 false (some 8) (.int .i64 x10) (by kernel_rfl) (yld_int hx (fun _ => by kernel_rfl)) ?_
        refine wpS.fin rfl (kr _ _ ?_)
        refine then_n (ks46 _ _ ?_)
        refine wp_seq_k fun KS47 ks47 => ?_
        refine wp_regS (l := [0, 1, 2, 3, 4, 5, 6, 7, 8, 9, 10, 11, 12, 13, 14, 15, 16, 17, 18]) (by kernel_rfl) fun KR kr => ?_
        refine wpS.take 0 false (some 23) (.int .i64 z6) (by kernel_rfl) (yld fun _ => by kernel_rfl) ?_
        refine wpS.take 1 false (some 24) (.int .i64 x10) (by kernel_rfl) (yld fun _ => by kernel_rfl) ?_
        refine wpS.take 2 false (some 25) (.int .i64 (imul .i64 5 x10)) (by kernel_rfl) (yld fun _ => by kernel_rfl) ?_
        refine wpS.take 3 false (some 26) (.int .i64 (iadd .i64 z6 (imul .i64 5 x10))) (by kernel_rfl) (yld fun _ => by kernel_rfl) ?_
        refine wpS.take 4 false (some 27) (.int .i64 z5) (by kernel_rfl) (yld fun _ => by kernel_rfl) ?_
        refine wpS.take 5 false (some 28) (.int .i64 z6) (by kernel_rfl) (yld fun _ => by kernel_rfl) ?_
        refine wpS.take 6 false (some 29) (.int .i64 (imul .i64 5 z6)) (by kernel_rfl) (yld fun _ => by kernel_rfl) ?_
        refine wpS.take 7 false (some 30) (.int .i64 (iadd .i64 z5 (imul .i64 5 z6))) (by kernel_rfl) (yld fun _ => by kernel_rfl) ?_
        obtain ⟨x11, hx, h⟩ := of_bind h
        have hx := of_some hx
        subst hx
        obtain ⟨i0_48, h⟩ := of_chk h
        obtain ⟨i1_48, h⟩ := of_chk h
        refine wpS.take 8 false (some 31) (.pointer (some ⟨b1, 0 + ((iadd .i64 z5 (imul .i64 5 z6)) : Int).toNat * 1, none⟩)) (by kernel_rfl) (yld_idx (t := 23) (e := 22) (n := 25) (sz := 1) (k := .i64) (x := (iadd .i64 z5 (imul .i64 5 z6))) (by kernel_rfl) (by kernel_rfl) (by kernel_rfl) i0_48 i1_48) ?_
        refine wpS.take 9 true (some 32) (.int .u64 (rd a0 (iadd .i64 z5 (imul .i64 5 z6)))) (by kernel_rfl) (yld_loadA (e := 22) (x := (iadd .i64 z5 (imul .i64 5 z6))) hs 2 rfl (by kernel_rfl) (by kernel_rfl) i0_48 i1_48 .grow) ?_
        refine wpS.take 10 false (some 33) (.int .i64 z7) (by kernel_rfl) (yld fun _ => by kernel_rfl) ?_
        refine wpS.take 11 false (some 34) (.int .i64 (iadd .i64 z7 1)) (by kernel_rfl) (yld fun _ => by kernel_rfl) ?_
        refine wpS.take 12 false (some 35) (.int .i64 z7) (by kernel_rfl) (yld fun _ => by kernel_rfl) ?_
        refine wpS.take 13 false (some 36) (.int .i64 (iadd .i64 z7 2)) (by kernel_rfl) (yld fun _ => by kernel_rfl) ?_
        refine wpS.take 14 false (some 37) (.int .i64 (imul .i64 (iadd .i64 z7 1) (iadd .i64 z7 2))) (by kernel_rfl) (yld fun _ => by kernel_rfl) ?_
        refine wpS.take 15 false (some 38) (.int .i64 (iquo .i64 (imul .i64 (iadd .i64 z7 1) (iadd .i64 z7 2)) 2)) (by kernel_rfl) (yld fun _ => by kernel_rfl) ?_
        obtain ⟨r12, hg, h⟩ := of_bind h
        refine wpS.only 16 (op_call (d := (some 39)) (by kernel_rfl) hs (fun _ => by kernel_rfl) (ref08_left.ok hg _) ?_)
        intro w gw hs
        refine ⟨fun _ => trivial, ?_⟩
        obtain ⟨x13, hx, h⟩ := of_bind h
        have hx := of_some hx
        subst hx
        obtain ⟨i0_49, h⟩ := of_chk h
        obtain ⟨i1_49, h⟩ := of_chk h
        refine wpS.take 17 false (some 40) (.pointer (some ⟨b3, 0 + ((iadd .i64 z6 (imul .i64 5 x10)) : Int).toNat * 1, none⟩)) (by kernel_rfl) (yld_idx (t := 23) (e := 22) (n := 25) (sz := 1) (k := .i64) (x := (iadd .i64 z6 (imul .i64 5 x10))) (by kernel_rfl) (by kernel_rfl) (by kernel_rfl) i0_49 i1_49) ?_
        refine wpS.only 18 (op_storeA (t := 22) (x := (iadd .i64 z6 (imul .i64 5 x10))) (v := r12) (d := none) (by kernel_rfl) hs 0 rfl (by cases hx; kernel_rfl) (by kernel_rfl) i0_49 i1_49 ?_)
        intro w kp hs
        refine ⟨fun _ => trivial, ?_⟩
        refine wpS.fin rfl (kr _ _ ?_)
        refine then_n (ks47 _ _ ?_)
        refine wp_seq_k fun KS50 ks50 => ?_
        refine wp_regS (l := [0, 1]) (by kernel_rfl) fun KR kr => ?_
        refine wpS.take 0 false (some 41) (.int .i64 z6) (by kernel_rfl) (yld fun _ => by kernel_rfl) ?_
        refine wpS.take 1 false (some 4) (.int .i64 z6) (by kernel_rfl) (yld fun _ => by kernel_rfl) ?_
        refine wpS.fin rfl (kr _ _ ?_)
        refine then_n (ks50 _ _ ?_)
        refine wp_regS (l := [0, 1]) (by kernel_rfl) fun KR kr => ?_
        refine wpS.take 0 false (some 42) (.int .i64 x10) (by kernel_rfl) (yld fun _ => by kernel_rfl) ?_
        refine wpS.take 1 false (some 5) (.int .i64 x10) (by kernel_rfl) (yld fun _ => by kernel_rfl) ?_
        refine wpS.fin rfl (kr _ _ ?_)
        refine inBlock_n ?_
        refine then_n (ks44 _ _ ?_)
        refine wp_regS (l := [0, 1, 2]) (by kernel_rfl) fun KR kr => ?_
        refine wpS.take 0 false (some 14) (.int .i64 z7) (by kernel_rfl) (yld fun _ => by kernel_rfl) ?_
        refine wpS.take 1 false (some 15) (.int .i64 (iadd .i64 z7 1)) (by kernel_rfl) (yld fun _ => by kernel_rfl) ?_
        obtain ⟨x14, hx, h⟩ := of_bind h
        refine wpS.take 2 false (some 6) (.int .i64 x14) (by kernel_rfl) (yld_int hx (fun _ => by kernel_rfl)) ?_
        refine wpS.fin rfl (kr _ _ ?_)
        exact then_n (kl0 _ _ ⟨n, Nat.lt_succ_self n, z6, x10, x14, (wr z8 (iadd .i64 z6 (imul .i64 5 x10)) r12), h, (hs.conv rfl), exg (by kernel_rfl)⟩)
      · refine wpS.take 1 false (some 13) (.bool false) (by kernel_rfl) (yld_b (df hc) (fun _ => by kernel_rfl)) ?_
        refine wpS.fin rfl (kr _ _ ?_)
        refine then_n (ks43 _ _ ?_)
        refine wp_cond_f (by kernel_rfl) ?_
        refine wp_exit ?_
        refine then_x ?_
        refine then_x ?_
        refine inBlock_hit ?_
        have q0 := of_some h
        subst q0
        exact exq_n (nn0 _ _ ⟨(hs.conv rfl), exg (by kernel_rfl)⟩)
  · clear hs h hy
    rintro a w ⟨hs, g, rfl⟩
    have h := hk0
    refine then_n (ks29 _ _ ?_)
    refine wp_seq_k fun KS51 ks51 => ?_
    refine wp_regS (l := [0, 1]) (by kernel_rfl) fun KR kr => ?_
    refine wpS.take 0 true (some 43) (.agg (enc .u64 y9).toArray) (by kernel_rfl) (yld_loadW (e := 23) (n := 25) hs 0 rfl (by kernel_rfl) (by kernel_rfl) (by kernel_rfl) (by exact enc_len _ _) .grow) ?_
    refine wpS.only 1 (op_storeW (t := 23) (v := .agg (enc .u64 y9).toArray) (d := none) (by kernel_rfl) hs 1 rfl (vs := enc .u64 y9) (n := 25) (by kernel_rfl) (by kernel_rfl) (by kernel_rfl) (by simp [enc_len]) (by simp [enc_len]) (by intro u hu; exact enc_one _ _ u hu) ?_)
    intro w kp hs
    refine ⟨fun _ => trivial, ?_⟩
    refine wpS.fin rfl (kr _ _ ?_)
    refine then_n (ks51 _ _ ?_)
    refine wp_ret ?_
    have q0 := of_some h
    subst q0
    exact qq _ _ (post_ret (by kernel_rfl) (run_results [.cell 2 23] [.agg (enc .u64 y9).toArray] (by kernel_rfl) (.cons (res_cellN (n := 25) hs 1 rfl (by kernel_rfl) (by kernel_rfl) (by kernel_rfl) (by exact enc_len _ _)) .nil)) ⟨congrArg Ending.returned (by kernel_rfl), hs.none⟩)

theorem ref08_spread.ok {K : Nat} {a0 : Arr 25} {r0 : Arr 25} (h : ref08_spread.f K a0 = some r0) (w0 : World) : Ret Tryd.prog 30 #[.agg (enc .u64 a0).toArray] w0 (.agg (enc .u64 r0).toArray) := by
  refine calls_k Tryd.func30 rfl fun Q qq => ?_
  have hs := St.start w0
  refine wp_conv (a' := ⟨#[.agg (enc .u64 a0).toArray, undef, undef, undef, undef, undef, undef, undef, undef, undef, undef, undef, undef, undef, undef, undef, undef, undef, undef, undef, undef, undef, undef, undef, undef, undef, undef, undef, undef, undef, undef, undef, undef, undef, undef, undef, undef, undef, undef, undef, undef, undef, undef, undef], []⟩) (by kernel_rfl) ?_
  refine wp_seq_k fun KS1 ks1 => ?_
  refine wp_regS (l := [0, 1]) (by kernel_rfl) fun KR kr => ?_
  refine wpS.only 0 (op_box (t := 23) (v := .agg (enc .u64 a0).toArray) (d := (some 1)) (by kernel_rfl) hs (enc .u64 a0) (by kernel_rfl) (by kernel_rfl) ?_)
  intro b1 w gw hs
  refine ⟨fun _ => trivial, ?_⟩
  refine wpS.only 1 (op_alloc (t := 23) (d := (some 2)) (by kernel_rfl) hs (enc .u64 (zeroA 25)) (.agg (enc .u64 (zeroA 25)).toArray) (by kernel_rfl) (by kernel_rfl) (by kernel_rfl) ?_)
  intro b2 w gw hs
  refine ⟨fun _ => trivial, ?_⟩
  refine wpS.fin rfl (kr _ _ ?_)
  refine then_n (ks1 _ _ ?_)
  refine wp_seq_k fun KS2 ks2 => ?_
  refine wp_regS (l := [0]) (by kernel_rfl) fun KR kr => ?_
  refine wpS.only 0 (op_alloc (t := 58) (d := (some 3)) (by kernel_rfl) hs (enc .u64 (zeroA 5)) (.agg (enc .u64 (zeroA 5)).toArray) (by kernel_rfl) (by kernel_rfl) (by kernel_rfl) ?_)
  intro b3 w gw hs
  refine ⟨fun _ => trivial, ?_⟩
  refine wpS.fin rfl (kr _ _ ?_)
  refine then_n (ks2 _ _ ?_)
  refine wp_seq_k fun KS24 ks24 => ?_
  refine wp_seq_k fun KS25 ks25 => ?_
  refine wp_regS (l := [0]) (by kernel_rfl) fun KR kr => ?_
  refine wpS.take 0 false (some 4) (.int .i64 0) (by kernel_rfl) (yld fun _ => by kernel_rfl) ?_
  refine wpS.fin rfl (kr _ _ ?_)
  refine then_n (ks25 _ _ ?_)
  obtain ⟨y6, hy, hk0⟩ := of_bind h
  refine wp_exq (N := fun a w => St w0 [] [.blk b3 (enc .u64 y6) 58, .blk b2 (enc .u64 (zeroA 25)) 23, .blk b1 (enc .u64 a0) 23] [] w ∧ ∃ g : Nat → Value, a = ⟨#[.agg (enc .u64 a0).toArray, .pointer (some ⟨b1, 0, none⟩), .pointer (some ⟨b2, 0, none⟩), .pointer (some ⟨b3, 0, none⟩), (g 4), undef, (g 6), (g 7), (g 8), (g 9), (g 10), (g 11), (g 12), (g 13), (g 14), (g 15), (g 16), (g 17), (g 18), (g 19), (g 20), undef, undef, undef, undef, undef, undef, undef, undef, undef, undef, undef, undef, undef, undef, undef, undef, undef, undef, undef, undef, undef, undef, undef], []⟩) (fun N0 nn0 => ?_) ?_
  · clear hk0
    refine wp_block ?_
    refine wp_loop_k (fun n a w => ∃ z4 z5, ref08_spread.l0 K n a0 z4 z5 = some y6 ∧ St w0 [] [.blk b3 (enc .u64 z5) 58, .blk b2 (enc .u64 (zeroA 25)) 23, .blk b1 (enc .u64 a0) 23] [] w ∧ ∃ g : Nat → Value, a = ⟨#[.agg (enc .u64 a0).toArray, .pointer (some ⟨b1, 0, none⟩), .pointer (some ⟨b2, 0, none⟩), .pointer (some ⟨b3, 0, none⟩), .int .i64 z4, undef, (g 6), (g 7), (g 8), (g 9), (g 10), (g 11), (g 12), (g 13), (g 14), (g 15), (g 16), (g 17), (g 18), (g 19), (g 20), undef, undef, undef, undef, undef, undef, undef, undef, undef, undef, undef, undef, undef, undef, undef, undef, undef, undef, undef, undef, undef, undef, undef], []⟩) K ⟨0, (zeroA 5), hy, hs.conv rfl, exg (by kernel_rfl)⟩ ?_
    clear hs h hy
    rintro n a w ⟨z4, z5, h, hs, g, rfl⟩ KL0 kl0
    cases n with
    | zero => exact nomatch (show none = some _ from h)
    | succ n =>
      refine wp_seq_k fun KS37 ks37 => ?_
      refine wp_seq_k fun KS38 ks38 => ?_
      refine wp_regS (l := [0, 1]) (by kernel_rfl) fun KR kr => ?_
      refine wpS.take 0 false (some 6) (.int .i64 z4) (by kernel_rfl) (yld fun _ => by kernel_rfl) ?_
      rcases of_if h with ⟨hc, h⟩ | ⟨hc, h⟩
      · refine wpS.take 1 false (some 7) (.bool true) (by kernel_rfl) (yld_b (dt hc) (fun _ => by kernel_rfl)) ?_
        refine wpS.fin rfl (kr _ _ ?_)
        refine then_n (ks38 _ _ ?_)
        refine wp_cond_t (by kernel_rfl) ?_
        refine wp_skip ?_
        refine then_n (ks37 _ _ ?_)
        refine wp_seq_k fun KS39 ks39 => ?_
        refine wp_block ?_
        refine wp_regG [11] (fun k => k = b3) 12 (by kernel_rfl) (by kernel_rfl) fun KR kr => ?_
        have hs := hs.drawn1
        refine wpG.takeD 0 false (some 10) (.int .i64 z4) (by kernel_rfl) (by kernel_rfl) (yld fun _ => by kernel_rfl) ?_
        refine wpG.takeD 1 false (some 11) (.int .i64 (irem .i64 z4 5)) (by kernel_rfl) (by kernel_rfl) (yld fun _ => by kernel_rfl) ?_
        refine wpG.takeD 2 false (some 12) (.int .i64 z4) (by kernel_rfl) (by kernel_rfl) (yld fun _ => by kernel_rfl) ?_
        refine wpG.takeD 3 false (some 13) (.int .i64 (irem .i64 z4 5)) (by kernel_rfl) (by kernel_rfl) (yld fun _ => by kernel_rfl) ?_
        obtain ⟨x7, hx, h⟩ := of_bind h
        have hx := of_some hx
        subst hx
        obtain ⟨i0_43, h⟩ := of_chk h
        obtain ⟨i1_43, h⟩ := of_chk h
        refine wpG.takeD 4 false (some 14) (.pointer (some ⟨b3, 0 + ((irem .i64 z4 5) : Int).toNat * 1, none⟩)) (by kernel_rfl) (by kernel_rfl) (yld_idx (t := 58) (e := 22) (n := 5) (sz := 1) (k := .i64) (x := (irem .i64 z4 5)) (by kernel_rfl) (by kernel_rfl) (by kernel_rfl) i0_43 i1_43) ?_
        refine wpG.takeD 5 true (some 15) (.int .u64 (rd z5 (irem .i64 z4 5))) (by kernel_rfl) (by kernel_rfl) (yld_loadA (e := 22) (x := (irem .i64 z4 5)) hs 0 rfl (by kernel_rfl) (by kernel_rfl) i0_43 i1_43 .grow) ?_
        refine wpG.takeD 6 false (some 16) (.int .i64 z4) (by kernel_rfl) (by kernel_rfl) (yld fun _ => by kernel_rfl) ?_
        obtain ⟨i0_44, h⟩ := of_chk h
        obtain ⟨i1_44, h⟩ := of_chk h
        refine wpG.takeD 7 false (some 17) (.pointer (some ⟨b1, 0 + (z4 : Int).toNat * 1, none⟩)) (by kernel_rfl) (by kernel_rfl) (yld_idx (t := 23) (e := 22) (n := 25) (sz := 1) (k := .i64) (x := z4) (by kernel_rfl) (by kernel_rfl) (by kernel_rfl) i0_44 i1_44) ?_
        refine wpG.takeD 8 true (some 18) (.int .u64 (rd a0 z4)) (by kernel_rfl) (by kernel_rfl) (yld_loadA (e := 22) (x := z4) hs 2 rfl (by kernel_rfl) (by kernel_rfl) i0_44 i1_44 .grow) ?_
        refine wpG.takeD 9 false (some 19) (.int .u64 (ixor .u64 (rd z5 (irem .i64 z4 5)) (rd a0 z4))) (by kernel_rfl) (by kernel_rfl) (yld fun _ => by kernel_rfl) ?_
        obtain ⟨x8, hx, h⟩ := of_bind h
        have hx := of_some hx
        subst hx
        obtain ⟨i0_45, h⟩ := of_chk h
        obtain ⟨i1_45, h⟩ := of_chk h
        refine wpG.takeD 10 false (some 20) (.pointer (some ⟨b3, 0 + ((irem .i64 z4 5) : Int).toNat * 1, none⟩)) (by kernel_rfl) (by kernel_rfl) (yld_idx (t := 58) (e := 22) (n := 5) (sz := 1) (k := .i64) (x := (irem .i64 z4 5)) (by kernel_rfl) (by kernel_rfl) (by kernel_rfl) i0_45 i1_45) ?_
        obtain ⟨x9, hx, h⟩ := of_bind h
        refine wpG.only 11 (by kernel_rfl) (op_storeA (t := 22) (x := (irem .i64 z4 5)) (v := x9) (d := none) (by kernel_rfl) hs 0 rfl (by cases hx; kernel_rfl) (by kernel_rfl) i0_45 i1_45 ?_)
        intro w kp hs
        refine ⟨⟨fun hf => absurd hf (by decide), kp.mono fun _ h => h⟩, ?_⟩
        refine wpG.fin (by kernel_rfl) rfl (kr _ _ ?_)
        refine inBlock_n ?_
        refine then_n (ks39 _ _ ?_)
        refine wp_regS (l := [0, 1, 2]) (by kernel_rfl) fun KR kr => ?_
        refine wpS.take 0 false (some 8) (.int .i64 z4) (by kernel_rfl) (yld fun _ => by kernel_rfl) ?_
        refine wpS.take 1 false (some 9) (.int .i64 (iadd .i64 z4 1)) (by kernel_rfl) (yld fun _ => by kernel_rfl) ?_
        obtain ⟨x10, hx, h⟩ := of_bind h
        refine wpS.take 2 false (some 4) (.int .i64 x10) (by kernel_rfl) (yld_int hx (fun _ => by kernel_rfl)) ?_
        refine wpS.fin rfl (kr _ _ ?_)
        exact then_n (kl0 _ _ ⟨n, Nat.lt_succ_self n, x10, (wr z5 (irem .i64 z4 5) x9), h, (hs.conv rfl), exg (by kernel_rfl)⟩)
      · refine wpS.take 1 false (some 7) (.bool false) (by kernel_rfl) (yld_b (df hc) (fun _ => by kernel_rfl)) ?_
        refine wpS.fin rfl (kr _ _ ?_)
        refine then_n (ks38 _ _ ?_)
        refine wp_cond_f (by kernel_rfl) ?_
        refine wp_exit ?_
        refine then_x ?_
        refine then_x ?_
        refine inBlock_hit ?_
        have q0 := of_some h
        subst q0
        exact exq_n (nn0 _ _ ⟨(hs.conv rfl), exg (by kernel_rfl)⟩)
  · clear hs h hy
    rintro a w ⟨hs, g, rfl⟩
    have h := hk0
    refine then_n (ks24 _ _ ?_)
    refine wp_seq_k fun KS71 ks71 => ?_
    refine wp_seq_k fun KS72 ks72 => ?_
    refine wp_regS (l := [0]) (by kernel_rfl) fun KR kr => ?_
    refine wpS.take 0 false (some 5) (.int .i64 0) (by kernel_rfl) (yld fun _ => by kernel_rfl) ?_
    refine wpS.fin rfl (kr _ _ ?_)
    refine then_n (ks72 _ _ ?_)
    obtain ⟨y13, hy, hk1⟩ := of_bind h
    refine wp_exq (N := fun a w => St w0 [] [.blk b3 (enc .u64 y6) 58, .blk b2 (enc .u64 (zeroA 25)) 23, .blk b1 (enc .u64 y13) 23] [] w ∧ ∃ g : Nat → Value, a = ⟨#[.agg (enc .u64 a0).toArray, .pointer (some ⟨b1, 0, none⟩), .pointer (some ⟨b2, 0, none⟩), .pointer (some ⟨b3, 0, none⟩), (g 4), (g 5), (g 6), (g 7), (g 8), (g 9), (g 10), (g 11), (g 12), (g 13), (g 14), (g 15), (g 16), (g 17), (g 18), (g 19), (g 20), (g 21), (g 22), (g 23), (g 24), (g 25), (g 26), (g 27), (g 28), (g 29), (g 30), (g 31), (g 32), (g 33), (g 34), (g 35), (g 36), (g 37), (g 38), (g 39), (g 40), (g 41), (g 42), undef], []⟩) (fun N1 nn1 => ?_) ?_
    · clear hk1
      refine wp_block ?_
      refine wp_loop_k (fun n a w => ∃ z11 z12, ref08_spread.l1 K n y6 z11 z12 = some y13 ∧ St w0 [] [.blk b3 (enc .u64 y6) 58, .blk b2 (enc .u64 (zeroA 25)) 23, .blk b1 (enc .u64 z12) 23] [] w ∧ ∃ g : Nat → Value, a = ⟨#[.agg (enc .u64 a0).toArray, .pointer (some ⟨b1, 0, none⟩), .pointer (some ⟨b2, 0, none⟩), .pointer (some ⟨b3, 0, none⟩), (g 4), .int .i64 z11, (g 6), (g 7), (g 8), (g 9), (g 10), (g 11), (g 12), (g 13), (g 14), (g 15), (g 16), (g 17), (g 18), (g 19), (g 20), (g 21), (g 22), (g 23), (g 24), (g 25), (g 26), (g 27), (g 28), (g 29), (g 30), (g 31), (g 32), (g 33), (g 34), (g 35), (g 36), (g 37), (g 38), (g 39), (g 40), (g 41), (g 42), undef], []⟩) K ⟨0, a0, hy, hs.conv rfl, exg (by kernel_rfl)⟩ ?_
      clear hs h hy
      rintro n a w ⟨z11, z12, h, hs, g, rfl⟩ KL1 kl1
      cases n with
      | zero => exact nomatch (show none = some _ from h)
      | succ n =>
        refine wp_seq_k fun KS86 ks86 => ?_
        refine wp_seq_k fun KS87 ks87 => ?_
        refine wp_regS (l := [0, 1]) (by kernel_rfl) fun KR kr => ?_
        refine wpS.take 0 false (some 21) (.int .i64 z11) (by kernel_rfl) (yld fun _ => by kernel_rfl) ?_
        rcases of_if h with ⟨hc, h⟩ | ⟨hc, h⟩
        · refine wpS.take 1 false (some 22) (.bool true) (by kernel_rfl) (yld_b (dt hc) (fun _ => by kernel_rfl)) ?_
          refine wpS.fin rfl (kr _ _ ?_)
          refine then_n (ks87 _ _ ?_)
          refine wp_cond_t (by kernel_rfl) ?_
          refine wp_skip ?_
          refine then_n (ks86 _ _ ?_)
          refine wp_seq_k fun KS88 ks88 => ?_
          refine wp_block ?_
          refine wp_regG [18] (fun k => k = b1) 19 (by kernel_rfl) (by kernel_rfl) fun KR kr => ?_
          have hs := hs.drawn1
          refine wpG.takeD 0 false (some 25) (.int .i64 z11) (by kernel_rfl) (by kernel_rfl) (yld fun _ => by kernel_rfl) ?_
          refine wpG.takeD 1 false (some 26) (.int .i64 z11) (by kernel_rfl) (by kernel_rfl) (yld fun _ => by kernel_rfl) ?_
          obtain ⟨i0_93, h⟩ := of_chk h
          obtain ⟨i1_93, h⟩ := of_chk h
          refine wpG.takeD 2 false (some 27) (.pointer (some ⟨b1, 0 + (z11 : Int).toNat * 1, none⟩)) (by kernel_rfl) (by kernel_rfl) (yld_idx (t := 23) (e := 22) (n := 25) (sz := 1) (k := .i64) (x := z11) (by kernel_rfl) (by kernel_rfl) (by kernel_rfl) i0_93 i1_93) ?_
          refine wpG.takeD 3 true (some 28) (.int .u64 (rd z12 z11)) (by kernel_rfl) (by kernel_rfl) (yld_loadA (e := 22) (x := z11) hs 2 rfl (by kernel_rfl) (by kernel_rfl) i0_93 i1_93 .grow) ?_
          refine wpG.takeD 4 false (some 29) (.int .i64 z11) (by kernel_rfl) (by kernel_rfl) (yld fun _ => by kernel_rfl) ?_
          refine wpG.takeD 5 false (some 30) (.int .i64 (iadd .i64 z11 4)) (by kernel_rfl) (by kernel_rfl) (yld fun _ => by kernel_rfl) ?_
          refine wpG.takeD 6 false (some 31) (.int .i64 (irem .i64 (iadd .i64 z11 4) 5)) (by kernel_rfl) (by kernel_rfl) (yld fun _ => by kernel_rfl) ?_
          obtain ⟨x14, hx, h⟩ := of_bind h
          have hx := of_some hx
          subst hx
          obtain ⟨i0_94, h⟩ := of_chk h
          obtain ⟨i1_94, h⟩ := of_chk h
          refine wpG.takeD 7 false (some 32) (.pointer (some ⟨b3, 0 + ((irem .i64 (iadd .i64 z11 4) 5) : Int).toNat * 1, none⟩)) (by kernel_rfl) (by kernel_rfl) (yld_idx (t := 58) (e := 22) (n := 5) (sz := 1) (k := .i64) (x := (irem .i64 (iadd .i64 z11 4) 5)) (by kernel_rfl) (by kernel_rfl) (by kernel_rfl) i0_94 i1_94) ?_
          refine wpG.takeD 8 true (some 33) (.int .u64 (rd y6 (irem .i64 (iadd .i64 z11 4) 5))) (by kernel_rfl) (by kernel_rfl) (yld_loadA (e := 22) (x := (irem .i64 (iadd .i64 z11 4) 5)) hs 0 rfl (by kernel_rfl) (by kernel_rfl) i0_94 i1_94 .grow) ?_
          refine wpG.takeD 9 false (some 34) (.int .u64 (ixor .u64 (rd z12 z11) (rd y6 (irem .i64 (iadd .i64 z11 4) 5)))) (by kernel_rfl) (by kernel_rfl) (yld fun _ => by kernel_rfl) ?_
          refine wpG.takeD 10 false (some 35) (.int .i64 z11) (by kernel_rfl) (by kernel_rfl) (yld fun _ => by kernel_rfl) ?_
          refine wpG.takeD 11 false (some 36) (.int .i64 (iadd .i64 z11 1)) (by kernel_rfl) (by kernel_rfl) (yld fun _ => by kernel_rfl) ?_
          refine wpG.takeD 12 false (some 37) (.int .i64 (irem .i64 (iadd .i64 z11 1) 5)) (by kernel_rfl) (by kernel_rfl) (yld fun _ => by kernel_rfl) ?_
          obtain ⟨x15, hx, h⟩ := of_bind h
          have hx := of_some hx
          subst hx
          obtain ⟨i0_95, h⟩ := of_chk h
          obtain ⟨i1_95, h⟩ := of_chk h
          refine wpG.takeD 13 false (some 38) (.pointer (some ⟨b3, 0 + ((irem .i64 (iadd .i64 z11 1) 5) : Int).toNat * 1, none⟩)) (by kernel_rfl) (by kernel_rfl) (yld_idx (t := 58) (e := 22) (n := 5) (sz := 1) (k := .i64) (x := (irem .i64 (iadd .i64 z11 1) 5)) (by kernel_rfl) (by kernel_rfl) (by kernel_rfl) i0_95 i1_95) ?_
          refine wpG.takeD 14 true (some 39) (.int .u64 (rd y6 (irem .i64 (iadd .i64 z11 1) 5))) (by kernel_rfl) (by kernel_rfl) (yld_loadA (e := 22) (x := (irem .i64 (iadd .i64 z11 1) 5)) hs 0 rfl (by kernel_rfl) (by kernel_rfl) i0_95 i1_95 .grow) ?_
          obtain ⟨r16, hg, h⟩ := of_bind h
          refine wpG.only 15 (by kernel_rfl) (op_call (d := (some 40)) (by kernel_rfl) hs (fun _ => by kernel_rfl) (ref08_left.ok hg _) ?_)
          intro w gw hs
          refine ⟨.of gw, ?_⟩
          refine wpG.takeD 16 false (some 41) (.int .u64 (ixor .u64 (ixor .u64 (rd z12 z11) (rd y6 (irem .i64 (iadd .i64 z11 4) 5))) r16)) (by kernel_rfl) (by kernel_rfl) (yld fun _ => by kernel_rfl) ?_
          obtain ⟨i0_96, h⟩ := of_chk h
          obtain ⟨i1_96, h⟩ := of_chk h
          refine wpG.takeD 17 false (some 42) (.pointer (some ⟨b1, 0 + (z11 : Int).toNat * 1, none⟩)) (by kernel_rfl) (by kernel_rfl) (yld_idx (t := 23) (e := 22) (n := 25) (sz := 1) (k := .i64) (x := z11) (by kernel_rfl) (by kernel_rfl) (by kernel_rfl) i0_96 i1_96) ?_
          obtain ⟨x17, hx, h⟩ := of_bind h
          refine wpG.only 18 (by kernel_rfl) (op_storeA (t := 22) (x := z11) (v := x17) (d := none) (by kernel_rfl) hs 2 rfl (by cases hx; kernel_rfl) (by kernel_rfl) i0_96 i1_96 ?_)
          intro w kp hs
          refine ⟨⟨fun hf => absurd hf (by decide), kp.mono fun _ h => h⟩, ?_⟩
          refine wpG.fin (by kernel_rfl) rfl (kr _ _ ?_)
          refine inBlock_n ?_
          refine then_n (ks88 _ _ ?_)
          refine wp_regS (l := [0, 1, 2]) (by kernel_rfl) fun KR kr => ?_
          refine wpS.take 0 false (some 23) (.int .i64 z11) (by kernel_rfl) (yld fun _ => by kernel_rfl) ?_
          refine wpS.take 1 false (some 24) (.int .i64 (iadd .i64 z11 1)) (by kernel_rfl) (yld fun _ => by kernel_rfl) ?_
          obtain ⟨x18, hx, h⟩ := of_bind h
          refine wpS.take 2 false (some 5) (.int .i64 x18) (by kernel_rfl) (yld_int hx (fun _ => by kernel_rfl)) ?_
          refine wpS.fin rfl (kr _ _ ?_)
          exact then_n (kl1 _ _ ⟨n, Nat.lt_succ_self n, x18, (wr z12 z11 x17), h, (hs.conv rfl), exg (by kernel_rfl)⟩)
        · refine wpS.take 1 false (some 22) (.bool false) (by kernel_rfl) (yld_b (df hc) (fun _ => by kernel_rfl)) ?_
          refine wpS.fin rfl (kr _ _ ?_)
          refine then_n (ks87 _ _ ?_)
          refine wp_cond_f (by kernel_rfl) ?_
          refine wp_exit ?_
          refine then_x ?_
          refine then_x ?_
          refine inBlock_hit ?_
          have q0 := of_some h
          subst q0
          exact exq_n (nn1 _ _ ⟨(hs.conv rfl), exg (by kernel_rfl)⟩)
    · clear hs h hy
      rintro a w ⟨hs, g, rfl⟩
      have h := hk1
      refine then_n (ks71 _ _ ?_)
      refine wp_seq_k fun KS97 ks97 => ?_
      refine wp_regS (l := [0, 1]) (by kernel_rfl) fun KR kr => ?_
      refine wpS.take 0 true (some 43) (.agg (enc .u64 y13).toArray) (by kernel_rfl) (yld_loadW (e := 23) (n := 25) hs 2 rfl (by kernel_rfl) (by kernel_rfl) (by kernel_rfl) (by exact enc_len _ _) .grow) ?_
      refine wpS.only 1 (op_storeW (t := 23) (v := .agg (enc .u64 y13).toArray) (d := none) (by kernel_rfl) hs 1 rfl (vs := enc .u64 y13) (n := 25) (by kernel_rfl) (by kernel_rfl) (by kernel_rfl) (by simp [enc_len]) (by simp [enc_len]) (by intro u hu; exact enc_one _ _ u hu) ?_)
      intro w kp hs
      refine ⟨fun _ => trivial, ?_⟩
      refine wpS.fin rfl (kr _ _ ?_)
      refine then_n (ks97 _ _ ?_)
      refine wp_ret ?_
      have q0 := of_some h
      subst q0
      exact qq _ _ (post_ret (by kernel_rfl) (run_results [.cell 2 23] [.agg (enc .u64 y13).toArray] (by kernel_rfl) (.cons (res_cellN (n := 25) hs 1 rfl (by kernel_rfl) (by kernel_rfl) (by kernel_rfl) (by exact enc_len _ _)) .nil)) ⟨congrArg Ending.returned (by kernel_rfl), hs.none⟩)

theorem ref08_Permute.ok {K : Nat} {a0 : Arr 25} {r0 : Arr 25} (h : ref08_Permute.f K a0 = some r0) (w0 : World) : Ret Tryd.prog 20 #[.agg (enc .u64 a0).toArray] w0 (.agg (enc .u64 r0).toArray) := by
  refine calls_k Tryd.func20 rfl fun Q qq => ?_
  have hs := St.start w0
  refine wp_conv (a' := ⟨#[.agg (enc .u64 a0).toArray, undef, undef, undef, undef, undef, undef, undef, undef, undef, undef, undef, undef, undef, undef, undef, undef, undef, undef, undef, undef, undef, undef, undef, undef, undef, undef, undef, undef, undef, undef, undef, undef, undef, undef, undef, undef, undef, undef, undef, undef, undef, undef, undef, undef, undef, undef, undef, undef, undef, undef, undef, undef], []⟩) (by kernel_rfl) ?_
  refine wp_seq_k fun KS1 ks1 => ?_
  refine wp_regS (l := [0, 1]) (by kernel_rfl) fun KR kr => ?_
  refine wpS.only 0 (op_box (t := 23) (v := .agg (enc .u64 a0).toArray) (d := (some 1)) (by kernel_rfl) hs (enc .u64 a0) (by kernel_rfl) (by kernel_rfl) ?_)
  intro b1 w gw hs
  refine ⟨fun _ => trivial, ?_⟩
  refine wpS.only 1 (op_alloc (t := 23) (d := (some 2)) (by kernel_rfl) hs (enc .u64 (zeroA 25)) (.agg (enc .u64 (zeroA 25)).toArray) (by kernel_rfl) (by kernel_rfl) (by kernel_rfl) ?_)
  intro b2 w gw hs
  refine ⟨fun _ => trivial, ?_⟩
  refine wpS.fin rfl (kr _ _ ?_)
  refine then_n (ks1 _ _ ?_)
  refine wp_seq_k fun KS2 ks2 => ?_
  refine wp_regS (l := [0, 1, 2]) (by kernel_rfl) fun KR kr => ?_
  obtain ⟨r3, hg, h⟩ := of_bind h
  refine wpS.only 0 (op_call (d := (some 8)) (by kernel_rfl) hs (fun _ => by kernel_rfl) (ref08_constants.ok hg _) ?_)
  intro w gw hs
  refine ⟨fun _ => trivial, ?_⟩
  refine wpS.only 1 (op_alloc (t := 54) (d := (some 3)) (by kernel_rfl) hs (enc .u64 (zeroA 24)) (.agg (enc .u64 (zeroA 24)).toArray) (by kernel_rfl) (by kernel_rfl) (by kernel_rfl) ?_)
  intro b4 w gw hs
  refine ⟨fun _ => trivial, ?_⟩
  refine wpS.only 2 (op_storeW (t := 54) (v := .agg (enc .u64 r3).toArray) (d := none) (by kernel_rfl) hs 0 rfl (vs := enc .u64 r3) (n := 24) (by kernel_rfl) (by kernel_rfl) (by kernel_rfl) (by simp [enc_len]) (by simp [enc_len]) (by intro u hu; exact enc_one _ _ u hu) ?_)
  intro w kp hs
  refine ⟨fun _ => trivial, ?_⟩
  refine wpS.fin rfl (kr _ _ ?_)
  refine then_n (ks2 _ _ ?_)
  refine wp_seq_k fun KS260 ks260 => ?_
  refine wp_seq_k fun KS261 ks261 => ?_
  refine wp_regS (l := [0]) (by kernel_rfl) fun KR kr => ?_
  refine wpS.take 0 false (some 4) (.int .i64 0) (by kernel_rfl) (yld fun _ => by kernel_rfl) ?_
  refine wpS.fin rfl (kr _ _ ?_)
  refine then_n (ks261 _ _ ?_)
  obtain ⟨y7, hy, hk0⟩ := of_bind h
  refine wp_exq (N := fun a w => St w0 [] [.blk b4 (enc .u64 r3) 54, .blk b2 (enc .u64 (zeroA 25)) 23, .blk b1 (enc .u64 y7) 23] [] w ∧ ∃ g : Nat → Value, a = ⟨#[.agg (enc .u64 a0).toArray, .pointer (some ⟨b1, 0, none⟩), .pointer (some ⟨b2, 0, none⟩), .pointer (some ⟨b4, 0, none⟩), (g 4), (g 5), (g 6), (g 7), .agg (enc .u64 r3).toArray, (g 9), (g 10), (g 11), (g 12), (g 13), (g 14), (g 15), (g 16), (g 17), (g 18), (g 19), (g 20), (g 21), (g 22), (g 23), (g 24), (g 25), (g 26), (g 27), (g 28), (g 29), (g 30), (g 31), (g 32), (g 33), (g 34), (g 35), (g 36), (g 37), (g 38), (g 39), (g 40), (g 41), (g 42), (g 43), (g 44), (g 45), (g 46), (g 47), (g 48), (g 49), (g 50), (g 51), undef], []⟩) (fun N0 nn0 => ?_) ?_
  · clear hk0
    refine wp_block ?_
    refine wp_loop_k (fun n a w => ∃ z5 z6, ref08_Permute.l0 K n r3 z5 z6 = some y7 ∧ St w0 [] [.blk b4 (enc .u64 r3) 54, .blk b2 (enc .u64 (zeroA 25)) 23, .blk b1 (enc .u64 z6) 23] [] w ∧ ∃ g : Nat → Value, a = ⟨#[.agg (enc .u64 a0).toArray, .pointer (some ⟨b1, 0, none⟩), .pointer (some ⟨b2, 0, none⟩), .pointer (some ⟨b4, 0, none⟩), .int .i64 z5, (g 5), (g 6), (g 7), .agg (enc .u64 r3).toArray, (g 9), (g 10), (g 11), (g 12), (g 13), (g 14), (g 15), (g 16), (g 17), (g 18), (g 19), (g 20), (g 21), (g 22), (g 23), (g 24), (g 25), (g 26), (g 27), (g 28), (g 29), (g 30), (g 31), (g 32), (g 33), (g 34), (g 35), (g 36), (g 37), (g 38), (g 39), (g 40), (g 41), (g 42), (g 43), (g 44), (g 45), (g 46), (g 47), (g 48), (g 49), (g 50), (g 51), undef], []⟩) K ⟨0, a0, hy, hs.conv rfl, exg (by kernel_rfl)⟩ ?_
    clear hs h hy
    rintro n a w ⟨z5, z6, h, hs, g, rfl⟩ KL0 kl0
    cases n with
    | zero => exact nomatch (show none = some _ from h)
    | succ n =>
      refine wp_seq_k fun KS391 ks391 => ?_
      refine wp_seq_k fun KS392 ks392 => ?_
      refine wp_regS (l := [0, 1]) (by kernel_rfl) fun KR kr => ?_
      refine wpS.take 0 false (some 9) (.int .i64 z5) (by kernel_rfl) (yld fun _ => by kernel_rfl) ?_
      rcases of_if h with ⟨hc, h⟩ | ⟨hc, h⟩
      · refine wpS.take 1 false (some 10) (.bool true) (by kernel_rfl) (yld_b (dt hc) (fun _ => by kernel_rfl)) ?_
        refine wpS.fin rfl (kr _ _ ?_)
        refine then_n (ks392 _ _ ?_)
        refine wp_cond_t (by kernel_rfl) ?_
        refine wp_skip ?_
        refine then_n (ks391 _ _ ?_)
        refine wp_seq_k fun KS455 ks455 => ?_
        refine wp_block ?_
        refine wp_seq_k fun KS456 ks456 => ?_
        refine wp_regS (l := [0, 1, 2, 3, 4]) (by kernel_rfl) fun KR kr => ?_
        refine wpS.take 0 true (some 13) (.agg (enc .u64 z6).toArray) (by kernel_rfl) (yld_loadW (e := 23) (n := 25) hs 2 rfl (by kernel_rfl) (by kernel_rfl) (by kernel_rfl) (by exact enc_len _ _) .grow) ?_
        obtain ⟨r8, hg, h⟩ := of_bind h
        refine wpS.only 1 (op_call (d := (some 14)) (by kernel_rfl) hs (fun _ => by kernel_rfl) (ref08_spread.ok hg _) ?_)
        intro w gw hs
        refine ⟨fun _ => trivial, ?_⟩
        obtain ⟨r9, hg, h⟩ := of_bind h
        refine wpS.only 2 (op_call (d := (some 15)) (by kernel_rfl) hs (fun _ => by kernel_rfl) (ref08_move.ok hg _) ?_)
        intro w gw hs
        refine ⟨fun _ => trivial, ?_⟩
        refine wpS.only 3 (op_alloc (t := 23) (d := (some 5)) (by kernel_rfl) hs (enc .u64 (zeroA 25)) (.agg (enc .u64 (zeroA 25)).toArray) (by kernel_rfl) (by kernel_rfl) (by kernel_rfl) ?_)
        intro b10 w gw hs
        refine ⟨fun _ => trivial, ?_⟩
        refine wpS.only 4 (op_storeW (t := 23) (v := .agg (enc .u64 r9).toArray) (d := none) (by kernel_rfl) hs 0 rfl (vs := enc .u64 r9) (n := 25) (by kernel_rfl) (by kernel_rfl) (by kernel_rfl) (by simp [enc_len]) (by simp [enc_len]) (by intro u hu; exact enc_one _ _ u hu) ?_)
        intro w kp hs
        refine ⟨fun _ => trivial, ?_⟩
        refine wpS.fin rfl (kr _ _ ?_)
        refine then_n (ks456 _ _ ?_)
        refine wp_seq_k fun KS484 ks484 => ?_
        refine wp_seq_k fun KS485 ks485 => ?_
        refine wp_regS (l := [0]) (by kernel_rfl) fun KR kr => ?_
        refine wpS.take 0 false (some 6) (.int .i64 0) (by kernel_rfl) (yld fun _ => by kernel_rfl) ?_
        refine wpS.fin rfl (kr _ _ ?_)
        refine then_n (ks485 _ _ ?_)
        obtain ⟨y13, hy, hk1⟩ := of_bind h
        refine wp_exq (N := fun a w => St w0 [] [.blk b10 (enc .u64 r9) 23, .blk b4 (enc .u64 r3) 54, .blk b2 (enc .u64 (zeroA 25)) 23, .blk b1 (enc .u64 y13) 23] [] w ∧ ∃ g : Nat → Value, a = ⟨#[.agg (enc .u64 a0).toArray, .pointer (some ⟨b1, 0, none⟩), .pointer (some ⟨b2, 0, none⟩), .pointer (some ⟨b4, 0, none⟩), .int .i64 z5, .pointer (some ⟨b10, 0, none⟩), (g 6), (g 7), .agg (enc .u64 r3).toArray, .int .i64 z5, .bool true, (g 11), (g 12), .agg (enc .u64 z6).toArray, .agg (enc .u64 r8).toArray, .agg (enc .u64 r9).toArray, (g 16), (g 17), (g 18), (g 19), (g 20), (g 21), (g 22), (g 23), (g 24), (g 25), (g 26), (g 27), (g 28), (g 29), (g 30), (g 31), (g 32), (g 33), (g 34), (g 35), (g 36), (g 37), (g 38), (g 39), (g 40), (g 41), (g 42), (g 43), (g 44), (g 45), (g 46), (g 47), (g 48), (g 49), (g 50), (g 51), undef], []⟩) (fun N1 nn1 => ?_) ?_
        · clear hk1
          refine wp_block ?_
          refine wp_loop_k (fun n a w => ∃ z11 z12, ref08_Permute.l1 K n r9 z11 z12 = some y13 ∧ St w0 [] [.blk b10 (enc .u64 r9) 23, .blk b4 (enc .u64 r3) 54, .blk b2 (enc .u64 (zeroA 25)) 23, .blk b1 (enc .u64 z12) 23] [] w ∧ ∃ g : Nat → Value, a = ⟨#[.agg (enc .u64 a0).toArray, .pointer (some ⟨b1, 0, none⟩), .pointer (some ⟨b2, 0, none⟩), .pointer (some ⟨b4, 0, none⟩), .int .i64 z5, .pointer (some ⟨b10, 0, none⟩), .int .i64 z11, (g 7), .agg (enc .u64 r3).toArray, .int .i64 z5, .bool true, (g 11), (g 12), .agg (enc .u64 z6).toArray, .agg (enc .u64 r8).toArray, .agg (enc .u64 r9).toArray, (g 16), (g 17), (g 18), (g 19), (g 20), (g 21), (g 22), (g 23), (g 24), (g 25), (g 26), (g 27), (g 28), (g 29), (g 30), (g 31), (g 32), (g 33), (g 34), (g 35), (g 36), (g 37), (g 38), (g 39), (g 40), (g 41), (g 42), (g 43), (g 44), (g 45), (g 46), (g 47), (g 48), (g 49), (g 50), (g 51), undef], []⟩) K ⟨0, z6, hy, hs.conv rfl, exg (by kernel_rfl)⟩ ?_
          clear hs h hy
          rintro n a w ⟨z11, z12, h, hs, g, rfl⟩ KL1 kl1
          cases n with
          | zero => exact nomatch (show none = some _ from h)
          | succ n =>
            refine wp_seq_k fun KS500 ks500 => ?_
            refine wp_seq_k fun KS501 ks501 => ?_
            refine wp_regS (l := [0, 1]) (by kernel_rfl) fun KR kr => ?_
            refine wpS.take 0 false (some 16) (.int .i64 z11) (by kernel_rfl) (yld fun _ => by kernel_rfl) ?_
            rcases of_if h with ⟨hc, h⟩ | ⟨hc, h⟩
            · refine wpS.take 1 false (some 17) (.bool true) (by kernel_rfl) (yld_b (dt hc) (fun _ => by kernel_rfl)) ?_
              refine wpS.fin rfl (kr _ _ ?_)
              refine then_n (ks501 _ _ ?_)
              refine wp_cond_t (by kernel_rfl) ?_
              refine wp_skip ?_
              refine then_n (ks500 _ _ ?_)
              refine wp_seq_k fun KS502 ks502 => ?_
              refine wp_block ?_
              refine wp_seq_k fun KS503 ks503 => ?_
              refine wp_regS (l := [0, 1, 2, 3]) (by kernel_rfl) fun KR kr => ?_
              refine wpS.take 0 false (some 20) (.int .i64 z11) (by kernel_rfl) (yld fun _ => by kernel_rfl) ?_
              refine wpS.take 1 false (some 21) (.int .i64 (iquo .i64 z11 5)) (by kernel_rfl) (yld fun _ => by kernel_rfl) ?_
              refine wpS.take 2 false (some 22) (.int .i64 (imul .i64 (iquo .i64 z11 5) 5)) (by kernel_rfl) (yld fun _ => by kernel_rfl) ?_
              obtain ⟨x14, hx, h⟩ := of_bind h
              refine wpS.take 3 false (some 7) (.int .i64 x14) (by kernel_rfl) (yld_int hx (fun _ => by kernel_rfl)) ?_
              refine wpS.fin rfl (kr _ _ ?_)
              refine then_n (ks503 _ _ ?_)
              refine wp_regG [22] (fun k => k = b1) 23 (by kernel_rfl) (by kernel_rfl) fun KR kr => ?_
              have hs := hs.drawn1
              refine wpG.takeD 0 false (some 23) (.int .i64 z11) (by kernel_rfl) (by kernel_rfl) (yld fun _ => by kernel_rfl) ?_
              refine wpG.takeD 1 false (some 24) (.int .i64 z11) (by kernel_rfl) (by kernel_rfl) (yld fun _ => by kernel_rfl) ?_
              obtain ⟨i0_508, h⟩ := of_chk h
              obtain ⟨i1_508, h⟩ := of_chk h
              refine wpG.takeD 2 false (some 25) (.pointer (some ⟨b10, 0 + (z11 : Int).toNat * 1, none⟩)) (by kernel_rfl) (by kernel_rfl) (yld_idx (t := 23) (e := 22) (n := 25) (sz := 1) (k := .i64) (x := z11) (by kernel_rfl) (by kernel_rfl) (by kernel_rfl) i0_508 i1_508) ?_
              refine wpG.takeD 3 true (some 26) (.int .u64 (rd r9 z11)) (by kernel_rfl) (by kernel_rfl) (yld_loadA (e := 22) (x := z11) hs 0 rfl (by kernel_rfl) (by kernel_rfl) i0_508 i1_508 .grow) ?_
              refine wpG.takeD 4 false (some 27) (.int .i64 x14) (by kernel_rfl) (by kernel_rfl) (yld fun _ => by kernel_rfl) ?_
              refine wpG.takeD 5 false (some 28) (.int .i64 z11) (by kernel_rfl) (by kernel_rfl) (yld fun _ => by kernel_rfl) ?_
              refine wpG.takeD 6 false (some 29) (.int .i64 (iadd .i64 z11 1)) (by kernel_rfl) (by kernel_rfl) (yld fun _ => by kernel_rfl) ?_
              refine wpG.takeD 7 false (some 30) (.int .i64 (irem .i64 (iadd .i64 z11 1) 5)) (by kernel_rfl) (by kernel_rfl) (yld fun _ => by kernel_rfl) ?_
              refine wpG.takeD 8 false (some 31) (.int .i64 (iadd .i64 x14 (irem .i64 (iadd .i64 z11 1) 5))) (by kernel_rfl) (by kernel_rfl) (yld fun _ => by kernel_rfl) ?_
              obtain ⟨x15, hx, h⟩ := of_bind h
              have hx := of_some hx
              subst hx
              obtain ⟨i0_509, h⟩ := of_chk h
              obtain ⟨i1_509, h⟩ := of_chk h
              refine wpG.takeD 9 false (some 32) (.pointer (some ⟨b10, 0 + ((iadd .i64 x14 (irem .i64 (iadd .i64 z11 1) 5)) : Int).toNat * 1, none⟩)) (by kernel_rfl) (by kernel_rfl) (yld_idx (t := 23) (e := 22) (n := 25) (sz := 1) (k := .i64) (x := (iadd .i64 x14 (irem .i64 (iadd .i64 z11 1) 5))) (by kernel_rfl) (by kernel_rfl) (by kernel_rfl) i0_509 i1_509) ?_
              refine wpG.takeD 10 true (some 33) (.int .u64 (rd r9 (iadd .i64 x14 (irem .i64 (iadd .i64 z11 1) 5)))) (by kernel_rfl) (by kernel_rfl) (yld_loadA (e := 22) (x := (iadd .i64 x14 (irem .i64 (iadd .i64 z11 1) 5))) hs 0 rfl (by kernel_rfl) (by kernel_rfl) i0_509 i1_509 .grow) ?_
              refine wpG.takeD 11 false (some 34) (.int .u64 (ixor .u64 (rd r9 (iadd .i64 x14 (irem .i64 (iadd .i64 z11 1) 5))) 18446744073709551615)) (by kernel_rfl) (by kernel_rfl) (yld fun _ => by kernel_rfl) ?_
              refine wpG.takeD 12 false (some 35) (.int .i64 x14) (by kernel_rfl) (by kernel_rfl) (yld fun _ => by kernel_rfl) ?_
              refine wpG.takeD 13 false (some 36) (.int .i64 z11) (by kernel_rfl) (by kernel_rfl) (yld fun _ => by kernel_rfl) ?_
              refine wpG.takeD 14 false (some 37) (.int .i64 (iadd .i64 z11 2)) (by kernel_rfl) (by kernel_rfl) (yld fun _ => by kernel_rfl) ?_
              refine wpG.takeD 15 false (some 38) (.int .i64 (irem .i64 (iadd .i64 z11 2) 5)) (by kernel_rfl) (by kernel_rfl) (yld fun _ => by kernel_rfl) ?_
              refine wpG.takeD 16 false (some 39) (.int .i64 (iadd .i64 x14 (irem .i64 (iadd .i64 z11 2) 5))) (by kernel_rfl) (by kernel_rfl) (yld fun _ => by kernel_rfl) ?_
              obtain ⟨x16, hx, h⟩ := of_bind h
              have hx := of_some hx
              subst hx
              obtain ⟨i0_510, h⟩ := of_chk h
              obtain ⟨i1_510, h⟩ := of_chk h
              refine wpG.takeD 17 false (some 40) (.pointer (some ⟨b10, 0 + ((iadd .i64 x14 (irem .i64 (iadd .i64 z11 2) 5)) : Int).toNat * 1, none⟩)) (by kernel_rfl) (by kernel_rfl) (yld_idx (t := 23) (e := 22) (n := 25) (sz := 1) (k := .i64) (x := (iadd .i64 x14 (irem .i64 (iadd .i64 z11 2) 5))) (by kernel_rfl) (by kernel_rfl) (by kernel_rfl) i0_510 i1_510) ?_
              refine wpG.takeD 18 true (some 41) (.int .u64 (rd r9 (iadd .i64 x14 (irem .i64 (iadd .i64 z11 2) 5)))) (by kernel_rfl) (by kernel_rfl) (yld_loadA (e := 22) (x := (iadd .i64 x14 (irem .i64 (iadd .i64 z11 2) 5))) hs 0 rfl (by kernel_rfl) (by kernel_rfl) i0_510 i1_510 .grow) ?_
              refine wpG.takeD 19 false (some 42) (.int .u64 (iand .u64 (ixor .u64 (rd r9 (iadd .i64 x14 (irem .i64 (iadd .i64 z11 1) 5))) 18446744073709551615) (rd r9 (iadd .i64 x14 (irem .i64 (iadd .i64 z11 2) 5))))) (by kernel_rfl) (by kernel_rfl) (yld fun _ => by kernel_rfl) ?_
              refine wpG.takeD 20 false (some 43) (.int .u64 (ixor .u64 (rd r9 z11) (iand .u64 (ixor .u64 (rd r9 (iadd .i64 x14 (irem .i64 (iadd .i64 z11 1) 5))) 18446744073709551615) (rd r9 (iadd .i64 x14 (irem .i64 (iadd .i64 z11 2) 5)))))) (by kernel_rfl) (by kernel_rfl) (yld fun _ => by kernel_rfl) ?_
              obtain ⟨i0_511, h⟩ := of_chk h
              obtain ⟨i1_511, h⟩ := of_chk h
              refine wpG.takeD 21 false (some 44) (.pointer (some ⟨b1, 0 + (z11 : Int).toNat * 1, none⟩)) (by kernel_rfl) (by kernel_rfl) (yld_idx (t := 23) (e := 22) (n := 25) (sz := 1) (k := .i64) (x := z11) (by kernel_rfl) (by kernel_rfl) (by kernel_rfl) i0_511 i1_511) ?_
              obtain ⟨x17, hx, h⟩ := of_bind h
              refine wpG.only 22 (by kernel_rfl) (op_storeA (t := 22) (x := z11) (v := x17) (d := none) (by kernel_rfl) hs 3 rfl (by cases hx; kernel_rfl) (by kernel_rfl) i0_511 i1_511 ?_)
              intro w kp hs
              refine ⟨⟨fun hf => absurd hf (by decide), kp.mono fun _ h => h⟩, ?_⟩
              refine wpG.fin (by kernel_rfl) rfl (kr _ _ ?_)
              refine inBlock_n ?_
              refine then_n (ks502 _ _ ?_)
              refine wp_regS (l := [0, 1, 2]) (by kernel_rfl) fun KR kr => ?_
              refine wpS.take 0 false (some 18) (.int .i64 z11) (by kernel_rfl) (yld fun _ => by kernel_rfl) ?_
              refine wpS.take 1 false (some 19) (.int .i64 (iadd .i64 z11 1)) (by kernel_rfl) (yld fun _ => by kernel_rfl) ?_
              obtain ⟨x18, hx, h⟩ := of_bind h
              refine wpS.take 2 false (some 6) (.int .i64 x18) (by kernel_rfl) (yld_int hx (fun _ => by kernel_rfl)) ?_
              refine wpS.fin rfl (kr _ _ ?_)
              exact then_n (kl1 _ _ ⟨n, Nat.lt_succ_self n, x18, (wr z12 z11 x17), h, (hs.conv rfl), exg (by kernel_rfl)⟩)
            · refine wpS.take 1 false (some 17) (.bool false) (by kernel_rfl) (yld_b (df hc) (fun _ => by kernel_rfl)) ?_
              refine wpS.fin rfl (kr _ _ ?_)
              refine then_n (ks501 _ _ ?_)
              refine wp_cond_f (by kernel_rfl) ?_
              refine wp_exit ?_
              refine then_x ?_
              refine then_x ?_
              refine inBlock_hit ?_
              have q0 := of_some h
              subst q0
              exact exq_n (nn1 _ _ ⟨(hs.conv rfl), exg (by kernel_rfl)⟩)
        · clear hs h hy
          rintro a w ⟨hs, g, rfl⟩
          have h := hk1
          refine then_n (ks484 _ _ ?_)
          refine wp_regG [7] (fun k => k = b1) 8 (by kernel_rfl) (by kernel_rfl) fun KR kr => ?_
          have hs := hs.drawn1
          refine wpG.takeD 0 false (some 45) (.pointer (some ⟨b1, 0 + (0 : Int).toNat * 1, none⟩)) (by kernel_rfl) (by kernel_rfl) (yld_idx (t := 23) (e := 22) (n := 25) (sz := 1) (k := .i64) (x := 0) (by kernel_rfl) (by kernel_rfl) (by kernel_rfl) (by decide) (by decide)) ?_
          refine wpG.takeD 1 true (some 46) (.int .u64 (rd y13 0)) (by kernel_rfl) (by kernel_rfl) (yld_loadA (e := 22) (x := 0) hs 3 rfl (by kernel_rfl) (by kernel_rfl) (by decide) (by decide) .grow) ?_
          refine wpG.takeD 2 false (some 47) (.int .i64 z5) (by kernel_rfl) (by kernel_rfl) (yld fun _ => by kernel_rfl) ?_
          obtain ⟨i0_516, h⟩ := of_chk h
          obtain ⟨i1_516, h⟩ := of_chk h
          refine wpG.takeD 3 false (some 48) (.pointer (some ⟨b4, 0 + (z5 : Int).toNat * 1, none⟩)) (by kernel_rfl) (by kernel_rfl) (yld_idx (t := 54) (e := 22) (n := 24) (sz := 1) (k := .i64) (x := z5) (by kernel_rfl) (by kernel_rfl) (by kernel_rfl) i0_516 i1_516) ?_
          refine wpG.takeD 4 true (some 49) (.int .u64 (rd r3 z5)) (by kernel_rfl) (by kernel_rfl) (yld_loadA (e := 22) (x := z5) hs 1 rfl (by kernel_rfl) (by kernel_rfl) i0_516 i1_516 .grow) ?_
          refine wpG.takeD 5 false (some 50) (.int .u64 (ixor .u64 (rd y13 0) (rd r3 z5))) (by kernel_rfl) (by kernel_rfl) (yld fun _ => by kernel_rfl) ?_
          refine wpG.takeD 6 false (some 51) (.pointer (some ⟨b1, 0 + (0 : Int).toNat * 1, none⟩)) (by kernel_rfl) (by kernel_rfl) (yld_idx (t := 23) (e := 22) (n := 25) (sz := 1) (k := .i64) (x := 0) (by kernel_rfl) (by kernel_rfl) (by kernel_rfl) (by decide) (by decide)) ?_
          obtain ⟨x19, hx, h⟩ := of_bind h
          refine wpG.only 7 (by kernel_rfl) (op_storeA (t := 22) (x := 0) (v := x19) (d := none) (by kernel_rfl) hs 3 rfl (by cases hx; kernel_rfl) (by kernel_rfl) (by decide) (by decide) ?_)
          intro w kp hs
          refine ⟨⟨fun hf => absurd hf (by decide), kp.mono fun _ h => h⟩, ?_⟩
          refine wpG.fin (by kernel_rfl) rfl (kr _ _ ?_)
          refine inBlock_n ?_
          refine then_n (ks455 _ _ ?_)
          refine wp_regS (l := [0, 1, 2]) (by kernel_rfl) fun KR kr => ?_
          refine wpS.take 0 false (some 11) (.int .i64 z5) (by kernel_rfl) (yld fun _ => by kernel_rfl) ?_
          refine wpS.take 1 false (some 12) (.int .i64 (iadd .i64 z5 1)) (by kernel_rfl) (yld fun _ => by kernel_rfl) ?_
          obtain ⟨x20, hx, h⟩ := of_bind h
          refine wpS.take 2 false (some 4) (.int .i64 x20) (by kernel_rfl) (yld_int hx (fun _ => by kernel_rfl)) ?_
          refine wpS.fin rfl (kr _ _ ?_)
          exact then_n (kl0 _ _ ⟨n, Nat.lt_succ_self n, x20, (wr y13 0 x19), h, ((hs.conv (L' := [.blk b10 (enc .u64 r9) 23, .blk b4 (enc .u64 r3) 54, .blk b2 (enc .u64 (zeroA 25)) 23, .blk b1 (enc .u64 (wr y13 0 x19)) 23]) rfl).drop (.cons _ (.cons_cons _ (.cons_cons _ (.cons_cons _ .slnil))))), exg (by kernel_rfl)⟩)
      · refine wpS.take 1 false (some 10) (.bool false) (by kernel_rfl) (yld_b (df hc) (fun _ => by kernel_rfl)) ?_
        refine wpS.fin rfl (kr _ _ ?_)
        refine then_n (ks392 _ _ ?_)
        refine wp_cond_f (by kernel_rfl) ?_
        refine wp_exit ?_
        refine then_x ?_
        refine then_x ?_
        refine inBlock_hit ?_
        have q0 := of_some h
        subst q0
        exact exq_n (nn0 _ _ ⟨(hs.conv rfl), exg (by kernel_rfl)⟩)
  · clear hs h hy
    rintro a w ⟨hs, g, rfl⟩
    have h := hk0
    refine then_n (ks260 _ _ ?_)
    refine wp_seq_k fun KS518 ks518 => ?_
    refine wp_regS (l := [0, 1]) (by kernel_rfl) fun KR kr => ?_
    refine wpS.take 0 true (some 52) (.agg (enc .u64 y7).toArray) (by kernel_rfl) (yld_loadW (e := 23) (n := 25) hs 2 rfl (by kernel_rfl) (by kernel_rfl) (by kernel_rfl) (by exact enc_len _ _) .grow) ?_
    refine wpS.only 1 (op_storeW (t := 23) (v := .agg (enc .u64 y7).toArray) (d := none) (by kernel_rfl) hs 1 rfl (vs := enc .u64 y7) (n := 25) (by kernel_rfl) (by kernel_rfl) (by kernel_rfl) (by simp [enc_len]) (by simp [enc_len]) (by intro u hu; exact enc_one _ _ u hu) ?_)
    intro w kp hs
    refine ⟨fun _ => trivial, ?_⟩
    refine wpS.fin rfl (kr _ _ ?_)
    refine then_n (ks518 _ _ ?_)
    refine wp_ret ?_
    have q0 := of_some h
    subst q0
    exact qq _ _ (post_ret (by kernel_rfl) (run_results [.cell 2 23] [.agg (enc .u64 y7).toArray] (by kernel_rfl) (.cons (res_cellN (n := 25) hs 1 rfl (by kernel_rfl) (by kernel_rfl) (by kernel_rfl) (by exact enc_len _ _)) .nil)) ⟨congrArg Ending.returned (by kernel_rfl), hs.none⟩)

theorem ref08_put.ok {K : Nat} {a0 : Arr 25} {a1 : Int} {a2 : Int} {r0 : Arr 25} (h : ref08_put.f K a0 a1 a2 = some r0) (w0 : World) : Ret Tryd.prog 25 #[.agg (enc .u64 a0).toArray, .int .i64 a1, .int .u8 a2] w0 (.agg (enc .u64 r0).toArray) := by
  refine calls_k Tryd.func25 rfl fun Q qq => ?_
  have hs := St.start w0
  refine wp_conv (a' := ⟨#[.agg (enc .u64 a0).toArray, .int .i64 a1, .int .u8 a2, undef, undef, undef, undef, undef, undef, undef, undef, undef, undef, undef, undef, undef, undef, undef, undef, undef, undef, undef], []⟩) (by kernel_rfl) ?_
  refine wp_seq_k fun KS1 ks1 => ?_
  refine wp_regS (l := [0, 1]) (by kernel_rfl) fun KR kr => ?_
  refine wpS.only 0 (op_box (t := 23) (v := .agg (enc .u64 a0).toArray) (d := (some 3)) (by kernel_rfl) hs (enc .u64 a0) (by kernel_rfl) (by kernel_rfl) ?_)
  intro b1 w gw hs
  refine ⟨fun _ => trivial, ?_⟩
  refine wpS.only 1 (op_alloc (t := 23) (d := (some 6)) (by kernel_rfl) hs (enc .u64 (zeroA 25)) (.agg (enc .u64 (zeroA 25)).toArray) (by kernel_rfl) (by kernel_rfl) (by kernel_rfl) ?_)
  intro b2 w gw hs
  refine ⟨fun _ => trivial, ?_⟩
  refine wpS.fin rfl (kr _ _ ?_)
  refine then_n (ks1 _ _ ?_)
  refine wp_seq_k fun KS2 ks2 => ?_
  refine wp_regG [14] (fun k => k = b1) 15 (by kernel_rfl) (by kernel_rfl) fun KR kr => ?_
  have hs := hs.drawn1
  refine wpG.takeD 0 false (some 7) (.int .i64 a1) (by kernel_rfl) (by kernel_rfl) (yld fun _ => by kernel_rfl) ?_
  refine wpG.takeD 1 false (some 8) (.int .i64 (iquo .i64 a1 8)) (by kernel_rfl) (by kernel_rfl) (yld fun _ => by kernel_rfl) ?_
  refine wpG.takeD 2 false (some 9) (.int .i64 a1) (by kernel_rfl) (by kernel_rfl) (yld fun _ => by kernel_rfl) ?_
  refine wpG.takeD 3 false (some 10) (.int .i64 (iquo .i64 a1 8)) (by kernel_rfl) (by kernel_rfl) (yld fun _ => by kernel_rfl) ?_
  obtain ⟨x3, hx, h⟩ := of_bind h
  have hx := of_some hx
  subst hx
  obtain ⟨i0_5, h⟩ := of_chk h
  obtain ⟨i1_5, h⟩ := of_chk h
  refine wpG.takeD 4 false (some 11) (.pointer (some ⟨b1, 0 + ((iquo .i64 a1 8) : Int).toNat * 1, none⟩)) (by kernel_rfl) (by kernel_rfl) (yld_idx (t := 23) (e := 22) (n := 25) (sz := 1) (k := .i64) (x := (iquo .i64 a1 8)) (by kernel_rfl) (by kernel_rfl) (by kernel_rfl) i0_5 i1_5) ?_
  refine wpG.takeD 5 true (some 12) (.int .u64 (rd a0 (iquo .i64 a1 8))) (by kernel_rfl) (by kernel_rfl) (yld_loadA (e := 22) (x := (iquo .i64 a1 8)) hs 1 rfl (by kernel_rfl) (by kernel_rfl) i0_5 i1_5 .grow) ?_
  refine wpG.takeD 6 false (some 13) (.int .u8 a2) (by kernel_rfl) (by kernel_rfl) (yld fun _ => by kernel_rfl) ?_
  refine wpG.takeD 7 false (some 14) (.int .u64 (iconv .u64 a2)) (by kernel_rfl) (by kernel_rfl) (yld fun _ => by kernel_rfl) ?_
  refine wpG.takeD 8 false (some 15) (.int .i64 a1) (by kernel_rfl) (by kernel_rfl) (yld fun _ => by kernel_rfl) ?_
  refine wpG.takeD 9 false (some 16) (.int .i64 (irem .i64 a1 8)) (by kernel_rfl) (by kernel_rfl) (yld fun _ => by kernel_rfl) ?_
  refine wpG.takeD 10 false (some 17) (.int .i64 (imul .i64 8 (irem .i64 a1 8))) (by kernel_rfl) (by kernel_rfl) (yld fun _ => by kernel_rfl) ?_
  obtain ⟨h0, h⟩ := of_chk h
  refine wpG.takeD 11 false (some 18) (.int .u64 (ishl .u64 (iconv .u64 a2) (imul .i64 8 (irem .i64 a1 8)))) (by kernel_rfl) (by kernel_rfl) (yld_shl (t := 22) (k' := .i64) (by kernel_rfl) h0) ?_
  refine wpG.takeD 12 false (some 19) (.int .u64 (ixor .u64 (rd a0 (iquo .i64 a1 8)) (ishl .u64 (iconv .u64 a2) (imul .i64 8 (irem .i64 a1 8))))) (by kernel_rfl) (by kernel_rfl) (yld fun _ => by kernel_rfl) ?_
  obtain ⟨x4, hx, h⟩ := of_bind h
  have hx := of_some hx
  subst hx
  obtain ⟨i0_6, h⟩ := of_chk h
  obtain ⟨i1_6, h⟩ := of_chk h
  refine wpG.takeD 13 false (some 20) (.pointer (some ⟨b1, 0 + ((iquo .i64 a1 8) : Int).toNat * 1, none⟩)) (by kernel_rfl) (by kernel_rfl) (yld_idx (t := 23) (e := 22) (n := 25) (sz := 1) (k := .i64) (x := (iquo .i64 a1 8)) (by kernel_rfl) (by kernel_rfl) (by kernel_rfl) i0_6 i1_6) ?_
  obtain ⟨x5, hx, h⟩ := of_bind h
  refine wpG.only 14 (by kernel_rfl) (op_storeA (t := 22) (x := (iquo .i64 a1 8)) (v := x5) (d := none) (by kernel_rfl) hs 1 rfl (by cases hx; kernel_rfl) (by kernel_rfl) i0_6 i1_6 ?_)
  intro w kp hs
  refine ⟨⟨fun hf => absurd hf (by decide), kp.mono fun _ h => h⟩, ?_⟩
  refine wpG.fin (by kernel_rfl) rfl (kr _ _ ?_)
  refine then_n (ks2 _ _ ?_)
  refine wp_seq_k fun KS7 ks7 => ?_
  refine wp_regS (l := [0, 1]) (by kernel_rfl) fun KR kr => ?_
  refine wpS.take 0 true (some 21) (.agg (enc .u64 (wr a0 (iquo .i64 a1 8) x5)).toArray) (by kernel_rfl) (yld_loadW (e := 23) (n := 25) hs 1 rfl (by kernel_rfl) (by kernel_rfl) (by kernel_rfl) (by exact enc_len _ _) .grow) ?_
  refine wpS.only 1 (op_storeW (t := 23) (v := .agg (enc .u64 (wr a0 (iquo .i64 a1 8) x5)).toArray) (d := none) (by kernel_rfl) hs 0 rfl (vs := enc .u64 (wr a0 (iquo .i64 a1 8) x5)) (n := 25) (by kernel_rfl) (by kernel_rfl) (by kernel_rfl) (by simp [enc_len]) (by simp [enc_len]) (by intro u hu; exact enc_one _ _ u hu) ?_)
  intro w kp hs
  refine ⟨fun _ => trivial, ?_⟩
  refine wpS.fin rfl (kr _ _ ?_)
  refine then_n (ks7 _ _ ?_)
  refine wp_ret ?_
  have q0 := of_some h
  subst q0
  exact qq _ _ (post_ret (by kernel_rfl) (run_results [.cell 6 23] [.agg (enc .u64 (wr a0 (iquo .i64 a1 8) x5)).toArray] (by kernel_rfl) (.cons (res_cellN (n := 25) hs 0 rfl (by kernel_rfl) (by kernel_rfl) (by kernel_rfl) (by exact enc_len _ _)) .nil)) ⟨congrArg Ending.returned (by kernel_rfl), hs.none⟩)
end Go.Proofs.YtijahfdldlmnhaaDoor
