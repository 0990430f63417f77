/- Printed by this work's own program: the code of each function below comes to the answer that its plain form tells. -/
import Derived.Test.YtijahfdldlmnhaaMr
import Derived.Test.YtijahfdldlmnhaaProg
import Derived.Test.YtijahfdldlmnhaaLKqAbout
import Derived.Test.YtijahfdldlmnhaaKX0
import Derived.Test.YtijahfdldlmnhaaKX1
set_option linter.unusedVariables false
set_option maxRecDepth 100000
set_option maxHeartbeats 4000000
namespace Go.Proofs.Ytijahfdldlmnhaa
open Go.Mx
attribute [local irreducible] wpOp

theorem law25_KqAbout.ok {K : Nat} {a0 : Arr 256} {a1 : Int} {r0 : Bool} (h : law25_KqAbout.f K a0 a1 = some r0) (w0 : World) : Ret Try.prog 3 #[.agg (enc .i32 a0).toArray, .int .u8 a1] w0 (.bool r0) := by
  refine calls_k Try.func3 rfl fun Q qq => ?_
  have hs := St.start w0
  refine wp_conv (a' := ⟨#[.agg (enc .i32 a0).toArray, .int .u8 a1, undef, undef, undef, undef, undef, undef, undef, undef, undef, undef, undef, undef, undef, undef, undef, undef, undef, undef, undef, undef, undef, undef, undef, undef, undef, undef, undef, undef, undef, undef, undef, undef, undef, undef, undef, undef, undef, undef, undef, undef, undef, undef, undef, undef, undef, undef, undef, undef, undef, undef, undef, undef, undef, undef, undef, undef, undef, undef, undef, undef, undef, undef, undef, undef], []⟩) (by kernel_rfl) ?_
  refine wp_seq_k fun KS1 ks1 => ?_
  refine wp_regS (l := [0, 1]) (by kernel_rfl) fun KR kr => ?_
  refine wpS.only 0 (op_box (t := 23) (v := .agg (enc .i32 a0).toArray) (d := (some 2)) (by kernel_rfl) hs (enc .i32 a0) (by kernel_rfl) (by kernel_rfl) ?_)
  intro b1 w gw hs
  refine ⟨fun _ => trivial, ?_⟩
  refine wpS.take 1 false (some 4) (.bool false) (by kernel_rfl) (yld fun _ => by kernel_rfl) ?_
  refine wpS.fin rfl (kr _ _ ?_)
  refine then_n (ks1 _ _ ?_)
  refine wp_seq_k fun KS4 ks4 => ?_
  refine wp_seq_k fun KS5 ks5 => ?_
  refine wp_regS (l := [0, 1, 2]) (by kernel_rfl) fun KR kr => ?_
  refine wpS.take 0 true (some 10) (.agg (enc .i32 a0).toArray) (by kernel_rfl) (yld_loadW (e := 23) (n := 256) hs 0 rfl (by kernel_rfl) (by kernel_rfl) (by kernel_rfl) (by exact enc_len _ _) .grow) ?_
  obtain ⟨r2, hg, h⟩ := of_bind h
  cases r2 with
  | true =>
    have h := of_if_t h
    refine wpS.only 1 (op_call (d := (some 11)) (by kernel_rfl) hs (fun _ => by kernel_rfl) (ref25_Fit.ok hg _) ?_)
    intro w gw hs
    refine ⟨fun _ => trivial, ?_⟩
    refine wpS.take 2 false (some 12) (.bool false) (by kernel_rfl) (yld fun _ => by kernel_rfl) ?_
    refine wpS.fin rfl (kr _ _ ?_)
    refine then_n (ks5 _ _ ?_)
    refine wp_cond_f (by kernel_rfl) ?_
    refine wp_skip ?_
    refine then_n (ks4 _ _ ?_)
    refine wp_seq_k fun KS6 ks6 => ?_
    refine wp_regS (l := [0, 1, 2, 3, 4]) (by kernel_rfl) fun KR kr => ?_
    refine wpS.take 0 false (some 14) (.int .u8 a1) (by kernel_rfl) (yld fun _ => by kernel_rfl) ?_
    refine wpS.take 1 false (some 15) (.int .u8 (irem .u8 a1 11)) (by kernel_rfl) (yld fun _ => by kernel_rfl) ?_
    refine wpS.take 2 false (some 16) (.int .i64 (iconv .i64 (irem .u8 a1 11))) (by kernel_rfl) (yld fun _ => by kernel_rfl) ?_
    refine wpS.take 3 false (some 17) (.int .i64 (iadd .i64 1 (iconv .i64 (irem .u8 a1 11)))) (by kernel_rfl) (yld fun _ => by kernel_rfl) ?_
    obtain ⟨x3, hx, h⟩ := of_bind h
    refine wpS.take 4 false (some 5) (.int .i64 x3) (by kernel_rfl) (yld_int hx (fun _ => by kernel_rfl)) ?_
    refine wpS.fin rfl (kr _ _ ?_)
    refine then_n (ks6 _ _ ?_)
    refine wp_seq_k fun KS7 ks7 => ?_
    refine wp_regS (l := [0, 1, 2, 3, 4]) (by kernel_rfl) fun KR kr => ?_
    refine wpS.take 0 true (some 18) (.agg (enc .i32 a0).toArray) (by kernel_rfl) (yld_loadW (e := 23) (n := 256) hs 0 rfl (by kernel_rfl) (by kernel_rfl) (by kernel_rfl) (by exact enc_len _ _) .grow) ?_
    refine wpS.take 1 false (some 19) (.int .i64 x3) (by kernel_rfl) (yld fun _ => by kernel_rfl) ?_
    obtain ⟨r4, hg, h⟩ := of_bind h
    refine wpS.only 2 (op_call (d := (some 20)) (by kernel_rfl) hs (fun _ => by kernel_rfl) (kq_Squeeze.ok hg _) ?_)
    intro w gw hs
    refine ⟨fun _ => trivial, ?_⟩
    refine wpS.only 3 (op_alloc (t := 23) (d := (some 6)) (by kernel_rfl) hs (enc .i32 (zeroA 256)) (.agg (enc .i32 (zeroA 256)).toArray) (by kernel_rfl) (by kernel_rfl) (by kernel_rfl) ?_)
    intro b5 w gw hs
    refine ⟨fun _ => trivial, ?_⟩
    refine wpS.only 4 (op_storeW (t := 23) (v := .agg (enc .i32 r4).toArray) (d := none) (by kernel_rfl) hs 0 rfl (vs := enc .i32 r4) (n := 256) (by kernel_rfl) (by kernel_rfl) (by kernel_rfl) (by simp [enc_len]) (by simp [enc_len]) (by intro u hu; exact enc_one _ _ u hu) ?_)
    intro w kp hs
    refine ⟨fun _ => trivial, ?_⟩
    refine wpS.fin rfl (kr _ _ ?_)
    refine then_n (ks7 _ _ ?_)
    refine wp_seq_k fun KS10 ks10 => ?_
    refine wp_seq_k fun KS11 ks11 => ?_
    refine wp_regG [] (fun k => True) 7 (by kernel_rfl) (by kernel_rfl) fun KR kr => ?_
    have hs := hs.drawn1
    refine wpG.takeD 0 true (some 21) (.agg (enc .i32 r4).toArray) (by kernel_rfl) (by kernel_rfl) (yld_loadW (e := 23) (n := 256) hs 0 rfl (by kernel_rfl) (by kernel_rfl) (by kernel_rfl) (by exact enc_len _ _) .grow) ?_
    refine wpG.takeD 1 false (some 22) (.int .i64 x3) (by kernel_rfl) (by kernel_rfl) (yld fun _ => by kernel_rfl) ?_
    refine wpG.takeD 3 false (some 24) (.int .i64 x3) (by kernel_rfl) (by kernel_rfl) (yld fun _ => by kernel_rfl) ?_
    refine wpG.takeD 5 true (some 26) (.agg (enc .i32 r4).toArray) (by kernel_rfl) (by kernel_rfl) (yld_loadW (e := 23) (n := 256) hs 0 rfl (by kernel_rfl) (by kernel_rfl) (by kernel_rfl) (by exact enc_len _ _) .grow) ?_
    obtain ⟨r6, hg, h⟩ := of_bind h
    refine wpG.only 2 (by kernel_rfl) (op_call (d := (some 23)) (by kernel_rfl) hs (fun _ => by kernel_rfl) (kq_Widen.ok hg _) ?_)
    intro w gw hs
    refine ⟨.of gw, ?_⟩
    obtain ⟨r7, hg, h⟩ := of_bind h
    refine wpG.only 4 (by kernel_rfl) (op_call (d := (some 25)) (by kernel_rfl) hs (fun _ => by kernel_rfl) (kq_Squeeze.ok hg _) ?_)
    intro w gw hs
    refine ⟨.of gw, ?_⟩
    rcases of_ifb h with ⟨hc, h⟩ | ⟨hc, h⟩
    · refine wpG.takeD 6 false (some 27) (.bool true) (by kernel_rfl) (by kernel_rfl) (yld_bb hc (yld_eqAn (t := 23) (e := 21) (k := .i32) (.tmp 25) (.tmp 26) (by kernel_rfl) (by kernel_rfl) (by kernel_rfl) (by kernel_rfl) (by kernel_rfl) (by kernel_rfl))) ?_
      refine wpG.fin (by kernel_rfl) rfl (kr _ _ ?_)
      refine then_n (ks11 _ _ ?_)
      refine wp_cond_t (by kernel_rfl) ?_
      refine wp_seq_k fun KS12 ks12 => ?_
      refine wp_regS (l := [0]) (by kernel_rfl) fun KR kr => ?_
      refine wpS.take 0 false (some 4) (.bool false) (by kernel_rfl) (yld fun _ => by kernel_rfl) ?_
      refine wpS.fin rfl (kr _ _ ?_)
      refine then_n (ks12 _ _ ?_)
      refine wp_ret ?_
      refine then_r ?_
      have q0 := of_some h
      subst q0
      exact qq _ _ (post_ret (by kernel_rfl) (run_results [.tmp 4] [.bool false] (by kernel_rfl) (.cons (res_tmp (by kernel_rfl)) .nil)) ⟨congrArg Ending.returned (by kernel_rfl), hs.none⟩)
    · refine wpG.takeD 6 false (some 27) (.bool false) (by kernel_rfl) (by kernel_rfl) (yld_bb hc (yld_eqAn (t := 23) (e := 21) (k := .i32) (.tmp 25) (.tmp 26) (by kernel_rfl) (by kernel_rfl) (by kernel_rfl) (by kernel_rfl) (by kernel_rfl) (by kernel_rfl))) ?_
      refine wpG.fin (by kernel_rfl) rfl (kr _ _ ?_)
      refine then_n (ks11 _ _ ?_)
      refine wp_cond_f (by kernel_rfl) ?_
      refine wp_skip ?_
      refine then_n (ks10 _ _ ?_)
      refine wp_seq_k fun KS13 ks13 => ?_
      refine wp_regG [] (fun k => True) 7 (by kernel_rfl) (by kernel_rfl) fun KR kr => ?_
      have hs := hs.drawn1
      refine wpG.takeD 0 false (some 28) (.int .i64 x3) (by kernel_rfl) (by kernel_rfl) (yld fun _ => by kernel_rfl) ?_
      obtain ⟨h0, h⟩ := of_chk h
      refine wpG.takeD 1 false (some 29) (.int .i64 (ishl .i64 1 x3)) (by kernel_rfl) (by kernel_rfl) (yld_shl (t := 3) (k' := .i64) (by kernel_rfl) h0) ?_
      refine wpG.takeD 2 false (some 30) (.int .i64 (iadd .i64 3329 (ishl .i64 1 x3))) (by kernel_rfl) (by kernel_rfl) (yld fun _ => by kernel_rfl) ?_
      refine wpG.takeD 3 false (some 31) (.int .i64 x3) (by kernel_rfl) (by kernel_rfl) (yld fun _ => by kernel_rfl) ?_
      obtain ⟨h0, h⟩ := of_chk h
      refine wpG.takeD 4 false (some 32) (.int .i64 (ishl .i64 2 x3)) (by kernel_rfl) (by kernel_rfl) (yld_shl (t := 3) (k' := .i64) (by kernel_rfl) h0) ?_
      obtain ⟨h0, h⟩ := of_chk h
      refine wpG.takeD 5 false (some 33) (.int .i64 (iquo .i64 (iadd .i64 3329 (ishl .i64 1 x3)) (ishl .i64 2 x3))) (by kernel_rfl) (by kernel_rfl) (yld_quo (t := 3) (by kernel_rfl) h0) ?_
      obtain ⟨x8, hx, h⟩ := of_bind h
      refine wpG.takeD 6 false (some 7) (.int .i64 x8) (by kernel_rfl) (by kernel_rfl) (yld_int hx (fun _ => by kernel_rfl)) ?_
      refine wpG.fin (by kernel_rfl) rfl (kr _ _ ?_)
      refine then_n (ks13 _ _ ?_)
      refine wp_seq_k fun KS51 ks51 => ?_
      refine wp_seq_k fun KS52 ks52 => ?_
      refine wp_regG [] (fun k => True) 6 (by kernel_rfl) (by kernel_rfl) fun KR kr => ?_
      have hs := hs.drawn1
      refine wpG.takeD 0 true (some 34) (.agg (enc .i32 r4).toArray) (by kernel_rfl) (by kernel_rfl) (yld_loadW (e := 23) (n := 256) hs 0 rfl (by kernel_rfl) (by kernel_rfl) (by kernel_rfl) (by exact enc_len _ _) .grow) ?_
      refine wpG.takeD 1 false (some 35) (.int .i64 x3) (by kernel_rfl) (by kernel_rfl) (yld fun _ => by kernel_rfl) ?_
      refine wpG.takeD 3 true (some 37) (.agg (enc .i32 a0).toArray) (by kernel_rfl) (by kernel_rfl) (yld_loadW (e := 23) (n := 256) hs 1 rfl (by kernel_rfl) (by kernel_rfl) (by kernel_rfl) (by exact enc_len _ _) .grow) ?_
      refine wpG.takeD 5 false (some 39) (.int .i64 0) (by kernel_rfl) (by kernel_rfl) (yld fun _ => by kernel_rfl) ?_
      obtain ⟨r9, hg, h⟩ := of_bind h
      refine wpG.only 2 (by kernel_rfl) (op_call (d := (some 36)) (by kernel_rfl) hs (fun _ => by kernel_rfl) (kq_Widen.ok hg _) ?_)
      intro w gw hs
      refine ⟨.of gw, ?_⟩
      obtain ⟨r10, hg, h⟩ := of_bind h
      refine wpG.only 4 (by kernel_rfl) (op_call (d := (some 38)) (by kernel_rfl) hs (fun _ => by kernel_rfl) (kq_Sub.ok hg _) ?_)
      intro w gw hs
      refine ⟨.of gw, ?_⟩
      refine wpG.fin (by kernel_rfl) rfl (kr _ _ ?_)
      refine then_n (ks52 _ _ ?_)
      obtain ⟨t0, hy, hk0⟩ := of_bind h
      refine wp_exq (N := fun a w => t0 = .inl () ∧ St w0 [] [.blk b5 (enc .i32 r4) 23, .blk b1 (enc .i32 a0) 23] [] w ∧ ∃ g : Nat → Value, a = ⟨#[.agg (enc .i32 a0).toArray, .int .u8 a1, .pointer (some ⟨b1, 0, none⟩), undef, (g 4), .int .i64 x3, .pointer (some ⟨b5, 0, none⟩), .int .i64 x8, (g 8), (g 9), .agg (enc .i32 a0).toArray, .bool true, .bool false, undef, .int .u8 a1, .int .u8 (irem .u8 a1 11), .int .i64 (iconv .i64 (irem .u8 a1 11)), .int .i64 (iadd .i64 1 (iconv .i64 (irem .u8 a1 11))), .agg (enc .i32 a0).toArray, .int .i64 x3, .agg (enc .i32 r4).toArray, .agg (enc .i32 r4).toArray, .int .i64 x3, .agg (enc .i32 r6).toArray, .int .i64 x3, .agg (enc .i32 r7).toArray, .agg (enc .i32 r4).toArray, .bool false, .int .i64 x3, .int .i64 (ishl .i64 1 x3), .int .i64 (iadd .i64 3329 (ishl .i64 1 x3)), .int .i64 x3, .int .i64 (ishl .i64 2 x3), .int .i64 (iquo .i64 (iadd .i64 3329 (ishl .i64 1 x3)) (ishl .i64 2 x3)), .agg (enc .i32 r4).toArray, .int .i64 x3, .agg (enc .i32 r9).toArray, .agg (enc .i32 a0).toArray, .agg (enc .i32 r10).toArray, (g 39), (g 40), (g 41), (g 42), (g 43), (g 44), (g 45), (g 46), (g 47), (g 48), (g 49), (g 50), (g 51), (g 52), (g 53), (g 54), (g 55), (g 56), (g 57), (g 58), (g 59), (g 60), (g 61), (g 62), (g 63), (g 64), undef], []⟩) (fun N0 nn0 => ?_) ?_
      · refine wp_block ?_
        refine wp_loop_k (fun n a w => ∃ z11, law25_KqAbout.l0 K n x3 r4 x8 r10 z11 = some t0 ∧ St w0 [] [.blk b5 (enc .i32 r4) 23, .blk b1 (enc .i32 a0) 23] [] w ∧ ∃ g : Nat → Value, a = ⟨#[.agg (enc .i32 a0).toArray, .int .u8 a1, .pointer (some ⟨b1, 0, none⟩), undef, (g 4), .int .i64 x3, .pointer (some ⟨b5, 0, none⟩), .int .i64 x8, (g 8), (g 9), .agg (enc .i32 a0).toArray, .bool true, .bool false, undef, .int .u8 a1, .int .u8 (irem .u8 a1 11), .int .i64 (iconv .i64 (irem .u8 a1 11)), .int .i64 (iadd .i64 1 (iconv .i64 (irem .u8 a1 11))), .agg (enc .i32 a0).toArray, .int .i64 x3, .agg (enc .i32 r4).toArray, .agg (enc .i32 r4).toArray, .int .i64 x3, .agg (enc .i32 r6).toArray, .int .i64 x3, .agg (enc .i32 r7).toArray, .agg (enc .i32 r4).toArray, .bool false, .int .i64 x3, .int .i64 (ishl .i64 1 x3), .int .i64 (iadd .i64 3329 (ishl .i64 1 x3)), .int .i64 x3, .int .i64 (ishl .i64 2 x3), .int .i64 (iquo .i64 (iadd .i64 3329 (ishl .i64 1 x3)) (ishl .i64 2 x3)), .agg (enc .i32 r4).toArray, .int .i64 x3, .agg (enc .i32 r9).toArray, .agg (enc .i32 a0).toArray, .agg (enc .i32 r10).toArray, .int .i64 z11, (g 40), (g 41), (g 42), (g 43), (g 44), (g 45), (g 46), (g 47), (g 48), (g 49), (g 50), (g 51), (g 52), (g 53), (g 54), (g 55), (g 56), (g 57), (g 58), (g 59), (g 60), (g 61), (g 62), (g 63), (g 64), undef], []⟩) K ⟨0, hy, hs.conv rfl, exg (by kernel_rfl)⟩ ?_
        clear hs h hy
        rintro n a w ⟨z11, h, hs, g, rfl⟩ KL0 kl0
        cases n with
        | zero => exact nomatch (show none = some _ from h)
        | succ n =>
          refine wp_seq_k fun KS71 ks71 => ?_
          refine wp_regS (l := [0]) (by kernel_rfl) fun KR kr => ?_
          rcases of_if h with ⟨hc, h⟩ | ⟨hc, h⟩
          · refine wpS.take 0 false (some 40) (.bool true) (by kernel_rfl) (yld_b (dt hc) (fun _ => by kernel_rfl)) ?_
            refine wpS.fin rfl (kr _ _ ?_)
            refine then_n (ks71 _ _ ?_)
            refine wp_seq_k fun KS72 ks72 => ?_
            refine wp_cond_t (by kernel_rfl) ?_
            refine wp_skip ?_
            refine then_n (ks72 _ _ ?_)
            refine wp_seq_k fun KS80 ks80 => ?_
            refine wp_block ?_
            refine wp_seq_k fun KS81 ks81 => ?_
            refine wp_regS (l := [0, 1, 2, 3]) (by kernel_rfl) fun KR kr => ?_
            refine wpS.take 0 false (some 41) (.int .i64 z11) (by kernel_rfl) (yld fun _ => by kernel_rfl) ?_
            obtain ⟨h0, h⟩ := of_chk h
            obtain ⟨h1, h⟩ := of_chk h
            refine wpS.take 1 false (some 42) (.int .i32 (rd r10 z11)) (by kernel_rfl) (yld_at (t := 23) (e := 21) (k' := .i64) (by kernel_rfl) (by kernel_rfl) (by kernel_rfl) (by kernel_rfl) h0 h1) ?_
            refine wpS.take 2 false (some 8) (.int .i64 z11) (by kernel_rfl) (yld fun _ => by kernel_rfl) ?_
            obtain ⟨x12, hx, h⟩ := of_bind h
            refine wpS.take 3 false (some 9) (.int .i32 x12) (by kernel_rfl) (yld_int hx (fun _ => by kernel_rfl)) ?_
            refine wpS.fin rfl (kr _ _ ?_)
            refine then_n (ks81 _ _ ?_)
            refine wp_seq_k fun KS82 ks82 => ?_
            refine wp_regG [] (fun k => True) 21 (by kernel_rfl) (by kernel_rfl) fun KR kr => ?_
            have hs := hs.drawn1
            refine wpG.takeD 0 false (some 43) (.int .i32 x12) (by kernel_rfl) (by kernel_rfl) (yld fun _ => by kernel_rfl) ?_
            refine wpG.takeD 1 false (some 44) (.int .i32 x12) (by kernel_rfl) (by kernel_rfl) (yld fun _ => by kernel_rfl) ?_
            refine wpG.takeD 2 false (some 45) (.int .i32 (isub .i32 3329 x12)) (by kernel_rfl) (by kernel_rfl) (yld fun _ => by kernel_rfl) ?_
            refine wpG.takeD 3 false (some 46) (.int .i32 (imin x12 (isub .i32 3329 x12))) (by kernel_rfl) (by kernel_rfl) (yld fun _ => by kernel_rfl) ?_
            refine wpG.takeD 4 false (some 47) (.int .i64 (iconv .i64 (imin x12 (isub .i32 3329 x12)))) (by kernel_rfl) (by kernel_rfl) (yld fun _ => by kernel_rfl) ?_
            refine wpG.takeD 5 false (some 48) (.int .i64 x8) (by kernel_rfl) (by kernel_rfl) (yld fun _ => by kernel_rfl) ?_
            rcases of_if h with ⟨hc, h⟩ | ⟨hc, h⟩
            · refine wpG.takeD 6 false (some 49) (.bool true) (by kernel_rfl) (by kernel_rfl) (yld_b (dt hc) (fun _ => by kernel_rfl)) ?_
              refine wpG.takeD 7 false (some 50) (.bool true) (by kernel_rfl) (by kernel_rfl) (yld fun _ => by kernel_rfl) ?_
              refine wpG.takeD 8 false (some 51) (undef) (by kernel_rfl) (by kernel_rfl) (yld fun _ => by kernel_rfl) ?_
              refine wpG.takeD 9 false (some 52) (undef) (by kernel_rfl) (by kernel_rfl) (yld fun _ => by kernel_rfl) ?_
              refine wpG.takeD 10 false (some 53) (undef) (by kernel_rfl) (by kernel_rfl) (yld fun _ => by kernel_rfl) ?_
              refine wpG.takeD 11 false (some 54) (undef) (by kernel_rfl) (by kernel_rfl) (yld fun _ => by kernel_rfl) ?_
              refine wpG.takeD 12 false (some 55) (.bool true) (by kernel_rfl) (by kernel_rfl) (yld fun _ => by kernel_rfl) ?_
              refine wpG.takeD 13 false (some 56) (.bool true) (by kernel_rfl) (by kernel_rfl) (yld fun _ => by kernel_rfl) ?_
              refine wpG.takeD 14 false (some 57) (undef) (by kernel_rfl) (by kernel_rfl) (yld fun _ => by kernel_rfl) ?_
              refine wpG.takeD 15 false (some 58) (undef) (by kernel_rfl) (by kernel_rfl) (yld fun _ => by kernel_rfl) ?_
              refine wpG.takeD 16 false (some 59) (undef) (by kernel_rfl) (by kernel_rfl) (yld fun _ => by kernel_rfl) ?_
              refine wpG.takeD 17 false (some 60) (undef) (by kernel_rfl) (by kernel_rfl) (yld fun _ => by kernel_rfl) ?_
              refine wpG.takeD 18 false (some 61) (undef) (by kernel_rfl) (by kernel_rfl) (yld fun _ => by kernel_rfl) ?_
              refine wpG.takeD 19 false (some 62) (undef) (by kernel_rfl) (by kernel_rfl) (yld fun _ => by kernel_rfl) ?_
              refine wpG.takeD 20 false (some 63) (.bool true) (by kernel_rfl) (by kernel_rfl) (yld fun _ => by kernel_rfl) ?_
              refine wpG.fin (by kernel_rfl) rfl (kr _ _ ?_)
              refine then_n (ks82 _ _ ?_)
              refine wp_cond_t (by kernel_rfl) ?_
              refine wp_seq_k fun KS83 ks83 => ?_
              refine wp_regS (l := [0]) (by kernel_rfl) fun KR kr => ?_
              refine wpS.take 0 false (some 4) (.bool false) (by kernel_rfl) (yld fun _ => by kernel_rfl) ?_
              refine wpS.fin rfl (kr _ _ ?_)
              refine then_n (ks83 _ _ ?_)
              refine wp_ret ?_
              refine inBlock_r ?_
              refine then_r ?_
              refine then_r ?_
              refine inBlock_r ?_
              refine exq_r ?_
              refine then_r ?_
              have q0 := of_some h
              subst q0
              have q0 := of_some hk0
              subst q0
              exact qq _ _ (post_ret (by kernel_rfl) (run_results [.tmp 4] [.bool false] (by kernel_rfl) (.cons (res_tmp (by kernel_rfl)) .nil)) ⟨congrArg Ending.returned (by kernel_rfl), hs.none⟩)
            · refine wpG.takeD 6 false (some 49) (.bool false) (by kernel_rfl) (by kernel_rfl) (yld_b (df hc) (fun _ => by kernel_rfl)) ?_
              refine wpG.takeD 7 false (some 50) (.bool false) (by kernel_rfl) (by kernel_rfl) (yld fun _ => by kernel_rfl) ?_
              refine wpG.takeD 8 false (some 51) (.int .i64 z11) (by kernel_rfl) (by kernel_rfl) (yld fun _ => by kernel_rfl) ?_
              obtain ⟨i0_84, h⟩ := of_chk h
              obtain ⟨i1_84, h⟩ := of_chk h
              refine wpG.takeD 9 false (some 52) (.pointer (some ⟨b5, 0 + (z11 : Int).toNat * 1, none⟩)) (by kernel_rfl) (by kernel_rfl) (yld_idx (t := 23) (e := 21) (n := 256) (sz := 1) (k := .i64) (x := z11) (by kernel_rfl) (by kernel_rfl) (by kernel_rfl) i0_84 i1_84) ?_
              refine wpG.takeD 10 true (some 53) (.int .i32 (rd r4 z11)) (by kernel_rfl) (by kernel_rfl) (yld_loadA (e := 21) (x := z11) hs 0 rfl (by kernel_rfl) (by kernel_rfl) i0_84 i1_84 .grow) ?_
              rcases of_if h with ⟨hc, h⟩ | ⟨hc, h⟩
              · refine wpG.takeD 11 false (some 54) (.bool true) (by kernel_rfl) (by kernel_rfl) (yld_b (dt hc) (fun _ => by kernel_rfl)) ?_
                refine wpG.takeD 12 false (some 55) (.bool true) (by kernel_rfl) (by kernel_rfl) (yld fun _ => by kernel_rfl) ?_
                refine wpG.takeD 13 false (some 56) (.bool true) (by kernel_rfl) (by kernel_rfl) (yld fun _ => by kernel_rfl) ?_
                refine wpG.takeD 14 false (some 57) (undef) (by kernel_rfl) (by kernel_rfl) (yld fun _ => by kernel_rfl) ?_
                refine wpG.takeD 15 false (some 58) (undef) (by kernel_rfl) (by kernel_rfl) (yld fun _ => by kernel_rfl) ?_
                refine wpG.takeD 16 false (some 59) (undef) (by kernel_rfl) (by kernel_rfl) (yld fun _ => by kernel_rfl) ?_
                refine wpG.takeD 17 false (some 60) (undef) (by kernel_rfl) (by kernel_rfl) (yld fun _ => by kernel_rfl) ?_
                refine wpG.takeD 18 false (some 61) (undef) (by kernel_rfl) (by kernel_rfl) (yld fun _ => by kernel_rfl) ?_
                refine wpG.takeD 19 false (some 62) (undef) (by kernel_rfl) (by kernel_rfl) (yld fun _ => by kernel_rfl) ?_
                refine wpG.takeD 20 false (some 63) (.bool true) (by kernel_rfl) (by kernel_rfl) (yld fun _ => by kernel_rfl) ?_
                refine wpG.fin (by kernel_rfl) rfl (kr _ _ ?_)
                refine then_n (ks82 _ _ ?_)
                refine wp_cond_t (by kernel_rfl) ?_
                refine wp_seq_k fun KS85 ks85 => ?_
                refine wp_regS (l := [0]) (by kernel_rfl) fun KR kr => ?_
                refine wpS.take 0 false (some 4) (.bool false) (by kernel_rfl) (yld fun _ => by kernel_rfl) ?_
                refine wpS.fin rfl (kr _ _ ?_)
                refine then_n (ks85 _ _ ?_)
                refine wp_ret ?_
                refine inBlock_r ?_
                refine then_r ?_
                refine then_r ?_
                refine inBlock_r ?_
                refine exq_r ?_
                refine then_r ?_
                have q0 := of_some h
                subst q0
                have q0 := of_some hk0
                subst q0
                exact qq _ _ (post_ret (by kernel_rfl) (run_results [.tmp 4] [.bool false] (by kernel_rfl) (.cons (res_tmp (by kernel_rfl)) .nil)) ⟨congrArg Ending.returned (by kernel_rfl), hs.none⟩)
              · refine wpG.takeD 11 false (some 54) (.bool false) (by kernel_rfl) (by kernel_rfl) (yld_b (df hc) (fun _ => by kernel_rfl)) ?_
                refine wpG.takeD 12 false (some 55) (.bool false) (by kernel_rfl) (by kernel_rfl) (yld fun _ => by kernel_rfl) ?_
                refine wpG.takeD 13 false (some 56) (.bool false) (by kernel_rfl) (by kernel_rfl) (yld fun _ => by kernel_rfl) ?_
                refine wpG.takeD 14 false (some 57) (.int .i64 z11) (by kernel_rfl) (by kernel_rfl) (yld fun _ => by kernel_rfl) ?_
                obtain ⟨i0_86, h⟩ := of_chk h
                obtain ⟨i1_86, h⟩ := of_chk h
                refine wpG.takeD 15 false (some 58) (.pointer (some ⟨b5, 0 + (z11 : Int).toNat * 1, none⟩)) (by kernel_rfl) (by kernel_rfl) (yld_idx (t := 23) (e := 21) (n := 256) (sz := 1) (k := .i64) (x := z11) (by kernel_rfl) (by kernel_rfl) (by kernel_rfl) i0_86 i1_86) ?_
                refine wpG.takeD 16 true (some 59) (.int .i32 (rd r4 z11)) (by kernel_rfl) (by kernel_rfl) (yld_loadA (e := 21) (x := z11) hs 0 rfl (by kernel_rfl) (by kernel_rfl) i0_86 i1_86 .grow) ?_
                refine wpG.takeD 17 false (some 60) (.int .i64 x3) (by kernel_rfl) (by kernel_rfl) (yld fun _ => by kernel_rfl) ?_
                obtain ⟨h0, h⟩ := of_chk h
                refine wpG.takeD 18 false (some 61) (.int .i32 (ishl .i32 1 x3)) (by kernel_rfl) (by kernel_rfl) (yld_shl (t := 21) (k' := .i64) (by kernel_rfl) h0) ?_
                rcases of_if h with ⟨hc, h⟩ | ⟨hc, h⟩
                · refine wpG.takeD 19 false (some 62) (.bool true) (by kernel_rfl) (by kernel_rfl) (yld_b (dt hc) (fun _ => by kernel_rfl)) ?_
                  refine wpG.takeD 20 false (some 63) (.bool true) (by kernel_rfl) (by kernel_rfl) (yld fun _ => by kernel_rfl) ?_
                  refine wpG.fin (by kernel_rfl) rfl (kr _ _ ?_)
                  refine then_n (ks82 _ _ ?_)
                  refine wp_cond_t (by kernel_rfl) ?_
                  refine wp_seq_k fun KS87 ks87 => ?_
                  refine wp_regS (l := [0]) (by kernel_rfl) fun KR kr => ?_
                  refine wpS.take 0 false (some 4) (.bool false) (by kernel_rfl) (yld fun _ => by kernel_rfl) ?_
                  refine wpS.fin rfl (kr _ _ ?_)
                  refine then_n (ks87 _ _ ?_)
                  refine wp_ret ?_
                  refine inBlock_r ?_
                  refine then_r ?_
                  refine then_r ?_
                  refine inBlock_r ?_
                  refine exq_r ?_
                  refine then_r ?_
                  have q0 := of_some h
                  subst q0
                  have q0 := of_some hk0
                  subst q0
                  exact qq _ _ (post_ret (by kernel_rfl) (run_results [.tmp 4] [.bool false] (by kernel_rfl) (.cons (res_tmp (by kernel_rfl)) .nil)) ⟨congrArg Ending.returned (by kernel_rfl), hs.none⟩)
                · refine wpG.takeD 19 false (some 62) (.bool false) (by kernel_rfl) (by kernel_rfl) (yld_b (df hc) (fun _ => by kernel_rfl)) ?_
                  refine wpG.takeD 20 false (some 63) (.bool false) (by kernel_rfl) (by kernel_rfl) (yld fun _ => by kernel_rfl) ?_
                  refine wpG.fin (by kernel_rfl) rfl (kr _ _ ?_)
                  refine then_n (ks82 _ _ ?_)
                  refine wp_cond_f (by kernel_rfl) ?_
                  refine wp_skip ?_
                  refine inBlock_n ?_
                  refine then_n (ks80 _ _ ?_)
                  refine wp_regS (l := [0, 1]) (by kernel_rfl) fun KR kr => ?_
                  refine wpS.take 0 false (some 64) (.int .i64 (iadd .i64 z11 1)) (by kernel_rfl) (yld fun _ => by kernel_rfl) ?_
                  refine wpS.take 1 false (some 39) (.int .i64 (iadd .i64 z11 1)) (by kernel_rfl) (yld fun _ => by kernel_rfl) ?_
                  refine wpS.fin rfl (kr _ _ ?_)
                  exact then_n (kl0 _ _ ⟨n, Nat.lt_succ_self n, (iadd .i64 z11 1), h, (hs.conv rfl), exg (by kernel_rfl)⟩)
          · refine wpS.take 0 false (some 40) (.bool false) (by kernel_rfl) (yld_b (df hc) (fun _ => by kernel_rfl)) ?_
            refine wpS.fin rfl (kr _ _ ?_)
            refine then_n (ks71 _ _ ?_)
            refine wp_seq_k fun KS88 ks88 => ?_
            refine wp_cond_f (by kernel_rfl) ?_
            refine wp_exit ?_
            refine then_x ?_
            refine then_x ?_
            refine inBlock_hit ?_
            have q0 := of_some h
            subst q0
            exact exq_n (nn0 _ _ ⟨rfl, (hs.conv rfl), exg (by kernel_rfl)⟩)
      · clear hs h hy
        rintro a w ⟨rfl, hs, g, rfl⟩
        have h := hk0
        refine then_n (ks51 _ _ ?_)
        refine wp_seq_k fun KS89 ks89 => ?_
        refine wp_regS (l := [0, 1]) (by kernel_rfl) fun KR kr => ?_
        obtain ⟨r13, hg, h⟩ := of_bind h
        refine wpS.only 0 (op_call (d := (some 65)) (by kernel_rfl) hs (fun _ => by kernel_rfl) (law25_awake.ok hg _) ?_)
        intro w gw hs
        refine ⟨fun _ => trivial, ?_⟩
        refine wpS.take 1 false (some 4) (.bool r13) (by kernel_rfl) (yld fun _ => by kernel_rfl) ?_
        refine wpS.fin rfl (kr _ _ ?_)
        refine then_n (ks89 _ _ ?_)
        refine wp_ret ?_
        have q0 := of_some h
        subst q0
        exact qq _ _ (post_ret (by kernel_rfl) (run_results [.tmp 4] [.bool r13] (by kernel_rfl) (.cons (res_tmp (by kernel_rfl)) .nil)) ⟨congrArg Ending.returned (by kernel_rfl), hs.none⟩)
  | false =>
    have h := of_if_f h
    refine wpS.only 1 (op_call (d := (some 11)) (by kernel_rfl) hs (fun _ => by kernel_rfl) (ref25_Fit.ok hg _) ?_)
    intro w gw hs
    refine ⟨fun _ => trivial, ?_⟩
    refine wpS.take 2 false (some 12) (.bool true) (by kernel_rfl) (yld fun _ => by kernel_rfl) ?_
    refine wpS.fin rfl (kr _ _ ?_)
    refine then_n (ks5 _ _ ?_)
    refine wp_cond_t (by kernel_rfl) ?_
    refine wp_seq_k fun KS90 ks90 => ?_
    refine wp_regS (l := [0, 1]) (by kernel_rfl) fun KR kr => ?_
    obtain ⟨r14, hg, h⟩ := of_bind h
    refine wpS.only 0 (op_call (d := (some 13)) (by kernel_rfl) hs (fun _ => by kernel_rfl) (law25_awake.ok hg _) ?_)
    intro w gw hs
    refine ⟨fun _ => trivial, ?_⟩
    refine wpS.take 1 false (some 4) (.bool r14) (by kernel_rfl) (yld fun _ => by kernel_rfl) ?_
    refine wpS.fin rfl (kr _ _ ?_)
    refine then_n (ks90 _ _ ?_)
    refine wp_ret ?_
    refine then_r ?_
    have q0 := of_some h
    subst q0
    exact qq _ _ (post_ret (by kernel_rfl) (run_results [.tmp 4] [.bool r14] (by kernel_rfl) (.cons (res_tmp (by kernel_rfl)) .nil)) ⟨congrArg Ending.returned (by kernel_rfl), hs.none⟩)
end Go.Proofs.Ytijahfdldlmnhaa
