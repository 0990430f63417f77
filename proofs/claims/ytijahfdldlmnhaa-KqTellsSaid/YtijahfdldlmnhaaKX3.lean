/- Printed by this work's own program: the code of each function below comes to the answer that its plain form tells. -/
import Derived.Test.YtijahfdldlmnhaaMr
import Derived.Test.YtijahfdldlmnhaaProg
import Derived.Test.YtijahfdldlmnhaaKF0
import Derived.Test.YtijahfdldlmnhaaKX0
import Derived.Test.YtijahfdldlmnhaaKX1
import Derived.Test.YtijahfdldlmnhaaKX2
set_option linter.unusedVariables false
set_option linter.unusedSimpArgs false
set_option maxRecDepth 100000
set_option maxHeartbeats 4000000
namespace Go.Proofs.Ytijahfdldlmnhaa
open Go.Mx
attribute [local irreducible] wpOp

theorem kq_Pack.ok {K : Nat} {a0 : Arr 256} {a1 : Int} {r0 : List Int} (h : kq_Pack.f K a0 a1 = some r0) (w0 : World) : Calls Try.prog 46 #[.agg (enc .i32 a0).toArray, .int .i64 a1] w0 fun e w' => ∃ h : (Option Addr × Nat × Nat), e = .returned (.slice h.1 h.2.1 h.2.2) ∧ St w0 [] [.ownL (CI .u8) h.1 h.2.1 h.2.2 r0 5] [] w' := by
  refine calls_k Try.func46 rfl fun Q qq => ?_
  have hs := St.start w0
  refine wp_conv (a' := ⟨#[.agg (enc .i32 a0).toArray, .int .i64 a1, undef, undef, undef, undef, undef, undef, undef, undef, undef, undef, undef, undef, undef, undef, undef, undef, undef, undef, undef, undef, undef, undef, undef, undef, undef, undef, undef, undef, undef, undef, undef, undef, undef, undef], []⟩) (by kernel_rfl) ?_
  refine wp_seq_k fun KS1 ks1 => ?_
  refine wp_regS (l := [0, 1]) (by kernel_rfl) fun KR kr => ?_
  refine wpS.only 0 (op_box (t := 23) (v := .agg (enc .i32 a0).toArray) (d := (some 2)) (by kernel_rfl) hs (enc .i32 a0) (by kernel_rfl) (by kernel_rfl) ?_)
  intro b1 w gw hs
  refine ⟨fun _ => trivial, ?_⟩
  refine wpS.take 1 false (some 4) (.slice none 0 0) (by kernel_rfl) (yld fun _ => by kernel_rfl) ?_
  refine wpS.fin rfl (kr _ _ ?_)
  refine then_n (ks1 _ _ ?_)
  refine wp_seq_k fun KS6 ks6 => ?_
  refine wp_seq_k fun KS7 ks7 => ?_
  refine wp_regG [] (fun k => True) 13 (by kernel_rfl) (by kernel_rfl) fun KR kr => ?_
  have hs := hs.drawn1
  refine wpG.takeD 0 false (some 8) (.int .i64 a1) (by kernel_rfl) (by kernel_rfl) (yld fun _ => by kernel_rfl) ?_
  rcases of_if h with ⟨hc, h⟩ | ⟨hc, h⟩
  · refine wpG.takeD 1 false (some 9) (.bool true) (by kernel_rfl) (by kernel_rfl) (yld_b (dt hc) (fun _ => by kernel_rfl)) ?_
    refine wpG.takeD 2 false (some 10) (.bool true) (by kernel_rfl) (by kernel_rfl) (yld fun _ => by kernel_rfl) ?_
    refine wpG.takeD 3 false (some 11) (undef) (by kernel_rfl) (by kernel_rfl) (yld fun _ => by kernel_rfl) ?_
    refine wpG.takeD 4 false (some 12) (undef) (by kernel_rfl) (by kernel_rfl) (yld fun _ => by kernel_rfl) ?_
    refine wpG.takeD 5 false (some 13) (.bool true) (by kernel_rfl) (by kernel_rfl) (yld fun _ => by kernel_rfl) ?_
    refine wpG.takeD 6 false (some 14) (.bool true) (by kernel_rfl) (by kernel_rfl) (yld fun _ => by kernel_rfl) ?_
    refine wpG.takeD 7 false (some 15) (undef) (by kernel_rfl) (by kernel_rfl) (yld fun _ => by kernel_rfl) ?_
    refine wpG.takeD 8 false (some 16) (undef) (by kernel_rfl) (by kernel_rfl) (yld fun _ => by kernel_rfl) ?_
    refine wpG.takeD 9 false (some 17) (undef) (by kernel_rfl) (by kernel_rfl) (yld fun _ => by kernel_rfl) ?_
    refine wpG.takeD 10 false (some 18) (undef) (by kernel_rfl) (by kernel_rfl) (yld fun _ => by kernel_rfl) ?_
    refine wpG.takeD 11 false (some 19) (undef) (by kernel_rfl) (by kernel_rfl) (yld fun _ => by kernel_rfl) ?_
    refine wpG.takeD 12 false (some 20) (.bool true) (by kernel_rfl) (by kernel_rfl) (yld fun _ => by kernel_rfl) ?_
    refine wpG.fin (by kernel_rfl) rfl (kr _ _ ?_)
    refine then_n (ks7 _ _ ?_)
    refine wp_cond_t (by kernel_rfl) ?_
    refine wp_seq_k fun KS8 ks8 => ?_
    refine wp_regS (l := [0]) (by kernel_rfl) fun KR kr => ?_
    refine wpS.take 0 false (some 4) (.slice none 0 0) (by kernel_rfl) (yld fun _ => by kernel_rfl) ?_
    refine wpS.fin rfl (kr _ _ ?_)
    refine then_n (ks8 _ _ ?_)
    refine wp_ret ?_
    refine then_r ?_
    have q0 := of_some h
    subst q0
    have hs := hs.addNilL (CI .u8) 5
    exact qq _ _ (post_ret (by kernel_rfl) (run_results [.tmp 4] [.slice none 0 0] (by kernel_rfl) (.cons (res_tmp (by kernel_rfl)) .nil)) ⟨⟨none, 0, 0⟩, congrArg Ending.returned (by kernel_rfl), ((hs.conv (L' := [.ownL (CI .u8) none 0 0 ([] : List Int) 5, .blk b1 (enc .i32 a0) 23]) rfl).drop (.cons_cons _ (.cons _ .slnil)))⟩)
  · refine wpG.takeD 1 false (some 9) (.bool false) (by kernel_rfl) (by kernel_rfl) (yld_b (df hc) (fun _ => by kernel_rfl)) ?_
    refine wpG.takeD 2 false (some 10) (.bool false) (by kernel_rfl) (by kernel_rfl) (yld fun _ => by kernel_rfl) ?_
    refine wpG.takeD 3 false (some 11) (.int .i64 a1) (by kernel_rfl) (by kernel_rfl) (yld fun _ => by kernel_rfl) ?_
    rcases of_if h with ⟨hc, h⟩ | ⟨hc, h⟩
    · refine wpG.takeD 4 false (some 12) (.bool true) (by kernel_rfl) (by kernel_rfl) (yld_b (dt hc) (fun _ => by kernel_rfl)) ?_
      refine wpG.takeD 5 false (some 13) (.bool true) (by kernel_rfl) (by kernel_rfl) (yld fun _ => by kernel_rfl) ?_
      refine wpG.takeD 6 false (some 14) (.bool true) (by kernel_rfl) (by kernel_rfl) (yld fun _ => by kernel_rfl) ?_
      refine wpG.takeD 7 false (some 15) (undef) (by kernel_rfl) (by kernel_rfl) (yld fun _ => by kernel_rfl) ?_
      refine wpG.takeD 8 false (some 16) (undef) (by kernel_rfl) (by kernel_rfl) (yld fun _ => by kernel_rfl) ?_
      refine wpG.takeD 9 false (some 17) (undef) (by kernel_rfl) (by kernel_rfl) (yld fun _ => by kernel_rfl) ?_
      refine wpG.takeD 10 false (some 18) (undef) (by kernel_rfl) (by kernel_rfl) (yld fun _ => by kernel_rfl) ?_
      refine wpG.takeD 11 false (some 19) (undef) (by kernel_rfl) (by kernel_rfl) (yld fun _ => by kernel_rfl) ?_
      refine wpG.takeD 12 false (some 20) (.bool true) (by kernel_rfl) (by kernel_rfl) (yld fun _ => by kernel_rfl) ?_
      refine wpG.fin (by kernel_rfl) rfl (kr _ _ ?_)
      refine then_n (ks7 _ _ ?_)
      refine wp_cond_t (by kernel_rfl) ?_
      refine wp_seq_k fun KS9 ks9 => ?_
      refine wp_regS (l := [0]) (by kernel_rfl) fun KR kr => ?_
      refine wpS.take 0 false (some 4) (.slice none 0 0) (by kernel_rfl) (yld fun _ => by kernel_rfl) ?_
      refine wpS.fin rfl (kr _ _ ?_)
      refine then_n (ks9 _ _ ?_)
      refine wp_ret ?_
      refine then_r ?_
      have q0 := of_some h
      subst q0
      have hs := hs.addNilL (CI .u8) 5
      exact qq _ _ (post_ret (by kernel_rfl) (run_results [.tmp 4] [.slice none 0 0] (by kernel_rfl) (.cons (res_tmp (by kernel_rfl)) .nil)) ⟨⟨none, 0, 0⟩, congrArg Ending.returned (by kernel_rfl), ((hs.conv (L' := [.ownL (CI .u8) none 0 0 ([] : List Int) 5, .blk b1 (enc .i32 a0) 23]) rfl).drop (.cons_cons _ (.cons _ .slnil)))⟩)
    · refine wpG.takeD 4 false (some 12) (.bool false) (by kernel_rfl) (by kernel_rfl) (yld_b (df hc) (fun _ => by kernel_rfl)) ?_
      refine wpG.takeD 5 false (some 13) (.bool false) (by kernel_rfl) (by kernel_rfl) (yld fun _ => by kernel_rfl) ?_
      refine wpG.takeD 6 false (some 14) (.bool false) (by kernel_rfl) (by kernel_rfl) (yld fun _ => by kernel_rfl) ?_
      refine wpG.takeD 7 true (some 15) (.agg (enc .i32 a0).toArray) (by kernel_rfl) (by kernel_rfl) (yld_loadW (e := 23) (n := 256) hs 0 rfl (by kernel_rfl) (by kernel_rfl) (by kernel_rfl) (by exact enc_len _ _) .grow) ?_
      refine wpG.takeD 8 false (some 16) (.int .i64 a1) (by kernel_rfl) (by kernel_rfl) (yld fun _ => by kernel_rfl) ?_
      obtain ⟨r2, hg, h⟩ := of_bind h
      refine wpG.only 9 (by kernel_rfl) (op_call (d := (some 17)) (by kernel_rfl) hs (fun _ => by kernel_rfl) (kq_bound.ok hg _) ?_)
      intro w gw hs
      refine ⟨.of gw, ?_⟩
      obtain ⟨r3, hg, h⟩ := of_bind h
      cases r3 with
      | true =>
        have h := of_if_t h
        refine wpG.only 10 (by kernel_rfl) (op_call (d := (some 18)) (by kernel_rfl) hs (fun _ => by kernel_rfl) (kq_below.ok hg _) ?_)
        intro w gw hs
        refine ⟨.of gw, ?_⟩
        refine wpG.takeD 11 false (some 19) (.bool false) (by kernel_rfl) (by kernel_rfl) (yld fun _ => by kernel_rfl) ?_
        refine wpG.takeD 12 false (some 20) (.bool false) (by kernel_rfl) (by kernel_rfl) (yld fun _ => by kernel_rfl) ?_
        refine wpG.fin (by kernel_rfl) rfl (kr _ _ ?_)
        refine then_n (ks7 _ _ ?_)
        refine wp_cond_f (by kernel_rfl) ?_
        refine wp_skip ?_
        refine then_n (ks6 _ _ ?_)
        refine wp_seq_k fun KS10 ks10 => ?_
        refine wp_regS (l := [0, 1]) (by kernel_rfl) fun KR kr => ?_
        obtain ⟨h0, h⟩ := of_chk h
        obtain ⟨h1, h⟩ := of_chk h
        refine wpS.only 0 (op_makeT (C := (CI .u32)) (t := 56) (e := 58) (bytes := 4) (B := 35184372088832) (kl := .i64) (kc := .i64) (x := 256) (d := (some 21)) (by kernel_rfl) hs (by kernel_rfl) (by kernel_rfl) (by kernel_rfl) (by kernel_rfl) (by kernel_rfl) h0 h1 (by decide) (by decide) ?_)
        intro s4_A s4_n s4_c w gw hs
        refine ⟨fun _ => trivial, ?_⟩
        refine wpS.take 1 false (some 5) (.slice s4_A s4_n s4_c) (by kernel_rfl) (yld fun _ => by kernel_rfl) ?_
        refine wpS.fin rfl (kr _ _ ?_)
        refine then_n (ks10 _ _ ?_)
        refine wp_seq_k fun KS24 ks24 => ?_
        refine wp_seq_k fun KS25 ks25 => ?_
        refine wp_regS (l := [0, 1]) (by kernel_rfl) fun KR kr => ?_
        refine wpS.take 0 true (some 22) (.agg (enc .i32 a0).toArray) (by kernel_rfl) (yld_loadW (e := 23) (n := 256) hs 1 rfl (by kernel_rfl) (by kernel_rfl) (by kernel_rfl) (by exact enc_len _ _) .grow) ?_
        refine wpS.take 1 false (some 23) (.int .i64 0) (by kernel_rfl) (yld fun _ => by kernel_rfl) ?_
        refine wpS.fin rfl (kr _ _ ?_)
        refine then_n (ks25 _ _ ?_)
        obtain ⟨y7, hy, hk0⟩ := of_bind h
        refine wp_exq (N := fun a w => St w0 [] [.ownL (CI .u32) s4_A s4_n s4_c y7 58, .blk b1 (enc .i32 a0) 23] [] w ∧ ∃ g : Nat → Value, a = ⟨#[.agg (enc .i32 a0).toArray, .int .i64 a1, .pointer (some ⟨b1, 0, none⟩), undef, .slice none 0 0, .slice s4_A s4_n s4_c, (g 6), (g 7), .int .i64 a1, .bool false, .bool false, .int .i64 a1, .bool false, .bool false, .bool false, .agg (enc .i32 a0).toArray, .int .i64 a1, .int .i32 r2, .bool true, .bool false, .bool false, .slice s4_A s4_n s4_c, .agg (enc .i32 a0).toArray, (g 23), (g 24), (g 25), (g 26), (g 27), (g 28), (g 29), (g 30), (g 31), (g 32), undef, undef, undef], []⟩) (fun N0 nn0 => ?_) ?_
        · clear hk0
          refine wp_block ?_
          refine wp_loop_k (fun n a w => ∃ z5 z6, kq_Pack.l0 K n a0 z5 z6 = some y7 ∧ St w0 [] [.ownL (CI .u32) s4_A s4_n s4_c z6 58, .blk b1 (enc .i32 a0) 23] [] w ∧ ∃ g : Nat → Value, a = ⟨#[.agg (enc .i32 a0).toArray, .int .i64 a1, .pointer (some ⟨b1, 0, none⟩), undef, .slice none 0 0, .slice s4_A s4_n s4_c, (g 6), (g 7), .int .i64 a1, .bool false, .bool false, .int .i64 a1, .bool false, .bool false, .bool false, .agg (enc .i32 a0).toArray, .int .i64 a1, .int .i32 r2, .bool true, .bool false, .bool false, .slice s4_A s4_n s4_c, .agg (enc .i32 a0).toArray, .int .i64 z5, (g 24), (g 25), (g 26), (g 27), (g 28), (g 29), (g 30), (g 31), (g 32), undef, undef, undef], []⟩) K ⟨0, (List.replicate (256 : Int).toNat (Cod.zero (CI .u32))), hy, hs.conv rfl, exg (by kernel_rfl)⟩ ?_
          clear hs h hy
          rintro n a w ⟨z5, z6, h, hs, g, rfl⟩ KL0 kl0
          cases n with
          | zero => exact nomatch (show none = some _ from h)
          | succ n =>
            refine wp_seq_k fun KS32 ks32 => ?_
            refine wp_regS (l := [0]) (by kernel_rfl) fun KR kr => ?_
            rcases of_if h with ⟨hc, h⟩ | ⟨hc, h⟩
            · refine wpS.take 0 false (some 24) (.bool true) (by kernel_rfl) (yld_b (dt hc) (fun _ => by kernel_rfl)) ?_
              refine wpS.fin rfl (kr _ _ ?_)
              refine then_n (ks32 _ _ ?_)
              refine wp_seq_k fun KS33 ks33 => ?_
              refine wp_cond_t (by kernel_rfl) ?_
              refine wp_skip ?_
              refine then_n (ks33 _ _ ?_)
              refine wp_seq_k fun KS34 ks34 => ?_
              refine wp_block ?_
              refine wp_seq_k fun KS35 ks35 => ?_
              refine wp_regS (l := [0, 1, 2, 3]) (by kernel_rfl) fun KR kr => ?_
              refine wpS.take 0 false (some 25) (.int .i64 z5) (by kernel_rfl) (yld fun _ => by kernel_rfl) ?_
              obtain ⟨h0, h⟩ := of_chk h
              obtain ⟨h1, h⟩ := of_chk h
              refine wpS.take 1 false (some 26) (.int .i32 (rd a0 z5)) (by kernel_rfl) (yld_at (t := 23) (e := 21) (k' := .i64) (by kernel_rfl) (by kernel_rfl) (by kernel_rfl) (by kernel_rfl) h0 h1) ?_
              refine wpS.take 2 false (some 6) (.int .i64 z5) (by kernel_rfl) (yld fun _ => by kernel_rfl) ?_
              obtain ⟨x8, hx, h⟩ := of_bind h
              refine wpS.take 3 false (some 7) (.int .i32 x8) (by kernel_rfl) (yld_int hx (fun _ => by kernel_rfl)) ?_
              refine wpS.fin rfl (kr _ _ ?_)
              refine then_n (ks35 _ _ ?_)
              refine wp_regS (l := [0, 1, 2, 3, 4, 5]) (by kernel_rfl) fun KR kr => ?_
              refine wpS.take 0 false (some 27) (.slice s4_A s4_n s4_c) (by kernel_rfl) (yld fun _ => by kernel_rfl) ?_
              refine wpS.take 1 false (some 28) (.int .i64 z5) (by kernel_rfl) (yld fun _ => by kernel_rfl) ?_
              refine wpS.take 2 false (some 29) (.int .i32 x8) (by kernel_rfl) (yld fun _ => by kernel_rfl) ?_
              refine wpS.take 3 false (some 30) (.int .u32 (iconv .u32 x8)) (by kernel_rfl) (yld fun _ => by kernel_rfl) ?_
              obtain ⟨h0, h⟩ := of_chk h
              obtain ⟨h1, h⟩ := of_chk h
              have i0_36 := h0
              have i1_36 := h1
              refine wpS.take 4 false (some 31) (.pointer (adr s4_A ((z5 : Int).toNat * Cod.size (CI .u32)))) (by kernel_rfl) (yld_idxL (C := (CI .u32)) (t := 56) (e := 58) (k := .i64) (x := z5) (hs.rowL 0 rfl) (by kernel_rfl) (by kernel_rfl) (by kernel_rfl) h0 h1) ?_
              obtain ⟨x9, hx, h⟩ := of_bind h
              refine wpS.only 5 (op_storeL (C := (CI .u32)) (t := 58) (x := z5) (v := x9) (d := none) (by kernel_rfl) hs 0 rfl (by cases hx; kernel_rfl) (by kernel_rfl) i0_36 i1_36 ?_)
              intro w hs
              refine ⟨fun _ => trivial, ?_⟩
              refine wpS.fin rfl (kr _ _ ?_)
              refine inBlock_n ?_
              refine then_n (ks34 _ _ ?_)
              refine wp_regS (l := [0, 1]) (by kernel_rfl) fun KR kr => ?_
              refine wpS.take 0 false (some 32) (.int .i64 (iadd .i64 z5 1)) (by kernel_rfl) (yld fun _ => by kernel_rfl) ?_
              refine wpS.take 1 false (some 23) (.int .i64 (iadd .i64 z5 1)) (by kernel_rfl) (yld fun _ => by kernel_rfl) ?_
              refine wpS.fin rfl (kr _ _ ?_)
              exact then_n (kl0 _ _ ⟨n, Nat.lt_succ_self n, (iadd .i64 z5 1), (wrL z6 z5 x9), h, (hs.conv rfl), exg (by kernel_rfl)⟩)
            · refine wpS.take 0 false (some 24) (.bool false) (by kernel_rfl) (yld_b (df hc) (fun _ => by kernel_rfl)) ?_
              refine wpS.fin rfl (kr _ _ ?_)
              refine then_n (ks32 _ _ ?_)
              refine wp_seq_k fun KS37 ks37 => ?_
              refine wp_cond_f (by kernel_rfl) ?_
              refine wp_exit ?_
              refine then_x ?_
              refine then_x ?_
              refine inBlock_hit ?_
              have q0 := of_some h
              subst q0
              exact exq_n (nn0 _ _ ⟨(hs.conv rfl), exg (by kernel_rfl)⟩)
        · clear hs h hy
          rintro a w ⟨hs, g, rfl⟩
          have h := hk0
          refine then_n (ks24 _ _ ?_)
          refine wp_seq_k fun KS38 ks38 => ?_
          refine wp_regS (l := [0, 1, 2, 3]) (by kernel_rfl) fun KR kr => ?_
          refine wpS.take 0 false (some 33) (.slice s4_A s4_n s4_c) (by kernel_rfl) (yld fun _ => by kernel_rfl) ?_
          refine wpS.take 1 false (some 34) (.int .i64 a1) (by kernel_rfl) (yld fun _ => by kernel_rfl) ?_
          obtain ⟨r10, hg, h⟩ := of_bind h
          refine wpS.only 2 (op_callH (d := (some 35)) (by kernel_rfl) hs (fun _ => by kernel_rfl) (bits_Pack.ok hg _ (hs.rowL 0 rfl)) ?_)
          rintro ⟨r10_A, r10_n, r10_c⟩ w gw hs
          have hs := hs.conv (L' := [.ownL (CI .u8) r10_A r10_n r10_c r10 5, .ownL (CI .u32) s4_A s4_n s4_c y7 58, .blk b1 (enc .i32 a0) 23]) rfl
          refine ⟨fun _ => trivial, ?_⟩
          refine wpS.take 3 false (some 4) (.slice r10_A r10_n r10_c) (by kernel_rfl) (yld fun _ => by kernel_rfl) ?_
          refine wpS.fin rfl (kr _ _ ?_)
          refine then_n (ks38 _ _ ?_)
          refine wp_ret ?_
          have q0 := of_some h
          subst q0
          exact qq _ _ (post_ret (by kernel_rfl) (run_results [.tmp 4] [.slice r10_A r10_n r10_c] (by kernel_rfl) (.cons (res_tmp (by kernel_rfl)) .nil)) ⟨⟨r10_A, r10_n, r10_c⟩, congrArg Ending.returned (by kernel_rfl), ((hs.conv (L' := [.ownL (CI .u8) r10_A r10_n r10_c r10 5, .ownL (CI .u32) s4_A s4_n s4_c y7 58, .blk b1 (enc .i32 a0) 23]) rfl).drop (.cons_cons _ (.cons _ (.cons _ .slnil))))⟩)
      | false =>
        have h := of_if_f h
        refine wpG.only 10 (by kernel_rfl) (op_call (d := (some 18)) (by kernel_rfl) hs (fun _ => by kernel_rfl) (kq_below.ok hg _) ?_)
        intro w gw hs
        refine ⟨.of gw, ?_⟩
        refine wpG.takeD 11 false (some 19) (.bool true) (by kernel_rfl) (by kernel_rfl) (yld fun _ => by kernel_rfl) ?_
        refine wpG.takeD 12 false (some 20) (.bool true) (by kernel_rfl) (by kernel_rfl) (yld fun _ => by kernel_rfl) ?_
        refine wpG.fin (by kernel_rfl) rfl (kr _ _ ?_)
        refine then_n (ks7 _ _ ?_)
        refine wp_cond_t (by kernel_rfl) ?_
        refine wp_seq_k fun KS39 ks39 => ?_
        refine wp_regS (l := [0]) (by kernel_rfl) fun KR kr => ?_
        refine wpS.take 0 false (some 4) (.slice none 0 0) (by kernel_rfl) (yld fun _ => by kernel_rfl) ?_
        refine wpS.fin rfl (kr _ _ ?_)
        refine then_n (ks39 _ _ ?_)
        refine wp_ret ?_
        refine then_r ?_
        have q0 := of_some h
        subst q0
        have hs := hs.addNilL (CI .u8) 5
        exact qq _ _ (post_ret (by kernel_rfl) (run_results [.tmp 4] [.slice none 0 0] (by kernel_rfl) (.cons (res_tmp (by kernel_rfl)) .nil)) ⟨⟨none, 0, 0⟩, congrArg Ending.returned (by kernel_rfl), ((hs.conv (L' := [.ownL (CI .u8) none 0 0 ([] : List Int) 5, .blk b1 (enc .i32 a0) 23]) rfl).drop (.cons_cons _ (.cons _ .slnil)))⟩)

theorem ref01_Pack.ok {K : Nat} {a0 : List Int} {a1 : Int} {r0 : List Int} {a0_A : Option Addr} {a0_n : Nat} {a0_c : Nat} (h : ref01_Pack.f K a0 a1 = some r0) (w0 : World) (hp0 : RowL (CI .u32) w0 a0_A a0_n a0_c a0) : Calls Try.prog 75 #[.slice a0_A a0_n a0_c, .int .i64 a1] w0 fun e w' => ∃ h : (Option Addr × Nat × Nat), e = .returned (.slice h.1 h.2.1 h.2.2) ∧ St w0 [] [.ownL (CI .u8) h.1 h.2.1 h.2.2 r0 5] [] w' := by
  refine calls_k Try.func75 rfl fun Q qq => ?_
  have hs := St.startR (all_cons (RowP.ent hp0) all_nil)
  refine wp_conv (a' := ⟨#[.slice a0_A a0_n a0_c, .int .i64 a1, undef, undef, undef, undef, undef, undef, undef, undef, undef, undef, undef, undef, undef, undef, undef, undef, undef, undef, undef, undef, undef, undef, undef, undef, undef, undef, undef, undef, undef, undef, undef, undef, undef, undef, undef, undef, undef, undef, undef, undef, undef, undef, undef, undef, undef, undef, undef, undef, undef, undef, undef, undef, undef, undef, undef, undef, undef, undef], []⟩) (by kernel_rfl) ?_
  refine wp_seq_k fun KS1 ks1 => ?_
  refine wp_regS (l := [0]) (by kernel_rfl) fun KR kr => ?_
  refine wpS.take 0 false (some 4) (.slice none 0 0) (by kernel_rfl) (yld fun _ => by kernel_rfl) ?_
  refine wpS.fin rfl (kr _ _ ?_)
  refine then_n (ks1 _ _ ?_)
  refine wp_seq_k fun KS5 ks5 => ?_
  refine wp_seq_k fun KS6 ks6 => ?_
  refine wp_regS (l := [0, 1, 2, 3, 4, 5]) (by kernel_rfl) fun KR kr => ?_
  refine wpS.take 0 false (some 9) (.int .i64 a1) (by kernel_rfl) (yld fun _ => by kernel_rfl) ?_
  rcases of_if h with ⟨hc, h⟩ | ⟨hc, h⟩
  · refine wpS.take 1 false (some 10) (.bool true) (by kernel_rfl) (yld_b (dt hc) (fun _ => by kernel_rfl)) ?_
    refine wpS.take 2 false (some 11) (.bool true) (by kernel_rfl) (yld fun _ => by kernel_rfl) ?_
    refine wpS.take 3 false (some 12) (undef) (by kernel_rfl) (yld fun _ => by kernel_rfl) ?_
    refine wpS.take 4 false (some 13) (undef) (by kernel_rfl) (yld fun _ => by kernel_rfl) ?_
    refine wpS.take 5 false (some 14) (.bool true) (by kernel_rfl) (yld fun _ => by kernel_rfl) ?_
    refine wpS.fin rfl (kr _ _ ?_)
    refine then_n (ks6 _ _ ?_)
    refine wp_cond_t (by kernel_rfl) ?_
    refine wp_seq_k fun KS7 ks7 => ?_
    refine wp_regS (l := [0]) (by kernel_rfl) fun KR kr => ?_
    refine wpS.take 0 false (some 4) (.slice none 0 0) (by kernel_rfl) (yld fun _ => by kernel_rfl) ?_
    refine wpS.fin rfl (kr _ _ ?_)
    refine then_n (ks7 _ _ ?_)
    refine wp_ret ?_
    refine then_r ?_
    have q0 := of_some h
    subst q0
    have hs := hs.addNilL (CI .u8) 5
    exact qq _ _ (post_ret (by kernel_rfl) (run_results [.tmp 4] [.slice none 0 0] (by kernel_rfl) (.cons (res_tmp (by kernel_rfl)) .nil)) ⟨⟨none, 0, 0⟩, congrArg Ending.returned (by kernel_rfl), ((hs.conv (L' := [.ownL (CI .u8) none 0 0 ([] : List Int) 5]) rfl).pickR pick_nil)⟩)
  · refine wpS.take 1 false (some 10) (.bool false) (by kernel_rfl) (yld_b (df hc) (fun _ => by kernel_rfl)) ?_
    refine wpS.take 2 false (some 11) (.bool false) (by kernel_rfl) (yld fun _ => by kernel_rfl) ?_
    refine wpS.take 3 false (some 12) (.int .i64 a1) (by kernel_rfl) (yld fun _ => by kernel_rfl) ?_
    rcases of_if h with ⟨hc, h⟩ | ⟨hc, h⟩
    · refine wpS.take 4 false (some 13) (.bool true) (by kernel_rfl) (yld_b (dt hc) (fun _ => by kernel_rfl)) ?_
      refine wpS.take 5 false (some 14) (.bool true) (by kernel_rfl) (yld fun _ => by kernel_rfl) ?_
      refine wpS.fin rfl (kr _ _ ?_)
      refine then_n (ks6 _ _ ?_)
      refine wp_cond_t (by kernel_rfl) ?_
      refine wp_seq_k fun KS8 ks8 => ?_
      refine wp_regS (l := [0]) (by kernel_rfl) fun KR kr => ?_
      refine wpS.take 0 false (some 4) (.slice none 0 0) (by kernel_rfl) (yld fun _ => by kernel_rfl) ?_
      refine wpS.fin rfl (kr _ _ ?_)
      refine then_n (ks8 _ _ ?_)
      refine wp_ret ?_
      refine then_r ?_
      have q0 := of_some h
      subst q0
      have hs := hs.addNilL (CI .u8) 5
      exact qq _ _ (post_ret (by kernel_rfl) (run_results [.tmp 4] [.slice none 0 0] (by kernel_rfl) (.cons (res_tmp (by kernel_rfl)) .nil)) ⟨⟨none, 0, 0⟩, congrArg Ending.returned (by kernel_rfl), ((hs.conv (L' := [.ownL (CI .u8) none 0 0 ([] : List Int) 5]) rfl).pickR pick_nil)⟩)
    · refine wpS.take 4 false (some 13) (.bool false) (by kernel_rfl) (yld_b (df hc) (fun _ => by kernel_rfl)) ?_
      refine wpS.take 5 false (some 14) (.bool false) (by kernel_rfl) (yld fun _ => by kernel_rfl) ?_
      refine wpS.fin rfl (kr _ _ ?_)
      refine then_n (ks6 _ _ ?_)
      refine wp_cond_f (by kernel_rfl) ?_
      refine wp_skip ?_
      refine then_n (ks5 _ _ ?_)
      refine wp_seq_k fun KS9 ks9 => ?_
      refine wp_regS (l := [0, 1, 2, 3, 4, 5, 6, 7]) (by kernel_rfl) fun KR kr => ?_
      refine wpS.take 0 false (some 15) (.slice a0_A a0_n a0_c) (by kernel_rfl) (yld fun _ => by kernel_rfl) ?_
      refine wpS.take 1 false (some 16) (.int .i64 (a0.length : Int)) (by kernel_rfl) (yld_lenL (hs.rowR 0 rfl) (fun _ => by kernel_rfl)) ?_
      refine wpS.take 2 false (some 17) (.int .i64 a1) (by kernel_rfl) (yld fun _ => by kernel_rfl) ?_
      refine wpS.take 3 false (some 18) (.int .i64 (imul .i64 (a0.length : Int) a1)) (by kernel_rfl) (yld fun _ => by kernel_rfl) ?_
      refine wpS.take 4 false (some 19) (.int .i64 (iadd .i64 (imul .i64 (a0.length : Int) a1) 7)) (by kernel_rfl) (yld fun _ => by kernel_rfl) ?_
      refine wpS.take 5 false (some 20) (.int .i64 (iquo .i64 (iadd .i64 (imul .i64 (a0.length : Int) a1) 7) 8)) (by kernel_rfl) (yld fun _ => by kernel_rfl) ?_
      obtain ⟨h0, h⟩ := of_chk h
      obtain ⟨h1, h⟩ := of_chk h
      refine wpS.only 6 (op_makeT (C := (CI .u8)) (t := 39) (e := 5) (bytes := 1) (B := 140737488355328) (kl := .i64) (kc := .i64) (x := (iquo .i64 (iadd .i64 (imul .i64 (a0.length : Int) a1) 7) 8)) (d := (some 21)) (by kernel_rfl) hs (by kernel_rfl) (by kernel_rfl) (by kernel_rfl) (by kernel_rfl) (by kernel_rfl) h0 h1 (by decide) (by decide) ?_)
      intro s1_A s1_n s1_c w gw hs
      refine ⟨fun _ => trivial, ?_⟩
      refine wpS.take 7 false (some 5) (.slice s1_A s1_n s1_c) (by kernel_rfl) (yld fun _ => by kernel_rfl) ?_
      refine wpS.fin rfl (kr _ _ ?_)
      refine then_n (ks9 _ _ ?_)
      refine wp_seq_k fun KS111 ks111 => ?_
      refine wp_seq_k fun KS112 ks112 => ?_
      refine wp_regS (l := [0]) (by kernel_rfl) fun KR kr => ?_
      refine wpS.take 0 false (some 6) (.int .i64 0) (by kernel_rfl) (yld fun _ => by kernel_rfl) ?_
      refine wpS.fin rfl (kr _ _ ?_)
      refine then_n (ks112 _ _ ?_)
      obtain ⟨y4, hy, hk0⟩ := of_bind h
      refine wp_exq (N := fun a w => St w0 [] [.ownL (CI .u8) s1_A s1_n s1_c y4 5] [.rowL (CI .u32) a0_A a0_n a0_c a0] w ∧ ∃ g : Nat → Value, a = ⟨#[.slice a0_A a0_n a0_c, .int .i64 a1, undef, undef, .slice none 0 0, .slice s1_A s1_n s1_c, (g 6), (g 7), (g 8), .int .i64 a1, .bool false, .bool false, .int .i64 a1, .bool false, .bool false, .slice a0_A a0_n a0_c, .int .i64 (a0.length : Int), .int .i64 a1, .int .i64 (imul .i64 (a0.length : Int) a1), .int .i64 (iadd .i64 (imul .i64 (a0.length : Int) a1) 7), .int .i64 (iquo .i64 (iadd .i64 (imul .i64 (a0.length : Int) a1) 7) 8), .slice s1_A s1_n s1_c, (g 22), (g 23), (g 24), (g 25), (g 26), (g 27), (g 28), (g 29), (g 30), (g 31), (g 32), (g 33), (g 34), (g 35), (g 36), (g 37), (g 38), (g 39), (g 40), (g 41), (g 42), (g 43), (g 44), (g 45), (g 46), (g 47), (g 48), (g 49), (g 50), (g 51), (g 52), (g 53), (g 54), (g 55), (g 56), (g 57), (g 58), undef], []⟩) (fun N0 nn0 => ?_) ?_
      · clear hk0
        refine wp_block ?_
        refine wp_loop_k (fun n a w => ∃ z2 z3, ref01_Pack.l0 K n a0 a1 z2 z3 = some y4 ∧ St w0 [] [.ownL (CI .u8) s1_A s1_n s1_c z3 5] [.rowL (CI .u32) a0_A a0_n a0_c a0] w ∧ ∃ g : Nat → Value, a = ⟨#[.slice a0_A a0_n a0_c, .int .i64 a1, undef, undef, .slice none 0 0, .slice s1_A s1_n s1_c, .int .i64 z2, (g 7), (g 8), .int .i64 a1, .bool false, .bool false, .int .i64 a1, .bool false, .bool false, .slice a0_A a0_n a0_c, .int .i64 (a0.length : Int), .int .i64 a1, .int .i64 (imul .i64 (a0.length : Int) a1), .int .i64 (iadd .i64 (imul .i64 (a0.length : Int) a1) 7), .int .i64 (iquo .i64 (iadd .i64 (imul .i64 (a0.length : Int) a1) 7) 8), .slice s1_A s1_n s1_c, (g 22), (g 23), (g 24), (g 25), (g 26), (g 27), (g 28), (g 29), (g 30), (g 31), (g 32), (g 33), (g 34), (g 35), (g 36), (g 37), (g 38), (g 39), (g 40), (g 41), (g 42), (g 43), (g 44), (g 45), (g 46), (g 47), (g 48), (g 49), (g 50), (g 51), (g 52), (g 53), (g 54), (g 55), (g 56), (g 57), (g 58), undef], []⟩) K ⟨0, (List.replicate ((iquo .i64 (iadd .i64 (imul .i64 (a0.length : Int) a1) 7) 8) : Int).toNat (Cod.zero (CI .u8))), hy, hs.conv rfl, exg (by kernel_rfl)⟩ ?_
        clear hs h hy
        rintro n a w ⟨z2, z3, h, hs, g, rfl⟩ KL0 kl0
        cases n with
        | zero => exact nomatch (show none = some _ from h)
        | succ n =>
          refine wp_seq_k fun KS164 ks164 => ?_
          refine wp_seq_k fun KS165 ks165 => ?_
          refine wp_regS (l := [0, 1, 2, 3]) (by kernel_rfl) fun KR kr => ?_
          refine wpS.take 0 false (some 22) (.int .i64 z2) (by kernel_rfl) (yld fun _ => by kernel_rfl) ?_
          refine wpS.take 1 false (some 23) (.slice a0_A a0_n a0_c) (by kernel_rfl) (yld fun _ => by kernel_rfl) ?_
          refine wpS.take 2 false (some 24) (.int .i64 (a0.length : Int)) (by kernel_rfl) (yld_lenL (hs.rowR 0 rfl) (fun _ => by kernel_rfl)) ?_
          rcases of_if h with ⟨hc, h⟩ | ⟨hc, h⟩
          · refine wpS.take 3 false (some 25) (.bool true) (by kernel_rfl) (yld_b (dt hc) (fun _ => by kernel_rfl)) ?_
            refine wpS.fin rfl (kr _ _ ?_)
            refine then_n (ks165 _ _ ?_)
            refine wp_cond_t (by kernel_rfl) ?_
            refine wp_skip ?_
            refine then_n (ks164 _ _ ?_)
            refine wp_seq_k fun KS189 ks189 => ?_
            refine wp_block ?_
            refine wp_seq_k fun KS190 ks190 => ?_
            refine wp_regS (l := [0]) (by kernel_rfl) fun KR kr => ?_
            refine wpS.take 0 false (some 7) (.int .i64 0) (by kernel_rfl) (yld fun _ => by kernel_rfl) ?_
            refine wpS.fin rfl (kr _ _ ?_)
            refine then_n (ks190 _ _ ?_)
            obtain ⟨y7, hy, hk1⟩ := of_bind h
            refine wp_exq (N := fun a w => St w0 [] [.ownL (CI .u8) s1_A s1_n s1_c y7 5] [.rowL (CI .u32) a0_A a0_n a0_c a0] w ∧ ∃ g : Nat → Value, a = ⟨#[.slice a0_A a0_n a0_c, .int .i64 a1, undef, undef, .slice none 0 0, .slice s1_A s1_n s1_c, .int .i64 z2, (g 7), (g 8), .int .i64 a1, .bool false, .bool false, .int .i64 a1, .bool false, .bool false, .slice a0_A a0_n a0_c, .int .i64 (a0.length : Int), .int .i64 a1, .int .i64 (imul .i64 (a0.length : Int) a1), .int .i64 (iadd .i64 (imul .i64 (a0.length : Int) a1) 7), .int .i64 (iquo .i64 (iadd .i64 (imul .i64 (a0.length : Int) a1) 7) 8), .slice s1_A s1_n s1_c, .int .i64 z2, .slice a0_A a0_n a0_c, .int .i64 (a0.length : Int), .bool true, (g 26), (g 27), (g 28), (g 29), (g 30), (g 31), (g 32), (g 33), (g 34), (g 35), (g 36), (g 37), (g 38), (g 39), (g 40), (g 41), (g 42), (g 43), (g 44), (g 45), (g 46), (g 47), (g 48), (g 49), (g 50), (g 51), (g 52), (g 53), (g 54), (g 55), (g 56), (g 57), (g 58), undef], []⟩) (fun N1 nn1 => ?_) ?_
            · clear hk1
              refine wp_block ?_
              refine wp_loop_k (fun n a w => ∃ z5 z6, ref01_Pack.l1 K n a0 a1 z2 z5 z6 = some y7 ∧ St w0 [] [.ownL (CI .u8) s1_A s1_n s1_c z6 5] [.rowL (CI .u32) a0_A a0_n a0_c a0] w ∧ ∃ g : Nat → Value, a = ⟨#[.slice a0_A a0_n a0_c, .int .i64 a1, undef, undef, .slice none 0 0, .slice s1_A s1_n s1_c, .int .i64 z2, .int .i64 z5, (g 8), .int .i64 a1, .bool false, .bool false, .int .i64 a1, .bool false, .bool false, .slice a0_A a0_n a0_c, .int .i64 (a0.length : Int), .int .i64 a1, .int .i64 (imul .i64 (a0.length : Int) a1), .int .i64 (iadd .i64 (imul .i64 (a0.length : Int) a1) 7), .int .i64 (iquo .i64 (iadd .i64 (imul .i64 (a0.length : Int) a1) 7) 8), .slice s1_A s1_n s1_c, .int .i64 z2, .slice a0_A a0_n a0_c, .int .i64 (a0.length : Int), .bool true, (g 26), (g 27), (g 28), (g 29), (g 30), (g 31), (g 32), (g 33), (g 34), (g 35), (g 36), (g 37), (g 38), (g 39), (g 40), (g 41), (g 42), (g 43), (g 44), (g 45), (g 46), (g 47), (g 48), (g 49), (g 50), (g 51), (g 52), (g 53), (g 54), (g 55), (g 56), (g 57), (g 58), undef], []⟩) K ⟨0, z3, hy, hs.conv rfl, exg (by kernel_rfl)⟩ ?_
              clear hs h hy
              rintro n a w ⟨z5, z6, h, hs, g, rfl⟩ KL1 kl1
              cases n with
              | zero => exact nomatch (show none = some _ from h)
              | succ n =>
                refine wp_seq_k fun KS203 ks203 => ?_
                refine wp_seq_k fun KS204 ks204 => ?_
                refine wp_regS (l := [0, 1, 2]) (by kernel_rfl) fun KR kr => ?_
                refine wpS.take 0 false (some 28) (.int .i64 z5) (by kernel_rfl) (yld fun _ => by kernel_rfl) ?_
                refine wpS.take 1 false (some 29) (.int .i64 a1) (by kernel_rfl) (yld fun _ => by kernel_rfl) ?_
                rcases of_if h with ⟨hc, h⟩ | ⟨hc, h⟩
                · refine wpS.take 2 false (some 30) (.bool true) (by kernel_rfl) (yld_b (dt hc) (fun _ => by kernel_rfl)) ?_
                  refine wpS.fin rfl (kr _ _ ?_)
                  refine then_n (ks204 _ _ ?_)
                  refine wp_cond_t (by kernel_rfl) ?_
                  refine wp_skip ?_
                  refine then_n (ks203 _ _ ?_)
                  refine wp_seq_k fun KS205 ks205 => ?_
                  refine wp_block ?_
                  refine wp_seq_k fun KS206 ks206 => ?_
                  refine wp_regS (l := [0, 1, 2, 3, 4, 5]) (by kernel_rfl) fun KR kr => ?_
                  refine wpS.take 0 false (some 33) (.int .i64 z2) (by kernel_rfl) (yld fun _ => by kernel_rfl) ?_
                  refine wpS.take 1 false (some 34) (.int .i64 a1) (by kernel_rfl) (yld fun _ => by kernel_rfl) ?_
                  refine wpS.take 2 false (some 35) (.int .i64 (imul .i64 z2 a1)) (by kernel_rfl) (yld fun _ => by kernel_rfl) ?_
                  refine wpS.take 3 false (some 36) (.int .i64 z5) (by kernel_rfl) (yld fun _ => by kernel_rfl) ?_
                  refine wpS.take 4 false (some 37) (.int .i64 (iadd .i64 (imul .i64 z2 a1) z5)) (by kernel_rfl) (yld fun _ => by kernel_rfl) ?_
                  obtain ⟨x8, hx, h⟩ := of_bind h
                  refine wpS.take 5 false (some 8) (.int .i64 x8) (by kernel_rfl) (yld_int hx (fun _ => by kernel_rfl)) ?_
                  refine wpS.fin rfl (kr _ _ ?_)
                  refine then_n (ks206 _ _ ?_)
                  refine wp_regG [21] (fun k => True) 22 (by kernel_rfl) (by kernel_rfl) fun KR kr => ?_
                  have hs := hs.drawn1
                  refine wpG.takeD 0 false (some 38) (.slice s1_A s1_n s1_c) (by kernel_rfl) (by kernel_rfl) (yld fun _ => by kernel_rfl) ?_
                  refine wpG.takeD 1 false (some 39) (.int .i64 x8) (by kernel_rfl) (by kernel_rfl) (yld fun _ => by kernel_rfl) ?_
                  refine wpG.takeD 2 false (some 40) (.int .i64 (iquo .i64 x8 8)) (by kernel_rfl) (by kernel_rfl) (yld fun _ => by kernel_rfl) ?_
                  refine wpG.takeD 3 false (some 41) (.slice s1_A s1_n s1_c) (by kernel_rfl) (by kernel_rfl) (yld fun _ => by kernel_rfl) ?_
                  refine wpG.takeD 4 false (some 42) (.int .i64 x8) (by kernel_rfl) (by kernel_rfl) (yld fun _ => by kernel_rfl) ?_
                  refine wpG.takeD 5 false (some 43) (.int .i64 (iquo .i64 x8 8)) (by kernel_rfl) (by kernel_rfl) (yld fun _ => by kernel_rfl) ?_
                  obtain ⟨x9, hx, h⟩ := of_bind h
                  have hx := of_some hx
                  subst hx
                  obtain ⟨h0, h⟩ := of_chk h
                  obtain ⟨h1, h⟩ := of_chk h
                  have i0_210 := h0
                  have i1_210 := h1
                  refine wpG.takeD 6 false (some 44) (.pointer (adr s1_A (((iquo .i64 x8 8) : Int).toNat * Cod.size (CI .u8)))) (by kernel_rfl) (by kernel_rfl) (yld_idxL (C := (CI .u8)) (t := 39) (e := 5) (k := .i64) (x := (iquo .i64 x8 8)) (hs.rowL 0 rfl) (by kernel_rfl) (by kernel_rfl) (by kernel_rfl) h0 h1) ?_
                  refine wpG.takeD 7 true (some 45) (.int .u8 (rdL (CI .u8) z6 (iquo .i64 x8 8))) (by kernel_rfl) (by kernel_rfl) (yld_loadL (C := (CI .u8)) (e := 5) (x := (iquo .i64 x8 8)) (hs.rowL 0 rfl) (by kernel_rfl) rfl (by kernel_rfl) i0_210 i1_210) ?_
                  refine wpG.takeD 8 false (some 46) (.slice a0_A a0_n a0_c) (by kernel_rfl) (by kernel_rfl) (yld fun _ => by kernel_rfl) ?_
                  refine wpG.takeD 9 false (some 47) (.int .i64 z2) (by kernel_rfl) (by kernel_rfl) (yld fun _ => by kernel_rfl) ?_
                  obtain ⟨h0, h⟩ := of_chk h
                  obtain ⟨h1, h⟩ := of_chk h
                  have i0_211 := h0
                  have i1_211 := h1
                  refine wpG.takeD 10 false (some 48) (.pointer (adr a0_A ((z2 : Int).toNat * Cod.size (CI .u32)))) (by kernel_rfl) (by kernel_rfl) (yld_idxL (C := (CI .u32)) (t := 56) (e := 58) (k := .i64) (x := z2) (hs.rowR 0 rfl) (by kernel_rfl) (by kernel_rfl) (by kernel_rfl) h0 h1) ?_
                  refine wpG.takeD 11 true (some 49) (.int .u32 (rdL (CI .u32) a0 z2)) (by kernel_rfl) (by kernel_rfl) (yld_loadL (C := (CI .u32)) (e := 58) (x := z2) (hs.rowR 0 rfl) (by kernel_rfl) rfl (by kernel_rfl) i0_211 i1_211) ?_
                  refine wpG.takeD 12 false (some 50) (.int .i64 z5) (by kernel_rfl) (by kernel_rfl) (yld fun _ => by kernel_rfl) ?_
                  obtain ⟨h0, h⟩ := of_chk h
                  refine wpG.takeD 13 false (some 51) (.int .u32 (ishr .u32 (rdL (CI .u32) a0 z2) z5)) (by kernel_rfl) (by kernel_rfl) (yld_shr (t := 58) (k' := .i64) (by kernel_rfl) h0) ?_
                  refine wpG.takeD 14 false (some 52) (.int .u32 (iand .u32 (ishr .u32 (rdL (CI .u32) a0 z2) z5) 1)) (by kernel_rfl) (by kernel_rfl) (yld fun _ => by kernel_rfl) ?_
                  refine wpG.takeD 15 false (some 53) (.int .u8 (iconv .u8 (iand .u32 (ishr .u32 (rdL (CI .u32) a0 z2) z5) 1))) (by kernel_rfl) (by kernel_rfl) (yld fun _ => by kernel_rfl) ?_
                  refine wpG.takeD 16 false (some 54) (.int .i64 x8) (by kernel_rfl) (by kernel_rfl) (yld fun _ => by kernel_rfl) ?_
                  refine wpG.takeD 17 false (some 55) (.int .i64 (irem .i64 x8 8)) (by kernel_rfl) (by kernel_rfl) (yld fun _ => by kernel_rfl) ?_
                  obtain ⟨h0, h⟩ := of_chk h
                  refine wpG.takeD 18 false (some 56) (.int .u8 (ishl .u8 (iconv .u8 (iand .u32 (ishr .u32 (rdL (CI .u32) a0 z2) z5) 1)) (irem .i64 x8 8))) (by kernel_rfl) (by kernel_rfl) (yld_shl (t := 5) (k' := .i64) (by kernel_rfl) h0) ?_
                  refine wpG.takeD 19 false (some 57) (.int .u8 (ior .u8 (rdL (CI .u8) z6 (iquo .i64 x8 8)) (ishl .u8 (iconv .u8 (iand .u32 (ishr .u32 (rdL (CI .u32) a0 z2) z5) 1)) (irem .i64 x8 8)))) (by kernel_rfl) (by kernel_rfl) (yld fun _ => by kernel_rfl) ?_
                  obtain ⟨x10, hx, h⟩ := of_bind h
                  have hx := of_some hx
                  subst hx
                  obtain ⟨h0, h⟩ := of_chk h
                  obtain ⟨h1, h⟩ := of_chk h
                  have i0_212 := h0
                  have i1_212 := h1
                  refine wpG.takeD 20 false (some 58) (.pointer (adr s1_A (((iquo .i64 x8 8) : Int).toNat * Cod.size (CI .u8)))) (by kernel_rfl) (by kernel_rfl) (yld_idxL (C := (CI .u8)) (t := 39) (e := 5) (k := .i64) (x := (iquo .i64 x8 8)) (hs.rowL 0 rfl) (by kernel_rfl) (by kernel_rfl) (by kernel_rfl) h0 h1) ?_
                  obtain ⟨x11, hx, h⟩ := of_bind h
                  refine wpG.only 21 (by kernel_rfl) (op_storeL (C := (CI .u8)) (t := 5) (x := (iquo .i64 x8 8)) (v := x11) (d := none) (by kernel_rfl) hs 0 rfl (by cases hx; kernel_rfl) (by kernel_rfl) i0_212 i1_212 ?_)
                  intro w hs
                  refine ⟨⟨fun hf => absurd hf (by decide), .all _ _⟩, ?_⟩
                  refine wpG.fin (by kernel_rfl) rfl (kr _ _ ?_)
                  refine inBlock_n ?_
                  refine then_n (ks205 _ _ ?_)
                  refine wp_regS (l := [0, 1, 2]) (by kernel_rfl) fun KR kr => ?_
                  refine wpS.take 0 false (some 31) (.int .i64 z5) (by kernel_rfl) (yld fun _ => by kernel_rfl) ?_
                  refine wpS.take 1 false (some 32) (.int .i64 (iadd .i64 z5 1)) (by kernel_rfl) (yld fun _ => by kernel_rfl) ?_
                  obtain ⟨x12, hx, h⟩ := of_bind h
                  refine wpS.take 2 false (some 7) (.int .i64 x12) (by kernel_rfl) (yld_int hx (fun _ => by kernel_rfl)) ?_
                  refine wpS.fin rfl (kr _ _ ?_)
                  exact then_n (kl1 _ _ ⟨n, Nat.lt_succ_self n, x12, (wrL z6 (iquo .i64 x8 8) x11), h, (hs.conv rfl), exg (by kernel_rfl)⟩)
                · refine wpS.take 2 false (some 30) (.bool false) (by kernel_rfl) (yld_b (df hc) (fun _ => by kernel_rfl)) ?_
                  refine wpS.fin rfl (kr _ _ ?_)
                  refine then_n (ks204 _ _ ?_)
                  refine wp_cond_f (by kernel_rfl) ?_
                  refine wp_exit ?_
                  refine then_x ?_
                  refine then_x ?_
                  refine inBlock_hit ?_
                  have q0 := of_some h
                  subst q0
                  exact exq_n (nn1 _ _ ⟨(hs.conv rfl), exg (by kernel_rfl)⟩)
            · clear hs h hy
              rintro a w ⟨hs, g, rfl⟩
              have h := hk1
              refine inBlock_n ?_
              refine then_n (ks189 _ _ ?_)
              refine wp_regS (l := [0, 1, 2]) (by kernel_rfl) fun KR kr => ?_
              refine wpS.take 0 false (some 26) (.int .i64 z2) (by kernel_rfl) (yld fun _ => by kernel_rfl) ?_
              refine wpS.take 1 false (some 27) (.int .i64 (iadd .i64 z2 1)) (by kernel_rfl) (yld fun _ => by kernel_rfl) ?_
              obtain ⟨x13, hx, h⟩ := of_bind h
              refine wpS.take 2 false (some 6) (.int .i64 x13) (by kernel_rfl) (yld_int hx (fun _ => by kernel_rfl)) ?_
              refine wpS.fin rfl (kr _ _ ?_)
              exact then_n (kl0 _ _ ⟨n, Nat.lt_succ_self n, x13, y7, h, (hs.conv rfl), exg (by kernel_rfl)⟩)
          · refine wpS.take 3 false (some 25) (.bool false) (by kernel_rfl) (yld_b (df hc) (fun _ => by kernel_rfl)) ?_
            refine wpS.fin rfl (kr _ _ ?_)
            refine then_n (ks165 _ _ ?_)
            refine wp_cond_f (by kernel_rfl) ?_
            refine wp_exit ?_
            refine then_x ?_
            refine then_x ?_
            refine inBlock_hit ?_
            have q0 := of_some h
            subst q0
            exact exq_n (nn0 _ _ ⟨(hs.conv rfl), exg (by kernel_rfl)⟩)
      · clear hs h hy
        rintro a w ⟨hs, g, rfl⟩
        have h := hk0
        refine then_n (ks111 _ _ ?_)
        refine wp_seq_k fun KS213 ks213 => ?_
        refine wp_regS (l := [0, 1]) (by kernel_rfl) fun KR kr => ?_
        refine wpS.take 0 false (some 59) (.slice s1_A s1_n s1_c) (by kernel_rfl) (yld fun _ => by kernel_rfl) ?_
        refine wpS.take 1 false (some 4) (.slice s1_A s1_n s1_c) (by kernel_rfl) (yld fun _ => by kernel_rfl) ?_
        refine wpS.fin rfl (kr _ _ ?_)
        refine then_n (ks213 _ _ ?_)
        refine wp_ret ?_
        have q0 := of_some h
        subst q0
        exact qq _ _ (post_ret (by kernel_rfl) (run_results [.tmp 4] [.slice s1_A s1_n s1_c] (by kernel_rfl) (.cons (res_tmp (by kernel_rfl)) .nil)) ⟨⟨s1_A, s1_n, s1_c⟩, congrArg Ending.returned (by kernel_rfl), ((hs.conv (L' := [.ownL (CI .u8) s1_A s1_n s1_c y4 5]) rfl).pickR pick_nil)⟩)

theorem ref25_Pack.ok {K : Nat} {a0 : Arr 256} {a1 : Int} {r0 : List Int} (h : ref25_Pack.f K a0 a1 = some r0) (w0 : World) : Calls Try.prog 47 #[.agg (enc .i32 a0).toArray, .int .i64 a1] w0 fun e w' => ∃ h : (Option Addr × Nat × Nat), e = .returned (.slice h.1 h.2.1 h.2.2) ∧ St w0 [] [.ownL (CI .u8) h.1 h.2.1 h.2.2 r0 5] [] w' := by
  refine calls_k Try.func47 rfl fun Q qq => ?_
  have hs := St.start w0
  refine wp_conv (a' := ⟨#[.agg (enc .i32 a0).toArray, .int .i64 a1, undef, undef, undef, undef, undef, undef, undef, undef, undef, undef, undef, undef, undef, undef, undef, undef, undef, undef, undef, undef, undef, undef, undef, undef, undef, undef, undef, undef, undef, undef, undef, undef], []⟩) (by kernel_rfl) ?_
  refine wp_seq_k fun KS1 ks1 => ?_
  refine wp_regS (l := [0, 1]) (by kernel_rfl) fun KR kr => ?_
  refine wpS.only 0 (op_box (t := 23) (v := .agg (enc .i32 a0).toArray) (d := (some 2)) (by kernel_rfl) hs (enc .i32 a0) (by kernel_rfl) (by kernel_rfl) ?_)
  intro b1 w gw hs
  refine ⟨fun _ => trivial, ?_⟩
  refine wpS.take 1 false (some 4) (.slice none 0 0) (by kernel_rfl) (yld fun _ => by kernel_rfl) ?_
  refine wpS.fin rfl (kr _ _ ?_)
  refine then_n (ks1 _ _ ?_)
  refine wp_seq_k fun KS6 ks6 => ?_
  refine wp_seq_k fun KS7 ks7 => ?_
  refine wp_regG [] (fun k => True) 13 (by kernel_rfl) (by kernel_rfl) fun KR kr => ?_
  have hs := hs.drawn1
  refine wpG.takeD 0 false (some 7) (.int .i64 a1) (by kernel_rfl) (by kernel_rfl) (yld fun _ => by kernel_rfl) ?_
  rcases of_if h with ⟨hc, h⟩ | ⟨hc, h⟩
  · refine wpG.takeD 1 false (some 8) (.bool true) (by kernel_rfl) (by kernel_rfl) (yld_b (dt hc) (fun _ => by kernel_rfl)) ?_
    refine wpG.takeD 2 false (some 9) (.bool true) (by kernel_rfl) (by kernel_rfl) (yld fun _ => by kernel_rfl) ?_
    refine wpG.takeD 3 false (some 10) (undef) (by kernel_rfl) (by kernel_rfl) (yld fun _ => by kernel_rfl) ?_
    refine wpG.takeD 4 false (some 11) (undef) (by kernel_rfl) (by kernel_rfl) (yld fun _ => by kernel_rfl) ?_
    refine wpG.takeD 5 false (some 12) (.bool true) (by kernel_rfl) (by kernel_rfl) (yld fun _ => by kernel_rfl) ?_
    refine wpG.takeD 6 false (some 13) (.bool true) (by kernel_rfl) (by kernel_rfl) (yld fun _ => by kernel_rfl) ?_
    refine wpG.takeD 7 false (some 14) (undef) (by kernel_rfl) (by kernel_rfl) (yld fun _ => by kernel_rfl) ?_
    refine wpG.takeD 8 false (some 15) (undef) (by kernel_rfl) (by kernel_rfl) (yld fun _ => by kernel_rfl) ?_
    refine wpG.takeD 9 false (some 16) (undef) (by kernel_rfl) (by kernel_rfl) (yld fun _ => by kernel_rfl) ?_
    refine wpG.takeD 10 false (some 17) (undef) (by kernel_rfl) (by kernel_rfl) (yld fun _ => by kernel_rfl) ?_
    refine wpG.takeD 11 false (some 18) (undef) (by kernel_rfl) (by kernel_rfl) (yld fun _ => by kernel_rfl) ?_
    refine wpG.takeD 12 false (some 19) (.bool true) (by kernel_rfl) (by kernel_rfl) (yld fun _ => by kernel_rfl) ?_
    refine wpG.fin (by kernel_rfl) rfl (kr _ _ ?_)
    refine then_n (ks7 _ _ ?_)
    refine wp_cond_t (by kernel_rfl) ?_
    refine wp_seq_k fun KS8 ks8 => ?_
    refine wp_regS (l := [0]) (by kernel_rfl) fun KR kr => ?_
    refine wpS.take 0 false (some 4) (.slice none 0 0) (by kernel_rfl) (yld fun _ => by kernel_rfl) ?_
    refine wpS.fin rfl (kr _ _ ?_)
    refine then_n (ks8 _ _ ?_)
    refine wp_ret ?_
    refine then_r ?_
    have q0 := of_some h
    subst q0
    have hs := hs.addNilL (CI .u8) 5
    exact qq _ _ (post_ret (by kernel_rfl) (run_results [.tmp 4] [.slice none 0 0] (by kernel_rfl) (.cons (res_tmp (by kernel_rfl)) .nil)) ⟨⟨none, 0, 0⟩, congrArg Ending.returned (by kernel_rfl), ((hs.conv (L' := [.ownL (CI .u8) none 0 0 ([] : List Int) 5, .blk b1 (enc .i32 a0) 23]) rfl).drop (.cons_cons _ (.cons _ .slnil)))⟩)
  · refine wpG.takeD 1 false (some 8) (.bool false) (by kernel_rfl) (by kernel_rfl) (yld_b (df hc) (fun _ => by kernel_rfl)) ?_
    refine wpG.takeD 2 false (some 9) (.bool false) (by kernel_rfl) (by kernel_rfl) (yld fun _ => by kernel_rfl) ?_
    refine wpG.takeD 3 false (some 10) (.int .i64 a1) (by kernel_rfl) (by kernel_rfl) (yld fun _ => by kernel_rfl) ?_
    rcases of_if h with ⟨hc, h⟩ | ⟨hc, h⟩
    · refine wpG.takeD 4 false (some 11) (.bool true) (by kernel_rfl) (by kernel_rfl) (yld_b (dt hc) (fun _ => by kernel_rfl)) ?_
      refine wpG.takeD 5 false (some 12) (.bool true) (by kernel_rfl) (by kernel_rfl) (yld fun _ => by kernel_rfl) ?_
      refine wpG.takeD 6 false (some 13) (.bool true) (by kernel_rfl) (by kernel_rfl) (yld fun _ => by kernel_rfl) ?_
      refine wpG.takeD 7 false (some 14) (undef) (by kernel_rfl) (by kernel_rfl) (yld fun _ => by kernel_rfl) ?_
      refine wpG.takeD 8 false (some 15) (undef) (by kernel_rfl) (by kernel_rfl) (yld fun _ => by kernel_rfl) ?_
      refine wpG.takeD 9 false (some 16) (undef) (by kernel_rfl) (by kernel_rfl) (yld fun _ => by kernel_rfl) ?_
      refine wpG.takeD 10 false (some 17) (undef) (by kernel_rfl) (by kernel_rfl) (yld fun _ => by kernel_rfl) ?_
      refine wpG.takeD 11 false (some 18) (undef) (by kernel_rfl) (by kernel_rfl) (yld fun _ => by kernel_rfl) ?_
      refine wpG.takeD 12 false (some 19) (.bool true) (by kernel_rfl) (by kernel_rfl) (yld fun _ => by kernel_rfl) ?_
      refine wpG.fin (by kernel_rfl) rfl (kr _ _ ?_)
      refine then_n (ks7 _ _ ?_)
      refine wp_cond_t (by kernel_rfl) ?_
      refine wp_seq_k fun KS9 ks9 => ?_
      refine wp_regS (l := [0]) (by kernel_rfl) fun KR kr => ?_
      refine wpS.take 0 false (some 4) (.slice none 0 0) (by kernel_rfl) (yld fun _ => by kernel_rfl) ?_
      refine wpS.fin rfl (kr _ _ ?_)
      refine then_n (ks9 _ _ ?_)
      refine wp_ret ?_
      refine then_r ?_
      have q0 := of_some h
      subst q0
      have hs := hs.addNilL (CI .u8) 5
      exact qq _ _ (post_ret (by kernel_rfl) (run_results [.tmp 4] [.slice none 0 0] (by kernel_rfl) (.cons (res_tmp (by kernel_rfl)) .nil)) ⟨⟨none, 0, 0⟩, congrArg Ending.returned (by kernel_rfl), ((hs.conv (L' := [.ownL (CI .u8) none 0 0 ([] : List Int) 5, .blk b1 (enc .i32 a0) 23]) rfl).drop (.cons_cons _ (.cons _ .slnil)))⟩)
    · refine wpG.takeD 4 false (some 11) (.bool false) (by kernel_rfl) (by kernel_rfl) (yld_b (df hc) (fun _ => by kernel_rfl)) ?_
      refine wpG.takeD 5 false (some 12) (.bool false) (by kernel_rfl) (by kernel_rfl) (yld fun _ => by kernel_rfl) ?_
      refine wpG.takeD 6 false (some 13) (.bool false) (by kernel_rfl) (by kernel_rfl) (yld fun _ => by kernel_rfl) ?_
      refine wpG.takeD 7 true (some 14) (.agg (enc .i32 a0).toArray) (by kernel_rfl) (by kernel_rfl) (yld_loadW (e := 23) (n := 256) hs 0 rfl (by kernel_rfl) (by kernel_rfl) (by kernel_rfl) (by exact enc_len _ _) .grow) ?_
      refine wpG.takeD 8 false (some 15) (.int .i64 a1) (by kernel_rfl) (by kernel_rfl) (yld fun _ => by kernel_rfl) ?_
      obtain ⟨r2, hg, h⟩ := of_bind h
      refine wpG.only 9 (by kernel_rfl) (op_call (d := (some 16)) (by kernel_rfl) hs (fun _ => by kernel_rfl) (ref25_bound.ok hg _) ?_)
      intro w gw hs
      refine ⟨.of gw, ?_⟩
      obtain ⟨r3, hg, h⟩ := of_bind h
      cases r3 with
      | true =>
        have h := of_if_t h
        refine wpG.only 10 (by kernel_rfl) (op_call (d := (some 17)) (by kernel_rfl) hs (fun _ => by kernel_rfl) (ref25_Below.ok hg _) ?_)
        intro w gw hs
        refine ⟨.of gw, ?_⟩
        refine wpG.takeD 11 false (some 18) (.bool false) (by kernel_rfl) (by kernel_rfl) (yld fun _ => by kernel_rfl) ?_
        refine wpG.takeD 12 false (some 19) (.bool false) (by kernel_rfl) (by kernel_rfl) (yld fun _ => by kernel_rfl) ?_
        refine wpG.fin (by kernel_rfl) rfl (kr _ _ ?_)
        refine then_n (ks7 _ _ ?_)
        refine wp_cond_f (by kernel_rfl) ?_
        refine wp_skip ?_
        refine then_n (ks6 _ _ ?_)
        refine wp_seq_k fun KS10 ks10 => ?_
        refine wp_regS (l := [0]) (by kernel_rfl) fun KR kr => ?_
        refine wpS.take 0 false (some 5) (.slice none 0 0) (by kernel_rfl) (yld fun _ => by kernel_rfl) ?_
        refine wpS.fin rfl (kr _ _ ?_)
        refine then_n (ks10 _ _ ?_)
        refine wp_seq_k fun KS27 ks27 => ?_
        refine wp_seq_k fun KS28 ks28 => ?_
        refine wp_regS (l := [0]) (by kernel_rfl) fun KR kr => ?_
        refine wpS.take 0 false (some 6) (.int .i64 0) (by kernel_rfl) (yld fun _ => by kernel_rfl) ?_
        refine wpS.fin rfl (kr _ _ ?_)
        refine then_n (ks28 _ _ ?_)
        have hs := hs.addNilL (CI .u32) 58
        obtain ⟨y6, hy, hk0⟩ := of_bind h
        refine wp_exq (N := fun a w => ∃ (y6_A : Option Addr) (y6_n : Nat) (y6_c : Nat), St w0 [] [.ownL (CI .u32) y6_A y6_n y6_c y6 58, .blk b1 (enc .i32 a0) 23] [] w ∧ ∃ g : Nat → Value, a = ⟨#[.agg (enc .i32 a0).toArray, .int .i64 a1, .pointer (some ⟨b1, 0, none⟩), undef, .slice none 0 0, .slice y6_A y6_n y6_c, (g 6), .int .i64 a1, .bool false, .bool false, .int .i64 a1, .bool false, .bool false, .bool false, .agg (enc .i32 a0).toArray, .int .i64 a1, .int .i32 r2, .bool true, .bool false, .bool false, (g 20), (g 21), (g 22), (g 23), (g 24), (g 25), (g 26), (g 27), (g 28), (g 29), (g 30), undef, undef, undef], []⟩) (fun N0 nn0 => ?_) ?_
        · clear hk0
          refine wp_block ?_
          refine wp_loop_k (fun n a w => ∃ z4 z5, ∃ (z5_A : Option Addr) (z5_n : Nat) (z5_c : Nat), ref25_Pack.l0 K n a0 z4 z5 = some y6 ∧ St w0 [] [.ownL (CI .u32) z5_A z5_n z5_c z5 58, .blk b1 (enc .i32 a0) 23] [] w ∧ ∃ g : Nat → Value, a = ⟨#[.agg (enc .i32 a0).toArray, .int .i64 a1, .pointer (some ⟨b1, 0, none⟩), undef, .slice none 0 0, .slice z5_A z5_n z5_c, .int .i64 z4, .int .i64 a1, .bool false, .bool false, .int .i64 a1, .bool false, .bool false, .bool false, .agg (enc .i32 a0).toArray, .int .i64 a1, .int .i32 r2, .bool true, .bool false, .bool false, (g 20), (g 21), (g 22), (g 23), (g 24), (g 25), (g 26), (g 27), (g 28), (g 29), (g 30), undef, undef, undef], []⟩) K ⟨0, ([] : List Int), none, 0, 0, hy, hs.conv rfl, exg (by kernel_rfl)⟩ ?_
          clear hs h hy
          rintro n a w ⟨z4, z5, z5_A, z5_n, z5_c, h, hs, g, rfl⟩ KL0 kl0
          cases n with
          | zero => exact nomatch (show none = some _ from h)
          | succ n =>
            refine wp_seq_k fun KS40 ks40 => ?_
            refine wp_seq_k fun KS41 ks41 => ?_
            refine wp_regS (l := [0, 1]) (by kernel_rfl) fun KR kr => ?_
            refine wpS.take 0 false (some 20) (.int .i64 z4) (by kernel_rfl) (yld fun _ => by kernel_rfl) ?_
            rcases of_if h with ⟨hc, h⟩ | ⟨hc, h⟩
            · refine wpS.take 1 false (some 21) (.bool true) (by kernel_rfl) (yld_b (dt hc) (fun _ => by kernel_rfl)) ?_
              refine wpS.fin rfl (kr _ _ ?_)
              refine then_n (ks41 _ _ ?_)
              refine wp_cond_t (by kernel_rfl) ?_
              refine wp_skip ?_
              refine then_n (ks40 _ _ ?_)
              refine wp_seq_k fun KS42 ks42 => ?_
              refine wp_block ?_
              refine wp_regS (l := [0, 1, 2, 3, 4, 5, 6, 7]) (by kernel_rfl) fun KR kr => ?_
              refine wpS.take 0 false (some 24) (.slice z5_A z5_n z5_c) (by kernel_rfl) (yld fun _ => by kernel_rfl) ?_
              refine wpS.take 1 false (some 25) (.int .i64 z4) (by kernel_rfl) (yld fun _ => by kernel_rfl) ?_
              obtain ⟨i0_43, h⟩ := of_chk h
              obtain ⟨i1_43, h⟩ := of_chk h
              refine wpS.take 2 false (some 26) (.pointer (some ⟨b1, 0 + (z4 : Int).toNat * 1, none⟩)) (by kernel_rfl) (yld_idx (t := 23) (e := 21) (n := 256) (sz := 1) (k := .i64) (x := z4) (by kernel_rfl) (by kernel_rfl) (by kernel_rfl) i0_43 i1_43) ?_
              refine wpS.take 3 true (some 27) (.int .i32 (rd a0 z4)) (by kernel_rfl) (yld_loadA (e := 21) (x := z4) hs 1 rfl (by kernel_rfl) (by kernel_rfl) i0_43 i1_43 .grow) ?_
              refine wpS.take 4 false (some 28) (.int .u32 (iconv .u32 (rd a0 z4))) (by kernel_rfl) (yld fun _ => by kernel_rfl) ?_
              refine wpS.only 5 (op_lit (C := (CI .u32)) (t := 56) (e := 58) (len := 1) (parts := #[(0, .int .u32 (iconv .u32 (rd a0 z4)))]) (l := [(iconv .u32 (rd a0 z4))]) (d := (some 29)) (by kernel_rfl) hs (by kernel_rfl) (by kernel_rfl) (by kernel_rfl) (z := .int .u32 0) (by kernel_rfl) rfl (by decide) (by decide) (by kernel_rfl) ?_)
              intro s7_A s7_n s7_c w gw hs
              refine ⟨fun _ => trivial, ?_⟩
              obtain ⟨h0, h⟩ := of_chk h
              refine wpS.only 6 (op_appendT (C := (CI .u32)) (t := 56) (ty := 56) (e := 58) (bytes := 4) (B := 35184372088832) (d := (some 30)) (by kernel_rfl) hs 1 rfl (hs.rowL 0 rfl) (by kernel_rfl) (by kernel_rfl) (by kernel_rfl) (by kernel_rfl) (by kernel_rfl) h0 (by decide) (by decide) ?_)
              intro s8_A s8_n s8_c w hs
              refine ⟨fun _ => trivial, ?_⟩
              refine wpS.take 7 false (some 5) (.slice s8_A s8_n s8_c) (by kernel_rfl) (yld fun _ => by kernel_rfl) ?_
              refine wpS.fin rfl (kr _ _ ?_)
              refine inBlock_n ?_
              refine then_n (ks42 _ _ ?_)
              refine wp_regS (l := [0, 1, 2]) (by kernel_rfl) fun KR kr => ?_
              refine wpS.take 0 false (some 22) (.int .i64 z4) (by kernel_rfl) (yld fun _ => by kernel_rfl) ?_
              refine wpS.take 1 false (some 23) (.int .i64 (iadd .i64 z4 1)) (by kernel_rfl) (yld fun _ => by kernel_rfl) ?_
              obtain ⟨x9, hx, h⟩ := of_bind h
              refine wpS.take 2 false (some 6) (.int .i64 x9) (by kernel_rfl) (yld_int hx (fun _ => by kernel_rfl)) ?_
              refine wpS.fin rfl (kr _ _ ?_)
              exact then_n (kl0 _ _ ⟨n, Nat.lt_succ_self n, x9, (z5 ++ ([(iconv .u32 (rd a0 z4))] : List Int)), s8_A, s8_n, s8_c, h, ((hs.conv (L' := [.ownL (CI .u32) s7_A s7_n s7_c ([(iconv .u32 (rd a0 z4))] : List Int) 58, .ownL (CI .u32) s8_A s8_n s8_c (z5 ++ ([(iconv .u32 (rd a0 z4))] : List Int)) 58, .blk b1 (enc .i32 a0) 23]) rfl).drop (.cons _ (.cons_cons _ (.cons_cons _ .slnil)))), exg (by kernel_rfl)⟩)
            · refine wpS.take 1 false (some 21) (.bool false) (by kernel_rfl) (yld_b (df hc) (fun _ => by kernel_rfl)) ?_
              refine wpS.fin rfl (kr _ _ ?_)
              refine then_n (ks41 _ _ ?_)
              refine wp_cond_f (by kernel_rfl) ?_
              refine wp_exit ?_
              refine then_x ?_
              refine then_x ?_
              refine inBlock_hit ?_
              have q0 := of_some h
              subst q0
              exact exq_n (nn0 _ _ ⟨z5_A, z5_n, z5_c, (hs.conv rfl), exg (by kernel_rfl)⟩)
        · clear hs h hy
          rintro a w ⟨y6_A, y6_n, y6_c, hs, g, rfl⟩
          have h := hk0
          refine then_n (ks27 _ _ ?_)
          refine wp_seq_k fun KS44 ks44 => ?_
          refine wp_regS (l := [0, 1, 2, 3]) (by kernel_rfl) fun KR kr => ?_
          refine wpS.take 0 false (some 31) (.slice y6_A y6_n y6_c) (by kernel_rfl) (yld fun _ => by kernel_rfl) ?_
          refine wpS.take 1 false (some 32) (.int .i64 a1) (by kernel_rfl) (yld fun _ => by kernel_rfl) ?_
          obtain ⟨r10, hg, h⟩ := of_bind h
          refine wpS.only 2 (op_callH (d := (some 33)) (by kernel_rfl) hs (fun _ => by kernel_rfl) (ref01_Pack.ok hg _ (hs.rowL 0 rfl)) ?_)
          rintro ⟨r10_A, r10_n, r10_c⟩ w gw hs
          have hs := hs.conv (L' := [.ownL (CI .u8) r10_A r10_n r10_c r10 5, .ownL (CI .u32) y6_A y6_n y6_c y6 58, .blk b1 (enc .i32 a0) 23]) rfl
          refine ⟨fun _ => trivial, ?_⟩
          refine wpS.take 3 false (some 4) (.slice r10_A r10_n r10_c) (by kernel_rfl) (yld fun _ => by kernel_rfl) ?_
          refine wpS.fin rfl (kr _ _ ?_)
          refine then_n (ks44 _ _ ?_)
          refine wp_ret ?_
          have q0 := of_some h
          subst q0
          exact qq _ _ (post_ret (by kernel_rfl) (run_results [.tmp 4] [.slice r10_A r10_n r10_c] (by kernel_rfl) (.cons (res_tmp (by kernel_rfl)) .nil)) ⟨⟨r10_A, r10_n, r10_c⟩, congrArg Ending.returned (by kernel_rfl), ((hs.conv (L' := [.ownL (CI .u8) r10_A r10_n r10_c r10 5, .ownL (CI .u32) y6_A y6_n y6_c y6 58, .blk b1 (enc .i32 a0) 23]) rfl).drop (.cons_cons _ (.cons _ (.cons _ .slnil))))⟩)
      | false =>
        have h := of_if_f h
        refine wpG.only 10 (by kernel_rfl) (op_call (d := (some 17)) (by kernel_rfl) hs (fun _ => by kernel_rfl) (ref25_Below.ok hg _) ?_)
        intro w gw hs
        refine ⟨.of gw, ?_⟩
        refine wpG.takeD 11 false (some 18) (.bool true) (by kernel_rfl) (by kernel_rfl) (yld fun _ => by kernel_rfl) ?_
        refine wpG.takeD 12 false (some 19) (.bool true) (by kernel_rfl) (by kernel_rfl) (yld fun _ => by kernel_rfl) ?_
        refine wpG.fin (by kernel_rfl) rfl (kr _ _ ?_)
        refine then_n (ks7 _ _ ?_)
        refine wp_cond_t (by kernel_rfl) ?_
        refine wp_seq_k fun KS45 ks45 => ?_
        refine wp_regS (l := [0]) (by kernel_rfl) fun KR kr => ?_
        refine wpS.take 0 false (some 4) (.slice none 0 0) (by kernel_rfl) (yld fun _ => by kernel_rfl) ?_
        refine wpS.fin rfl (kr _ _ ?_)
        refine then_n (ks45 _ _ ?_)
        refine wp_ret ?_
        refine then_r ?_
        have q0 := of_some h
        subst q0
        have hs := hs.addNilL (CI .u8) 5
        exact qq _ _ (post_ret (by kernel_rfl) (run_results [.tmp 4] [.slice none 0 0] (by kernel_rfl) (.cons (res_tmp (by kernel_rfl)) .nil)) ⟨⟨none, 0, 0⟩, congrArg Ending.returned (by kernel_rfl), ((hs.conv (L' := [.ownL (CI .u8) none 0 0 ([] : List Int) 5, .blk b1 (enc .i32 a0) 23]) rfl).drop (.cons_cons _ (.cons _ .slnil)))⟩)

theorem kq_Fit.ok {K : Nat} {a0 : Arr 256} {r0 : Bool} (h : kq_Fit.f K a0 = some r0) (w0 : World) : Ret Try.prog 48 #[.agg (enc .i32 a0).toArray] w0 (.bool r0) := by
  refine calls_k Try.func48 rfl fun Q qq => ?_
  have hs := St.start w0
  refine wp_conv (a' := ⟨#[.agg (enc .i32 a0).toArray, undef, undef, undef, undef], []⟩) (by kernel_rfl) ?_
  refine wp_seq_k fun KS1 ks1 => ?_
  refine wp_regS (l := [0, 1]) (by kernel_rfl) fun KR kr => ?_
  refine wpS.only 0 (op_box (t := 23) (v := .agg (enc .i32 a0).toArray) (d := (some 1)) (by kernel_rfl) hs (enc .i32 a0) (by kernel_rfl) (by kernel_rfl) ?_)
  intro b1 w gw hs
  refine ⟨fun _ => trivial, ?_⟩
  refine wpS.take 1 false (some 2) (.bool false) (by kernel_rfl) (yld fun _ => by kernel_rfl) ?_
  refine wpS.fin rfl (kr _ _ ?_)
  refine then_n (ks1 _ _ ?_)
  refine wp_seq_k fun KS2 ks2 => ?_
  refine wp_regS (l := [0, 1, 2]) (by kernel_rfl) fun KR kr => ?_
  refine wpS.take 0 true (some 3) (.agg (enc .i32 a0).toArray) (by kernel_rfl) (yld_loadW (e := 23) (n := 256) hs 0 rfl (by kernel_rfl) (by kernel_rfl) (by kernel_rfl) (by exact enc_len _ _) .grow) ?_
  obtain ⟨r2, hg, h⟩ := of_bind h
  refine wpS.only 1 (op_call (d := (some 4)) (by kernel_rfl) hs (fun _ => by kernel_rfl) (kq_below.ok hg _) ?_)
  intro w gw hs
  refine ⟨fun _ => trivial, ?_⟩
  refine wpS.take 2 false (some 2) (.bool r2) (by kernel_rfl) (yld fun _ => by kernel_rfl) ?_
  refine wpS.fin rfl (kr _ _ ?_)
  refine then_n (ks2 _ _ ?_)
  refine wp_ret ?_
  have q0 := of_some h
  subst q0
  exact qq _ _ (post_ret (by kernel_rfl) (run_results [.tmp 2] [.bool r2] (by kernel_rfl) (.cons (res_tmp (by kernel_rfl)) .nil)) ⟨congrArg Ending.returned (by kernel_rfl), hs.none⟩)

theorem kq_Add.ok {K : Nat} {a0 : Arr 256} {a1 : Arr 256} {r0 : Arr 256} (h : kq_Add.f K a0 a1 = some r0) (w0 : World) : Ret Try.prog 49 #[.agg (enc .i32 a0).toArray, .agg (enc .i32 a1).toArray] w0 (.agg (enc .i32 r0).toArray) := by
  refine calls_k Try.func49 rfl fun Q qq => ?_
  have hs := St.start w0
  refine wp_conv (a' := ⟨#[.agg (enc .i32 a0).toArray, .agg (enc .i32 a1).toArray, undef, undef, undef, undef, undef, undef, undef, undef, undef, undef, undef, undef, undef, undef, undef, undef, undef, undef, undef, undef, undef, undef, undef, undef, undef, undef], []⟩) (by kernel_rfl) ?_
  refine wp_seq_k fun KS1 ks1 => ?_
  refine wp_regS (l := [0, 1, 2]) (by kernel_rfl) fun KR kr => ?_
  refine wpS.only 0 (op_box (t := 23) (v := .agg (enc .i32 a0).toArray) (d := (some 2)) (by kernel_rfl) hs (enc .i32 a0) (by kernel_rfl) (by kernel_rfl) ?_)
  intro b1 w gw hs
  refine ⟨fun _ => trivial, ?_⟩
  refine wpS.only 1 (op_box (t := 23) (v := .agg (enc .i32 a1).toArray) (d := (some 3)) (by kernel_rfl) hs (enc .i32 a1) (by kernel_rfl) (by kernel_rfl) ?_)
  intro b2 w gw hs
  refine ⟨fun _ => trivial, ?_⟩
  refine wpS.only 2 (op_alloc (t := 23) (d := (some 4)) (by kernel_rfl) hs (enc .i32 (zeroA 256)) (.agg (enc .i32 (zeroA 256)).toArray) (by kernel_rfl) (by kernel_rfl) (by kernel_rfl) ?_)
  intro b3 w gw hs
  refine ⟨fun _ => trivial, ?_⟩
  refine wpS.fin rfl (kr _ _ ?_)
  refine then_n (ks1 _ _ ?_)
  refine wp_seq_k fun KS83 ks83 => ?_
  refine wp_seq_k fun KS84 ks84 => ?_
  refine wp_regS (l := [0]) (by kernel_rfl) fun KR kr => ?_
  refine wpS.take 0 false (some 6) (.int .i64 0) (by kernel_rfl) (yld fun _ => by kernel_rfl) ?_
  refine wpS.fin rfl (kr _ _ ?_)
  refine then_n (ks84 _ _ ?_)
  obtain ⟨y6, hy, hk0⟩ := of_bind h
  refine wp_exq (N := fun a w => St w0 [] [.blk b3 (enc .i32 (zeroA 256)) 23, .blk b2 (enc .i32 a1) 23, .blk b1 (enc .i32 y6) 23] [] w ∧ ∃ g : Nat → Value, a = ⟨#[.agg (enc .i32 a0).toArray, .agg (enc .i32 a1).toArray, .pointer (some ⟨b1, 0, none⟩), .pointer (some ⟨b2, 0, none⟩), .pointer (some ⟨b3, 0, none⟩), (g 5), (g 6), (g 7), (g 8), (g 9), (g 10), (g 11), (g 12), (g 13), (g 14), (g 15), (g 16), (g 17), (g 18), (g 19), (g 20), (g 21), (g 22), (g 23), (g 24), (g 25), (g 26), undef], []⟩) (fun N0 nn0 => ?_) ?_
  · clear hk0
    refine wp_block ?_
    refine wp_loop_k (fun n a w => ∃ z4 z5, kq_Add.l0 K n a1 z4 z5 = some y6 ∧ St w0 [] [.blk b3 (enc .i32 (zeroA 256)) 23, .blk b2 (enc .i32 a1) 23, .blk b1 (enc .i32 z5) 23] [] w ∧ ∃ g : Nat → Value, a = ⟨#[.agg (enc .i32 a0).toArray, .agg (enc .i32 a1).toArray, .pointer (some ⟨b1, 0, none⟩), .pointer (some ⟨b2, 0, none⟩), .pointer (some ⟨b3, 0, none⟩), (g 5), .int .i64 z4, (g 7), (g 8), (g 9), (g 10), (g 11), (g 12), (g 13), (g 14), (g 15), (g 16), (g 17), (g 18), (g 19), (g 20), (g 21), (g 22), (g 23), (g 24), (g 25), (g 26), undef], []⟩) K ⟨0, a0, hy, hs.conv rfl, exg (by kernel_rfl)⟩ ?_
    clear hs h hy
    rintro n a w ⟨z4, z5, h, hs, g, rfl⟩ KL0 kl0
    cases n with
    | zero => exact nomatch (show none = some _ from h)
    | succ n =>
      refine wp_seq_k fun KS125 ks125 => ?_
      refine wp_regS (l := [0]) (by kernel_rfl) fun KR kr => ?_
      rcases of_if h with ⟨hc, h⟩ | ⟨hc, h⟩
      · refine wpS.take 0 false (some 7) (.bool true) (by kernel_rfl) (yld_b (dt hc) (fun _ => by kernel_rfl)) ?_
        refine wpS.fin rfl (kr _ _ ?_)
        refine then_n (ks125 _ _ ?_)
        refine wp_seq_k fun KS126 ks126 => ?_
        refine wp_cond_t (by kernel_rfl) ?_
        refine wp_skip ?_
        refine then_n (ks126 _ _ ?_)
        obtain ⟨y7, hj, h⟩ := of_bind h
        refine wp_seq_k fun KS163 ks163 => wp_join (N := fun a w => St w0 [] [.blk b3 (enc .i32 (zeroA 256)) 23, .blk b2 (enc .i32 a1) 23, .blk b1 (enc .i32 y7) 23] [] w ∧ ∃ g : Nat → Value, a = ⟨#[.agg (enc .i32 a0).toArray, .agg (enc .i32 a1).toArray, .pointer (some ⟨b1, 0, none⟩), .pointer (some ⟨b2, 0, none⟩), .pointer (some ⟨b3, 0, none⟩), (g 5), .int .i64 z4, .bool true, (g 8), (g 9), (g 10), (g 11), (g 12), (g 13), (g 14), (g 15), (g 16), (g 17), (g 18), (g 19), (g 20), (g 21), (g 22), (g 23), (g 24), (g 25), (g 26), undef], []⟩) (fun N nj => ?_) ?_
        · clear h
          have h := hj
          refine wp_block ?_
          refine wp_seq_k fun KS151 ks151 => ?_
          refine wp_regS (l := [0, 1]) (by kernel_rfl) fun KR kr => ?_
          refine wpS.take 0 false (some 8) (.int .i64 z4) (by kernel_rfl) (yld fun _ => by kernel_rfl) ?_
          refine wpS.take 1 false (some 5) (.int .i64 z4) (by kernel_rfl) (yld fun _ => by kernel_rfl) ?_
          refine wpS.fin rfl (kr _ _ ?_)
          refine then_n (ks151 _ _ ?_)
          refine wp_seq_k fun KS152 ks152 => ?_
          refine wp_regG [8] (fun k => k = b1) 9 (by kernel_rfl) (by kernel_rfl) fun KR kr => ?_
          have hs := hs.drawn1
          refine wpG.takeD 0 false (some 9) (.int .i64 z4) (by kernel_rfl) (by kernel_rfl) (yld fun _ => by kernel_rfl) ?_
          obtain ⟨i0_156, h⟩ := of_chk h
          obtain ⟨i1_156, h⟩ := of_chk h
          refine wpG.takeD 1 false (some 10) (.pointer (some ⟨b1, 0 + (z4 : Int).toNat * 1, none⟩)) (by kernel_rfl) (by kernel_rfl) (yld_idx (t := 23) (e := 21) (n := 256) (sz := 1) (k := .i64) (x := z4) (by kernel_rfl) (by kernel_rfl) (by kernel_rfl) i0_156 i1_156) ?_
          refine wpG.takeD 2 true (some 11) (.int .i32 (rd z5 z4)) (by kernel_rfl) (by kernel_rfl) (yld_loadA (e := 21) (x := z4) hs 2 rfl (by kernel_rfl) (by kernel_rfl) i0_156 i1_156 .grow) ?_
          refine wpG.takeD 3 false (some 12) (.int .i64 z4) (by kernel_rfl) (by kernel_rfl) (yld fun _ => by kernel_rfl) ?_
          obtain ⟨i0_157, h⟩ := of_chk h
          obtain ⟨i1_157, h⟩ := of_chk h
          refine wpG.takeD 4 false (some 13) (.pointer (some ⟨b2, 0 + (z4 : Int).toNat * 1, none⟩)) (by kernel_rfl) (by kernel_rfl) (yld_idx (t := 23) (e := 21) (n := 256) (sz := 1) (k := .i64) (x := z4) (by kernel_rfl) (by kernel_rfl) (by kernel_rfl) i0_157 i1_157) ?_
          refine wpG.takeD 5 true (some 14) (.int .i32 (rd a1 z4)) (by kernel_rfl) (by kernel_rfl) (yld_loadA (e := 21) (x := z4) hs 1 rfl (by kernel_rfl) (by kernel_rfl) i0_157 i1_157 .grow) ?_
          refine wpG.takeD 6 false (some 15) (.int .i32 (iadd .i32 (rd z5 z4) (rd a1 z4))) (by kernel_rfl) (by kernel_rfl) (yld fun _ => by kernel_rfl) ?_
          obtain ⟨i0_158, h⟩ := of_chk h
          obtain ⟨i1_158, h⟩ := of_chk h
          refine wpG.takeD 7 false (some 16) (.pointer (some ⟨b1, 0 + (z4 : Int).toNat * 1, none⟩)) (by kernel_rfl) (by kernel_rfl) (yld_idx (t := 23) (e := 21) (n := 256) (sz := 1) (k := .i64) (x := z4) (by kernel_rfl) (by kernel_rfl) (by kernel_rfl) i0_158 i1_158) ?_
          obtain ⟨x8, hx, h⟩ := of_bind h
          refine wpG.only 8 (by kernel_rfl) (op_storeA (t := 21) (x := z4) (v := x8) (d := none) (by kernel_rfl) hs 2 rfl (by cases hx; kernel_rfl) (by kernel_rfl) i0_158 i1_158 ?_)
          intro w kp hs
          refine ⟨⟨fun hf => absurd hf (by decide), kp.mono fun _ h => h⟩, ?_⟩
          refine wpG.fin (by kernel_rfl) rfl (kr _ _ ?_)
          refine then_n (ks152 _ _ ?_)
          refine wp_seq_k fun KS159 ks159 => ?_
          refine wp_regS (l := [0, 1, 2, 3]) (by kernel_rfl) fun KR kr => ?_
          refine wpS.take 0 false (some 17) (.int .i64 z4) (by kernel_rfl) (yld fun _ => by kernel_rfl) ?_
          obtain ⟨i0_160, h⟩ := of_chk h
          obtain ⟨i1_160, h⟩ := of_chk h
          refine wpS.take 1 false (some 18) (.pointer (some ⟨b1, 0 + (z4 : Int).toNat * 1, none⟩)) (by kernel_rfl) (yld_idx (t := 23) (e := 21) (n := 256) (sz := 1) (k := .i64) (x := z4) (by kernel_rfl) (by kernel_rfl) (by kernel_rfl) i0_160 i1_160) ?_
          refine wpS.take 2 true (some 19) (.int .i32 (rd (wr z5 z4 x8) z4)) (by kernel_rfl) (yld_loadA (e := 21) (x := z4) hs 2 rfl (by kernel_rfl) (by kernel_rfl) i0_160 i1_160 .grow) ?_
          rcases of_if h with ⟨hc, h⟩ | ⟨hc, h⟩
          · refine wpS.take 3 false (some 20) (.bool true) (by kernel_rfl) (yld_b (dt hc) (fun _ => by kernel_rfl)) ?_
            refine wpS.fin rfl (kr _ _ ?_)
            refine then_n (ks159 _ _ ?_)
            refine wp_cond_t (by kernel_rfl) ?_
            refine wp_regS (l := [0, 1, 2, 3, 4, 5]) (by kernel_rfl) fun KR kr => ?_
            refine wpS.take 0 false (some 21) (.int .i64 z4) (by kernel_rfl) (yld fun _ => by kernel_rfl) ?_
            obtain ⟨i0_161, h⟩ := of_chk h
            obtain ⟨i1_161, h⟩ := of_chk h
            refine wpS.take 1 false (some 22) (.pointer (some ⟨b1, 0 + (z4 : Int).toNat * 1, none⟩)) (by kernel_rfl) (yld_idx (t := 23) (e := 21) (n := 256) (sz := 1) (k := .i64) (x := z4) (by kernel_rfl) (by kernel_rfl) (by kernel_rfl) i0_161 i1_161) ?_
            refine wpS.take 2 true (some 23) (.int .i32 (rd (wr z5 z4 x8) z4)) (by kernel_rfl) (yld_loadA (e := 21) (x := z4) hs 2 rfl (by kernel_rfl) (by kernel_rfl) i0_161 i1_161 .grow) ?_
            refine wpS.take 3 false (some 24) (.int .i32 (isub .i32 (rd (wr z5 z4 x8) z4) 3329)) (by kernel_rfl) (yld fun _ => by kernel_rfl) ?_
            obtain ⟨i0_162, h⟩ := of_chk h
            obtain ⟨i1_162, h⟩ := of_chk h
            refine wpS.take 4 false (some 25) (.pointer (some ⟨b1, 0 + (z4 : Int).toNat * 1, none⟩)) (by kernel_rfl) (yld_idx (t := 23) (e := 21) (n := 256) (sz := 1) (k := .i64) (x := z4) (by kernel_rfl) (by kernel_rfl) (by kernel_rfl) i0_162 i1_162) ?_
            obtain ⟨x9, hx, h⟩ := of_bind h
            refine wpS.only 5 (op_storeA (t := 21) (x := z4) (v := x9) (d := none) (by kernel_rfl) hs 2 rfl (by cases hx; kernel_rfl) (by kernel_rfl) i0_162 i1_162 ?_)
            intro w kp hs
            refine ⟨fun _ => trivial, ?_⟩
            refine wpS.fin rfl (kr _ _ ?_)
            refine inBlock_n ?_
            have q0 := of_some h
            subst q0
            exact nj _ _ ⟨(hs.conv rfl), exg (by kernel_rfl)⟩
          · refine wpS.take 3 false (some 20) (.bool false) (by kernel_rfl) (yld_b (df hc) (fun _ => by kernel_rfl)) ?_
            refine wpS.fin rfl (kr _ _ ?_)
            refine then_n (ks159 _ _ ?_)
            refine wp_cond_f (by kernel_rfl) ?_
            refine wp_skip ?_
            refine inBlock_n ?_
            have q0 := of_some h
            subst q0
            exact nj _ _ ⟨(hs.conv rfl), exg (by kernel_rfl)⟩
        · clear hj hs
          rintro a w ⟨hs, g, rfl⟩
          refine then_n (ks163 _ _ ?_)
          refine wp_regS (l := [0, 1]) (by kernel_rfl) fun KR kr => ?_
          refine wpS.take 0 false (some 26) (.int .i64 (iadd .i64 z4 1)) (by kernel_rfl) (yld fun _ => by kernel_rfl) ?_
          refine wpS.take 1 false (some 6) (.int .i64 (iadd .i64 z4 1)) (by kernel_rfl) (yld fun _ => by kernel_rfl) ?_
          refine wpS.fin rfl (kr _ _ ?_)
          exact then_n (kl0 _ _ ⟨n, Nat.lt_succ_self n, (iadd .i64 z4 1), y7, h, (hs.conv rfl), exg (by kernel_rfl)⟩)
      · refine wpS.take 0 false (some 7) (.bool false) (by kernel_rfl) (yld_b (df hc) (fun _ => by kernel_rfl)) ?_
        refine wpS.fin rfl (kr _ _ ?_)
        refine then_n (ks125 _ _ ?_)
        refine wp_seq_k fun KS164 ks164 => ?_
        refine wp_cond_f (by kernel_rfl) ?_
        refine wp_exit ?_
        refine then_x ?_
        refine then_x ?_
        refine inBlock_hit ?_
        have q0 := of_some h
        subst q0
        exact exq_n (nn0 _ _ ⟨(hs.conv rfl), exg (by kernel_rfl)⟩)
  · clear hs h hy
    rintro a w ⟨hs, g, rfl⟩
    have h := hk0
    refine then_n (ks83 _ _ ?_)
    refine wp_seq_k fun KS165 ks165 => ?_
    refine wp_regS (l := [0, 1]) (by kernel_rfl) fun KR kr => ?_
    refine wpS.take 0 true (some 27) (.agg (enc .i32 y6).toArray) (by kernel_rfl) (yld_loadW (e := 23) (n := 256) hs 2 rfl (by kernel_rfl) (by kernel_rfl) (by kernel_rfl) (by exact enc_len _ _) .grow) ?_
    refine wpS.only 1 (op_storeW (t := 23) (v := .agg (enc .i32 y6).toArray) (d := none) (by kernel_rfl) hs 0 rfl (vs := enc .i32 y6) (n := 256) (by kernel_rfl) (by kernel_rfl) (by kernel_rfl) (by simp [enc_len]) (by simp [enc_len]) (by intro u hu; exact enc_one _ _ u hu) ?_)
    intro w kp hs
    refine ⟨fun _ => trivial, ?_⟩
    refine wpS.fin rfl (kr _ _ ?_)
    refine then_n (ks165 _ _ ?_)
    refine wp_ret ?_
    have q0 := of_some h
    subst q0
    exact qq _ _ (post_ret (by kernel_rfl) (run_results [.cell 4 23] [.agg (enc .i32 y6).toArray] (by kernel_rfl) (.cons (res_cellN (n := 256) hs 0 rfl (by kernel_rfl) (by kernel_rfl) (by kernel_rfl) (by exact enc_len _ _)) .nil)) ⟨congrArg Ending.returned (by kernel_rfl), hs.none⟩)

theorem ref25_Add.ok {K : Nat} {a0 : Arr 256} {a1 : Arr 256} {r0 : Arr 256} (h : ref25_Add.f K a0 a1 = some r0) (w0 : World) : Ret Try.prog 50 #[.agg (enc .i32 a0).toArray, .agg (enc .i32 a1).toArray] w0 (.agg (enc .i32 r0).toArray) := by
  refine calls_k Try.func50 rfl fun Q qq => ?_
  have hs := St.start w0
  refine wp_conv (a' := ⟨#[.agg (enc .i32 a0).toArray, .agg (enc .i32 a1).toArray, undef, undef, undef, undef, undef, undef, undef, undef, undef, undef, undef, undef, undef, undef, undef, undef, undef, undef, undef], []⟩) (by kernel_rfl) ?_
  refine wp_seq_k fun KS1 ks1 => ?_
  refine wp_regS (l := [0, 1, 2]) (by kernel_rfl) fun KR kr => ?_
  refine wpS.only 0 (op_box (t := 23) (v := .agg (enc .i32 a0).toArray) (d := (some 2)) (by kernel_rfl) hs (enc .i32 a0) (by kernel_rfl) (by kernel_rfl) ?_)
  intro b1 w gw hs
  refine ⟨fun _ => trivial, ?_⟩
  refine wpS.only 1 (op_box (t := 23) (v := .agg (enc .i32 a1).toArray) (d := (some 3)) (by kernel_rfl) hs (enc .i32 a1) (by kernel_rfl) (by kernel_rfl) ?_)
  intro b2 w gw hs
  refine ⟨fun _ => trivial, ?_⟩
  refine wpS.only 2 (op_alloc (t := 23) (d := (some 4)) (by kernel_rfl) hs (enc .i32 (zeroA 256)) (.agg (enc .i32 (zeroA 256)).toArray) (by kernel_rfl) (by kernel_rfl) (by kernel_rfl) ?_)
  intro b3 w gw hs
  refine ⟨fun _ => trivial, ?_⟩
  refine wpS.fin rfl (kr _ _ ?_)
  refine then_n (ks1 _ _ ?_)
  refine wp_seq_k fun KS23 ks23 => ?_
  refine wp_seq_k fun KS24 ks24 => ?_
  refine wp_regS (l := [0]) (by kernel_rfl) fun KR kr => ?_
  refine wpS.take 0 false (some 5) (.int .i64 0) (by kernel_rfl) (yld fun _ => by kernel_rfl) ?_
  refine wpS.fin rfl (kr _ _ ?_)
  refine then_n (ks24 _ _ ?_)
  obtain ⟨y6, hy, hk0⟩ := of_bind h
  refine wp_exq (N := fun a w => St w0 [] [.blk b3 (enc .i32 (zeroA 256)) 23, .blk b2 (enc .i32 a1) 23, .blk b1 (enc .i32 y6) 23] [] w ∧ ∃ g : Nat → Value, a = ⟨#[.agg (enc .i32 a0).toArray, .agg (enc .i32 a1).toArray, .pointer (some ⟨b1, 0, none⟩), .pointer (some ⟨b2, 0, none⟩), .pointer (some ⟨b3, 0, none⟩), (g 5), (g 6), (g 7), (g 8), (g 9), (g 10), (g 11), (g 12), (g 13), (g 14), (g 15), (g 16), (g 17), (g 18), (g 19), undef], []⟩) (fun N0 nn0 => ?_) ?_
  · clear hk0
    refine wp_block ?_
    refine wp_loop_k (fun n a w => ∃ z4 z5, ref25_Add.l0 K n a1 z4 z5 = some y6 ∧ St w0 [] [.blk b3 (enc .i32 (zeroA 256)) 23, .blk b2 (enc .i32 a1) 23, .blk b1 (enc .i32 z5) 23] [] w ∧ ∃ g : Nat → Value, a = ⟨#[.agg (enc .i32 a0).toArray, .agg (enc .i32 a1).toArray, .pointer (some ⟨b1, 0, none⟩), .pointer (some ⟨b2, 0, none⟩), .pointer (some ⟨b3, 0, none⟩), .int .i64 z4, (g 6), (g 7), (g 8), (g 9), (g 10), (g 11), (g 12), (g 13), (g 14), (g 15), (g 16), (g 17), (g 18), (g 19), undef], []⟩) K ⟨0, a0, hy, hs.conv rfl, exg (by kernel_rfl)⟩ ?_
    clear hs h hy
    rintro n a w ⟨z4, z5, h, hs, g, rfl⟩ KL0 kl0
    cases n with
    | zero => exact nomatch (show none = some _ from h)
    | succ n =>
      refine wp_seq_k fun KS36 ks36 => ?_
      refine wp_seq_k fun KS37 ks37 => ?_
      refine wp_regS (l := [0, 1]) (by kernel_rfl) fun KR kr => ?_
      refine wpS.take 0 false (some 6) (.int .i64 z4) (by kernel_rfl) (yld fun _ => by kernel_rfl) ?_
      rcases of_if h with ⟨hc, h⟩ | ⟨hc, h⟩
      · refine wpS.take 1 false (some 7) (.bool true) (by kernel_rfl) (yld_b (dt hc) (fun _ => by kernel_rfl)) ?_
        refine wpS.fin rfl (kr _ _ ?_)
        refine then_n (ks37 _ _ ?_)
        refine wp_cond_t (by kernel_rfl) ?_
        refine wp_skip ?_
        refine then_n (ks36 _ _ ?_)
        refine wp_seq_k fun KS38 ks38 => ?_
        refine wp_block ?_
        refine wp_regG [10] (fun k => k = b1) 11 (by kernel_rfl) (by kernel_rfl) fun KR kr => ?_
        have hs := hs.drawn1
        refine wpG.takeD 0 false (some 10) (.int .i64 z4) (by kernel_rfl) (by kernel_rfl) (yld fun _ => by kernel_rfl) ?_
        refine wpG.takeD 1 false (some 11) (.int .i64 z4) (by kernel_rfl) (by kernel_rfl) (yld fun _ => by kernel_rfl) ?_
        obtain ⟨i0_42, h⟩ := of_chk h
        obtain ⟨i1_42, h⟩ := of_chk h
        refine wpG.takeD 2 false (some 12) (.pointer (some ⟨b1, 0 + (z4 : Int).toNat * 1, none⟩)) (by kernel_rfl) (by kernel_rfl) (yld_idx (t := 23) (e := 21) (n := 256) (sz := 1) (k := .i64) (x := z4) (by kernel_rfl) (by kernel_rfl) (by kernel_rfl) i0_42 i1_42) ?_
        refine wpG.takeD 3 true (some 13) (.int .i32 (rd z5 z4)) (by kernel_rfl) (by kernel_rfl) (yld_loadA (e := 21) (x := z4) hs 2 rfl (by kernel_rfl) (by kernel_rfl) i0_42 i1_42 .grow) ?_
        refine wpG.takeD 4 false (some 14) (.int .i64 z4) (by kernel_rfl) (by kernel_rfl) (yld fun _ => by kernel_rfl) ?_
        obtain ⟨i0_43, h⟩ := of_chk h
        obtain ⟨i1_43, h⟩ := of_chk h
        refine wpG.takeD 5 false (some 15) (.pointer (some ⟨b2, 0 + (z4 : Int).toNat * 1, none⟩)) (by kernel_rfl) (by kernel_rfl) (yld_idx (t := 23) (e := 21) (n := 256) (sz := 1) (k := .i64) (x := z4) (by kernel_rfl) (by kernel_rfl) (by kernel_rfl) i0_43 i1_43) ?_
        refine wpG.takeD 6 true (some 16) (.int .i32 (rd a1 z4)) (by kernel_rfl) (by kernel_rfl) (yld_loadA (e := 21) (x := z4) hs 1 rfl (by kernel_rfl) (by kernel_rfl) i0_43 i1_43 .grow) ?_
        refine wpG.takeD 7 false (some 17) (.int .i32 (iadd .i32 (rd z5 z4) (rd a1 z4))) (by kernel_rfl) (by kernel_rfl) (yld fun _ => by kernel_rfl) ?_
        refine wpG.takeD 8 false (some 18) (.int .i32 (irem .i32 (iadd .i32 (rd z5 z4) (rd a1 z4)) 3329)) (by kernel_rfl) (by kernel_rfl) (yld fun _ => by kernel_rfl) ?_
        obtain ⟨i0_44, h⟩ := of_chk h
        obtain ⟨i1_44, h⟩ := of_chk h
        refine wpG.takeD 9 false (some 19) (.pointer (some ⟨b1, 0 + (z4 : Int).toNat * 1, none⟩)) (by kernel_rfl) (by kernel_rfl) (yld_idx (t := 23) (e := 21) (n := 256) (sz := 1) (k := .i64) (x := z4) (by kernel_rfl) (by kernel_rfl) (by kernel_rfl) i0_44 i1_44) ?_
        obtain ⟨x7, hx, h⟩ := of_bind h
        refine wpG.only 10 (by kernel_rfl) (op_storeA (t := 21) (x := z4) (v := x7) (d := none) (by kernel_rfl) hs 2 rfl (by cases hx; kernel_rfl) (by kernel_rfl) i0_44 i1_44 ?_)
        intro w kp hs
        refine ⟨⟨fun hf => absurd hf (by decide), kp.mono fun _ h => h⟩, ?_⟩
        refine wpG.fin (by kernel_rfl) rfl (kr _ _ ?_)
        refine inBlock_n ?_
        refine then_n (ks38 _ _ ?_)
        refine wp_regS (l := [0, 1, 2]) (by kernel_rfl) fun KR kr => ?_
        refine wpS.take 0 false (some 8) (.int .i64 z4) (by kernel_rfl) (yld fun _ => by kernel_rfl) ?_
        refine wpS.take 1 false (some 9) (.int .i64 (iadd .i64 z4 1)) (by kernel_rfl) (yld fun _ => by kernel_rfl) ?_
        obtain ⟨x8, hx, h⟩ := of_bind h
        refine wpS.take 2 false (some 5) (.int .i64 x8) (by kernel_rfl) (yld_int hx (fun _ => by kernel_rfl)) ?_
        refine wpS.fin rfl (kr _ _ ?_)
        exact then_n (kl0 _ _ ⟨n, Nat.lt_succ_self n, x8, (wr z5 z4 x7), h, (hs.conv rfl), exg (by kernel_rfl)⟩)
      · refine wpS.take 1 false (some 7) (.bool false) (by kernel_rfl) (yld_b (df hc) (fun _ => by kernel_rfl)) ?_
        refine wpS.fin rfl (kr _ _ ?_)
        refine then_n (ks37 _ _ ?_)
        refine wp_cond_f (by kernel_rfl) ?_
        refine wp_exit ?_
        refine then_x ?_
        refine then_x ?_
        refine inBlock_hit ?_
        have q0 := of_some h
        subst q0
        exact exq_n (nn0 _ _ ⟨(hs.conv rfl), exg (by kernel_rfl)⟩)
  · clear hs h hy
    rintro a w ⟨hs, g, rfl⟩
    have h := hk0
    refine then_n (ks23 _ _ ?_)
    refine wp_seq_k fun KS45 ks45 => ?_
    refine wp_regS (l := [0, 1]) (by kernel_rfl) fun KR kr => ?_
    refine wpS.take 0 true (some 20) (.agg (enc .i32 y6).toArray) (by kernel_rfl) (yld_loadW (e := 23) (n := 256) hs 2 rfl (by kernel_rfl) (by kernel_rfl) (by kernel_rfl) (by exact enc_len _ _) .grow) ?_
    refine wpS.only 1 (op_storeW (t := 23) (v := .agg (enc .i32 y6).toArray) (d := none) (by kernel_rfl) hs 0 rfl (vs := enc .i32 y6) (n := 256) (by kernel_rfl) (by kernel_rfl) (by kernel_rfl) (by simp [enc_len]) (by simp [enc_len]) (by intro u hu; exact enc_one _ _ u hu) ?_)
    intro w kp hs
    refine ⟨fun _ => trivial, ?_⟩
    refine wpS.fin rfl (kr _ _ ?_)
    refine then_n (ks45 _ _ ?_)
    refine wp_ret ?_
    have q0 := of_some h
    subst q0
    exact qq _ _ (post_ret (by kernel_rfl) (run_results [.cell 4 23] [.agg (enc .i32 y6).toArray] (by kernel_rfl) (.cons (res_cellN (n := 256) hs 0 rfl (by kernel_rfl) (by kernel_rfl) (by kernel_rfl) (by exact enc_len _ _)) .nil)) ⟨congrArg Ending.returned (by kernel_rfl), hs.none⟩)

theorem ref25_Sub.ok {K : Nat} {a0 : Arr 256} {a1 : Arr 256} {r0 : Arr 256} (h : ref25_Sub.f K a0 a1 = some r0) (w0 : World) : Ret Try.prog 51 #[.agg (enc .i32 a0).toArray, .agg (enc .i32 a1).toArray] w0 (.agg (enc .i32 r0).toArray) := by
  refine calls_k Try.func51 rfl fun Q qq => ?_
  have hs := St.start w0
  refine wp_conv (a' := ⟨#[.agg (enc .i32 a0).toArray, .agg (enc .i32 a1).toArray, undef, undef, undef, undef, undef, undef, undef, undef, undef, undef, undef, undef, undef, undef, undef, undef, undef, undef, undef, undef], []⟩) (by kernel_rfl) ?_
  refine wp_seq_k fun KS1 ks1 => ?_
  refine wp_regS (l := [0, 1, 2]) (by kernel_rfl) fun KR kr => ?_
  refine wpS.only 0 (op_box (t := 23) (v := .agg (enc .i32 a0).toArray) (d := (some 2)) (by kernel_rfl) hs (enc .i32 a0) (by kernel_rfl) (by kernel_rfl) ?_)
  intro b1 w gw hs
  refine ⟨fun _ => trivial, ?_⟩
  refine wpS.only 1 (op_box (t := 23) (v := .agg (enc .i32 a1).toArray) (d := (some 3)) (by kernel_rfl) hs (enc .i32 a1) (by kernel_rfl) (by kernel_rfl) ?_)
  intro b2 w gw hs
  refine ⟨fun _ => trivial, ?_⟩
  refine wpS.only 2 (op_alloc (t := 23) (d := (some 4)) (by kernel_rfl) hs (enc .i32 (zeroA 256)) (.agg (enc .i32 (zeroA 256)).toArray) (by kernel_rfl) (by kernel_rfl) (by kernel_rfl) ?_)
  intro b3 w gw hs
  refine ⟨fun _ => trivial, ?_⟩
  refine wpS.fin rfl (kr _ _ ?_)
  refine then_n (ks1 _ _ ?_)
  refine wp_seq_k fun KS23 ks23 => ?_
  refine wp_seq_k fun KS24 ks24 => ?_
  refine wp_regS (l := [0]) (by kernel_rfl) fun KR kr => ?_
  refine wpS.take 0 false (some 5) (.int .i64 0) (by kernel_rfl) (yld fun _ => by kernel_rfl) ?_
  refine wpS.fin rfl (kr _ _ ?_)
  refine then_n (ks24 _ _ ?_)
  obtain ⟨y6, hy, hk0⟩ := of_bind h
  refine wp_exq (N := fun a w => St w0 [] [.blk b3 (enc .i32 (zeroA 256)) 23, .blk b2 (enc .i32 a1) 23, .blk b1 (enc .i32 y6) 23] [] w ∧ ∃ g : Nat → Value, a = ⟨#[.agg (enc .i32 a0).toArray, .agg (enc .i32 a1).toArray, .pointer (some ⟨b1, 0, none⟩), .pointer (some ⟨b2, 0, none⟩), .pointer (some ⟨b3, 0, none⟩), (g 5), (g 6), (g 7), (g 8), (g 9), (g 10), (g 11), (g 12), (g 13), (g 14), (g 15), (g 16), (g 17), (g 18), (g 19), (g 20), undef], []⟩) (fun N0 nn0 => ?_) ?_
  · clear hk0
    refine wp_block ?_
    refine wp_loop_k (fun n a w => ∃ z4 z5, ref25_Sub.l0 K n a1 z4 z5 = some y6 ∧ St w0 [] [.blk b3 (enc .i32 (zeroA 256)) 23, .blk b2 (enc .i32 a1) 23, .blk b1 (enc .i32 z5) 23] [] w ∧ ∃ g : Nat → Value, a = ⟨#[.agg (enc .i32 a0).toArray, .agg (enc .i32 a1).toArray, .pointer (some ⟨b1, 0, none⟩), .pointer (some ⟨b2, 0, none⟩), .pointer (some ⟨b3, 0, none⟩), .int .i64 z4, (g 6), (g 7), (g 8), (g 9), (g 10), (g 11), (g 12), (g 13), (g 14), (g 15), (g 16), (g 17), (g 18), (g 19), (g 20), undef], []⟩) K ⟨0, a0, hy, hs.conv rfl, exg (by kernel_rfl)⟩ ?_
    clear hs h hy
    rintro n a w ⟨z4, z5, h, hs, g, rfl⟩ KL0 kl0
    cases n with
    | zero => exact nomatch (show none = some _ from h)
    | succ n =>
      refine wp_seq_k fun KS36 ks36 => ?_
      refine wp_seq_k fun KS37 ks37 => ?_
      refine wp_regS (l := [0, 1]) (by kernel_rfl) fun KR kr => ?_
      refine wpS.take 0 false (some 6) (.int .i64 z4) (by kernel_rfl) (yld fun _ => by kernel_rfl) ?_
      rcases of_if h with ⟨hc, h⟩ | ⟨hc, h⟩
      · refine wpS.take 1 false (some 7) (.bool true) (by kernel_rfl) (yld_b (dt hc) (fun _ => by kernel_rfl)) ?_
        refine wpS.fin rfl (kr _ _ ?_)
        refine then_n (ks37 _ _ ?_)
        refine wp_cond_t (by kernel_rfl) ?_
        refine wp_skip ?_
        refine then_n (ks36 _ _ ?_)
        refine wp_seq_k fun KS38 ks38 => ?_
        refine wp_block ?_
        refine wp_regG [11] (fun k => k = b1) 12 (by kernel_rfl) (by kernel_rfl) fun KR kr => ?_
        have hs := hs.drawn1
        refine wpG.takeD 0 false (some 10) (.int .i64 z4) (by kernel_rfl) (by kernel_rfl) (yld fun _ => by kernel_rfl) ?_
        refine wpG.takeD 1 false (some 11) (.int .i64 z4) (by kernel_rfl) (by kernel_rfl) (yld fun _ => by kernel_rfl) ?_
        obtain ⟨i0_42, h⟩ := of_chk h
        obtain ⟨i1_42, h⟩ := of_chk h
        refine wpG.takeD 2 false (some 12) (.pointer (some ⟨b1, 0 + (z4 : Int).toNat * 1, none⟩)) (by kernel_rfl) (by kernel_rfl) (yld_idx (t := 23) (e := 21) (n := 256) (sz := 1) (k := .i64) (x := z4) (by kernel_rfl) (by kernel_rfl) (by kernel_rfl) i0_42 i1_42) ?_
        refine wpG.takeD 3 true (some 13) (.int .i32 (rd z5 z4)) (by kernel_rfl) (by kernel_rfl) (yld_loadA (e := 21) (x := z4) hs 2 rfl (by kernel_rfl) (by kernel_rfl) i0_42 i1_42 .grow) ?_
        refine wpG.takeD 4 false (some 14) (.int .i64 z4) (by kernel_rfl) (by kernel_rfl) (yld fun _ => by kernel_rfl) ?_
        obtain ⟨i0_43, h⟩ := of_chk h
        obtain ⟨i1_43, h⟩ := of_chk h
        refine wpG.takeD 5 false (some 15) (.pointer (some ⟨b2, 0 + (z4 : Int).toNat * 1, none⟩)) (by kernel_rfl) (by kernel_rfl) (yld_idx (t := 23) (e := 21) (n := 256) (sz := 1) (k := .i64) (x := z4) (by kernel_rfl) (by kernel_rfl) (by kernel_rfl) i0_43 i1_43) ?_
        refine wpG.takeD 6 true (some 16) (.int .i32 (rd a1 z4)) (by kernel_rfl) (by kernel_rfl) (yld_loadA (e := 21) (x := z4) hs 1 rfl (by kernel_rfl) (by kernel_rfl) i0_43 i1_43 .grow) ?_
        refine wpG.takeD 7 false (some 17) (.int .i32 (isub .i32 (rd z5 z4) (rd a1 z4))) (by kernel_rfl) (by kernel_rfl) (yld fun _ => by kernel_rfl) ?_
        refine wpG.takeD 8 false (some 18) (.int .i32 (iadd .i32 (isub .i32 (rd z5 z4) (rd a1 z4)) 3329)) (by kernel_rfl) (by kernel_rfl) (yld fun _ => by kernel_rfl) ?_
        refine wpG.takeD 9 false (some 19) (.int .i32 (irem .i32 (iadd .i32 (isub .i32 (rd z5 z4) (rd a1 z4)) 3329) 3329)) (by kernel_rfl) (by kernel_rfl) (yld fun _ => by kernel_rfl) ?_
        obtain ⟨i0_44, h⟩ := of_chk h
        obtain ⟨i1_44, h⟩ := of_chk h
        refine wpG.takeD 10 false (some 20) (.pointer (some ⟨b1, 0 + (z4 : Int).toNat * 1, none⟩)) (by kernel_rfl) (by kernel_rfl) (yld_idx (t := 23) (e := 21) (n := 256) (sz := 1) (k := .i64) (x := z4) (by kernel_rfl) (by kernel_rfl) (by kernel_rfl) i0_44 i1_44) ?_
        obtain ⟨x7, hx, h⟩ := of_bind h
        refine wpG.only 11 (by kernel_rfl) (op_storeA (t := 21) (x := z4) (v := x7) (d := none) (by kernel_rfl) hs 2 rfl (by cases hx; kernel_rfl) (by kernel_rfl) i0_44 i1_44 ?_)
        intro w kp hs
        refine ⟨⟨fun hf => absurd hf (by decide), kp.mono fun _ h => h⟩, ?_⟩
        refine wpG.fin (by kernel_rfl) rfl (kr _ _ ?_)
        refine inBlock_n ?_
        refine then_n (ks38 _ _ ?_)
        refine wp_regS (l := [0, 1, 2]) (by kernel_rfl) fun KR kr => ?_
        refine wpS.take 0 false (some 8) (.int .i64 z4) (by kernel_rfl) (yld fun _ => by kernel_rfl) ?_
        refine wpS.take 1 false (some 9) (.int .i64 (iadd .i64 z4 1)) (by kernel_rfl) (yld fun _ => by kernel_rfl) ?_
        obtain ⟨x8, hx, h⟩ := of_bind h
        refine wpS.take 2 false (some 5) (.int .i64 x8) (by kernel_rfl) (yld_int hx (fun _ => by kernel_rfl)) ?_
        refine wpS.fin rfl (kr _ _ ?_)
        exact then_n (kl0 _ _ ⟨n, Nat.lt_succ_self n, x8, (wr z5 z4 x7), h, (hs.conv rfl), exg (by kernel_rfl)⟩)
      · refine wpS.take 1 false (some 7) (.bool false) (by kernel_rfl) (yld_b (df hc) (fun _ => by kernel_rfl)) ?_
        refine wpS.fin rfl (kr _ _ ?_)
        refine then_n (ks37 _ _ ?_)
        refine wp_cond_f (by kernel_rfl) ?_
        refine wp_exit ?_
        refine then_x ?_
        refine then_x ?_
        refine inBlock_hit ?_
        have q0 := of_some h
        subst q0
        exact exq_n (nn0 _ _ ⟨(hs.conv rfl), exg (by kernel_rfl)⟩)
  · clear hs h hy
    rintro a w ⟨hs, g, rfl⟩
    have h := hk0
    refine then_n (ks23 _ _ ?_)
    refine wp_seq_k fun KS45 ks45 => ?_
    refine wp_regS (l := [0, 1]) (by kernel_rfl) fun KR kr => ?_
    refine wpS.take 0 true (some 21) (.agg (enc .i32 y6).toArray) (by kernel_rfl) (yld_loadW (e := 23) (n := 256) hs 2 rfl (by kernel_rfl) (by kernel_rfl) (by kernel_rfl) (by exact enc_len _ _) .grow) ?_
    refine wpS.only 1 (op_storeW (t := 23) (v := .agg (enc .i32 y6).toArray) (d := none) (by kernel_rfl) hs 0 rfl (vs := enc .i32 y6) (n := 256) (by kernel_rfl) (by kernel_rfl) (by kernel_rfl) (by simp [enc_len]) (by simp [enc_len]) (by intro u hu; exact enc_one _ _ u hu) ?_)
    intro w kp hs
    refine ⟨fun _ => trivial, ?_⟩
    refine wpS.fin rfl (kr _ _ ?_)
    refine then_n (ks45 _ _ ?_)
    refine wp_ret ?_
    have q0 := of_some h
    subst q0
    exact qq _ _ (post_ret (by kernel_rfl) (run_results [.cell 4 23] [.agg (enc .i32 y6).toArray] (by kernel_rfl) (.cons (res_cellN (n := 256) hs 0 rfl (by kernel_rfl) (by kernel_rfl) (by kernel_rfl) (by exact enc_len _ _)) .nil)) ⟨congrArg Ending.returned (by kernel_rfl), hs.none⟩)
end Go.Proofs.Ytijahfdldlmnhaa
