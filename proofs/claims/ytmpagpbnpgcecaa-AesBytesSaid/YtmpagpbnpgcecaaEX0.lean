/- Printed by this work's own program: the code of each function below comes to the answer that its plain form tells. -/
import Derived.Test.YtmpagpbnpgcecaaMi
import Derived.Test.YtmpagpbnpgcecaaProg
import Derived.Test.YtmpagpbnpgcecaaEF0
set_option linter.unusedVariables false
set_option linter.unusedSimpArgs false
set_option maxRecDepth 100000
set_option maxHeartbeats 4000000
namespace Go.Proofs.Ytmpagpbnpgcecaa
open Go.Mx
attribute [local irreducible] wpOp

theorem aes_Mul.ok {K : Nat} {a0 : Int} {a1 : Int} {r0 : Int} (h : aes_Mul.f K a0 a1 = some r0) (w0 : World) : Ret Try.prog 15 #[.int .u8 a0, .int .u8 a1] w0 (.int .u8 r0) := by
  refine calls_k Try.func15 rfl fun Q qq => ?_
  have hs := St.start w0
  refine wp_conv (a' := ⟨#[.int .u8 a0, .int .u8 a1, undef, undef, undef, undef, undef, undef, undef, undef, undef, undef, undef, undef, undef, undef, undef, undef, undef, undef, undef, undef, undef, undef, undef, undef, undef, undef, undef, undef, undef, undef, undef, undef, undef, undef, undef, undef, undef, undef, undef], []⟩) (by kernel_rfl) ?_
  refine xseq_k fun KS1 ks1 => ?_
  refine wp_regS (l := [0]) (by kernel_rfl) (by kernel_rfl) fun KR2 kr2 => ?_
  refine wpS.take 0 false (some 4) (.int .u8 0) (by kernel_rfl) (yld fun _ => by kernel_rfl) ?_
  refine wpS.fin rfl (kr2 _ _ ?_)
  refine then_n (ks1 _ _ ?_)
  refine xseq_k fun KS3 ks3 => ?_
  refine wp_regS (l := [0]) (by kernel_rfl) (by kernel_rfl) fun KR4 kr4 => ?_
  refine wpS.take 0 false (some 5) (.int .i64 0) (by kernel_rfl) (yld fun _ => by kernel_rfl) ?_
  refine wpS.fin rfl (kr4 _ _ ?_)
  refine then_n (ks3 _ _ ?_)
  refine xseq_k fun KS39 ks39 => ?_
  refine xseq_k fun KS40 ks40 => ?_
  refine wp_regS (l := [0, 1, 2, 3, 4, 5]) (by kernel_rfl) (by kernel_rfl) fun KR41 kr41 => ?_
  refine wpS.take 0 false (some 9) (.int .u8 a0) (by kernel_rfl) (yld fun _ => by kernel_rfl) ?_
  refine wpS.take 1 false (some 10) (.int .i64 (iconv .i64 a0)) (by kernel_rfl) (yld fun _ => by kernel_rfl) ?_
  refine wpS.take 2 false (some 11) (.int .u8 a1) (by kernel_rfl) (yld fun _ => by kernel_rfl) ?_
  refine wpS.take 3 false (some 12) (.int .i64 (iconv .i64 a1)) (by kernel_rfl) (yld fun _ => by kernel_rfl) ?_
  obtain ⟨x1, hx, h⟩ := of_bind h
  refine wpS.take 4 false (some 6) (.int .i64 x1) (by kernel_rfl) (yld_int hx (fun _ => by kernel_rfl)) ?_
  obtain ⟨x2, hx, h⟩ := of_bind h
  refine wpS.take 5 false (some 7) (.int .i64 x2) (by kernel_rfl) (yld_int hx (fun _ => by kernel_rfl)) ?_
  refine wpS.fin rfl (kr41 _ _ ?_)
  refine then_n (ks40 _ _ ?_)
  obtain ⟨y6, hy, hk0⟩ := of_bind h
  refine wp_exq (N := fun a w => St w0 [] [] [] w ∧ ∃ g : Nat → Value, a = ⟨#[.int .u8 a0, .int .u8 a1, undef, undef, .int .u8 0, .int .i64 y6, (g 6), (g 7), undef, .int .u8 a0, .int .i64 (iconv .i64 a0), .int .u8 a1, .int .i64 (iconv .i64 a1), (g 13), (g 14), (g 15), (g 16), (g 17), (g 18), (g 19), (g 20), (g 21), (g 22), (g 23), (g 24), undef, undef, undef, undef, undef, undef, undef, undef, undef, undef, undef, undef, undef, undef, undef, undef], []⟩) (fun N0 nn0 => ?_) ?_
  · clear hk0
    refine xblock ?_
    refine wp_loop_k (fun n a w => ∃ z3 z4 z5, aes_Mul.l0 K n z3 z4 z5 = some y6 ∧ St w0 [] [] [] w ∧ ∃ g : Nat → Value, a = ⟨#[.int .u8 a0, .int .u8 a1, undef, undef, .int .u8 0, .int .i64 z3, .int .i64 z4, .int .i64 z5, undef, .int .u8 a0, .int .i64 (iconv .i64 a0), .int .u8 a1, .int .i64 (iconv .i64 a1), (g 13), (g 14), (g 15), (g 16), (g 17), (g 18), (g 19), (g 20), (g 21), (g 22), (g 23), (g 24), undef, undef, undef, undef, undef, undef, undef, undef, undef, undef, undef, undef, undef, undef, undef, undef], []⟩) K ⟨0, x1, x2, hy, hs.conv rfl, exg (by kernel_rfl)⟩ ?_
    clear hs h hy
    rintro n a w ⟨z3, z4, z5, h, hs, g, rfl⟩ KL0 kl0
    cases n with
    | zero => exact nomatch (show none = some _ from h)
    | succ n =>
      refine xseq_k fun KS60 ks60 => ?_
      refine xseq_k fun KS61 ks61 => ?_
      refine wp_regS (l := [0, 1]) (by kernel_rfl) (by kernel_rfl) fun KR62 kr62 => ?_
      refine wpS.take 0 false (some 13) (.int .i64 z5) (by kernel_rfl) (yld fun _ => by kernel_rfl) ?_
      rcases of_if h with ⟨hc, h⟩ | ⟨hc, h⟩
      · refine wpS.take 1 false (some 14) (.bool false) (by kernel_rfl) (yld_b (nf hc) (fun _ => by kernel_rfl)) ?_
        refine wpS.fin rfl (kr62 _ _ ?_)
        refine then_n (ks61 _ _ ?_)
        refine wp_cond_f (by kernel_rfl) ?_
        refine xexit ?_
        refine then_x ?_
        refine then_x ?_
        refine inBlock_hit ?_
        have q0 := of_some h
        subst q0
        exact exq_n (nn0 _ _ ⟨(hs.conv rfl), exg (by kernel_rfl)⟩)
      · refine wpS.take 1 false (some 14) (.bool true) (by kernel_rfl) (yld_b (nt hc) (fun _ => by kernel_rfl)) ?_
        refine wpS.fin rfl (kr62 _ _ ?_)
        refine then_n (ks61 _ _ ?_)
        refine wp_cond_t (by kernel_rfl) ?_
        refine xskip ?_
        refine then_n (ks60 _ _ ?_)
        obtain ⟨y7, hj, h⟩ := of_bind h
        refine xseq_k fun KS73 ks73 => wp_join (N := fun a w => St w0 [] [] [] w ∧ ∃ g : Nat → Value, a = ⟨#[.int .u8 a0, .int .u8 a1, undef, undef, .int .u8 0, .int .i64 y7, .int .i64 z4, .int .i64 z5, undef, .int .u8 a0, .int .i64 (iconv .i64 a0), .int .u8 a1, .int .i64 (iconv .i64 a1), .int .i64 z5, .bool true, (g 15), (g 16), (g 17), (g 18), (g 19), (g 20), (g 21), (g 22), (g 23), (g 24), undef, undef, undef, undef, undef, undef, undef, undef, undef, undef, undef, undef, undef, undef, undef, undef], []⟩) (fun N nj => ?_) ?_
        · clear h
          have h := hj
          refine xblock ?_
          refine xseq_k fun KS69 ks69 => ?_
          refine wp_regS (l := [0, 1, 2]) (by kernel_rfl) (by kernel_rfl) fun KR70 kr70 => ?_
          refine wpS.take 0 false (some 19) (.int .i64 z5) (by kernel_rfl) (yld fun _ => by kernel_rfl) ?_
          refine wpS.take 1 false (some 20) (.int .i64 (iand .i64 z5 1)) (by kernel_rfl) (yld fun _ => by kernel_rfl) ?_
          rcases of_if h with ⟨hc, h⟩ | ⟨hc, h⟩
          · refine wpS.take 2 false (some 21) (.bool true) (by kernel_rfl) (yld_b (et hc) (fun _ => by kernel_rfl)) ?_
            refine wpS.fin rfl (kr70 _ _ ?_)
            refine then_n (ks69 _ _ ?_)
            refine wp_cond_t (by kernel_rfl) ?_
            refine wp_regS (l := [0, 1, 2, 3]) (by kernel_rfl) (by kernel_rfl) fun KR71 kr71 => ?_
            refine wpS.take 0 false (some 22) (.int .i64 z3) (by kernel_rfl) (yld fun _ => by kernel_rfl) ?_
            refine wpS.take 1 false (some 23) (.int .i64 z4) (by kernel_rfl) (yld fun _ => by kernel_rfl) ?_
            refine wpS.take 2 false (some 24) (.int .i64 (ixor .i64 z3 z4)) (by kernel_rfl) (yld fun _ => by kernel_rfl) ?_
            obtain ⟨x8, hx, h⟩ := of_bind h
            refine wpS.take 3 false (some 5) (.int .i64 x8) (by kernel_rfl) (yld_int hx (fun _ => by kernel_rfl)) ?_
            refine wpS.fin rfl (kr71 _ _ ?_)
            refine inBlock_n ?_
            have q0 := of_some h
            subst q0
            exact nj _ _ ⟨(hs.conv rfl), exg (by kernel_rfl)⟩
          · refine wpS.take 2 false (some 21) (.bool false) (by kernel_rfl) (yld_b (ef hc) (fun _ => by kernel_rfl)) ?_
            refine wpS.fin rfl (kr70 _ _ ?_)
            refine then_n (ks69 _ _ ?_)
            refine wp_cond_f (by kernel_rfl) ?_
            refine xskip ?_
            refine inBlock_n ?_
            have q0 := of_some h
            subst q0
            exact nj _ _ ⟨(hs.conv rfl), exg (by kernel_rfl)⟩
        · clear hj hs
          rintro a w ⟨hs, g, rfl⟩
          refine then_n (ks73 _ _ ?_)
          refine wp_regS (l := [0, 1, 2, 3, 4, 5]) (by kernel_rfl) (by kernel_rfl) fun KR72 kr72 => ?_
          refine wpS.take 0 false (some 15) (.int .i64 z4) (by kernel_rfl) (yld fun _ => by kernel_rfl) ?_
          refine wpS.take 1 false (some 16) (.int .i64 (ishl .i64 z4 1)) (by kernel_rfl) (yld fun _ => by kernel_rfl) ?_
          refine wpS.take 2 false (some 17) (.int .i64 z5) (by kernel_rfl) (yld fun _ => by kernel_rfl) ?_
          refine wpS.take 3 false (some 18) (.int .i64 (ishr .i64 z5 1)) (by kernel_rfl) (yld fun _ => by kernel_rfl) ?_
          obtain ⟨x9, hx, h⟩ := of_bind h
          refine wpS.take 4 false (some 6) (.int .i64 x9) (by kernel_rfl) (yld_int hx (fun _ => by kernel_rfl)) ?_
          obtain ⟨x10, hx, h⟩ := of_bind h
          refine wpS.take 5 false (some 7) (.int .i64 x10) (by kernel_rfl) (yld_int hx (fun _ => by kernel_rfl)) ?_
          refine wpS.fin rfl (kr72 _ _ ?_)
          exact then_n (kl0 _ _ ⟨n, Nat.lt_succ_self n, y7, x9, x10, h, (hs.conv rfl), exg (by kernel_rfl)⟩)
  · clear hs h hy
    rintro a w ⟨hs, g, rfl⟩
    have h := hk0
    refine then_n (ks39 _ _ ?_)
    refine xseq_k fun KS108 ks108 => ?_
    refine xseq_k fun KS109 ks109 => ?_
    refine wp_regS (l := [0]) (by kernel_rfl) (by kernel_rfl) fun KR110 kr110 => ?_
    refine wpS.take 0 false (some 8) (.int .i64 14) (by kernel_rfl) (yld fun _ => by kernel_rfl) ?_
    refine wpS.fin rfl (kr110 _ _ ?_)
    refine then_n (ks109 _ _ ?_)
    obtain ⟨y13, hy, hk1⟩ := of_bind h
    refine wp_exq (N := fun a w => St w0 [] [] [] w ∧ ∃ g : Nat → Value, a = ⟨#[.int .u8 a0, .int .u8 a1, undef, undef, .int .u8 0, .int .i64 y13, (g 6), (g 7), (g 8), .int .u8 a0, .int .i64 (iconv .i64 a0), .int .u8 a1, .int .i64 (iconv .i64 a1), (g 13), (g 14), (g 15), (g 16), (g 17), (g 18), (g 19), (g 20), (g 21), (g 22), (g 23), (g 24), (g 25), (g 26), (g 27), (g 28), (g 29), (g 30), (g 31), (g 32), (g 33), (g 34), (g 35), (g 36), (g 37), (g 38), undef, undef], []⟩) (fun N1 nn1 => ?_) ?_
    · clear hk1
      refine xblock ?_
      refine wp_loop_k (fun n a w => ∃ z11 z12, aes_Mul.l1 K n z11 z12 = some y13 ∧ St w0 [] [] [] w ∧ ∃ g : Nat → Value, a = ⟨#[.int .u8 a0, .int .u8 a1, undef, undef, .int .u8 0, .int .i64 z11, (g 6), (g 7), .int .i64 z12, .int .u8 a0, .int .i64 (iconv .i64 a0), .int .u8 a1, .int .i64 (iconv .i64 a1), (g 13), (g 14), (g 15), (g 16), (g 17), (g 18), (g 19), (g 20), (g 21), (g 22), (g 23), (g 24), (g 25), (g 26), (g 27), (g 28), (g 29), (g 30), (g 31), (g 32), (g 33), (g 34), (g 35), (g 36), (g 37), (g 38), undef, undef], []⟩) K ⟨y6, 14, hy, hs.conv rfl, exg (by kernel_rfl)⟩ ?_
      clear hs h hy
      rintro n a w ⟨z11, z12, h, hs, g, rfl⟩ KL1 kl1
      cases n with
      | zero => exact nomatch (show none = some _ from h)
      | succ n =>
        refine xseq_k fun KS129 ks129 => ?_
        refine xseq_k fun KS130 ks130 => ?_
        refine wp_regS (l := [0, 1]) (by kernel_rfl) (by kernel_rfl) fun KR131 kr131 => ?_
        refine wpS.take 0 false (some 25) (.int .i64 z12) (by kernel_rfl) (yld fun _ => by kernel_rfl) ?_
        rcases of_if h with ⟨hc, h⟩ | ⟨hc, h⟩
        · refine wpS.take 1 false (some 26) (.bool true) (by kernel_rfl) (yld_b (dt hc) (fun _ => by kernel_rfl)) ?_
          refine wpS.fin rfl (kr131 _ _ ?_)
          refine then_n (ks130 _ _ ?_)
          refine wp_cond_t (by kernel_rfl) ?_
          refine xskip ?_
          refine then_n (ks129 _ _ ?_)
          obtain ⟨y14, hj, h⟩ := of_bind h
          refine xseq_k fun KS142 ks142 => wp_join (N := fun a w => St w0 [] [] [] w ∧ ∃ g : Nat → Value, a = ⟨#[.int .u8 a0, .int .u8 a1, undef, undef, .int .u8 0, .int .i64 y14, (g 6), (g 7), .int .i64 z12, .int .u8 a0, .int .i64 (iconv .i64 a0), .int .u8 a1, .int .i64 (iconv .i64 a1), (g 13), (g 14), (g 15), (g 16), (g 17), (g 18), (g 19), (g 20), (g 21), (g 22), (g 23), (g 24), .int .i64 z12, .bool true, (g 27), (g 28), (g 29), (g 30), (g 31), (g 32), (g 33), (g 34), (g 35), (g 36), (g 37), (g 38), undef, undef], []⟩) (fun N nj => ?_) ?_
          · clear h
            have h := hj
            refine xblock ?_
            refine xseq_k fun KS138 ks138 => ?_
            refine wp_regS (l := [0, 1, 2, 3, 4]) (by kernel_rfl) (by kernel_rfl) fun KR139 kr139 => ?_
            refine wpS.take 0 false (some 29) (.int .i64 z11) (by kernel_rfl) (yld fun _ => by kernel_rfl) ?_
            refine wpS.take 1 false (some 30) (.int .i64 z12) (by kernel_rfl) (yld fun _ => by kernel_rfl) ?_
            obtain ⟨h0, h⟩ := of_chk h
            refine wpS.take 2 false (some 31) (.int .i64 (ishr .i64 z11 z12)) (by kernel_rfl) (yld_shr (t := 3) (k' := .i64) (by kernel_rfl) h0) ?_
            refine wpS.take 3 false (some 32) (.int .i64 (iand .i64 (ishr .i64 z11 z12) 1)) (by kernel_rfl) (yld fun _ => by kernel_rfl) ?_
            rcases of_if h with ⟨hc, h⟩ | ⟨hc, h⟩
            · refine wpS.take 4 false (some 33) (.bool true) (by kernel_rfl) (yld_b (et hc) (fun _ => by kernel_rfl)) ?_
              refine wpS.fin rfl (kr139 _ _ ?_)
              refine then_n (ks138 _ _ ?_)
              refine wp_cond_t (by kernel_rfl) ?_
              refine wp_regS (l := [0, 1, 2, 3, 4, 5]) (by kernel_rfl) (by kernel_rfl) fun KR140 kr140 => ?_
              refine wpS.take 0 false (some 34) (.int .i64 z11) (by kernel_rfl) (yld fun _ => by kernel_rfl) ?_
              refine wpS.take 1 false (some 35) (.int .i64 z12) (by kernel_rfl) (yld fun _ => by kernel_rfl) ?_
              refine wpS.take 2 false (some 36) (.int .i64 (isub .i64 z12 8)) (by kernel_rfl) (yld fun _ => by kernel_rfl) ?_
              obtain ⟨h0, h⟩ := of_chk h
              refine wpS.take 3 false (some 37) (.int .i64 (ishl .i64 283 (isub .i64 z12 8))) (by kernel_rfl) (yld_shl (t := 3) (k' := .i64) (by kernel_rfl) h0) ?_
              refine wpS.take 4 false (some 38) (.int .i64 (ixor .i64 z11 (ishl .i64 283 (isub .i64 z12 8)))) (by kernel_rfl) (yld fun _ => by kernel_rfl) ?_
              obtain ⟨x15, hx, h⟩ := of_bind h
              refine wpS.take 5 false (some 5) (.int .i64 x15) (by kernel_rfl) (yld_int hx (fun _ => by kernel_rfl)) ?_
              refine wpS.fin rfl (kr140 _ _ ?_)
              refine inBlock_n ?_
              have q0 := of_some h
              subst q0
              exact nj _ _ ⟨(hs.conv rfl), exg (by kernel_rfl)⟩
            · refine wpS.take 4 false (some 33) (.bool false) (by kernel_rfl) (yld_b (ef hc) (fun _ => by kernel_rfl)) ?_
              refine wpS.fin rfl (kr139 _ _ ?_)
              refine then_n (ks138 _ _ ?_)
              refine wp_cond_f (by kernel_rfl) ?_
              refine xskip ?_
              refine inBlock_n ?_
              have q0 := of_some h
              subst q0
              exact nj _ _ ⟨(hs.conv rfl), exg (by kernel_rfl)⟩
          · clear hj hs
            rintro a w ⟨hs, g, rfl⟩
            refine then_n (ks142 _ _ ?_)
            refine wp_regS (l := [0, 1, 2]) (by kernel_rfl) (by kernel_rfl) fun KR141 kr141 => ?_
            refine wpS.take 0 false (some 27) (.int .i64 z12) (by kernel_rfl) (yld fun _ => by kernel_rfl) ?_
            refine wpS.take 1 false (some 28) (.int .i64 (isub .i64 z12 1)) (by kernel_rfl) (yld fun _ => by kernel_rfl) ?_
            obtain ⟨x16, hx, h⟩ := of_bind h
            refine wpS.take 2 false (some 8) (.int .i64 x16) (by kernel_rfl) (yld_int hx (fun _ => by kernel_rfl)) ?_
            refine wpS.fin rfl (kr141 _ _ ?_)
            exact then_n (kl1 _ _ ⟨n, Nat.lt_succ_self n, y14, x16, h, (hs.conv rfl), exg (by kernel_rfl)⟩)
        · refine wpS.take 1 false (some 26) (.bool false) (by kernel_rfl) (yld_b (df hc) (fun _ => by kernel_rfl)) ?_
          refine wpS.fin rfl (kr131 _ _ ?_)
          refine then_n (ks130 _ _ ?_)
          refine wp_cond_f (by kernel_rfl) ?_
          refine xexit ?_
          refine then_x ?_
          refine then_x ?_
          refine inBlock_hit ?_
          have q0 := of_some h
          subst q0
          exact exq_n (nn1 _ _ ⟨(hs.conv rfl), exg (by kernel_rfl)⟩)
    · clear hs h hy
      rintro a w ⟨hs, g, rfl⟩
      have h := hk1
      refine then_n (ks108 _ _ ?_)
      refine xseq_k fun KS143 ks143 => ?_
      refine wp_regS (l := [0, 1, 2]) (by kernel_rfl) (by kernel_rfl) fun KR144 kr144 => ?_
      refine wpS.take 0 false (some 39) (.int .i64 y13) (by kernel_rfl) (yld fun _ => by kernel_rfl) ?_
      refine wpS.take 1 false (some 40) (.int .u8 (iconv .u8 y13)) (by kernel_rfl) (yld fun _ => by kernel_rfl) ?_
      obtain ⟨x17, hx, h⟩ := of_bind h
      refine wpS.take 2 false (some 4) (.int .u8 x17) (by kernel_rfl) (yld_int hx (fun _ => by kernel_rfl)) ?_
      refine wpS.fin rfl (kr144 _ _ ?_)
      refine then_n (ks143 _ _ ?_)
      refine xret ?_
      have q0 := of_some h
      subst q0
      exact qq _ _ (post_ret (by kernel_rfl) (run_results [.tmp 4] [.int .u8 x17] (by kernel_rfl) (.cons (res_tmp (by kernel_rfl)) .nil)) ⟨congrArg Ending.returned (by kernel_rfl), hs.none⟩)

theorem aes_powers.ok {K : Nat}  (h : aes_powers.f K = some ()) (w0 : World) : Ret Try.prog 80 #[] w0 (.func (.func 107) #[] #[]) := by
  refine calls_k Try.func80 rfl fun Q qq => ?_
  have hs := St.start w0
  refine wp_conv (a' := ⟨#[undef], []⟩) (by kernel_rfl) ?_
  refine xseq_k fun KS1 ks1 => ?_
  refine wp_regS (l := [0]) (by kernel_rfl) (by kernel_rfl) fun KR2 kr2 => ?_
  refine wpS.take 0 false (some 0) (.nilFunc) (by kernel_rfl) (yld fun _ => by kernel_rfl) ?_
  refine wpS.fin rfl (kr2 _ _ ?_)
  refine then_n (ks1 _ _ ?_)
  refine xseq_k fun KS3 ks3 => ?_
  refine wp_regS (l := [0]) (by kernel_rfl) (by kernel_rfl) fun KR4 kr4 => ?_
  refine wpS.take 0 false (some 0) (.func (.func 107) #[] #[]) (by kernel_rfl) (yld fun _ => by kernel_rfl) ?_
  refine wpS.fin rfl (kr4 _ _ ?_)
  refine then_n (ks3 _ _ ?_)
  refine xret ?_
  exact qq _ _ (post_ret (by kernel_rfl) (run_results [.tmp 0] [.func (.func 107) #[] #[]] (by kernel_rfl) (.cons (res_tmp (by kernel_rfl)) .nil)) ⟨congrArg Ending.returned (by kernel_rfl), hs.none⟩)

theorem aes_stirred.ok {K : Nat} {a0 : Int} {r0 : Int} (h : aes_stirred.f K a0 = some r0) (w0 : World) : Ret Try.prog 81 #[.int .u8 a0] w0 (.int .u8 r0) := by
  refine calls_k Try.func81 rfl fun Q qq => ?_
  have hs := St.start w0
  refine wp_conv (a' := ⟨#[.int .u8 a0, undef, undef, undef, undef, undef, undef, undef, undef, undef, undef, undef, undef, undef, undef, undef, undef, undef], []⟩) (by kernel_rfl) ?_
  refine xseq_k fun KS1 ks1 => ?_
  refine wp_regS (l := [0]) (by kernel_rfl) (by kernel_rfl) fun KR2 kr2 => ?_
  refine wpS.take 0 false (some 2) (.int .u8 0) (by kernel_rfl) (yld fun _ => by kernel_rfl) ?_
  refine wpS.fin rfl (kr2 _ _ ?_)
  refine then_n (ks1 _ _ ?_)
  refine xseq_k fun KS3 ks3 => ?_
  refine wp_regS (l := [0, 1]) (by kernel_rfl) (by kernel_rfl) fun KR4 kr4 => ?_
  refine wpS.take 0 false (some 4) (.int .u8 a0) (by kernel_rfl) (yld fun _ => by kernel_rfl) ?_
  refine wpS.take 1 false (some 3) (.int .u8 a0) (by kernel_rfl) (yld fun _ => by kernel_rfl) ?_
  refine wpS.fin rfl (kr4 _ _ ?_)
  refine then_n (ks3 _ _ ?_)
  refine xseq_k fun KS25 ks25 => ?_
  refine xseq_k fun KS26 ks26 => ?_
  refine wp_regS (l := [0]) (by kernel_rfl) (by kernel_rfl) fun KR27 kr27 => ?_
  refine wpS.take 0 false (some 5) (.int .i64 0) (by kernel_rfl) (yld fun _ => by kernel_rfl) ?_
  refine wpS.fin rfl (kr27 _ _ ?_)
  refine then_n (ks26 _ _ ?_)
  obtain ⟨y4, hy, hk0⟩ := of_bind h
  refine wp_exq (N := fun a w => St w0 [] [] [] w ∧ ∃ g : Nat → Value, a = ⟨#[(g 0), undef, .int .u8 0, .int .u8 y4, .int .u8 a0, (g 5), (g 6), (g 7), (g 8), (g 9), (g 10), (g 11), (g 12), (g 13), (g 14), (g 15), undef, undef], []⟩) (fun N0 nn0 => ?_) ?_
  · clear hk0
    refine xblock ?_
    refine wp_loop_k (fun n a w => ∃ z1 z2 z3, aes_stirred.l0 K n z1 z2 z3 = some y4 ∧ St w0 [] [] [] w ∧ ∃ g : Nat → Value, a = ⟨#[.int .u8 z1, undef, .int .u8 0, .int .u8 z2, .int .u8 a0, .int .i64 z3, (g 6), (g 7), (g 8), (g 9), (g 10), (g 11), (g 12), (g 13), (g 14), (g 15), undef, undef], []⟩) K ⟨a0, a0, 0, hy, hs.conv rfl, exg (by kernel_rfl)⟩ ?_
    clear hs h hy
    rintro n a w ⟨z1, z2, z3, h, hs, g, rfl⟩ KL0 kl0
    cases n with
    | zero => exact nomatch (show none = some _ from h)
    | succ n =>
      refine xseq_k fun KS37 ks37 => ?_
      refine wp_regS (l := [0]) (by kernel_rfl) (by kernel_rfl) fun KR38 kr38 => ?_
      rcases of_if h with ⟨hc, h⟩ | ⟨hc, h⟩
      · refine wpS.take 0 false (some 6) (.bool true) (by kernel_rfl) (yld_b (dt hc) (fun _ => by kernel_rfl)) ?_
        refine wpS.fin rfl (kr38 _ _ ?_)
        refine then_n (ks37 _ _ ?_)
        refine xseq_k fun KS39 ks39 => ?_
        refine wp_cond_t (by kernel_rfl) ?_
        refine xskip ?_
        refine then_n (ks39 _ _ ?_)
        refine xseq_k fun KS40 ks40 => ?_
        refine xblock ?_
        refine xseq_k fun KS41 ks41 => ?_
        refine wp_regS (l := [0, 1, 2, 3, 4, 5]) (by kernel_rfl) (by kernel_rfl) fun KR42 kr42 => ?_
        refine wpS.take 0 false (some 7) (.int .u8 z1) (by kernel_rfl) (yld fun _ => by kernel_rfl) ?_
        refine wpS.take 1 false (some 8) (.int .u8 (ishl .u8 z1 1)) (by kernel_rfl) (yld fun _ => by kernel_rfl) ?_
        refine wpS.take 2 false (some 9) (.int .u8 z1) (by kernel_rfl) (yld fun _ => by kernel_rfl) ?_
        refine wpS.take 3 false (some 10) (.int .u8 (ishr .u8 z1 7)) (by kernel_rfl) (yld fun _ => by kernel_rfl) ?_
        refine wpS.take 4 false (some 11) (.int .u8 (ior .u8 (ishl .u8 z1 1) (ishr .u8 z1 7))) (by kernel_rfl) (yld fun _ => by kernel_rfl) ?_
        obtain ⟨x5, hx, h⟩ := of_bind h
        refine wpS.take 5 false (some 0) (.int .u8 x5) (by kernel_rfl) (yld_int hx (fun _ => by kernel_rfl)) ?_
        refine wpS.fin rfl (kr42 _ _ ?_)
        refine then_n (ks41 _ _ ?_)
        refine wp_regS (l := [0, 1, 2, 3]) (by kernel_rfl) (by kernel_rfl) fun KR43 kr43 => ?_
        refine wpS.take 0 false (some 12) (.int .u8 z2) (by kernel_rfl) (yld fun _ => by kernel_rfl) ?_
        refine wpS.take 1 false (some 13) (.int .u8 x5) (by kernel_rfl) (yld fun _ => by kernel_rfl) ?_
        refine wpS.take 2 false (some 14) (.int .u8 (ixor .u8 z2 x5)) (by kernel_rfl) (yld fun _ => by kernel_rfl) ?_
        obtain ⟨x6, hx, h⟩ := of_bind h
        refine wpS.take 3 false (some 3) (.int .u8 x6) (by kernel_rfl) (yld_int hx (fun _ => by kernel_rfl)) ?_
        refine wpS.fin rfl (kr43 _ _ ?_)
        refine inBlock_n ?_
        refine then_n (ks40 _ _ ?_)
        refine wp_regS (l := [0, 1]) (by kernel_rfl) (by kernel_rfl) fun KR44 kr44 => ?_
        refine wpS.take 0 false (some 15) (.int .i64 (iadd .i64 z3 1)) (by kernel_rfl) (yld fun _ => by kernel_rfl) ?_
        refine wpS.take 1 false (some 5) (.int .i64 (iadd .i64 z3 1)) (by kernel_rfl) (yld fun _ => by kernel_rfl) ?_
        refine wpS.fin rfl (kr44 _ _ ?_)
        exact then_n (kl0 _ _ ⟨n, Nat.lt_succ_self n, x5, x6, (iadd .i64 z3 1), h, (hs.conv rfl), exg (by kernel_rfl)⟩)
      · refine wpS.take 0 false (some 6) (.bool false) (by kernel_rfl) (yld_b (df hc) (fun _ => by kernel_rfl)) ?_
        refine wpS.fin rfl (kr38 _ _ ?_)
        refine then_n (ks37 _ _ ?_)
        refine xseq_k fun KS45 ks45 => ?_
        refine wp_cond_f (by kernel_rfl) ?_
        refine xexit ?_
        refine then_x ?_
        refine then_x ?_
        refine inBlock_hit ?_
        have q0 := of_some h
        subst q0
        exact exq_n (nn0 _ _ ⟨(hs.conv rfl), exg (by kernel_rfl)⟩)
  · clear hs h hy
    rintro a w ⟨hs, g, rfl⟩
    have h := hk0
    refine then_n (ks25 _ _ ?_)
    refine xseq_k fun KS46 ks46 => ?_
    refine wp_regS (l := [0, 1, 2]) (by kernel_rfl) (by kernel_rfl) fun KR47 kr47 => ?_
    refine wpS.take 0 false (some 16) (.int .u8 y4) (by kernel_rfl) (yld fun _ => by kernel_rfl) ?_
    refine wpS.take 1 false (some 17) (.int .u8 (ixor .u8 y4 99)) (by kernel_rfl) (yld fun _ => by kernel_rfl) ?_
    obtain ⟨x7, hx, h⟩ := of_bind h
    refine wpS.take 2 false (some 2) (.int .u8 x7) (by kernel_rfl) (yld_int hx (fun _ => by kernel_rfl)) ?_
    refine wpS.fin rfl (kr47 _ _ ?_)
    refine then_n (ks46 _ _ ?_)
    refine xret ?_
    have q0 := of_some h
    subst q0
    exact qq _ _ (post_ret (by kernel_rfl) (run_results [.tmp 2] [.int .u8 x7] (by kernel_rfl) (.cons (res_tmp (by kernel_rfl)) .nil)) ⟨congrArg Ending.returned (by kernel_rfl), hs.none⟩)

theorem aes_made.ok {K : Nat} {r0_0 : Arr 256} {r0_1 : Arr 256} (h : aes_made.f K = some (r0_0, r0_1)) (w0 : World) : Calls Try.prog 44 #[] w0 fun e w' => ∃ b, e = .returned (.pointer (some ⟨b, 0, none⟩)) ∧ St w0 [] [.blk b (([] : List Value) ++ enc .u8 r0_0 ++ enc .u8 r0_1 ++ ([] : List Value)) 48] [] w' := by
  refine calls_m Try.func44 rfl fun Q qq qn => ?_
  have hs := St.start w0
  refine wp_conv (a' := ⟨#[undef, undef, undef, undef, undef, undef, undef, undef, undef, undef, undef, undef, undef, undef, undef, undef, undef, undef, undef, undef, undef, undef, undef, undef, undef, undef, undef, undef, undef, undef, undef, undef, undef], []⟩) (by kernel_rfl) ?_
  refine xseq_k fun KS1 ks1 => ?_
  refine wp_regS (l := [0]) (by kernel_rfl) (by kernel_rfl) fun KR2 kr2 => ?_
  refine wpS.take 0 false (some 0) (.pointer none) (by kernel_rfl) (yld fun _ => by kernel_rfl) ?_
  refine wpS.fin rfl (kr2 _ _ ?_)
  refine then_n (ks1 _ _ ?_)
  refine xseq_k fun KS3 ks3 => ?_
  refine wp_regS (l := [0, 1, 2, 3]) (by kernel_rfl) (by kernel_rfl) fun KR4 kr4 => ?_
  refine wpS.take 0 false (some 5) (.agg (([] : List Value) ++ enc .u8 (zeroA 256) ++ enc .u8 (zeroA 256) ++ ([] : List Value)).toArray) (by kernel_rfl) (yld fun _ => by kernel_rfl) ?_
  refine wpS.only 1 (op_box (t := 48) (v := .agg (([] : List Value) ++ enc .u8 (zeroA 256) ++ enc .u8 (zeroA 256) ++ ([] : List Value)).toArray) (d := (some 6)) (by kernel_rfl) hs (([] : List Value) ++ enc .u8 (zeroA 256) ++ enc .u8 (zeroA 256) ++ ([] : List Value)) (by kernel_rfl) (by kernel_rfl) ?_)
  intro b1 w gw hs
  refine ⟨fun _ => trivial, ?_⟩
  refine wpS.only 2 (op_alloc (t := 49) (d := (some 1)) (by kernel_rfl) hs ([.pointer none]) (.pointer none) (by kernel_rfl) (by kernel_rfl) (by kernel_rfl) ?_)
  intro b2 w gw hs
  refine ⟨fun _ => trivial, ?_⟩
  refine wpS.only 3 (op_store1 (t := 49) (o := 0) (v := .pointer (some ⟨b1, 0, none⟩)) (d := none) (by kernel_rfl) hs 0 rfl (by kernel_rfl /-v-/) rfl (by kernel_rfl) (by decide) ?_)
  intro w kp hs
  refine ⟨fun _ => trivial, ?_⟩
  refine wpS.fin rfl (kr4 _ _ ?_)
  refine then_n (ks3 _ _ ?_)
  refine xseq_k fun KS5 ks5 => ?_
  refine wp_regG [5, 9] (fun k => k = b1) 10 (by kernel_rfl) (by kernel_rfl) (by kernel_rfl) fun KR6 kr6 => ?_
  have hs := hs.drawn1
  refine wpG.takeD 0 true (some 7) (.pointer (some ⟨b1, 0, none⟩)) (by kernel_rfl) (by kernel_rfl) (yld_load1 (e := 49) (o := 0) hs 0 rfl (by kernel_rfl) (by kernel_rfl) (by rfl) .grow) ?_
  refine wpG.takeK [1, 6, 7, 8, 9] 1 (some 8) (.pointer (some ⟨b1, 0, none⟩)) (by kernel_rfl) (by kernel_rfl) (yld_load1 (e := 49) (o := 0) hs 0 rfl (by kernel_rfl) (by kernel_rfl) (by rfl) (.keep (hs.blkNe 0 1 rfl rfl (by decide)))) ?_
  refine wpG.takeD 2 false (some 9) (.pointer (some ⟨b1, 0, none⟩)) (by kernel_rfl) (by kernel_rfl) (yld fun _ => by kernel_rfl) ?_
  refine wpG.takeD 3 false (some 10) (.pointer (some ⟨b1, 0, none⟩)) (by kernel_rfl) (by kernel_rfl) (yld fun _ => by kernel_rfl) ?_
  refine wpG.takeD 4 false (some 11) (.pointer (some ⟨b1, 0 + (0 : Int).toNat * 1, none⟩)) (by kernel_rfl) (by kernel_rfl) (yld_idx (t := 46) (e := 5) (n := 256) (sz := 1) (k := .i64) (x := 0) (by kernel_rfl) (by kernel_rfl) (by kernel_rfl) (by decide) (by decide)) ?_
  refine wpG.takeD 6 false (some 12) (.pointer (some ⟨b1, 0, none⟩)) (by kernel_rfl) (by kernel_rfl) (yld fun _ => by kernel_rfl) ?_
  refine wpG.takeD 7 false (some 13) (.pointer (some ⟨b1, 256, none⟩)) (by kernel_rfl) (by kernel_rfl) (yld fun _ => by kernel_rfl) ?_
  refine wpG.only 5 (by kernel_rfl) (op_storeR (m := 0) (k := .u8) (pre := ([] : List Value)) (post := enc .u8 (zeroA 256)) (c := (zeroA 256)) (t := 5) (x := 0) (v := 99) (d := none) (by kernel_rfl) hs 1 rfl (by simp only [List.append_assoc, List.nil_append, List.cons_append, List.append_nil]) (cs' := ([] : List Value) ++ enc .u8 (wr (zeroA 256) 0 99) ++ enc .u8 (zeroA 256) ++ ([] : List Value)) (by simp only [List.append_assoc, List.nil_append, List.cons_append, List.append_nil]) (by kernel_rfl /-v-/) (by kernel_rfl) (by decide) (by decide) (by simp [enc_len]) ?_)
  intro w kp hs
  refine ⟨⟨fun hf => absurd hf (by decide), kp.mono fun _ h => h⟩, ?_⟩
  refine wpG.takeD 8 false (some 14) (.pointer (some ⟨b1, 256 + (99 : Int).toNat * 1, none⟩)) (by kernel_rfl) (by kernel_rfl) (yld_idx (t := 46) (e := 5) (n := 256) (sz := 1) (k := .i64) (x := 99) (by kernel_rfl) (by kernel_rfl) (by kernel_rfl) (by decide) (by decide)) ?_
  refine wpG.only 9 (by kernel_rfl) (op_storeR (m := 256) (k := .u8) (pre := enc .u8 (wr (zeroA 256) 0 99)) (post := ([] : List Value)) (c := (zeroA 256)) (t := 5) (x := 99) (v := 0) (d := none) (by kernel_rfl) hs 1 rfl (by simp only [List.append_assoc, List.nil_append, List.cons_append, List.append_nil]) (cs' := ([] : List Value) ++ enc .u8 (wr (zeroA 256) 0 99) ++ enc .u8 (wr (zeroA 256) 99 0) ++ ([] : List Value)) (by simp only [List.append_assoc, List.nil_append, List.cons_append, List.append_nil]) (by kernel_rfl /-v-/) (by kernel_rfl) (by decide) (by decide) (by simp [enc_len]) ?_)
  intro w kp hs
  refine ⟨⟨fun hf => absurd hf (by decide), kp.mono fun _ h => h⟩, ?_⟩
  refine wpG.fin (by kernel_rfl) rfl (kr6 _ _ ?_)
  refine then_n (ks5 _ _ ?_)
  refine xseq_k fun KS12 ks12 => ?_
  refine xseq_k fun KS13 ks13 => ?_
  refine wp_regS (l := [0]) (by kernel_rfl) (by kernel_rfl) fun KR14 kr14 => ?_
  obtain ⟨_, hg, h⟩ := of_bind h
  refine wpS.only 0 (op_call (d := (some 15)) (by kernel_rfl) hs (fun _ => by kernel_rfl) (aes_powers.ok hg _) ?_)
  intro w gw hs
  refine ⟨fun _ => trivial, ?_⟩
  refine wpS.fin rfl (kr14 _ _ ?_)
  refine then_n (ks13 _ _ ?_)
  refine xblock ?_
  refine wp_range (gf := 107) (lb := #[]) hs (by kernel_rfl) (fun _ _ => by kernel_rfl) fun l15 D15 rec15 w hok15 hs R15 kR15 => ?_
  refine calls_kn Try.func107 rfl fun Q15 qq15 qn15 => ?_
  refine wp_conv (a' := ⟨#[.func (.yield l15) #[] #[], undef, undef, undef, undef, undef, undef, undef, undef, undef, undef, undef, undef, undef, undef, undef], []⟩) (by kernel_rfl) ?_
  refine xseq_k fun KS16 ks16 => ?_
  refine wp_regS (l := [0, 1]) (by kernel_rfl) (by kernel_rfl) fun KR17 kr17 => ?_
  refine wpS.take 0 false (some 2) (.int .u8 1) (by kernel_rfl) (yld fun _ => by kernel_rfl) ?_
  refine wpS.take 1 false (some 3) (.int .u8 1) (by kernel_rfl) (yld fun _ => by kernel_rfl) ?_
  refine wpS.fin rfl (kr17 _ _ ?_)
  refine then_n (ks16 _ _ ?_)
  refine xseq_k fun KS18 ks18 => ?_
  refine wp_regS (l := [0]) (by kernel_rfl) (by kernel_rfl) fun KR19 kr19 => ?_
  refine wpS.take 0 false (some 4) (.int .i64 0) (by kernel_rfl) (yld fun _ => by kernel_rfl) ?_
  refine wpS.fin rfl (kr19 _ _ ?_)
  refine then_n (ks18 _ _ ?_)
  obtain ⟨⟨y8_0, y8_1⟩, hy, hk0⟩ := of_bind h
  refine wp_exq (N := fun a w => St w0 [] [.obj l15 (.loop (rec15 .ready none)), .obj D15 (.deferred (some [])), .blk b2 ([.pointer (some ⟨b1, 0, none⟩)]) 49, .blk b1 (([] : List Value) ++ enc .u8 y8_0 ++ enc .u8 y8_1 ++ ([] : List Value)) 48] [] w ∧ ∃ g : Nat → Value, a = ⟨#[.func (.yield l15) #[] #[], undef, (g 2), (g 3), (g 4), (g 5), (g 6), (g 7), (g 8), (g 9), (g 10), (g 11), (g 12), (g 13), (g 14), (g 15)], []⟩) (fun N0 nn0 => ?_) ?_
  · clear hk0
    refine xblock ?_
    refine wp_loop_k (fun n a w => ∃ z4 z5 z6 z7_0 z7_1, aes_made.l0 K n z4 z5 z6 z7_0 z7_1 = some (y8_0, y8_1) ∧ St w0 [] [.obj l15 (.loop (rec15 .ready none)), .obj D15 (.deferred (some [])), .blk b2 ([.pointer (some ⟨b1, 0, none⟩)]) 49, .blk b1 (([] : List Value) ++ enc .u8 z7_0 ++ enc .u8 z7_1 ++ ([] : List Value)) 48] [] w ∧ ∃ g : Nat → Value, a = ⟨#[.func (.yield l15) #[] #[], undef, .int .u8 z4, .int .u8 z5, .int .i64 z6, (g 5), (g 6), (g 7), (g 8), (g 9), (g 10), (g 11), (g 12), (g 13), (g 14), (g 15)], []⟩) K ⟨1, 1, 0, (wr (zeroA 256) 0 99), (wr (zeroA 256) 99 0), hy, hs.conv rfl, exg (by kernel_rfl)⟩ ?_
    clear hs h hy
    rintro n a w ⟨z4, z5, z6, z7_0, z7_1, h, hs, g, rfl⟩ KL0 kl0
    cases n with
    | zero => exact nomatch (show none = some _ from h)
    | succ n =>
      refine xseq_k fun KS86 ks86 => ?_
      refine wp_regS (l := [0]) (by kernel_rfl) (by kernel_rfl) fun KR87 kr87 => ?_
      rcases of_if h with ⟨hc, h⟩ | ⟨hc, h⟩
      · refine wpS.take 0 false (some 5) (.bool true) (by kernel_rfl) (yld_b (dt hc) (fun _ => by kernel_rfl)) ?_
        refine wpS.fin rfl (kr87 _ _ ?_)
        refine then_n (ks86 _ _ ?_)
        refine xseq_k fun KS88 ks88 => ?_
        refine wp_cond_t (by kernel_rfl) ?_
        refine xskip ?_
        refine then_n (ks88 _ _ ?_)
        refine xseq_k fun KS119 ks119 => ?_
        refine xblock ?_
        refine xseq_k fun KS134 ks134 => ?_
        refine xseq_k fun KS135 ks135 => ?_
        refine wp_regS (l := [0, 1, 2, 3, 4]) (by kernel_rfl) (by kernel_rfl) fun KR136 kr136 => ?_
        refine wpS.take 0 false (some 6) (.func (.yield l15) #[] #[]) (by kernel_rfl) (yld fun _ => by kernel_rfl) ?_
        refine wpS.take 1 false (some 7) (.int .u8 z4) (by kernel_rfl) (yld fun _ => by kernel_rfl) ?_
        refine wpS.take 2 false (some 8) (.int .u8 z5) (by kernel_rfl) (yld fun _ => by kernel_rfl) ?_
        refine wpS.onlyR 3 (op_yield (d := (some 9)) (by kernel_rfl) hs 0 rfl hok15 #[.int .u8 z4, .int .u8 z5] (by kernel_rfl) rfl (tm := #[.pointer none, .pointer (some ⟨b2, 0, none⟩), undef, undef, undef, .agg (([] : List Value) ++ enc .u8 (zeroA 256) ++ enc .u8 (zeroA 256) ++ ([] : List Value)).toArray, .pointer (some ⟨b1, 0, none⟩), .pointer (some ⟨b1, 0, none⟩), .pointer (some ⟨b1, 0, none⟩), .pointer (some ⟨b1, 0, none⟩), .pointer (some ⟨b1, 0, none⟩), .pointer (some ⟨b1, 0 + (0 : Int).toNat * 1, none⟩), .pointer (some ⟨b1, 0, none⟩), .pointer (some ⟨b1, 256, none⟩), .pointer (some ⟨b1, 256 + (99 : Int).toNat * 1, none⟩), .func (.func 107) #[] #[], .int .u8 z4, .int .u8 z5, undef, undef, undef, undef, undef, undef, undef, undef, undef, undef, undef, undef, undef, undef, undef]) (by kernel_rfl) (by kernel_rfl) fun K137 k137 => ?_)
        refine xseq_k fun KS138 ks138 => ?_
        refine wp_regS (l := [0]) (by kernel_rfl) (by kernel_rfl) fun KR139 kr139 => ?_
        refine wpS.take 0 false (some 2) (.int .u8 z4) (by kernel_rfl) (yld fun _ => by kernel_rfl) ?_
        refine wpS.fin rfl (kr139 _ _ ?_)
        refine then_n (ks138 _ _ ?_)
        refine wp_regS (l := [0]) (by kernel_rfl) (by kernel_rfl) fun KR140 kr140 => ?_
        refine wpS.take 0 false (some 3) (.int .u8 z5) (by kernel_rfl) (yld fun _ => by kernel_rfl) ?_
        refine wpS.fin rfl (kr140 _ _ ?_)
        refine then_n (k137 _ _ 0 _ _ hs rfl fun w Qr137 hs qr137 => ?_)
        have hs := hs.conv (L' := [.obj l15 (.loop (rec15 .busy none)), .obj D15 (.deferred (some [])), .blk b2 ([.pointer (some ⟨b1, 0, none⟩)]) 49, .blk b1 (([] : List Value) ++ enc .u8 z7_0 ++ enc .u8 z7_1 ++ ([] : List Value)) 48]) rfl
        refine xblock ?_
        refine xseq_k fun KS141 ks141 => ?_
        refine wp_regS (l := [0, 1, 2]) (by kernel_rfl) (by kernel_rfl) fun KR142 kr142 => ?_
        refine wpS.take 0 false (some 18) (.int .u8 z5) (by kernel_rfl) (yld fun _ => by kernel_rfl) ?_
        obtain ⟨r9, hg, h⟩ := of_bind h
        refine wpS.only 1 (op_call (d := (some 19)) (by kernel_rfl) hs (fun _ => by kernel_rfl) (aes_stirred.ok hg _) ?_)
        intro w gw hs
        refine ⟨fun _ => trivial, ?_⟩
        refine wpS.take 2 false (some 4) (.int .u8 r9) (by kernel_rfl) (yld fun _ => by kernel_rfl) ?_
        refine wpS.fin rfl (kr142 _ _ ?_)
        refine then_n (ks141 _ _ ?_)
        refine wp_regG [9, 13] (fun k => k = b1) 14 (by kernel_rfl) (by kernel_rfl) (by kernel_rfl) fun KR143 kr143 => ?_
        have hs := hs.drawn1
        refine wpG.takeD 0 true (some 20) (.pointer (some ⟨b1, 0, none⟩)) (by kernel_rfl) (by kernel_rfl) (yld_load1 (e := 49) (o := 0) hs 2 rfl (by kernel_rfl) (by kernel_rfl) (by rfl) .grow) ?_
        refine wpG.takeD 1 false (some 21) (.int .u8 z4) (by kernel_rfl) (by kernel_rfl) (yld fun _ => by kernel_rfl) ?_
        refine wpG.takeK [2, 10, 11, 12, 13] 2 (some 22) (.pointer (some ⟨b1, 0, none⟩)) (by kernel_rfl) (by kernel_rfl) (yld_load1 (e := 49) (o := 0) hs 2 rfl (by kernel_rfl) (by kernel_rfl) (by rfl) (.keep (hs.blkNe 2 3 rfl rfl (by decide)))) ?_
        refine wpG.takeD 3 false (some 23) (.int .u8 r9) (by kernel_rfl) (by kernel_rfl) (yld fun _ => by kernel_rfl) ?_
        refine wpG.takeD 4 false (some 24) (.int .u8 r9) (by kernel_rfl) (by kernel_rfl) (yld fun _ => by kernel_rfl) ?_
        refine wpG.takeD 5 false (some 25) (.int .u8 z4) (by kernel_rfl) (by kernel_rfl) (yld fun _ => by kernel_rfl) ?_
        refine wpG.takeD 6 false (some 26) (.pointer (some ⟨b1, 0, none⟩)) (by kernel_rfl) (by kernel_rfl) (yld fun _ => by kernel_rfl) ?_
        refine wpG.takeD 7 false (some 27) (.pointer (some ⟨b1, 0, none⟩)) (by kernel_rfl) (by kernel_rfl) (yld fun _ => by kernel_rfl) ?_
        obtain ⟨i0_147, h⟩ := of_chk h
        obtain ⟨i1_147, h⟩ := of_chk h
        refine wpG.takeD 8 false (some 28) (.pointer (some ⟨b1, 0 + (z4 : Int).toNat * 1, none⟩)) (by kernel_rfl) (by kernel_rfl) (yld_idx (t := 46) (e := 5) (n := 256) (sz := 1) (k := .u8) (x := z4) (by kernel_rfl) (by kernel_rfl) (by kernel_rfl) i0_147 i1_147) ?_
        refine wpG.takeD 10 false (some 29) (.pointer (some ⟨b1, 0, none⟩)) (by kernel_rfl) (by kernel_rfl) (yld fun _ => by kernel_rfl) ?_
        refine wpG.takeD 11 false (some 30) (.pointer (some ⟨b1, 256, none⟩)) (by kernel_rfl) (by kernel_rfl) (yld fun _ => by kernel_rfl) ?_
        refine wpG.only 9 (by kernel_rfl) (op_storeR (m := 0) (k := .u8) (pre := ([] : List Value)) (post := enc .u8 z7_1) (c := z7_0) (t := 5) (x := z4) (v := r9) (d := none) (by kernel_rfl) hs 3 rfl (by simp only [List.append_assoc, List.nil_append, List.cons_append, List.append_nil]) (cs' := ([] : List Value) ++ enc .u8 (wr z7_0 z4 r9) ++ enc .u8 z7_1 ++ ([] : List Value)) (by simp only [List.append_assoc, List.nil_append, List.cons_append, List.append_nil]) (by kernel_rfl /-v-/) (by kernel_rfl) i0_147 i1_147 (by simp [enc_len]) ?_)
        intro w kp hs
        refine ⟨⟨fun hf => absurd hf (by decide), kp.mono fun _ h => h⟩, ?_⟩
        obtain ⟨i0_148, h⟩ := of_chk h
        obtain ⟨i1_148, h⟩ := of_chk h
        refine wpG.takeD 12 false (some 31) (.pointer (some ⟨b1, 256 + (r9 : Int).toNat * 1, none⟩)) (by kernel_rfl) (by kernel_rfl) (yld_idx (t := 46) (e := 5) (n := 256) (sz := 1) (k := .u8) (x := r9) (by kernel_rfl) (by kernel_rfl) (by kernel_rfl) i0_148 i1_148) ?_
        refine wpG.only 13 (by kernel_rfl) (op_storeR (m := 256) (k := .u8) (pre := enc .u8 (wr z7_0 z4 r9)) (post := ([] : List Value)) (c := z7_1) (t := 5) (x := r9) (v := z4) (d := none) (by kernel_rfl) hs 3 rfl (by simp only [List.append_assoc, List.nil_append, List.cons_append, List.append_nil]) (cs' := ([] : List Value) ++ enc .u8 (wr z7_0 z4 r9) ++ enc .u8 (wr z7_1 r9 z4) ++ ([] : List Value)) (by simp only [List.append_assoc, List.nil_append, List.cons_append, List.append_nil]) (by kernel_rfl /-v-/) (by kernel_rfl) i0_148 i1_148 (by simp [enc_len]) ?_)
        intro w kp hs
        refine ⟨⟨fun hf => absurd hf (by decide), kp.mono fun _ h => h⟩, ?_⟩
        refine wpG.fin (by kernel_rfl) rfl (kr143 _ _ ?_)
        refine inBlock_n ?_
        refine round_n qr137 hs 0 rfl fun w hs => ?_
        have hs := hs.conv (L' := [.obj l15 (.loop (rec15 .ready none)), .obj D15 (.deferred (some [])), .blk b2 ([.pointer (some ⟨b1, 0, none⟩)]) 49, .blk b1 (([] : List Value) ++ enc .u8 (wr z7_0 z4 r9) ++ enc .u8 (wr z7_1 r9 z4) ++ ([] : List Value)) 48]) rfl
        refine ⟨fun _ => trivial, ?_⟩
        refine wpS.take 4 false (some 10) (.bool false) (by kernel_rfl) (yld fun _ => by kernel_rfl) ?_
        refine wpS.fin rfl (kr136 _ _ ?_)
        refine then_n (ks135 _ _ ?_)
        refine wp_cond_f (by kernel_rfl) ?_
        refine xskip ?_
        refine then_n (ks134 _ _ ?_)
        refine wp_regS (l := [0, 1, 2, 3, 4, 5]) (by kernel_rfl) (by kernel_rfl) fun KR149 kr149 => ?_
        refine wpS.take 0 false (some 11) (.int .u8 z4) (by kernel_rfl) (yld fun _ => by kernel_rfl) ?_
        obtain ⟨r10, hg, h⟩ := of_bind h
        refine wpS.only 1 (op_call (d := (some 12)) (by kernel_rfl) hs (fun _ => by kernel_rfl) (aes_Mul.ok hg _) ?_)
        intro w gw hs
        refine ⟨fun _ => trivial, ?_⟩
        refine wpS.take 2 false (some 13) (.int .u8 z5) (by kernel_rfl) (yld fun _ => by kernel_rfl) ?_
        obtain ⟨r11, hg, h⟩ := of_bind h
        refine wpS.only 3 (op_call (d := (some 14)) (by kernel_rfl) hs (fun _ => by kernel_rfl) (aes_Mul.ok hg _) ?_)
        intro w gw hs
        refine ⟨fun _ => trivial, ?_⟩
        refine wpS.take 4 false (some 2) (.int .u8 r10) (by kernel_rfl) (yld fun _ => by kernel_rfl) ?_
        refine wpS.take 5 false (some 3) (.int .u8 r11) (by kernel_rfl) (yld fun _ => by kernel_rfl) ?_
        refine wpS.fin rfl (kr149 _ _ ?_)
        refine inBlock_n ?_
        refine then_n (ks119 _ _ ?_)
        refine wp_regS (l := [0, 1]) (by kernel_rfl) (by kernel_rfl) fun KR150 kr150 => ?_
        refine wpS.take 0 false (some 15) (.int .i64 (iadd .i64 z6 1)) (by kernel_rfl) (yld fun _ => by kernel_rfl) ?_
        refine wpS.take 1 false (some 4) (.int .i64 (iadd .i64 z6 1)) (by kernel_rfl) (yld fun _ => by kernel_rfl) ?_
        refine wpS.fin rfl (kr150 _ _ ?_)
        exact then_n (kl0 _ _ ⟨n, Nat.lt_succ_self n, r10, r11, (iadd .i64 z6 1), (wr z7_0 z4 r9), (wr z7_1 r9 z4), h, (hs.conv rfl), exg (by kernel_rfl)⟩)
      · refine wpS.take 0 false (some 5) (.bool false) (by kernel_rfl) (yld_b (df hc) (fun _ => by kernel_rfl)) ?_
        refine wpS.fin rfl (kr87 _ _ ?_)
        refine then_n (ks86 _ _ ?_)
        refine xseq_k fun KS151 ks151 => ?_
        refine wp_cond_f (by kernel_rfl) ?_
        refine xexit ?_
        refine then_x ?_
        refine then_x ?_
        refine inBlock_hit ?_
        obtain ⟨q0, qr0⟩ := Prod.mk.inj (of_some h)
        have q1 := qr0
        subst q0
        subst q1
        exact exq_n (nn0 _ _ ⟨(hs.conv rfl), exg (by kernel_rfl)⟩)
  · clear hs h hy
    rintro a w ⟨hs, g, rfl⟩
    have h := hk0
    refine qn15 _ _ (post_nrm (by kernel_rfl) (run_results [] [] (by kernel_rfl) .nil) ?_)
    refine range_n (a1 := ⟨#[.pointer none, .pointer (some ⟨b2, 0, none⟩), undef, undef, undef, .agg (([] : List Value) ++ enc .u8 (zeroA 256) ++ enc .u8 (zeroA 256) ++ ([] : List Value)).toArray, .pointer (some ⟨b1, 0, none⟩), .pointer (some ⟨b1, 0, none⟩), .pointer (some ⟨b1, 0, none⟩), .pointer (some ⟨b1, 0, none⟩), .pointer (some ⟨b1, 0, none⟩), .pointer (some ⟨b1, 0 + (0 : Int).toNat * 1, none⟩), .pointer (some ⟨b1, 0, none⟩), .pointer (some ⟨b1, 256, none⟩), .pointer (some ⟨b1, 256 + (99 : Int).toNat * 1, none⟩), .func (.func 107) #[] #[], undef, undef, undef, undef, undef, undef, undef, undef, undef, undef, undef, undef, undef, undef, undef, undef, undef], [lmark D15]⟩) kR15 (by kernel_rfl) hs 0 rfl fun w hs => ?_
    have hs := hs.conv (L' := [.obj l15 (.loop (rec15 .exhausted none)), .obj D15 (.deferred (some [])), .blk b2 ([.pointer (some ⟨b1, 0, none⟩)]) 49, .blk b1 (([] : List Value) ++ enc .u8 y8_0 ++ enc .u8 y8_1 ++ ([] : List Value)) 48]) rfl
    refine inBlock_n ?_
    refine then_n (ks12 _ _ ?_)
    refine xseq_k fun KS152 ks152 => ?_
    refine wp_regS (l := [0, 1]) (by kernel_rfl) (by kernel_rfl) fun KR153 kr153 => ?_
    refine wpS.take 0 true (some 32) (.pointer (some ⟨b1, 0, none⟩)) (by kernel_rfl) (yld_load1 (e := 49) (o := 0) hs 2 rfl (by kernel_rfl) (by kernel_rfl) (by rfl) .grow) ?_
    refine wpS.take 1 false (some 0) (.pointer (some ⟨b1, 0, none⟩)) (by kernel_rfl) (yld fun _ => by kernel_rfl) ?_
    refine wpS.fin rfl (kr153 _ _ ?_)
    refine then_n (ks152 _ _ ?_)
    refine xret ?_
    obtain ⟨q0, qr0⟩ := Prod.mk.inj (of_some h)
    have q1 := qr0
    subst q0
    subst q1
    refine qq _ _ ?_
    refine leaves_mark hs 1 rfl fun w hs => ?_
    have hs := hs.conv (L' := [.obj l15 (.loop (rec15 .exhausted none)), .obj D15 (.deferred none), .blk b2 ([.pointer (some ⟨b1, 0, none⟩)]) 49, .blk b1 (([] : List Value) ++ enc .u8 y8_0 ++ enc .u8 y8_1 ++ ([] : List Value)) 48]) rfl
    exact leaves_end (run_results [.tmp 0] [.pointer (some ⟨b1, 0, none⟩)] (by kernel_rfl) (.cons (res_tmp (by kernel_rfl)) .nil)) ⟨_, congrArg Ending.returned (by kernel_rfl), ((hs.conv (L' := [.obj l15 (.loop (rec15 .exhausted none)), .obj D15 (.deferred none), .blk b2 ([.pointer (some ⟨b1, 0, none⟩)]) 49, .blk b1 (([] : List Value) ++ enc .u8 y8_0 ++ enc .u8 y8_1 ++ ([] : List Value)) 48]) rfl).drop (.cons _ (.cons _ (.cons _ (.cons_cons _ .slnil)))))⟩

theorem aes_Box.ok {K : Nat} {a0 : Int} {r0 : Int} (h : aes_Box.f K a0 = some r0) (w0 : World) : Ret Try.prog 13 #[.int .u8 a0] w0 (.int .u8 r0) := by
  refine calls_k Try.func13 rfl fun Q qq => ?_
  have hs := St.start w0
  refine wp_conv (a' := ⟨#[.int .u8 a0, undef, undef, undef, undef, undef, undef, undef, undef], []⟩) (by kernel_rfl) ?_
  refine xseq_k fun KS1 ks1 => ?_
  refine wp_regS (l := [0]) (by kernel_rfl) (by kernel_rfl) fun KR2 kr2 => ?_
  refine wpS.take 0 false (some 2) (.int .u8 0) (by kernel_rfl) (yld fun _ => by kernel_rfl) ?_
  refine wpS.fin rfl (kr2 _ _ ?_)
  refine then_n (ks1 _ _ ?_)
  refine xseq_k fun KS3 ks3 => ?_
  refine wp_regS (l := [0, 1, 2, 3, 4, 5, 6]) (by kernel_rfl) (by kernel_rfl) fun KR4 kr4 => ?_
  obtain ⟨⟨r1_0, r1_1⟩, hg, h⟩ := of_bind h
  refine wpS.only 0 (op_callB (d := (some 3)) (by kernel_rfl) hs (fun _ => by kernel_rfl) (aes_made.ok hg _) ?_)
  intro b2 w gw hs
  refine ⟨fun _ => trivial, ?_⟩
  refine wpS.take 1 false (some 4) (.int .u8 a0) (by kernel_rfl) (yld fun _ => by kernel_rfl) ?_
  refine wpS.take 2 false (some 5) (.pointer (some ⟨b2, 0, none⟩)) (by kernel_rfl) (yld fun _ => by kernel_rfl) ?_
  refine wpS.take 3 false (some 6) (.pointer (some ⟨b2, 0, none⟩)) (by kernel_rfl) (yld fun _ => by kernel_rfl) ?_
  obtain ⟨i0_5, h⟩ := of_chk h
  obtain ⟨i1_5, h⟩ := of_chk h
  refine wpS.take 4 false (some 7) (.pointer (some ⟨b2, 0 + (a0 : Int).toNat * 1, none⟩)) (by kernel_rfl) (yld_idx (t := 46) (e := 5) (n := 256) (sz := 1) (k := .u8) (x := a0) (by kernel_rfl) (by kernel_rfl) (by kernel_rfl) i0_5 i1_5) ?_
  refine wpS.take 5 true (some 8) (.int .u8 (rd r1_0 a0)) (by kernel_rfl) (yld_loadR (m := 0) (k := .u8) (pre := ([] : List Value)) (post := enc .u8 r1_1) (c := r1_0) (e := 5) (x := a0) hs 0 rfl (by simp only [List.append_assoc, List.nil_append, List.cons_append, List.append_nil]) (by kernel_rfl) (by kernel_rfl) i0_5 i1_5 (by simp [enc_len]) .grow) ?_
  obtain ⟨x3, hx, h⟩ := of_bind h
  refine wpS.take 6 false (some 2) (.int .u8 x3) (by kernel_rfl) (yld_int hx (fun _ => by kernel_rfl)) ?_
  refine wpS.fin rfl (kr4 _ _ ?_)
  refine then_n (ks3 _ _ ?_)
  refine xret ?_
  have q0 := of_some h
  subst q0
  exact qq _ _ (post_ret (by kernel_rfl) (run_results [.tmp 2] [.int .u8 x3] (by kernel_rfl) (.cons (res_tmp (by kernel_rfl)) .nil)) ⟨congrArg Ending.returned (by kernel_rfl), hs.none⟩)

theorem ref10_Mul.ok {K : Nat} {a0 : Int} {a1 : Int} {r0 : Int} (h : ref10_Mul.f K a0 a1 = some r0) (w0 : World) : Ret Try.prog 16 #[.int .u8 a0, .int .u8 a1] w0 (.int .u8 r0) := by
  refine calls_k Try.func16 rfl fun Q qq => ?_
  have hs := St.start w0
  refine wp_conv (a' := ⟨#[.int .u8 a0, .int .u8 a1, undef, undef, undef, undef, undef, undef, undef, undef, undef, undef, undef, undef, undef, undef, undef, undef, undef, undef, undef, undef, undef, undef, undef, undef, undef, undef], []⟩) (by kernel_rfl) ?_
  refine xseq_k fun KS1 ks1 => ?_
  refine wp_regS (l := [0]) (by kernel_rfl) (by kernel_rfl) fun KR2 kr2 => ?_
  refine wpS.take 0 false (some 4) (.int .u8 0) (by kernel_rfl) (yld fun _ => by kernel_rfl) ?_
  refine wpS.fin rfl (kr2 _ _ ?_)
  refine then_n (ks1 _ _ ?_)
  refine xseq_k fun KS3 ks3 => ?_
  refine wp_regS (l := [0]) (by kernel_rfl) (by kernel_rfl) fun KR4 kr4 => ?_
  refine wpS.take 0 false (some 5) (.int .u8 0) (by kernel_rfl) (yld fun _ => by kernel_rfl) ?_
  refine wpS.fin rfl (kr4 _ _ ?_)
  refine then_n (ks3 _ _ ?_)
  refine xseq_k fun KS201 ks201 => ?_
  refine xseq_k fun KS202 ks202 => ?_
  refine wp_regS (l := [0]) (by kernel_rfl) (by kernel_rfl) fun KR203 kr203 => ?_
  refine wpS.take 0 false (some 6) (.int .i64 0) (by kernel_rfl) (yld fun _ => by kernel_rfl) ?_
  refine wpS.fin rfl (kr203 _ _ ?_)
  refine then_n (ks202 _ _ ?_)
  obtain ⟨y5, hy, hk0⟩ := of_bind h
  refine wp_exq (N := fun a w => St w0 [] [] [] w ∧ ∃ g : Nat → Value, a = ⟨#[(g 0), (g 1), undef, undef, .int .u8 0, .int .u8 y5, (g 6), (g 7), (g 8), (g 9), (g 10), (g 11), (g 12), (g 13), (g 14), (g 15), (g 16), (g 17), (g 18), (g 19), (g 20), (g 21), (g 22), (g 23), (g 24), (g 25), (g 26), undef], []⟩) (fun N0 nn0 => ?_) ?_
  · clear hk0
    refine xblock ?_
    refine wp_loop_k (fun n a w => ∃ z1 z2 z3 z4, ref10_Mul.l0 K n z1 z2 z3 z4 = some y5 ∧ St w0 [] [] [] w ∧ ∃ g : Nat → Value, a = ⟨#[.int .u8 z1, .int .u8 z2, undef, undef, .int .u8 0, .int .u8 z3, .int .i64 z4, (g 7), (g 8), (g 9), (g 10), (g 11), (g 12), (g 13), (g 14), (g 15), (g 16), (g 17), (g 18), (g 19), (g 20), (g 21), (g 22), (g 23), (g 24), (g 25), (g 26), undef], []⟩) K ⟨a0, a1, 0, 0, hy, hs.conv rfl, exg (by kernel_rfl)⟩ ?_
    clear hs h hy
    rintro n a w ⟨z1, z2, z3, z4, h, hs, g, rfl⟩ KL0 kl0
    cases n with
    | zero => exact nomatch (show none = some _ from h)
    | succ n =>
      refine xseq_k fun KS303 ks303 => ?_
      refine xseq_k fun KS304 ks304 => ?_
      refine wp_regS (l := [0, 1]) (by kernel_rfl) (by kernel_rfl) fun KR305 kr305 => ?_
      refine wpS.take 0 false (some 8) (.int .i64 z4) (by kernel_rfl) (yld fun _ => by kernel_rfl) ?_
      rcases of_if h with ⟨hc, h⟩ | ⟨hc, h⟩
      · refine wpS.take 1 false (some 9) (.bool true) (by kernel_rfl) (yld_b (dt hc) (fun _ => by kernel_rfl)) ?_
        refine wpS.fin rfl (kr305 _ _ ?_)
        refine then_n (ks304 _ _ ?_)
        refine wp_cond_t (by kernel_rfl) ?_
        refine xskip ?_
        refine then_n (ks303 _ _ ?_)
        obtain ⟨⟨y6, y7, y8⟩, hj, h⟩ := of_bind h
        refine xseq_k fun KS397 ks397 => wp_join (N := fun a w => St w0 [] [] [] w ∧ ∃ g : Nat → Value, a = ⟨#[.int .u8 y6, .int .u8 y7, undef, undef, .int .u8 0, .int .u8 y8, .int .i64 z4, (g 7), .int .i64 z4, .bool true, (g 10), (g 11), (g 12), (g 13), (g 14), (g 15), (g 16), (g 17), (g 18), (g 19), (g 20), (g 21), (g 22), (g 23), (g 24), (g 25), (g 26), undef], []⟩) (fun N nj => ?_) ?_
        · clear h
          have h := hj
          refine xblock ?_
          obtain ⟨y9, hj, h⟩ := of_bind h
          refine xseq_k fun KS395 ks395 => wp_join (N := fun a w => St w0 [] [] [] w ∧ ∃ g : Nat → Value, a = ⟨#[.int .u8 z1, .int .u8 z2, undef, undef, .int .u8 0, .int .u8 y9, .int .i64 z4, (g 7), .int .i64 z4, .bool true, (g 10), (g 11), (g 12), (g 13), (g 14), (g 15), (g 16), (g 17), (g 18), (g 19), (g 20), (g 21), (g 22), (g 23), (g 24), (g 25), (g 26), undef], []⟩) (fun N nj => ?_) ?_
          · clear h
            have h := hj
            refine xseq_k fun KS372 ks372 => ?_
            refine wp_regS (l := [0, 1, 2]) (by kernel_rfl) (by kernel_rfl) fun KR373 kr373 => ?_
            refine wpS.take 0 false (some 12) (.int .u8 z2) (by kernel_rfl) (yld fun _ => by kernel_rfl) ?_
            refine wpS.take 1 false (some 13) (.int .u8 (iand .u8 z2 1)) (by kernel_rfl) (yld fun _ => by kernel_rfl) ?_
            rcases of_if h with ⟨hc, h⟩ | ⟨hc, h⟩
            · refine wpS.take 2 false (some 14) (.bool true) (by kernel_rfl) (yld_b (et hc) (fun _ => by kernel_rfl)) ?_
              refine wpS.fin rfl (kr373 _ _ ?_)
              refine then_n (ks372 _ _ ?_)
              refine wp_cond_t (by kernel_rfl) ?_
              refine wp_regS (l := [0, 1, 2, 3]) (by kernel_rfl) (by kernel_rfl) fun KR374 kr374 => ?_
              refine wpS.take 0 false (some 15) (.int .u8 z3) (by kernel_rfl) (yld fun _ => by kernel_rfl) ?_
              refine wpS.take 1 false (some 16) (.int .u8 z1) (by kernel_rfl) (yld fun _ => by kernel_rfl) ?_
              refine wpS.take 2 false (some 17) (.int .u8 (ixor .u8 z3 z1)) (by kernel_rfl) (yld fun _ => by kernel_rfl) ?_
              obtain ⟨x10, hx, h⟩ := of_bind h
              refine wpS.take 3 false (some 5) (.int .u8 x10) (by kernel_rfl) (yld_int hx (fun _ => by kernel_rfl)) ?_
              refine wpS.fin rfl (kr374 _ _ ?_)
              have q0 := of_some h
              subst q0
              exact nj _ _ ⟨(hs.conv rfl), exg (by kernel_rfl)⟩
            · refine wpS.take 2 false (some 14) (.bool false) (by kernel_rfl) (yld_b (ef hc) (fun _ => by kernel_rfl)) ?_
              refine wpS.fin rfl (kr373 _ _ ?_)
              refine then_n (ks372 _ _ ?_)
              refine wp_cond_f (by kernel_rfl) ?_
              refine xskip ?_
              have q0 := of_some h
              subst q0
              exact nj _ _ ⟨(hs.conv rfl), exg (by kernel_rfl)⟩
          · clear hj hs
            rintro a w ⟨hs, g, rfl⟩
            refine then_n (ks395 _ _ ?_)
            refine xseq_k fun KS375 ks375 => ?_
            refine wp_regS (l := [0, 1, 2]) (by kernel_rfl) (by kernel_rfl) fun KR376 kr376 => ?_
            refine wpS.take 0 false (some 18) (.int .u8 z1) (by kernel_rfl) (yld fun _ => by kernel_rfl) ?_
            rcases of_if h with ⟨hc, h⟩ | ⟨hc, h⟩
            · refine wpS.take 1 false (some 19) (.bool true) (by kernel_rfl) (yld_b (dt hc) (fun _ => by kernel_rfl)) ?_
              refine wpS.take 2 false (some 7) (.bool true) (by kernel_rfl) (yld fun _ => by kernel_rfl) ?_
              refine wpS.fin rfl (kr376 _ _ ?_)
              refine then_n (ks375 _ _ ?_)
              refine xseq_k fun KS377 ks377 => ?_
              refine wp_regS (l := [0, 1, 2]) (by kernel_rfl) (by kernel_rfl) fun KR378 kr378 => ?_
              refine wpS.take 0 false (some 20) (.int .u8 z1) (by kernel_rfl) (yld fun _ => by kernel_rfl) ?_
              refine wpS.take 1 false (some 21) (.int .u8 (ishl .u8 z1 1)) (by kernel_rfl) (yld fun _ => by kernel_rfl) ?_
              obtain ⟨x11, hx, h⟩ := of_bind h
              refine wpS.take 2 false (some 0) (.int .u8 x11) (by kernel_rfl) (yld_int hx (fun _ => by kernel_rfl)) ?_
              refine wpS.fin rfl (kr378 _ _ ?_)
              refine then_n (ks377 _ _ ?_)
              refine xseq_k fun KS382 ks382 => ?_
              refine xseq_k fun KS383 ks383 => ?_
              refine wp_regS (l := [0]) (by kernel_rfl) (by kernel_rfl) fun KR384 kr384 => ?_
              refine wpS.take 0 false (some 22) (.bool true) (by kernel_rfl) (yld fun _ => by kernel_rfl) ?_
              refine wpS.fin rfl (kr384 _ _ ?_)
              refine then_n (ks383 _ _ ?_)
              refine wp_cond_t (by kernel_rfl) ?_
              refine wp_regS (l := [0, 1, 2]) (by kernel_rfl) (by kernel_rfl) fun KR385 kr385 => ?_
              refine wpS.take 0 false (some 23) (.int .u8 x11) (by kernel_rfl) (yld fun _ => by kernel_rfl) ?_
              refine wpS.take 1 false (some 24) (.int .u8 (ixor .u8 x11 27)) (by kernel_rfl) (yld fun _ => by kernel_rfl) ?_
              obtain ⟨x12, hx, h⟩ := of_bind h
              refine wpS.take 2 false (some 0) (.int .u8 x12) (by kernel_rfl) (yld_int hx (fun _ => by kernel_rfl)) ?_
              refine wpS.fin rfl (kr385 _ _ ?_)
              refine then_n (ks382 _ _ ?_)
              refine wp_regS (l := [0, 1, 2]) (by kernel_rfl) (by kernel_rfl) fun KR386 kr386 => ?_
              refine wpS.take 0 false (some 25) (.int .u8 z2) (by kernel_rfl) (yld fun _ => by kernel_rfl) ?_
              refine wpS.take 1 false (some 26) (.int .u8 (ishr .u8 z2 1)) (by kernel_rfl) (yld fun _ => by kernel_rfl) ?_
              obtain ⟨x13, hx, h⟩ := of_bind h
              refine wpS.take 2 false (some 1) (.int .u8 x13) (by kernel_rfl) (yld_int hx (fun _ => by kernel_rfl)) ?_
              refine wpS.fin rfl (kr386 _ _ ?_)
              refine inBlock_n ?_
              obtain ⟨q0, qr0⟩ := Prod.mk.inj (of_some h)
              obtain ⟨q1, qr1⟩ := Prod.mk.inj (qr0)
              have q2 := qr1
              subst q0
              subst q1
              subst q2
              exact nj _ _ ⟨(hs.conv rfl), exg (by kernel_rfl)⟩
            · refine wpS.take 1 false (some 19) (.bool false) (by kernel_rfl) (yld_b (df hc) (fun _ => by kernel_rfl)) ?_
              refine wpS.take 2 false (some 7) (.bool false) (by kernel_rfl) (yld fun _ => by kernel_rfl) ?_
              refine wpS.fin rfl (kr376 _ _ ?_)
              refine then_n (ks375 _ _ ?_)
              refine xseq_k fun KS387 ks387 => ?_
              refine wp_regS (l := [0, 1, 2]) (by kernel_rfl) (by kernel_rfl) fun KR388 kr388 => ?_
              refine wpS.take 0 false (some 20) (.int .u8 z1) (by kernel_rfl) (yld fun _ => by kernel_rfl) ?_
              refine wpS.take 1 false (some 21) (.int .u8 (ishl .u8 z1 1)) (by kernel_rfl) (yld fun _ => by kernel_rfl) ?_
              obtain ⟨x14, hx, h⟩ := of_bind h
              refine wpS.take 2 false (some 0) (.int .u8 x14) (by kernel_rfl) (yld_int hx (fun _ => by kernel_rfl)) ?_
              refine wpS.fin rfl (kr388 _ _ ?_)
              refine then_n (ks387 _ _ ?_)
              refine xseq_k fun KS391 ks391 => ?_
              refine xseq_k fun KS392 ks392 => ?_
              refine wp_regS (l := [0]) (by kernel_rfl) (by kernel_rfl) fun KR393 kr393 => ?_
              refine wpS.take 0 false (some 22) (.bool false) (by kernel_rfl) (yld fun _ => by kernel_rfl) ?_
              refine wpS.fin rfl (kr393 _ _ ?_)
              refine then_n (ks392 _ _ ?_)
              refine wp_cond_f (by kernel_rfl) ?_
              refine xskip ?_
              refine then_n (ks391 _ _ ?_)
              refine wp_regS (l := [0, 1, 2]) (by kernel_rfl) (by kernel_rfl) fun KR394 kr394 => ?_
              refine wpS.take 0 false (some 25) (.int .u8 z2) (by kernel_rfl) (yld fun _ => by kernel_rfl) ?_
              refine wpS.take 1 false (some 26) (.int .u8 (ishr .u8 z2 1)) (by kernel_rfl) (yld fun _ => by kernel_rfl) ?_
              obtain ⟨x15, hx, h⟩ := of_bind h
              refine wpS.take 2 false (some 1) (.int .u8 x15) (by kernel_rfl) (yld_int hx (fun _ => by kernel_rfl)) ?_
              refine wpS.fin rfl (kr394 _ _ ?_)
              refine inBlock_n ?_
              obtain ⟨q0, qr0⟩ := Prod.mk.inj (of_some h)
              obtain ⟨q1, qr1⟩ := Prod.mk.inj (qr0)
              have q2 := qr1
              subst q0
              subst q1
              subst q2
              exact nj _ _ ⟨(hs.conv rfl), exg (by kernel_rfl)⟩
        · clear hj hs
          rintro a w ⟨hs, g, rfl⟩
          refine then_n (ks397 _ _ ?_)
          refine wp_regS (l := [0, 1, 2]) (by kernel_rfl) (by kernel_rfl) fun KR396 kr396 => ?_
          refine wpS.take 0 false (some 10) (.int .i64 z4) (by kernel_rfl) (yld fun _ => by kernel_rfl) ?_
          refine wpS.take 1 false (some 11) (.int .i64 (iadd .i64 z4 1)) (by kernel_rfl) (yld fun _ => by kernel_rfl) ?_
          obtain ⟨x16, hx, h⟩ := of_bind h
          refine wpS.take 2 false (some 6) (.int .i64 x16) (by kernel_rfl) (yld_int hx (fun _ => by kernel_rfl)) ?_
          refine wpS.fin rfl (kr396 _ _ ?_)
          exact then_n (kl0 _ _ ⟨n, Nat.lt_succ_self n, y6, y7, y8, x16, h, (hs.conv rfl), exg (by kernel_rfl)⟩)
      · refine wpS.take 1 false (some 9) (.bool false) (by kernel_rfl) (yld_b (df hc) (fun _ => by kernel_rfl)) ?_
        refine wpS.fin rfl (kr305 _ _ ?_)
        refine then_n (ks304 _ _ ?_)
        refine wp_cond_f (by kernel_rfl) ?_
        refine xexit ?_
        refine then_x ?_
        refine then_x ?_
        refine inBlock_hit ?_
        have q0 := of_some h
        subst q0
        exact exq_n (nn0 _ _ ⟨(hs.conv rfl), exg (by kernel_rfl)⟩)
  · clear hs h hy
    rintro a w ⟨hs, g, rfl⟩
    have h := hk0
    refine then_n (ks201 _ _ ?_)
    refine xseq_k fun KS398 ks398 => ?_
    refine wp_regS (l := [0, 1]) (by kernel_rfl) (by kernel_rfl) fun KR399 kr399 => ?_
    refine wpS.take 0 false (some 27) (.int .u8 y5) (by kernel_rfl) (yld fun _ => by kernel_rfl) ?_
    refine wpS.take 1 false (some 4) (.int .u8 y5) (by kernel_rfl) (yld fun _ => by kernel_rfl) ?_
    refine wpS.fin rfl (kr399 _ _ ?_)
    refine then_n (ks398 _ _ ?_)
    refine xret ?_
    have q0 := of_some h
    subst q0
    exact qq _ _ (post_ret (by kernel_rfl) (run_results [.tmp 4] [.int .u8 y5] (by kernel_rfl) (.cons (res_tmp (by kernel_rfl)) .nil)) ⟨congrArg Ending.returned (by kernel_rfl), hs.none⟩)

theorem ref10_inverse.ok {K : Nat} {a0 : Int} {r0 : Int} (h : ref10_inverse.f K a0 = some r0) (w0 : World) : Ret Try.prog 45 #[.int .u8 a0] w0 (.int .u8 r0) := by
  refine calls_k Try.func45 rfl fun Q qq => ?_
  have hs := St.start w0
  refine wp_conv (a' := ⟨#[.int .u8 a0, undef, undef, undef, undef, undef, undef, undef, undef, undef, undef, undef, undef, undef, undef, undef], []⟩) (by kernel_rfl) ?_
  refine xseq_k fun KS1 ks1 => ?_
  refine wp_regS (l := [0]) (by kernel_rfl) (by kernel_rfl) fun KR2 kr2 => ?_
  refine wpS.take 0 false (some 2) (.int .u8 0) (by kernel_rfl) (yld fun _ => by kernel_rfl) ?_
  refine wpS.fin rfl (kr2 _ _ ?_)
  refine then_n (ks1 _ _ ?_)
  refine xseq_k fun KS3 ks3 => ?_
  refine wp_regS (l := [0]) (by kernel_rfl) (by kernel_rfl) fun KR4 kr4 => ?_
  refine wpS.take 0 false (some 3) (.int .u8 1) (by kernel_rfl) (yld fun _ => by kernel_rfl) ?_
  refine wpS.fin rfl (kr4 _ _ ?_)
  refine then_n (ks3 _ _ ?_)
  refine xseq_k fun KS27 ks27 => ?_
  refine xseq_k fun KS28 ks28 => ?_
  refine wp_regS (l := [0]) (by kernel_rfl) (by kernel_rfl) fun KR29 kr29 => ?_
  refine wpS.take 0 false (some 4) (.int .i64 0) (by kernel_rfl) (yld fun _ => by kernel_rfl) ?_
  refine wpS.fin rfl (kr29 _ _ ?_)
  refine then_n (ks28 _ _ ?_)
  obtain ⟨y4, hy, hk0⟩ := of_bind h
  refine wp_exq (N := fun a w => St w0 [] [] [] w ∧ ∃ g : Nat → Value, a = ⟨#[(g 0), undef, .int .u8 0, .int .u8 y4, (g 4), (g 5), (g 6), (g 7), (g 8), (g 9), (g 10), (g 11), (g 12), (g 13), (g 14), undef], []⟩) (fun N0 nn0 => ?_) ?_
  · clear hk0
    refine xblock ?_
    refine wp_loop_k (fun n a w => ∃ z1 z2 z3, ref10_inverse.l0 K n z1 z2 z3 = some y4 ∧ St w0 [] [] [] w ∧ ∃ g : Nat → Value, a = ⟨#[.int .u8 z1, undef, .int .u8 0, .int .u8 z2, .int .i64 z3, (g 5), (g 6), (g 7), (g 8), (g 9), (g 10), (g 11), (g 12), (g 13), (g 14), undef], []⟩) K ⟨a0, 1, 0, hy, hs.conv rfl, exg (by kernel_rfl)⟩ ?_
    clear hs h hy
    rintro n a w ⟨z1, z2, z3, h, hs, g, rfl⟩ KL0 kl0
    cases n with
    | zero => exact nomatch (show none = some _ from h)
    | succ n =>
      refine xseq_k fun KS42 ks42 => ?_
      refine xseq_k fun KS43 ks43 => ?_
      refine wp_regS (l := [0, 1]) (by kernel_rfl) (by kernel_rfl) fun KR44 kr44 => ?_
      refine wpS.take 0 false (some 5) (.int .i64 z3) (by kernel_rfl) (yld fun _ => by kernel_rfl) ?_
      rcases of_if h with ⟨hc, h⟩ | ⟨hc, h⟩
      · refine wpS.take 1 false (some 6) (.bool true) (by kernel_rfl) (yld_b (dt hc) (fun _ => by kernel_rfl)) ?_
        refine wpS.fin rfl (kr44 _ _ ?_)
        refine then_n (ks43 _ _ ?_)
        refine wp_cond_t (by kernel_rfl) ?_
        refine xskip ?_
        refine then_n (ks42 _ _ ?_)
        refine xseq_k fun KS45 ks45 => ?_
        refine xblock ?_
        refine xseq_k fun KS46 ks46 => ?_
        refine wp_regS (l := [0, 1, 2, 3]) (by kernel_rfl) (by kernel_rfl) fun KR47 kr47 => ?_
        refine wpS.take 0 false (some 9) (.int .u8 z1) (by kernel_rfl) (yld fun _ => by kernel_rfl) ?_
        refine wpS.take 1 false (some 10) (.int .u8 z1) (by kernel_rfl) (yld fun _ => by kernel_rfl) ?_
        obtain ⟨r5, hg, h⟩ := of_bind h
        refine wpS.only 2 (op_call (d := (some 11)) (by kernel_rfl) hs (fun _ => by kernel_rfl) (ref10_Mul.ok hg _) ?_)
        intro w gw hs
        refine ⟨fun _ => trivial, ?_⟩
        refine wpS.take 3 false (some 0) (.int .u8 r5) (by kernel_rfl) (yld fun _ => by kernel_rfl) ?_
        refine wpS.fin rfl (kr47 _ _ ?_)
        refine then_n (ks46 _ _ ?_)
        refine wp_regS (l := [0, 1, 2, 3]) (by kernel_rfl) (by kernel_rfl) fun KR48 kr48 => ?_
        refine wpS.take 0 false (some 12) (.int .u8 z2) (by kernel_rfl) (yld fun _ => by kernel_rfl) ?_
        refine wpS.take 1 false (some 13) (.int .u8 r5) (by kernel_rfl) (yld fun _ => by kernel_rfl) ?_
        obtain ⟨r6, hg, h⟩ := of_bind h
        refine wpS.only 2 (op_call (d := (some 14)) (by kernel_rfl) hs (fun _ => by kernel_rfl) (ref10_Mul.ok hg _) ?_)
        intro w gw hs
        refine ⟨fun _ => trivial, ?_⟩
        refine wpS.take 3 false (some 3) (.int .u8 r6) (by kernel_rfl) (yld fun _ => by kernel_rfl) ?_
        refine wpS.fin rfl (kr48 _ _ ?_)
        refine inBlock_n ?_
        refine then_n (ks45 _ _ ?_)
        refine wp_regS (l := [0, 1, 2]) (by kernel_rfl) (by kernel_rfl) fun KR49 kr49 => ?_
        refine wpS.take 0 false (some 7) (.int .i64 z3) (by kernel_rfl) (yld fun _ => by kernel_rfl) ?_
        refine wpS.take 1 false (some 8) (.int .i64 (iadd .i64 z3 1)) (by kernel_rfl) (yld fun _ => by kernel_rfl) ?_
        obtain ⟨x7, hx, h⟩ := of_bind h
        refine wpS.take 2 false (some 4) (.int .i64 x7) (by kernel_rfl) (yld_int hx (fun _ => by kernel_rfl)) ?_
        refine wpS.fin rfl (kr49 _ _ ?_)
        exact then_n (kl0 _ _ ⟨n, Nat.lt_succ_self n, r5, r6, x7, h, (hs.conv rfl), exg (by kernel_rfl)⟩)
      · refine wpS.take 1 false (some 6) (.bool false) (by kernel_rfl) (yld_b (df hc) (fun _ => by kernel_rfl)) ?_
        refine wpS.fin rfl (kr44 _ _ ?_)
        refine then_n (ks43 _ _ ?_)
        refine wp_cond_f (by kernel_rfl) ?_
        refine xexit ?_
        refine then_x ?_
        refine then_x ?_
        refine inBlock_hit ?_
        have q0 := of_some h
        subst q0
        exact exq_n (nn0 _ _ ⟨(hs.conv rfl), exg (by kernel_rfl)⟩)
  · clear hs h hy
    rintro a w ⟨hs, g, rfl⟩
    have h := hk0
    refine then_n (ks27 _ _ ?_)
    refine xseq_k fun KS50 ks50 => ?_
    refine wp_regS (l := [0, 1]) (by kernel_rfl) (by kernel_rfl) fun KR51 kr51 => ?_
    refine wpS.take 0 false (some 15) (.int .u8 y4) (by kernel_rfl) (yld fun _ => by kernel_rfl) ?_
    refine wpS.take 1 false (some 2) (.int .u8 y4) (by kernel_rfl) (yld fun _ => by kernel_rfl) ?_
    refine wpS.fin rfl (kr51 _ _ ?_)
    refine then_n (ks50 _ _ ?_)
    refine xret ?_
    have q0 := of_some h
    subst q0
    exact qq _ _ (post_ret (by kernel_rfl) (run_results [.tmp 2] [.int .u8 y4] (by kernel_rfl) (.cons (res_tmp (by kernel_rfl)) .nil)) ⟨congrArg Ending.returned (by kernel_rfl), hs.none⟩)

theorem ref10_Box.ok {K : Nat} {a0 : Int} {r0 : Int} (h : ref10_Box.f K a0 = some r0) (w0 : World) : Ret Try.prog 14 #[.int .u8 a0] w0 (.int .u8 r0) := by
  refine calls_k Try.func14 rfl fun Q qq => ?_
  have hs := St.start w0
  refine wp_conv (a' := ⟨#[.int .u8 a0, undef, undef, undef, undef, undef, undef, undef, undef, undef, undef, undef, undef, undef, undef, undef, undef, undef, undef, undef, undef, undef, undef], []⟩) (by kernel_rfl) ?_
  refine xseq_k fun KS1 ks1 => ?_
  refine wp_regS (l := [0]) (by kernel_rfl) (by kernel_rfl) fun KR2 kr2 => ?_
  refine wpS.take 0 false (some 2) (.int .u8 0) (by kernel_rfl) (yld fun _ => by kernel_rfl) ?_
  refine wpS.fin rfl (kr2 _ _ ?_)
  refine then_n (ks1 _ _ ?_)
  refine xseq_k fun KS3 ks3 => ?_
  refine wp_regS (l := [0, 1, 2]) (by kernel_rfl) (by kernel_rfl) fun KR4 kr4 => ?_
  refine wpS.take 0 false (some 6) (.int .u8 a0) (by kernel_rfl) (yld fun _ => by kernel_rfl) ?_
  obtain ⟨r1, hg, h⟩ := of_bind h
  refine wpS.only 1 (op_call (d := (some 7)) (by kernel_rfl) hs (fun _ => by kernel_rfl) (ref10_inverse.ok hg _) ?_)
  intro w gw hs
  refine ⟨fun _ => trivial, ?_⟩
  refine wpS.take 2 false (some 3) (.int .u8 r1) (by kernel_rfl) (yld fun _ => by kernel_rfl) ?_
  refine wpS.fin rfl (kr4 _ _ ?_)
  refine then_n (ks3 _ _ ?_)
  refine xseq_k fun KS5 ks5 => ?_
  refine wp_regS (l := [0]) (by kernel_rfl) (by kernel_rfl) fun KR6 kr6 => ?_
  refine wpS.take 0 false (some 4) (.int .u8 99) (by kernel_rfl) (yld fun _ => by kernel_rfl) ?_
  refine wpS.fin rfl (kr6 _ _ ?_)
  refine then_n (ks5 _ _ ?_)
  refine xseq_k fun KS25 ks25 => ?_
  refine xseq_k fun KS26 ks26 => ?_
  refine wp_regS (l := [0]) (by kernel_rfl) (by kernel_rfl) fun KR27 kr27 => ?_
  refine wpS.take 0 false (some 5) (.int .i64 0) (by kernel_rfl) (yld fun _ => by kernel_rfl) ?_
  refine wpS.fin rfl (kr27 _ _ ?_)
  refine then_n (ks26 _ _ ?_)
  obtain ⟨y4, hy, hk0⟩ := of_bind h
  refine wp_exq (N := fun a w => St w0 [] [] [] w ∧ ∃ g : Nat → Value, a = ⟨#[.int .u8 a0, undef, .int .u8 0, .int .u8 r1, .int .u8 y4, (g 5), .int .u8 a0, .int .u8 r1, (g 8), (g 9), (g 10), (g 11), (g 12), (g 13), (g 14), (g 15), (g 16), (g 17), (g 18), (g 19), (g 20), (g 21), undef], []⟩) (fun N0 nn0 => ?_) ?_
  · clear hk0
    refine xblock ?_
    refine wp_loop_k (fun n a w => ∃ z2 z3, ref10_Box.l0 K n r1 z2 z3 = some y4 ∧ St w0 [] [] [] w ∧ ∃ g : Nat → Value, a = ⟨#[.int .u8 a0, undef, .int .u8 0, .int .u8 r1, .int .u8 z2, .int .i64 z3, .int .u8 a0, .int .u8 r1, (g 8), (g 9), (g 10), (g 11), (g 12), (g 13), (g 14), (g 15), (g 16), (g 17), (g 18), (g 19), (g 20), (g 21), undef], []⟩) K ⟨99, 0, hy, hs.conv rfl, exg (by kernel_rfl)⟩ ?_
    clear hs h hy
    rintro n a w ⟨z2, z3, h, hs, g, rfl⟩ KL0 kl0
    cases n with
    | zero => exact nomatch (show none = some _ from h)
    | succ n =>
      refine xseq_k fun KS38 ks38 => ?_
      refine xseq_k fun KS39 ks39 => ?_
      refine wp_regS (l := [0, 1]) (by kernel_rfl) (by kernel_rfl) fun KR40 kr40 => ?_
      refine wpS.take 0 false (some 8) (.int .i64 z3) (by kernel_rfl) (yld fun _ => by kernel_rfl) ?_
      rcases of_if h with ⟨hc, h⟩ | ⟨hc, h⟩
      · refine wpS.take 1 false (some 9) (.bool true) (by kernel_rfl) (yld_b (dt hc) (fun _ => by kernel_rfl)) ?_
        refine wpS.fin rfl (kr40 _ _ ?_)
        refine then_n (ks39 _ _ ?_)
        refine wp_cond_t (by kernel_rfl) ?_
        refine xskip ?_
        refine then_n (ks38 _ _ ?_)
        refine xseq_k fun KS41 ks41 => ?_
        refine xblock ?_
        refine wp_regG [] (fun k => True) 11 (by kernel_rfl) (by kernel_rfl) (by kernel_rfl) fun KR42 kr42 => ?_
        have hs := hs.drawn1
        refine wpG.takeD 0 false (some 12) (.int .u8 z2) (by kernel_rfl) (by kernel_rfl) (yld fun _ => by kernel_rfl) ?_
        refine wpG.takeD 1 false (some 13) (.int .u8 r1) (by kernel_rfl) (by kernel_rfl) (yld fun _ => by kernel_rfl) ?_
        refine wpG.takeD 2 false (some 14) (.int .i64 z3) (by kernel_rfl) (by kernel_rfl) (yld fun _ => by kernel_rfl) ?_
        obtain ⟨h0, h⟩ := of_chk h
        refine wpG.takeD 3 false (some 15) (.int .u8 (ishl .u8 r1 z3)) (by kernel_rfl) (by kernel_rfl) (yld_shl (t := 5) (k' := .i64) (by kernel_rfl) h0) ?_
        refine wpG.takeD 4 false (some 16) (.int .u8 r1) (by kernel_rfl) (by kernel_rfl) (yld fun _ => by kernel_rfl) ?_
        refine wpG.takeD 5 false (some 17) (.int .i64 z3) (by kernel_rfl) (by kernel_rfl) (yld fun _ => by kernel_rfl) ?_
        refine wpG.takeD 6 false (some 18) (.int .i64 (isub .i64 8 z3)) (by kernel_rfl) (by kernel_rfl) (yld fun _ => by kernel_rfl) ?_
        obtain ⟨h0, h⟩ := of_chk h
        refine wpG.takeD 7 false (some 19) (.int .u8 (ishr .u8 r1 (isub .i64 8 z3))) (by kernel_rfl) (by kernel_rfl) (yld_shr (t := 5) (k' := .i64) (by kernel_rfl) h0) ?_
        refine wpG.takeD 8 false (some 20) (.int .u8 (ior .u8 (ishl .u8 r1 z3) (ishr .u8 r1 (isub .i64 8 z3)))) (by kernel_rfl) (by kernel_rfl) (yld fun _ => by kernel_rfl) ?_
        refine wpG.takeD 9 false (some 21) (.int .u8 (ixor .u8 z2 (ior .u8 (ishl .u8 r1 z3) (ishr .u8 r1 (isub .i64 8 z3))))) (by kernel_rfl) (by kernel_rfl) (yld fun _ => by kernel_rfl) ?_
        obtain ⟨x5, hx, h⟩ := of_bind h
        refine wpG.takeD 10 false (some 4) (.int .u8 x5) (by kernel_rfl) (by kernel_rfl) (yld_int hx (fun _ => by kernel_rfl)) ?_
        refine wpG.fin (by kernel_rfl) rfl (kr42 _ _ ?_)
        refine inBlock_n ?_
        refine then_n (ks41 _ _ ?_)
        refine wp_regS (l := [0, 1, 2]) (by kernel_rfl) (by kernel_rfl) fun KR43 kr43 => ?_
        refine wpS.take 0 false (some 10) (.int .i64 z3) (by kernel_rfl) (yld fun _ => by kernel_rfl) ?_
        refine wpS.take 1 false (some 11) (.int .i64 (iadd .i64 z3 1)) (by kernel_rfl) (yld fun _ => by kernel_rfl) ?_
        obtain ⟨x6, hx, h⟩ := of_bind h
        refine wpS.take 2 false (some 5) (.int .i64 x6) (by kernel_rfl) (yld_int hx (fun _ => by kernel_rfl)) ?_
        refine wpS.fin rfl (kr43 _ _ ?_)
        exact then_n (kl0 _ _ ⟨n, Nat.lt_succ_self n, x5, x6, h, (hs.conv rfl), exg (by kernel_rfl)⟩)
      · refine wpS.take 1 false (some 9) (.bool false) (by kernel_rfl) (yld_b (df hc) (fun _ => by kernel_rfl)) ?_
        refine wpS.fin rfl (kr40 _ _ ?_)
        refine then_n (ks39 _ _ ?_)
        refine wp_cond_f (by kernel_rfl) ?_
        refine xexit ?_
        refine then_x ?_
        refine then_x ?_
        refine inBlock_hit ?_
        have q0 := of_some h
        subst q0
        exact exq_n (nn0 _ _ ⟨(hs.conv rfl), exg (by kernel_rfl)⟩)
  · clear hs h hy
    rintro a w ⟨hs, g, rfl⟩
    have h := hk0
    refine then_n (ks25 _ _ ?_)
    refine xseq_k fun KS44 ks44 => ?_
    refine wp_regS (l := [0, 1]) (by kernel_rfl) (by kernel_rfl) fun KR45 kr45 => ?_
    refine wpS.take 0 false (some 22) (.int .u8 y4) (by kernel_rfl) (yld fun _ => by kernel_rfl) ?_
    refine wpS.take 1 false (some 2) (.int .u8 y4) (by kernel_rfl) (yld fun _ => by kernel_rfl) ?_
    refine wpS.fin rfl (kr45 _ _ ?_)
    refine then_n (ks44 _ _ ?_)
    refine xret ?_
    have q0 := of_some h
    subst q0
    exact qq _ _ (post_ret (by kernel_rfl) (run_results [.tmp 2] [.int .u8 y4] (by kernel_rfl) (.cons (res_tmp (by kernel_rfl)) .nil)) ⟨congrArg Ending.returned (by kernel_rfl), hs.none⟩)

theorem aes_sized.ok {K : Nat} {a0 : List Int} {r0 : Bool} {a0_A : Option Addr} {a0_n : Nat} {a0_c : Nat} (h : aes_sized.f K a0 = some r0) (w0 : World) (hp0 : RowL (CI .u8) w0 a0_A a0_n a0_c a0) : Ret Try.prog 82 #[.slice a0_A a0_n a0_c] w0 (.bool r0) := by
  refine calls_k Try.func82 rfl fun Q qq => ?_
  have hs := St.startR (all_cons (RowP.ent hp0) all_nil)
  refine wp_conv (a' := ⟨#[.slice a0_A a0_n a0_c, undef, undef, undef, undef, undef, undef, undef, undef, undef, undef, undef, undef, undef, undef, undef], []⟩) (by kernel_rfl) ?_
  refine xseq_k fun KS1 ks1 => ?_
  refine wp_regS (l := [0]) (by kernel_rfl) (by kernel_rfl) fun KR2 kr2 => ?_
  refine wpS.take 0 false (some 2) (.bool false) (by kernel_rfl) (yld fun _ => by kernel_rfl) ?_
  refine wpS.fin rfl (kr2 _ _ ?_)
  refine then_n (ks1 _ _ ?_)
  refine xseq_k fun KS3 ks3 => ?_
  refine wp_regS (l := [0, 1, 2, 3, 4, 5, 6, 7, 8, 9, 10, 11, 12, 13]) (by kernel_rfl) (by kernel_rfl) fun KR4 kr4 => ?_
  refine wpS.take 0 false (some 3) (.slice a0_A a0_n a0_c) (by kernel_rfl) (yld fun _ => by kernel_rfl) ?_
  refine wpS.take 1 false (some 4) (.int .i64 (a0.length : Int)) (by kernel_rfl) (yld_lenL (hs.rowR 0 rfl) (fun _ => by kernel_rfl)) ?_
  rcases of_if h with ⟨hc, h⟩ | ⟨hc, h⟩
  · refine wpS.take 2 false (some 5) (.bool true) (by kernel_rfl) (yld_b (et hc) (fun _ => by kernel_rfl)) ?_
    refine wpS.take 3 false (some 6) (.bool true) (by kernel_rfl) (yld fun _ => by kernel_rfl) ?_
    refine wpS.take 4 false (some 7) (undef) (by kernel_rfl) (yld fun _ => by kernel_rfl) ?_
    refine wpS.take 5 false (some 8) (undef) (by kernel_rfl) (yld fun _ => by kernel_rfl) ?_
    refine wpS.take 6 false (some 9) (undef) (by kernel_rfl) (yld fun _ => by kernel_rfl) ?_
    refine wpS.take 7 false (some 10) (.bool true) (by kernel_rfl) (yld fun _ => by kernel_rfl) ?_
    refine wpS.take 8 false (some 11) (.bool true) (by kernel_rfl) (yld fun _ => by kernel_rfl) ?_
    refine wpS.take 9 false (some 12) (undef) (by kernel_rfl) (yld fun _ => by kernel_rfl) ?_
    refine wpS.take 10 false (some 13) (undef) (by kernel_rfl) (yld fun _ => by kernel_rfl) ?_
    refine wpS.take 11 false (some 14) (undef) (by kernel_rfl) (yld fun _ => by kernel_rfl) ?_
    refine wpS.take 12 false (some 15) (.bool true) (by kernel_rfl) (yld fun _ => by kernel_rfl) ?_
    refine wpS.take 13 false (some 2) (.bool true) (by kernel_rfl) (yld fun _ => by kernel_rfl) ?_
    refine wpS.fin rfl (kr4 _ _ ?_)
    refine then_n (ks3 _ _ ?_)
    refine xret ?_
    have q0 := of_some h
    subst q0
    exact qq _ _ (post_ret (by kernel_rfl) (run_results [.tmp 2] [.bool true] (by kernel_rfl) (.cons (res_tmp (by kernel_rfl)) .nil)) ⟨congrArg Ending.returned (by kernel_rfl), hs.none⟩)
  · refine wpS.take 2 false (some 5) (.bool false) (by kernel_rfl) (yld_b (ef hc) (fun _ => by kernel_rfl)) ?_
    refine wpS.take 3 false (some 6) (.bool false) (by kernel_rfl) (yld fun _ => by kernel_rfl) ?_
    refine wpS.take 4 false (some 7) (.slice a0_A a0_n a0_c) (by kernel_rfl) (yld fun _ => by kernel_rfl) ?_
    refine wpS.take 5 false (some 8) (.int .i64 (a0.length : Int)) (by kernel_rfl) (yld_lenL (hs.rowR 0 rfl) (fun _ => by kernel_rfl)) ?_
    rcases of_if h with ⟨hc, h⟩ | ⟨hc, h⟩
    · refine wpS.take 6 false (some 9) (.bool true) (by kernel_rfl) (yld_b (et hc) (fun _ => by kernel_rfl)) ?_
      refine wpS.take 7 false (some 10) (.bool true) (by kernel_rfl) (yld fun _ => by kernel_rfl) ?_
      refine wpS.take 8 false (some 11) (.bool true) (by kernel_rfl) (yld fun _ => by kernel_rfl) ?_
      refine wpS.take 9 false (some 12) (undef) (by kernel_rfl) (yld fun _ => by kernel_rfl) ?_
      refine wpS.take 10 false (some 13) (undef) (by kernel_rfl) (yld fun _ => by kernel_rfl) ?_
      refine wpS.take 11 false (some 14) (undef) (by kernel_rfl) (yld fun _ => by kernel_rfl) ?_
      refine wpS.take 12 false (some 15) (.bool true) (by kernel_rfl) (yld fun _ => by kernel_rfl) ?_
      refine wpS.take 13 false (some 2) (.bool true) (by kernel_rfl) (yld fun _ => by kernel_rfl) ?_
      refine wpS.fin rfl (kr4 _ _ ?_)
      refine then_n (ks3 _ _ ?_)
      refine xret ?_
      have q0 := of_some h
      subst q0
      exact qq _ _ (post_ret (by kernel_rfl) (run_results [.tmp 2] [.bool true] (by kernel_rfl) (.cons (res_tmp (by kernel_rfl)) .nil)) ⟨congrArg Ending.returned (by kernel_rfl), hs.none⟩)
    · refine wpS.take 6 false (some 9) (.bool false) (by kernel_rfl) (yld_b (ef hc) (fun _ => by kernel_rfl)) ?_
      refine wpS.take 7 false (some 10) (.bool false) (by kernel_rfl) (yld fun _ => by kernel_rfl) ?_
      refine wpS.take 8 false (some 11) (.bool false) (by kernel_rfl) (yld fun _ => by kernel_rfl) ?_
      refine wpS.take 9 false (some 12) (.slice a0_A a0_n a0_c) (by kernel_rfl) (yld fun _ => by kernel_rfl) ?_
      refine wpS.take 10 false (some 13) (.int .i64 (a0.length : Int)) (by kernel_rfl) (yld_lenL (hs.rowR 0 rfl) (fun _ => by kernel_rfl)) ?_
      refine wpS.take 11 false (some 14) (.bool ((a0.length : Int) == 32)) (by kernel_rfl) (yld fun _ => by kernel_rfl) ?_
      refine wpS.take 12 false (some 15) (.bool ((a0.length : Int) == 32)) (by kernel_rfl) (yld fun _ => by kernel_rfl) ?_
      refine wpS.take 13 false (some 2) (.bool ((a0.length : Int) == 32)) (by kernel_rfl) (yld fun _ => by kernel_rfl) ?_
      refine wpS.fin rfl (kr4 _ _ ?_)
      refine then_n (ks3 _ _ ?_)
      refine xret ?_
      have q0 := of_some h
      subst q0
      exact qq _ _ (post_ret (by kernel_rfl) (run_results [.tmp 2] [.bool ((a0.length : Int) == 32)] (by kernel_rfl) (.cons (res_tmp (by kernel_rfl)) .nil)) ⟨congrArg Ending.returned (by kernel_rfl), hs.none⟩)

theorem aes_wrong.ok {K : Nat} {a0 : List Int} {a1 : List Int} {r0 : Int} {a0_A : Option Addr} {a0_n : Nat} {a0_c : Nat} {a1_A : Option Addr} {a1_n : Nat} {a1_c : Nat} (h : aes_wrong.f K a0 a1 = some r0) (w0 : World) (hp0 : RowL (CI .u8) w0 a0_A a0_n a0_c a0) (hp1 : RowL (CI .u8) w0 a1_A a1_n a1_c a1) : Ret Try.prog 46 #[.slice a0_A a0_n a0_c, .slice a1_A a1_n a1_c] w0 (.int .i64 r0) := by
  refine calls_k Try.func46 rfl fun Q qq => ?_
  have hs := St.startR (all_cons (RowP.ent hp0) (all_cons (RowP.ent hp1) all_nil))
  refine wp_conv (a' := ⟨#[.slice a0_A a0_n a0_c, .slice a1_A a1_n a1_c, undef, undef, undef, undef, undef, undef, undef, undef, undef, undef, undef], []⟩) (by kernel_rfl) ?_
  refine xseq_k fun KS1 ks1 => ?_
  refine wp_regS (l := [0]) (by kernel_rfl) (by kernel_rfl) fun KR2 kr2 => ?_
  refine wpS.take 0 false (some 4) (.int .i64 0) (by kernel_rfl) (yld fun _ => by kernel_rfl) ?_
  refine wpS.fin rfl (kr2 _ _ ?_)
  refine then_n (ks1 _ _ ?_)
  refine xseq_k fun KS11 ks11 => ?_
  refine xblock ?_
  refine xseq_k fun KS12 ks12 => ?_
  refine wp_regS (l := [0, 1, 2, 3]) (by kernel_rfl) (by kernel_rfl) fun KR13 kr13 => ?_
  refine wpS.take 0 false (some 6) (.slice a0_A a0_n a0_c) (by kernel_rfl) (yld fun _ => by kernel_rfl) ?_
  obtain ⟨r1, hg, h⟩ := of_bind h
  cases r1 with
  | true =>
    have h := of_if_t h
    refine wpS.only 1 (op_call (d := (some 7)) (by kernel_rfl) hs (fun _ => by kernel_rfl) (aes_sized.ok hg _ (hs.rowR 0 rfl)) ?_)
    intro w gw hs
    refine ⟨fun _ => trivial, ?_⟩
    refine wpS.take 2 false (some 8) (.bool false) (by kernel_rfl) (yld fun _ => by kernel_rfl) ?_
    refine wpS.take 3 false (some 5) (.bool false) (by kernel_rfl) (yld fun _ => by kernel_rfl) ?_
    refine wpS.fin rfl (kr13 _ _ ?_)
    refine then_n (ks12 _ _ ?_)
    refine wp_cond_f (by kernel_rfl) ?_
    refine xseq_k fun KS14 ks14 => ?_
    refine wp_regS (l := [0, 1, 2, 3]) (by kernel_rfl) (by kernel_rfl) fun KR15 kr15 => ?_
    refine wpS.take 0 false (some 10) (.slice a1_A a1_n a1_c) (by kernel_rfl) (yld fun _ => by kernel_rfl) ?_
    refine wpS.take 1 false (some 11) (.int .i64 (a1.length : Int)) (by kernel_rfl) (yld_lenL (hs.rowR 1 rfl) (fun _ => by kernel_rfl)) ?_
    rcases of_if h with ⟨hc, h⟩ | ⟨hc, h⟩
    · refine wpS.take 2 false (some 12) (.bool false) (by kernel_rfl) (yld_b (nf hc) (fun _ => by kernel_rfl)) ?_
      refine wpS.take 3 false (some 9) (.bool false) (by kernel_rfl) (yld fun _ => by kernel_rfl) ?_
      refine wpS.fin rfl (kr15 _ _ ?_)
      refine then_n (ks14 _ _ ?_)
      refine wp_cond_f (by kernel_rfl) ?_
      refine xskip ?_
      refine inBlock_n ?_
      refine then_n (ks11 _ _ ?_)
      refine xseq_k fun KS16 ks16 => ?_
      refine wp_regS (l := [0]) (by kernel_rfl) (by kernel_rfl) fun KR17 kr17 => ?_
      refine wpS.take 0 false (some 4) (.int .i64 0) (by kernel_rfl) (yld fun _ => by kernel_rfl) ?_
      refine wpS.fin rfl (kr17 _ _ ?_)
      refine then_n (ks16 _ _ ?_)
      refine xret ?_
      have q0 := of_some h
      subst q0
      exact qq _ _ (post_ret (by kernel_rfl) (run_results [.tmp 4] [.int .i64 0] (by kernel_rfl) (.cons (res_tmp (by kernel_rfl)) .nil)) ⟨congrArg Ending.returned (by kernel_rfl), hs.none⟩)
    · refine wpS.take 2 false (some 12) (.bool true) (by kernel_rfl) (yld_b (nt hc) (fun _ => by kernel_rfl)) ?_
      refine wpS.take 3 false (some 9) (.bool true) (by kernel_rfl) (yld fun _ => by kernel_rfl) ?_
      refine wpS.fin rfl (kr15 _ _ ?_)
      refine then_n (ks14 _ _ ?_)
      refine wp_cond_t (by kernel_rfl) ?_
      refine xseq_k fun KS18 ks18 => ?_
      refine wp_regS (l := [0]) (by kernel_rfl) (by kernel_rfl) fun KR19 kr19 => ?_
      refine wpS.take 0 false (some 4) (.int .i64 14) (by kernel_rfl) (yld fun _ => by kernel_rfl) ?_
      refine wpS.fin rfl (kr19 _ _ ?_)
      refine then_n (ks18 _ _ ?_)
      refine xret ?_
      refine inBlock_r ?_
      refine then_r ?_
      have q0 := of_some h
      subst q0
      exact qq _ _ (post_ret (by kernel_rfl) (run_results [.tmp 4] [.int .i64 14] (by kernel_rfl) (.cons (res_tmp (by kernel_rfl)) .nil)) ⟨congrArg Ending.returned (by kernel_rfl), hs.none⟩)
  | false =>
    have h := of_if_f h
    refine wpS.only 1 (op_call (d := (some 7)) (by kernel_rfl) hs (fun _ => by kernel_rfl) (aes_sized.ok hg _ (hs.rowR 0 rfl)) ?_)
    intro w gw hs
    refine ⟨fun _ => trivial, ?_⟩
    refine wpS.take 2 false (some 8) (.bool true) (by kernel_rfl) (yld fun _ => by kernel_rfl) ?_
    refine wpS.take 3 false (some 5) (.bool true) (by kernel_rfl) (yld fun _ => by kernel_rfl) ?_
    refine wpS.fin rfl (kr13 _ _ ?_)
    refine then_n (ks12 _ _ ?_)
    refine wp_cond_t (by kernel_rfl) ?_
    refine xseq_k fun KS20 ks20 => ?_
    refine wp_regS (l := [0]) (by kernel_rfl) (by kernel_rfl) fun KR21 kr21 => ?_
    refine wpS.take 0 false (some 4) (.int .i64 10) (by kernel_rfl) (yld fun _ => by kernel_rfl) ?_
    refine wpS.fin rfl (kr21 _ _ ?_)
    refine then_n (ks20 _ _ ?_)
    refine xret ?_
    refine inBlock_r ?_
    refine then_r ?_
    have q0 := of_some h
    subst q0
    exact qq _ _ (post_ret (by kernel_rfl) (run_results [.tmp 4] [.int .i64 10] (by kernel_rfl) (.cons (res_tmp (by kernel_rfl)) .nil)) ⟨congrArg Ending.returned (by kernel_rfl), hs.none⟩)
end Go.Proofs.Ytmpagpbnpgcecaa
