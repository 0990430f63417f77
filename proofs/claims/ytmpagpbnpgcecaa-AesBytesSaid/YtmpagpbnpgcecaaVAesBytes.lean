/- Printed by this work's own program: the code of each function below comes to the answer that its plain form tells. -/
import Derived.Test.YtmpagpbnpgcecaaMi
import Derived.Test.YtmpagpbnpgcecaaProg
import Derived.Test.YtmpagpbnpgcecaaLAesBytes
import Derived.Test.YtmpagpbnpgcecaaEX0
import Derived.Test.YtmpagpbnpgcecaaEX1
set_option linter.unusedVariables false
set_option linter.unusedSimpArgs false
set_option maxRecDepth 100000
set_option maxHeartbeats 4000000
namespace Go.Proofs.Ytmpagpbnpgcecaa
open Go.Mx
attribute [local irreducible] wpOp

theorem law10_AesBytes.ok {K : Nat} {a0 : Int} {a1 : Int} {a2 : Int} {r0 : Bool} (h : law10_AesBytes.f K a0 a1 a2 = some r0) (w0 : World) : Ret Try.prog 3 #[.int .u8 a0, .int .u8 a1, .int .u8 a2] w0 (.bool r0) := by
  refine calls_k Try.func3 rfl fun Q qq => ?_
  have hs := St.start w0
  refine wp_conv (a' := ⟨#[.int .u8 a0, .int .u8 a1, .int .u8 a2, undef, undef, undef, undef, undef, undef, undef, undef, undef, undef, undef, undef, undef, undef, undef, undef, undef, undef, undef, undef, undef, undef, undef, undef, undef, undef, undef, undef, undef, undef, undef, undef, undef, undef, undef, undef, undef, undef, undef, undef, undef, undef, undef, undef, undef, undef, undef, undef, undef, undef, undef, undef, undef, undef, undef, undef, undef, undef, undef, undef, undef, undef, undef, undef, undef, undef, undef, undef, undef, undef, undef, undef, undef], []⟩) (by kernel_rfl) ?_
  refine xseq_k fun KS1 ks1 => ?_
  refine wp_regS (l := [0]) (by kernel_rfl) (by kernel_rfl) fun KR2 kr2 => ?_
  refine wpS.take 0 false (some 6) (.bool false) (by kernel_rfl) (yld fun _ => by kernel_rfl) ?_
  refine wpS.fin rfl (kr2 _ _ ?_)
  refine then_n (ks1 _ _ ?_)
  refine xseq_k fun KS11 ks11 => ?_
  refine xseq_k fun KS12 ks12 => ?_
  refine wp_regS (l := [0, 1, 2, 3, 4, 5, 6, 7, 8, 9, 10, 11, 12, 13, 14, 15, 16, 17, 18, 19, 20, 21, 22, 23, 24]) (by kernel_rfl) (by kernel_rfl) fun KR13 kr13 => ?_
  refine wpS.take 0 false (some 7) (.int .u8 a0) (by kernel_rfl) (yld fun _ => by kernel_rfl) ?_
  obtain ⟨r1, hg, h⟩ := of_bind h
  refine wpS.only 1 (op_call (d := (some 8)) (by kernel_rfl) hs (fun _ => by kernel_rfl) (aes_Box.ok hg _) ?_)
  intro w gw hs
  refine ⟨fun _ => trivial, ?_⟩
  refine wpS.take 2 false (some 9) (.int .u8 a0) (by kernel_rfl) (yld fun _ => by kernel_rfl) ?_
  obtain ⟨r2, hg, h⟩ := of_bind h
  refine wpS.only 3 (op_call (d := (some 10)) (by kernel_rfl) hs (fun _ => by kernel_rfl) (ref10_Box.ok hg _) ?_)
  intro w gw hs
  refine ⟨fun _ => trivial, ?_⟩
  rcases of_if h with ⟨hc, h⟩ | ⟨hc, h⟩
  · refine wpS.take 4 false (some 11) (.bool false) (by kernel_rfl) (yld_b (nf hc) (fun _ => by kernel_rfl)) ?_
    refine wpS.take 5 false (some 12) (.bool false) (by kernel_rfl) (yld fun _ => by kernel_rfl) ?_
    refine wpS.take 6 false (some 13) (.int .u8 a0) (by kernel_rfl) (yld fun _ => by kernel_rfl) ?_
    refine wpS.take 7 false (some 14) (.int .u8 a1) (by kernel_rfl) (yld fun _ => by kernel_rfl) ?_
    obtain ⟨r3, hg, h⟩ := of_bind h
    refine wpS.only 8 (op_call (d := (some 15)) (by kernel_rfl) hs (fun _ => by kernel_rfl) (aes_Mul.ok hg _) ?_)
    intro w gw hs
    refine ⟨fun _ => trivial, ?_⟩
    refine wpS.take 9 false (some 16) (.int .u8 a0) (by kernel_rfl) (yld fun _ => by kernel_rfl) ?_
    refine wpS.take 10 false (some 17) (.int .u8 a1) (by kernel_rfl) (yld fun _ => by kernel_rfl) ?_
    obtain ⟨r4, hg, h⟩ := of_bind h
    refine wpS.only 11 (op_call (d := (some 18)) (by kernel_rfl) hs (fun _ => by kernel_rfl) (ref10_Mul.ok hg _) ?_)
    intro w gw hs
    refine ⟨fun _ => trivial, ?_⟩
    rcases of_if h with ⟨hc, h⟩ | ⟨hc, h⟩
    · refine wpS.take 12 false (some 19) (.bool false) (by kernel_rfl) (yld_b (nf hc) (fun _ => by kernel_rfl)) ?_
      refine wpS.take 13 false (some 20) (.bool false) (by kernel_rfl) (yld fun _ => by kernel_rfl) ?_
      refine wpS.take 14 false (some 21) (.bool false) (by kernel_rfl) (yld fun _ => by kernel_rfl) ?_
      refine wpS.take 15 false (some 22) (.int .u8 a0) (by kernel_rfl) (yld fun _ => by kernel_rfl) ?_
      obtain ⟨r5, hg, h⟩ := of_bind h
      refine wpS.only 16 (op_call (d := (some 23)) (by kernel_rfl) hs (fun _ => by kernel_rfl) (aes_Box.ok hg _) ?_)
      intro w gw hs
      refine ⟨fun _ => trivial, ?_⟩
      refine wpS.take 17 false (some 24) (.int .u8 a1) (by kernel_rfl) (yld fun _ => by kernel_rfl) ?_
      obtain ⟨r6, hg, h⟩ := of_bind h
      refine wpS.only 18 (op_call (d := (some 25)) (by kernel_rfl) hs (fun _ => by kernel_rfl) (aes_Box.ok hg _) ?_)
      intro w gw hs
      refine ⟨fun _ => trivial, ?_⟩
      refine wpS.take 19 false (some 26) (.bool (r5 == r6)) (by kernel_rfl) (yld fun _ => by kernel_rfl) ?_
      refine wpS.take 20 false (some 27) (.int .u8 a0) (by kernel_rfl) (yld fun _ => by kernel_rfl) ?_
      refine wpS.take 21 false (some 28) (.int .u8 a1) (by kernel_rfl) (yld fun _ => by kernel_rfl) ?_
      refine wpS.take 22 false (some 29) (.bool (a0 == a1)) (by kernel_rfl) (yld fun _ => by kernel_rfl) ?_
      rcases of_ifb h with ⟨hc, h⟩ | ⟨hc, h⟩
      · refine wpS.take 23 false (some 30) (.bool true) (by kernel_rfl) (yld_b hc (fun _ => by kernel_rfl)) ?_
        refine wpS.take 24 false (some 31) (.bool true) (by kernel_rfl) (yld fun _ => by kernel_rfl) ?_
        refine wpS.fin rfl (kr13 _ _ ?_)
        refine then_n (ks12 _ _ ?_)
        refine wp_cond_t (by kernel_rfl) ?_
        refine xseq_k fun KS14 ks14 => ?_
        refine wp_regS (l := [0]) (by kernel_rfl) (by kernel_rfl) fun KR15 kr15 => ?_
        refine wpS.take 0 false (some 6) (.bool false) (by kernel_rfl) (yld fun _ => by kernel_rfl) ?_
        refine wpS.fin rfl (kr15 _ _ ?_)
        refine then_n (ks14 _ _ ?_)
        refine xret ?_
        refine then_r ?_
        have q0 := of_some h
        subst q0
        exact qq _ _ (post_ret (by kernel_rfl) (run_results [.tmp 6] [.bool false] (by kernel_rfl) (.cons (res_tmp (by kernel_rfl)) .nil)) ⟨congrArg Ending.returned (by kernel_rfl), hs.none⟩)
      · refine wpS.take 23 false (some 30) (.bool false) (by kernel_rfl) (yld_b hc (fun _ => by kernel_rfl)) ?_
        refine wpS.take 24 false (some 31) (.bool false) (by kernel_rfl) (yld fun _ => by kernel_rfl) ?_
        refine wpS.fin rfl (kr13 _ _ ?_)
        refine then_n (ks12 _ _ ?_)
        refine wp_cond_f (by kernel_rfl) ?_
        refine xskip ?_
        refine then_n (ks11 _ _ ?_)
        refine xseq_k fun KS16 ks16 => ?_
        refine wp_regS (l := [0, 1, 2, 3, 4, 5, 6, 7, 8, 9, 10, 11, 12, 13, 14, 15, 16, 17, 18, 19, 20, 21, 22, 23, 24, 25, 26, 27, 28, 29, 30, 31, 32, 33, 34, 35, 36, 37, 38, 39, 40, 41, 42, 43, 44]) (by kernel_rfl) (by kernel_rfl) fun KR17 kr17 => ?_
        refine wpS.take 0 false (some 32) (.int .u8 a0) (by kernel_rfl) (yld fun _ => by kernel_rfl) ?_
        refine wpS.take 1 false (some 33) (.int .u8 a1) (by kernel_rfl) (yld fun _ => by kernel_rfl) ?_
        obtain ⟨r7, hg, h⟩ := of_bind h
        refine wpS.only 2 (op_call (d := (some 34)) (by kernel_rfl) hs (fun _ => by kernel_rfl) (aes_Mul.ok hg _) ?_)
        intro w gw hs
        refine ⟨fun _ => trivial, ?_⟩
        refine wpS.take 3 false (some 35) (.int .u8 a1) (by kernel_rfl) (yld fun _ => by kernel_rfl) ?_
        refine wpS.take 4 false (some 36) (.int .u8 a0) (by kernel_rfl) (yld fun _ => by kernel_rfl) ?_
        obtain ⟨r8, hg, h⟩ := of_bind h
        refine wpS.only 5 (op_call (d := (some 37)) (by kernel_rfl) hs (fun _ => by kernel_rfl) (aes_Mul.ok hg _) ?_)
        intro w gw hs
        refine ⟨fun _ => trivial, ?_⟩
        rcases of_if h with ⟨hc, h⟩ | ⟨hc, h⟩
        · refine wpS.take 6 false (some 38) (.bool true) (by kernel_rfl) (yld_b (et hc) (fun _ => by kernel_rfl)) ?_
          refine wpS.take 7 false (some 39) (.bool true) (by kernel_rfl) (yld fun _ => by kernel_rfl) ?_
          refine wpS.take 8 false (some 40) (.int .u8 a0) (by kernel_rfl) (yld fun _ => by kernel_rfl) ?_
          refine wpS.take 9 false (some 41) (.int .u8 a1) (by kernel_rfl) (yld fun _ => by kernel_rfl) ?_
          refine wpS.take 10 false (some 42) (.int .u8 a2) (by kernel_rfl) (yld fun _ => by kernel_rfl) ?_
          obtain ⟨r9, hg, h⟩ := of_bind h
          refine wpS.only 11 (op_call (d := (some 43)) (by kernel_rfl) hs (fun _ => by kernel_rfl) (aes_Mul.ok hg _) ?_)
          intro w gw hs
          refine ⟨fun _ => trivial, ?_⟩
          obtain ⟨r10, hg, h⟩ := of_bind h
          refine wpS.only 12 (op_call (d := (some 44)) (by kernel_rfl) hs (fun _ => by kernel_rfl) (aes_Mul.ok hg _) ?_)
          intro w gw hs
          refine ⟨fun _ => trivial, ?_⟩
          refine wpS.take 13 false (some 45) (.int .u8 a0) (by kernel_rfl) (yld fun _ => by kernel_rfl) ?_
          refine wpS.take 14 false (some 46) (.int .u8 a1) (by kernel_rfl) (yld fun _ => by kernel_rfl) ?_
          obtain ⟨r11, hg, h⟩ := of_bind h
          refine wpS.only 15 (op_call (d := (some 47)) (by kernel_rfl) hs (fun _ => by kernel_rfl) (aes_Mul.ok hg _) ?_)
          intro w gw hs
          refine ⟨fun _ => trivial, ?_⟩
          refine wpS.take 16 false (some 48) (.int .u8 a2) (by kernel_rfl) (yld fun _ => by kernel_rfl) ?_
          obtain ⟨r12, hg, h⟩ := of_bind h
          refine wpS.only 17 (op_call (d := (some 49)) (by kernel_rfl) hs (fun _ => by kernel_rfl) (aes_Mul.ok hg _) ?_)
          intro w gw hs
          refine ⟨fun _ => trivial, ?_⟩
          rcases of_if h with ⟨hc, h⟩ | ⟨hc, h⟩
          · refine wpS.take 18 false (some 50) (.bool true) (by kernel_rfl) (yld_b (et hc) (fun _ => by kernel_rfl)) ?_
            refine wpS.take 19 false (some 51) (.bool true) (by kernel_rfl) (yld fun _ => by kernel_rfl) ?_
            refine wpS.take 20 false (some 52) (.bool true) (by kernel_rfl) (yld fun _ => by kernel_rfl) ?_
            refine wpS.take 21 false (some 53) (.int .u8 a0) (by kernel_rfl) (yld fun _ => by kernel_rfl) ?_
            refine wpS.take 22 false (some 54) (.int .u8 a1) (by kernel_rfl) (yld fun _ => by kernel_rfl) ?_
            refine wpS.take 23 false (some 55) (.int .u8 a2) (by kernel_rfl) (yld fun _ => by kernel_rfl) ?_
            refine wpS.take 24 false (some 56) (.int .u8 (ixor .u8 a1 a2)) (by kernel_rfl) (yld fun _ => by kernel_rfl) ?_
            obtain ⟨r13, hg, h⟩ := of_bind h
            refine wpS.only 25 (op_call (d := (some 57)) (by kernel_rfl) hs (fun _ => by kernel_rfl) (aes_Mul.ok hg _) ?_)
            intro w gw hs
            refine ⟨fun _ => trivial, ?_⟩
            refine wpS.take 26 false (some 58) (.int .u8 a0) (by kernel_rfl) (yld fun _ => by kernel_rfl) ?_
            refine wpS.take 27 false (some 59) (.int .u8 a1) (by kernel_rfl) (yld fun _ => by kernel_rfl) ?_
            obtain ⟨r14, hg, h⟩ := of_bind h
            refine wpS.only 28 (op_call (d := (some 60)) (by kernel_rfl) hs (fun _ => by kernel_rfl) (aes_Mul.ok hg _) ?_)
            intro w gw hs
            refine ⟨fun _ => trivial, ?_⟩
            refine wpS.take 29 false (some 61) (.int .u8 a0) (by kernel_rfl) (yld fun _ => by kernel_rfl) ?_
            refine wpS.take 30 false (some 62) (.int .u8 a2) (by kernel_rfl) (yld fun _ => by kernel_rfl) ?_
            obtain ⟨r15, hg, h⟩ := of_bind h
            refine wpS.only 31 (op_call (d := (some 63)) (by kernel_rfl) hs (fun _ => by kernel_rfl) (aes_Mul.ok hg _) ?_)
            intro w gw hs
            refine ⟨fun _ => trivial, ?_⟩
            refine wpS.take 32 false (some 64) (.int .u8 (ixor .u8 r14 r15)) (by kernel_rfl) (yld fun _ => by kernel_rfl) ?_
            rcases of_if h with ⟨hc, h⟩ | ⟨hc, h⟩
            · refine wpS.take 33 false (some 65) (.bool true) (by kernel_rfl) (yld_b (et hc) (fun _ => by kernel_rfl)) ?_
              refine wpS.take 34 false (some 66) (.bool true) (by kernel_rfl) (yld fun _ => by kernel_rfl) ?_
              refine wpS.take 35 false (some 67) (.bool true) (by kernel_rfl) (yld fun _ => by kernel_rfl) ?_
              refine wpS.take 36 false (some 68) (.int .u8 a0) (by kernel_rfl) (yld fun _ => by kernel_rfl) ?_
              obtain ⟨r16, hg, h⟩ := of_bind h
              refine wpS.only 37 (op_call (d := (some 69)) (by kernel_rfl) hs (fun _ => by kernel_rfl) (aes_Mul.ok hg _) ?_)
              intro w gw hs
              refine ⟨fun _ => trivial, ?_⟩
              refine wpS.take 38 false (some 70) (.int .u8 a0) (by kernel_rfl) (yld fun _ => by kernel_rfl) ?_
              rcases of_if h with ⟨hc, h⟩ | ⟨hc, h⟩
              · refine wpS.take 39 false (some 71) (.bool true) (by kernel_rfl) (yld_b (et hc) (fun _ => by kernel_rfl)) ?_
                refine wpS.take 40 false (some 72) (.bool true) (by kernel_rfl) (yld fun _ => by kernel_rfl) ?_
                refine wpS.take 41 false (some 73) (.bool true) (by kernel_rfl) (yld fun _ => by kernel_rfl) ?_
                obtain ⟨r17, hg, h⟩ := of_bind h
                refine wpS.only 42 (op_call (d := (some 74)) (by kernel_rfl) hs (fun _ => by kernel_rfl) (law10_awake.ok hg _) ?_)
                intro w gw hs
                refine ⟨fun _ => trivial, ?_⟩
                refine wpS.take 43 false (some 75) (.bool r17) (by kernel_rfl) (yld fun _ => by kernel_rfl) ?_
                refine wpS.take 44 false (some 6) (.bool r17) (by kernel_rfl) (yld fun _ => by kernel_rfl) ?_
                refine wpS.fin rfl (kr17 _ _ ?_)
                refine then_n (ks16 _ _ ?_)
                refine xret ?_
                have q0 := of_some h
                subst q0
                exact qq _ _ (post_ret (by kernel_rfl) (run_results [.tmp 6] [.bool r17] (by kernel_rfl) (.cons (res_tmp (by kernel_rfl)) .nil)) ⟨congrArg Ending.returned (by kernel_rfl), hs.none⟩)
              · refine wpS.take 39 false (some 71) (.bool false) (by kernel_rfl) (yld_b (ef hc) (fun _ => by kernel_rfl)) ?_
                refine wpS.take 40 false (some 72) (.bool false) (by kernel_rfl) (yld fun _ => by kernel_rfl) ?_
                refine wpS.take 41 false (some 73) (.bool false) (by kernel_rfl) (yld fun _ => by kernel_rfl) ?_
                refine wpS.take 42 false (some 74) (undef) (by kernel_rfl) (yld fun _ => by kernel_rfl) ?_
                refine wpS.take 43 false (some 75) (.bool false) (by kernel_rfl) (yld fun _ => by kernel_rfl) ?_
                refine wpS.take 44 false (some 6) (.bool false) (by kernel_rfl) (yld fun _ => by kernel_rfl) ?_
                refine wpS.fin rfl (kr17 _ _ ?_)
                refine then_n (ks16 _ _ ?_)
                refine xret ?_
                have q0 := of_some h
                subst q0
                exact qq _ _ (post_ret (by kernel_rfl) (run_results [.tmp 6] [.bool false] (by kernel_rfl) (.cons (res_tmp (by kernel_rfl)) .nil)) ⟨congrArg Ending.returned (by kernel_rfl), hs.none⟩)
            · refine wpS.take 33 false (some 65) (.bool false) (by kernel_rfl) (yld_b (ef hc) (fun _ => by kernel_rfl)) ?_
              refine wpS.take 34 false (some 66) (.bool false) (by kernel_rfl) (yld fun _ => by kernel_rfl) ?_
              refine wpS.take 35 false (some 67) (.bool false) (by kernel_rfl) (yld fun _ => by kernel_rfl) ?_
              refine wpS.take 36 false (some 68) (undef) (by kernel_rfl) (yld fun _ => by kernel_rfl) ?_
              refine wpS.take 37 false (some 69) (undef) (by kernel_rfl) (yld fun _ => by kernel_rfl) ?_
              refine wpS.take 38 false (some 70) (undef) (by kernel_rfl) (yld fun _ => by kernel_rfl) ?_
              refine wpS.take 39 false (some 71) (undef) (by kernel_rfl) (yld fun _ => by kernel_rfl) ?_
              refine wpS.take 40 false (some 72) (.bool false) (by kernel_rfl) (yld fun _ => by kernel_rfl) ?_
              refine wpS.take 41 false (some 73) (.bool false) (by kernel_rfl) (yld fun _ => by kernel_rfl) ?_
              refine wpS.take 42 false (some 74) (undef) (by kernel_rfl) (yld fun _ => by kernel_rfl) ?_
              refine wpS.take 43 false (some 75) (.bool false) (by kernel_rfl) (yld fun _ => by kernel_rfl) ?_
              refine wpS.take 44 false (some 6) (.bool false) (by kernel_rfl) (yld fun _ => by kernel_rfl) ?_
              refine wpS.fin rfl (kr17 _ _ ?_)
              refine then_n (ks16 _ _ ?_)
              refine xret ?_
              have q0 := of_some h
              subst q0
              exact qq _ _ (post_ret (by kernel_rfl) (run_results [.tmp 6] [.bool false] (by kernel_rfl) (.cons (res_tmp (by kernel_rfl)) .nil)) ⟨congrArg Ending.returned (by kernel_rfl), hs.none⟩)
          · refine wpS.take 18 false (some 50) (.bool false) (by kernel_rfl) (yld_b (ef hc) (fun _ => by kernel_rfl)) ?_
            refine wpS.take 19 false (some 51) (.bool false) (by kernel_rfl) (yld fun _ => by kernel_rfl) ?_
            refine wpS.take 20 false (some 52) (.bool false) (by kernel_rfl) (yld fun _ => by kernel_rfl) ?_
            refine wpS.take 21 false (some 53) (undef) (by kernel_rfl) (yld fun _ => by kernel_rfl) ?_
            refine wpS.take 22 false (some 54) (undef) (by kernel_rfl) (yld fun _ => by kernel_rfl) ?_
            refine wpS.take 23 false (some 55) (undef) (by kernel_rfl) (yld fun _ => by kernel_rfl) ?_
            refine wpS.take 24 false (some 56) (undef) (by kernel_rfl) (yld fun _ => by kernel_rfl) ?_
            refine wpS.take 25 false (some 57) (undef) (by kernel_rfl) (yld fun _ => by kernel_rfl) ?_
            refine wpS.take 26 false (some 58) (undef) (by kernel_rfl) (yld fun _ => by kernel_rfl) ?_
            refine wpS.take 27 false (some 59) (undef) (by kernel_rfl) (yld fun _ => by kernel_rfl) ?_
            refine wpS.take 28 false (some 60) (undef) (by kernel_rfl) (yld fun _ => by kernel_rfl) ?_
            refine wpS.take 29 false (some 61) (undef) (by kernel_rfl) (yld fun _ => by kernel_rfl) ?_
            refine wpS.take 30 false (some 62) (undef) (by kernel_rfl) (yld fun _ => by kernel_rfl) ?_
            refine wpS.take 31 false (some 63) (undef) (by kernel_rfl) (yld fun _ => by kernel_rfl) ?_
            refine wpS.take 32 false (some 64) (undef) (by kernel_rfl) (yld fun _ => by kernel_rfl) ?_
            refine wpS.take 33 false (some 65) (undef) (by kernel_rfl) (yld fun _ => by kernel_rfl) ?_
            refine wpS.take 34 false (some 66) (.bool false) (by kernel_rfl) (yld fun _ => by kernel_rfl) ?_
            refine wpS.take 35 false (some 67) (.bool false) (by kernel_rfl) (yld fun _ => by kernel_rfl) ?_
            refine wpS.take 36 false (some 68) (undef) (by kernel_rfl) (yld fun _ => by kernel_rfl) ?_
            refine wpS.take 37 false (some 69) (undef) (by kernel_rfl) (yld fun _ => by kernel_rfl) ?_
            refine wpS.take 38 false (some 70) (undef) (by kernel_rfl) (yld fun _ => by kernel_rfl) ?_
            refine wpS.take 39 false (some 71) (undef) (by kernel_rfl) (yld fun _ => by kernel_rfl) ?_
            refine wpS.take 40 false (some 72) (.bool false) (by kernel_rfl) (yld fun _ => by kernel_rfl) ?_
            refine wpS.take 41 false (some 73) (.bool false) (by kernel_rfl) (yld fun _ => by kernel_rfl) ?_
            refine wpS.take 42 false (some 74) (undef) (by kernel_rfl) (yld fun _ => by kernel_rfl) ?_
            refine wpS.take 43 false (some 75) (.bool false) (by kernel_rfl) (yld fun _ => by kernel_rfl) ?_
            refine wpS.take 44 false (some 6) (.bool false) (by kernel_rfl) (yld fun _ => by kernel_rfl) ?_
            refine wpS.fin rfl (kr17 _ _ ?_)
            refine then_n (ks16 _ _ ?_)
            refine xret ?_
            have q0 := of_some h
            subst q0
            exact qq _ _ (post_ret (by kernel_rfl) (run_results [.tmp 6] [.bool false] (by kernel_rfl) (.cons (res_tmp (by kernel_rfl)) .nil)) ⟨congrArg Ending.returned (by kernel_rfl), hs.none⟩)
        · refine wpS.take 6 false (some 38) (.bool false) (by kernel_rfl) (yld_b (ef hc) (fun _ => by kernel_rfl)) ?_
          refine wpS.take 7 false (some 39) (.bool false) (by kernel_rfl) (yld fun _ => by kernel_rfl) ?_
          refine wpS.take 8 false (some 40) (undef) (by kernel_rfl) (yld fun _ => by kernel_rfl) ?_
          refine wpS.take 9 false (some 41) (undef) (by kernel_rfl) (yld fun _ => by kernel_rfl) ?_
          refine wpS.take 10 false (some 42) (undef) (by kernel_rfl) (yld fun _ => by kernel_rfl) ?_
          refine wpS.take 11 false (some 43) (undef) (by kernel_rfl) (yld fun _ => by kernel_rfl) ?_
          refine wpS.take 12 false (some 44) (undef) (by kernel_rfl) (yld fun _ => by kernel_rfl) ?_
          refine wpS.take 13 false (some 45) (undef) (by kernel_rfl) (yld fun _ => by kernel_rfl) ?_
          refine wpS.take 14 false (some 46) (undef) (by kernel_rfl) (yld fun _ => by kernel_rfl) ?_
          refine wpS.take 15 false (some 47) (undef) (by kernel_rfl) (yld fun _ => by kernel_rfl) ?_
          refine wpS.take 16 false (some 48) (undef) (by kernel_rfl) (yld fun _ => by kernel_rfl) ?_
          refine wpS.take 17 false (some 49) (undef) (by kernel_rfl) (yld fun _ => by kernel_rfl) ?_
          refine wpS.take 18 false (some 50) (undef) (by kernel_rfl) (yld fun _ => by kernel_rfl) ?_
          refine wpS.take 19 false (some 51) (.bool false) (by kernel_rfl) (yld fun _ => by kernel_rfl) ?_
          refine wpS.take 20 false (some 52) (.bool false) (by kernel_rfl) (yld fun _ => by kernel_rfl) ?_
          refine wpS.take 21 false (some 53) (undef) (by kernel_rfl) (yld fun _ => by kernel_rfl) ?_
          refine wpS.take 22 false (some 54) (undef) (by kernel_rfl) (yld fun _ => by kernel_rfl) ?_
          refine wpS.take 23 false (some 55) (undef) (by kernel_rfl) (yld fun _ => by kernel_rfl) ?_
          refine wpS.take 24 false (some 56) (undef) (by kernel_rfl) (yld fun _ => by kernel_rfl) ?_
          refine wpS.take 25 false (some 57) (undef) (by kernel_rfl) (yld fun _ => by kernel_rfl) ?_
          refine wpS.take 26 false (some 58) (undef) (by kernel_rfl) (yld fun _ => by kernel_rfl) ?_
          refine wpS.take 27 false (some 59) (undef) (by kernel_rfl) (yld fun _ => by kernel_rfl) ?_
          refine wpS.take 28 false (some 60) (undef) (by kernel_rfl) (yld fun _ => by kernel_rfl) ?_
          refine wpS.take 29 false (some 61) (undef) (by kernel_rfl) (yld fun _ => by kernel_rfl) ?_
          refine wpS.take 30 false (some 62) (undef) (by kernel_rfl) (yld fun _ => by kernel_rfl) ?_
          refine wpS.take 31 false (some 63) (undef) (by kernel_rfl) (yld fun _ => by kernel_rfl) ?_
          refine wpS.take 32 false (some 64) (undef) (by kernel_rfl) (yld fun _ => by kernel_rfl) ?_
          refine wpS.take 33 false (some 65) (undef) (by kernel_rfl) (yld fun _ => by kernel_rfl) ?_
          refine wpS.take 34 false (some 66) (.bool false) (by kernel_rfl) (yld fun _ => by kernel_rfl) ?_
          refine wpS.take 35 false (some 67) (.bool false) (by kernel_rfl) (yld fun _ => by kernel_rfl) ?_
          refine wpS.take 36 false (some 68) (undef) (by kernel_rfl) (yld fun _ => by kernel_rfl) ?_
          refine wpS.take 37 false (some 69) (undef) (by kernel_rfl) (yld fun _ => by kernel_rfl) ?_
          refine wpS.take 38 false (some 70) (undef) (by kernel_rfl) (yld fun _ => by kernel_rfl) ?_
          refine wpS.take 39 false (some 71) (undef) (by kernel_rfl) (yld fun _ => by kernel_rfl) ?_
          refine wpS.take 40 false (some 72) (.bool false) (by kernel_rfl) (yld fun _ => by kernel_rfl) ?_
          refine wpS.take 41 false (some 73) (.bool false) (by kernel_rfl) (yld fun _ => by kernel_rfl) ?_
          refine wpS.take 42 false (some 74) (undef) (by kernel_rfl) (yld fun _ => by kernel_rfl) ?_
          refine wpS.take 43 false (some 75) (.bool false) (by kernel_rfl) (yld fun _ => by kernel_rfl) ?_
          refine wpS.take 44 false (some 6) (.bool false) (by kernel_rfl) (yld fun _ => by kernel_rfl) ?_
          refine wpS.fin rfl (kr17 _ _ ?_)
          refine then_n (ks16 _ _ ?_)
          refine xret ?_
          have q0 := of_some h
          subst q0
          exact qq _ _ (post_ret (by kernel_rfl) (run_results [.tmp 6] [.bool false] (by kernel_rfl) (.cons (res_tmp (by kernel_rfl)) .nil)) ⟨congrArg Ending.returned (by kernel_rfl), hs.none⟩)
    · refine wpS.take 12 false (some 19) (.bool true) (by kernel_rfl) (yld_b (nt hc) (fun _ => by kernel_rfl)) ?_
      refine wpS.take 13 false (some 20) (.bool true) (by kernel_rfl) (yld fun _ => by kernel_rfl) ?_
      refine wpS.take 14 false (some 21) (.bool true) (by kernel_rfl) (yld fun _ => by kernel_rfl) ?_
      refine wpS.take 15 false (some 22) (undef) (by kernel_rfl) (yld fun _ => by kernel_rfl) ?_
      refine wpS.take 16 false (some 23) (undef) (by kernel_rfl) (yld fun _ => by kernel_rfl) ?_
      refine wpS.take 17 false (some 24) (undef) (by kernel_rfl) (yld fun _ => by kernel_rfl) ?_
      refine wpS.take 18 false (some 25) (undef) (by kernel_rfl) (yld fun _ => by kernel_rfl) ?_
      refine wpS.take 19 false (some 26) (undef) (by kernel_rfl) (yld fun _ => by kernel_rfl) ?_
      refine wpS.take 20 false (some 27) (undef) (by kernel_rfl) (yld fun _ => by kernel_rfl) ?_
      refine wpS.take 21 false (some 28) (undef) (by kernel_rfl) (yld fun _ => by kernel_rfl) ?_
      refine wpS.take 22 false (some 29) (undef) (by kernel_rfl) (yld fun _ => by kernel_rfl) ?_
      refine wpS.take 23 false (some 30) (undef) (by kernel_rfl) (yld fun _ => by kernel_rfl) ?_
      refine wpS.take 24 false (some 31) (.bool true) (by kernel_rfl) (yld fun _ => by kernel_rfl) ?_
      refine wpS.fin rfl (kr13 _ _ ?_)
      refine then_n (ks12 _ _ ?_)
      refine wp_cond_t (by kernel_rfl) ?_
      refine xseq_k fun KS18 ks18 => ?_
      refine wp_regS (l := [0]) (by kernel_rfl) (by kernel_rfl) fun KR19 kr19 => ?_
      refine wpS.take 0 false (some 6) (.bool false) (by kernel_rfl) (yld fun _ => by kernel_rfl) ?_
      refine wpS.fin rfl (kr19 _ _ ?_)
      refine then_n (ks18 _ _ ?_)
      refine xret ?_
      refine then_r ?_
      have q0 := of_some h
      subst q0
      exact qq _ _ (post_ret (by kernel_rfl) (run_results [.tmp 6] [.bool false] (by kernel_rfl) (.cons (res_tmp (by kernel_rfl)) .nil)) ⟨congrArg Ending.returned (by kernel_rfl), hs.none⟩)
  · refine wpS.take 4 false (some 11) (.bool true) (by kernel_rfl) (yld_b (nt hc) (fun _ => by kernel_rfl)) ?_
    refine wpS.take 5 false (some 12) (.bool true) (by kernel_rfl) (yld fun _ => by kernel_rfl) ?_
    refine wpS.take 6 false (some 13) (undef) (by kernel_rfl) (yld fun _ => by kernel_rfl) ?_
    refine wpS.take 7 false (some 14) (undef) (by kernel_rfl) (yld fun _ => by kernel_rfl) ?_
    refine wpS.take 8 false (some 15) (undef) (by kernel_rfl) (yld fun _ => by kernel_rfl) ?_
    refine wpS.take 9 false (some 16) (undef) (by kernel_rfl) (yld fun _ => by kernel_rfl) ?_
    refine wpS.take 10 false (some 17) (undef) (by kernel_rfl) (yld fun _ => by kernel_rfl) ?_
    refine wpS.take 11 false (some 18) (undef) (by kernel_rfl) (yld fun _ => by kernel_rfl) ?_
    refine wpS.take 12 false (some 19) (undef) (by kernel_rfl) (yld fun _ => by kernel_rfl) ?_
    refine wpS.take 13 false (some 20) (.bool true) (by kernel_rfl) (yld fun _ => by kernel_rfl) ?_
    refine wpS.take 14 false (some 21) (.bool true) (by kernel_rfl) (yld fun _ => by kernel_rfl) ?_
    refine wpS.take 15 false (some 22) (undef) (by kernel_rfl) (yld fun _ => by kernel_rfl) ?_
    refine wpS.take 16 false (some 23) (undef) (by kernel_rfl) (yld fun _ => by kernel_rfl) ?_
    refine wpS.take 17 false (some 24) (undef) (by kernel_rfl) (yld fun _ => by kernel_rfl) ?_
    refine wpS.take 18 false (some 25) (undef) (by kernel_rfl) (yld fun _ => by kernel_rfl) ?_
    refine wpS.take 19 false (some 26) (undef) (by kernel_rfl) (yld fun _ => by kernel_rfl) ?_
    refine wpS.take 20 false (some 27) (undef) (by kernel_rfl) (yld fun _ => by kernel_rfl) ?_
    refine wpS.take 21 false (some 28) (undef) (by kernel_rfl) (yld fun _ => by kernel_rfl) ?_
    refine wpS.take 22 false (some 29) (undef) (by kernel_rfl) (yld fun _ => by kernel_rfl) ?_
    refine wpS.take 23 false (some 30) (undef) (by kernel_rfl) (yld fun _ => by kernel_rfl) ?_
    refine wpS.take 24 false (some 31) (.bool true) (by kernel_rfl) (yld fun _ => by kernel_rfl) ?_
    refine wpS.fin rfl (kr13 _ _ ?_)
    refine then_n (ks12 _ _ ?_)
    refine wp_cond_t (by kernel_rfl) ?_
    refine xseq_k fun KS20 ks20 => ?_
    refine wp_regS (l := [0]) (by kernel_rfl) (by kernel_rfl) fun KR21 kr21 => ?_
    refine wpS.take 0 false (some 6) (.bool false) (by kernel_rfl) (yld fun _ => by kernel_rfl) ?_
    refine wpS.fin rfl (kr21 _ _ ?_)
    refine then_n (ks20 _ _ ?_)
    refine xret ?_
    refine then_r ?_
    have q0 := of_some h
    subst q0
    exact qq _ _ (post_ret (by kernel_rfl) (run_results [.tmp 6] [.bool false] (by kernel_rfl) (.cons (res_tmp (by kernel_rfl)) .nil)) ⟨congrArg Ending.returned (by kernel_rfl), hs.none⟩)
end Go.Proofs.Ytmpagpbnpgcecaa
