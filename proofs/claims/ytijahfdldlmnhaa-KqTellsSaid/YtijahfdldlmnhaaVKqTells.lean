/- Printed by this work's own program: the code of each function below comes to the answer that its plain form tells. -/
import Derived.Test.YtijahfdldlmnhaaMr
import Derived.Test.YtijahfdldlmnhaaProg
import Derived.Test.YtijahfdldlmnhaaLKqTells
import Derived.Test.YtijahfdldlmnhaaKX0
import Derived.Test.YtijahfdldlmnhaaKX1
import Derived.Test.YtijahfdldlmnhaaKX3
import Derived.Test.YtijahfdldlmnhaaKX4
import Derived.Test.YtijahfdldlmnhaaKX5
import Derived.Test.YtijahfdldlmnhaaKX6
set_option linter.unusedVariables false
set_option linter.unusedSimpArgs false
set_option maxRecDepth 100000
set_option maxHeartbeats 4000000
namespace Go.Proofs.Ytijahfdldlmnhaa
open Go.Mx
attribute [local irreducible] wpOp

theorem law25_KqTells.ok {K : Nat} {a0 : Arr 256} {a1 : Arr 256} {r0 : Bool} (h : law25_KqTells.f K a0 a1 = some r0) (w0 : World) : Ret Try.prog 10 #[.agg (enc .i32 a0).toArray, .agg (enc .i32 a1).toArray] w0 (.bool r0) := by
  refine calls_k Try.func10 rfl fun Q qq => ?_
  have hs := St.start w0
  refine wp_conv (a' := ⟨#[.agg (enc .i32 a0).toArray, .agg (enc .i32 a1).toArray, undef, undef, undef, undef, undef, undef, undef, undef, undef, undef, undef, undef, undef, undef, undef, undef, undef, undef, undef, undef, undef, undef, undef, undef, undef, undef, undef, undef, undef, undef, undef, undef, undef, undef, undef, undef, undef, undef, undef, undef, undef, undef, undef, undef, undef, undef, undef, undef, undef, undef, undef, undef, undef, undef, undef, undef, undef, undef, undef, undef, undef, undef, undef, undef, undef, undef, undef, undef], []⟩) (by kernel_rfl) ?_
  refine wp_seq_k fun KS1 ks1 => ?_
  refine wp_regS (l := [0, 1, 2]) (by kernel_rfl) fun KR kr => ?_
  refine wpS.only 0 (op_box (t := 23) (v := .agg (enc .i32 a0).toArray) (d := (some 2)) (by kernel_rfl) hs (enc .i32 a0) (by kernel_rfl) (by kernel_rfl) ?_)
  intro b1 w gw hs
  refine ⟨fun _ => trivial, ?_⟩
  refine wpS.only 1 (op_box (t := 23) (v := .agg (enc .i32 a1).toArray) (d := (some 3)) (by kernel_rfl) hs (enc .i32 a1) (by kernel_rfl) (by kernel_rfl) ?_)
  intro b2 w gw hs
  refine ⟨fun _ => trivial, ?_⟩
  refine wpS.take 2 false (some 4) (.bool false) (by kernel_rfl) (yld fun _ => by kernel_rfl) ?_
  refine wpS.fin rfl (kr _ _ ?_)
  refine then_n (ks1 _ _ ?_)
  refine wp_seq_k fun KS4 ks4 => ?_
  refine wp_seq_k fun KS5 ks5 => ?_
  refine wp_regG [] (fun k => True) 5 (by kernel_rfl) (by kernel_rfl) fun KR kr => ?_
  have hs := hs.drawn1
  refine wpG.takeD 0 true (some 5) (.agg (enc .i32 a0).toArray) (by kernel_rfl) (by kernel_rfl) (yld_loadW (e := 23) (n := 256) hs 1 rfl (by kernel_rfl) (by kernel_rfl) (by kernel_rfl) (by exact enc_len _ _) .grow) ?_
  refine wpG.takeD 2 true (some 7) (.agg (enc .i32 a0).toArray) (by kernel_rfl) (by kernel_rfl) (yld_loadW (e := 23) (n := 256) hs 1 rfl (by kernel_rfl) (by kernel_rfl) (by kernel_rfl) (by exact enc_len _ _) .grow) ?_
  obtain ⟨r3, hg, h⟩ := of_bind h
  refine wpG.only 1 (by kernel_rfl) (op_call (d := (some 6)) (by kernel_rfl) hs (fun _ => by kernel_rfl) (kq_Fit.ok hg _) ?_)
  intro w gw hs
  refine ⟨.of gw, ?_⟩
  obtain ⟨r4, hg, h⟩ := of_bind h
  refine wpG.only 3 (by kernel_rfl) (op_call (d := (some 8)) (by kernel_rfl) hs (fun _ => by kernel_rfl) (ref25_Fit.ok hg _) ?_)
  intro w gw hs
  refine ⟨.of gw, ?_⟩
  rcases of_ifb h with ⟨hc, h⟩ | ⟨hc, h⟩
  · refine wpG.takeD 4 false (some 9) (.bool true) (by kernel_rfl) (by kernel_rfl) (yld_b hc (fun _ => by kernel_rfl)) ?_
    refine wpG.fin (by kernel_rfl) rfl (kr _ _ ?_)
    refine then_n (ks5 _ _ ?_)
    refine wp_cond_t (by kernel_rfl) ?_
    refine wp_seq_k fun KS6 ks6 => ?_
    refine wp_regS (l := [0]) (by kernel_rfl) fun KR kr => ?_
    refine wpS.take 0 false (some 4) (.bool false) (by kernel_rfl) (yld fun _ => by kernel_rfl) ?_
    refine wpS.fin rfl (kr _ _ ?_)
    refine then_n (ks6 _ _ ?_)
    refine wp_ret ?_
    refine then_r ?_
    have q0 := of_some h
    subst q0
    exact qq _ _ (post_ret (by kernel_rfl) (run_results [.tmp 4] [.bool false] (by kernel_rfl) (.cons (res_tmp (by kernel_rfl)) .nil)) ⟨congrArg Ending.returned (by kernel_rfl), hs.none⟩)
  · refine wpG.takeD 4 false (some 9) (.bool false) (by kernel_rfl) (by kernel_rfl) (yld_b hc (fun _ => by kernel_rfl)) ?_
    refine wpG.fin (by kernel_rfl) rfl (kr _ _ ?_)
    refine then_n (ks5 _ _ ?_)
    refine wp_cond_f (by kernel_rfl) ?_
    refine wp_skip ?_
    refine then_n (ks4 _ _ ?_)
    refine wp_seq_k fun KS10 ks10 => ?_
    refine wp_seq_k fun KS11 ks11 => ?_
    refine wp_regS (l := [0, 1, 2, 3, 4, 5, 6, 7]) (by kernel_rfl) fun KR kr => ?_
    refine wpS.take 0 true (some 10) (.agg (enc .i32 a0).toArray) (by kernel_rfl) (yld_loadW (e := 23) (n := 256) hs 1 rfl (by kernel_rfl) (by kernel_rfl) (by kernel_rfl) (by exact enc_len _ _) .grow) ?_
    obtain ⟨r5, hg, h⟩ := of_bind h
    cases r5 with
    | true =>
      have h := of_if_t h
      refine wpS.only 1 (op_call (d := (some 11)) (by kernel_rfl) hs (fun _ => by kernel_rfl) (ref25_Fit.ok hg _) ?_)
      intro w gw hs
      refine ⟨fun _ => trivial, ?_⟩
      refine wpS.take 2 false (some 12) (.bool false) (by kernel_rfl) (yld fun _ => by kernel_rfl) ?_
      refine wpS.take 3 false (some 13) (.bool false) (by kernel_rfl) (yld fun _ => by kernel_rfl) ?_
      refine wpS.take 4 true (some 14) (.agg (enc .i32 a1).toArray) (by kernel_rfl) (yld_loadW (e := 23) (n := 256) hs 0 rfl (by kernel_rfl) (by kernel_rfl) (by kernel_rfl) (by exact enc_len _ _) .grow) ?_
      obtain ⟨r6, hg, h⟩ := of_bind h
      cases r6 with
      | true =>
        have h := of_if_t h
        refine wpS.only 5 (op_call (d := (some 15)) (by kernel_rfl) hs (fun _ => by kernel_rfl) (ref25_Fit.ok hg _) ?_)
        intro w gw hs
        refine ⟨fun _ => trivial, ?_⟩
        refine wpS.take 6 false (some 16) (.bool false) (by kernel_rfl) (yld fun _ => by kernel_rfl) ?_
        refine wpS.take 7 false (some 17) (.bool false) (by kernel_rfl) (yld fun _ => by kernel_rfl) ?_
        refine wpS.fin rfl (kr _ _ ?_)
        refine then_n (ks11 _ _ ?_)
        refine wp_cond_f (by kernel_rfl) ?_
        refine wp_skip ?_
        refine then_n (ks10 _ _ ?_)
        refine wp_seq_k fun KS12 ks12 => ?_
        refine wp_regG [] (fun k => True) 52 (by kernel_rfl) (by kernel_rfl) fun KR kr => ?_
        have hs := hs.drawn1
        refine wpG.takeD 0 true (some 19) (.agg (enc .i32 a0).toArray) (by kernel_rfl) (by kernel_rfl) (yld_loadW (e := 23) (n := 256) hs 1 rfl (by kernel_rfl) (by kernel_rfl) (by kernel_rfl) (by exact enc_len _ _) .grow) ?_
        refine wpG.takeD 1 true (some 20) (.agg (enc .i32 a1).toArray) (by kernel_rfl) (by kernel_rfl) (yld_loadW (e := 23) (n := 256) hs 0 rfl (by kernel_rfl) (by kernel_rfl) (by kernel_rfl) (by exact enc_len _ _) .grow) ?_
        refine wpG.takeD 3 true (some 22) (.agg (enc .i32 a0).toArray) (by kernel_rfl) (by kernel_rfl) (yld_loadW (e := 23) (n := 256) hs 1 rfl (by kernel_rfl) (by kernel_rfl) (by kernel_rfl) (by exact enc_len _ _) .grow) ?_
        refine wpG.takeD 4 true (some 23) (.agg (enc .i32 a1).toArray) (by kernel_rfl) (by kernel_rfl) (yld_loadW (e := 23) (n := 256) hs 0 rfl (by kernel_rfl) (by kernel_rfl) (by kernel_rfl) (by exact enc_len _ _) .grow) ?_
        obtain ⟨r7, hg, h⟩ := of_bind h
        refine wpG.only 2 (by kernel_rfl) (op_call (d := (some 21)) (by kernel_rfl) hs (fun _ => by kernel_rfl) (kq_Add.ok hg _) ?_)
        intro w gw hs
        refine ⟨.of gw, ?_⟩
        obtain ⟨r8, hg, h⟩ := of_bind h
        refine wpG.only 5 (by kernel_rfl) (op_call (d := (some 24)) (by kernel_rfl) hs (fun _ => by kernel_rfl) (ref25_Add.ok hg _) ?_)
        intro w gw hs
        refine ⟨.of gw, ?_⟩
        rcases of_ifb h with ⟨hc, h⟩ | ⟨hc, h⟩
        · refine wpG.takeD 6 false (some 25) (.bool true) (by kernel_rfl) (by kernel_rfl) (yld_bb hc (yld_eqA (t := 23) (e := 21) (k := .i32) (.tmp 21) (.tmp 24) (by kernel_rfl) (by kernel_rfl) (by kernel_rfl) (by kernel_rfl) (by kernel_rfl) (by kernel_rfl))) ?_
          refine wpG.takeD 7 false (some 26) (.bool true) (by kernel_rfl) (by kernel_rfl) (yld fun _ => by kernel_rfl) ?_
          refine wpG.takeD 8 true (some 27) (.agg (enc .i32 a0).toArray) (by kernel_rfl) (by kernel_rfl) (yld_loadW (e := 23) (n := 256) hs 1 rfl (by kernel_rfl) (by kernel_rfl) (by kernel_rfl) (by exact enc_len _ _) .grow) ?_
          refine wpG.takeD 9 true (some 28) (.agg (enc .i32 a1).toArray) (by kernel_rfl) (by kernel_rfl) (yld_loadW (e := 23) (n := 256) hs 0 rfl (by kernel_rfl) (by kernel_rfl) (by kernel_rfl) (by exact enc_len _ _) .grow) ?_
          refine wpG.takeD 11 true (some 30) (.agg (enc .i32 a0).toArray) (by kernel_rfl) (by kernel_rfl) (yld_loadW (e := 23) (n := 256) hs 1 rfl (by kernel_rfl) (by kernel_rfl) (by kernel_rfl) (by exact enc_len _ _) .grow) ?_
          refine wpG.takeD 12 true (some 31) (.agg (enc .i32 a1).toArray) (by kernel_rfl) (by kernel_rfl) (yld_loadW (e := 23) (n := 256) hs 0 rfl (by kernel_rfl) (by kernel_rfl) (by kernel_rfl) (by exact enc_len _ _) .grow) ?_
          obtain ⟨r9, hg, h⟩ := of_bind h
          refine wpG.only 10 (by kernel_rfl) (op_call (d := (some 29)) (by kernel_rfl) hs (fun _ => by kernel_rfl) (kq_Sub.ok hg _) ?_)
          intro w gw hs
          refine ⟨.of gw, ?_⟩
          obtain ⟨r10, hg, h⟩ := of_bind h
          refine wpG.only 13 (by kernel_rfl) (op_call (d := (some 32)) (by kernel_rfl) hs (fun _ => by kernel_rfl) (ref25_Sub.ok hg _) ?_)
          intro w gw hs
          refine ⟨.of gw, ?_⟩
          rcases of_ifb h with ⟨hc, h⟩ | ⟨hc, h⟩
          · refine wpG.takeD 14 false (some 33) (.bool true) (by kernel_rfl) (by kernel_rfl) (yld_bb hc (yld_eqA (t := 23) (e := 21) (k := .i32) (.tmp 29) (.tmp 32) (by kernel_rfl) (by kernel_rfl) (by kernel_rfl) (by kernel_rfl) (by kernel_rfl) (by kernel_rfl))) ?_
            refine wpG.takeD 15 false (some 34) (.bool true) (by kernel_rfl) (by kernel_rfl) (yld fun _ => by kernel_rfl) ?_
            refine wpG.takeD 16 false (some 35) (.bool true) (by kernel_rfl) (by kernel_rfl) (yld fun _ => by kernel_rfl) ?_
            refine wpG.takeD 17 true (some 36) (.agg (enc .i32 a0).toArray) (by kernel_rfl) (by kernel_rfl) (yld_loadW (e := 23) (n := 256) hs 1 rfl (by kernel_rfl) (by kernel_rfl) (by kernel_rfl) (by exact enc_len _ _) .grow) ?_
            refine wpG.takeD 18 true (some 37) (.agg (enc .i32 a1).toArray) (by kernel_rfl) (by kernel_rfl) (yld_loadW (e := 23) (n := 256) hs 0 rfl (by kernel_rfl) (by kernel_rfl) (by kernel_rfl) (by exact enc_len _ _) .grow) ?_
            refine wpG.takeD 20 true (some 39) (.agg (enc .i32 a0).toArray) (by kernel_rfl) (by kernel_rfl) (yld_loadW (e := 23) (n := 256) hs 1 rfl (by kernel_rfl) (by kernel_rfl) (by kernel_rfl) (by exact enc_len _ _) .grow) ?_
            refine wpG.takeD 21 true (some 40) (.agg (enc .i32 a1).toArray) (by kernel_rfl) (by kernel_rfl) (yld_loadW (e := 23) (n := 256) hs 0 rfl (by kernel_rfl) (by kernel_rfl) (by kernel_rfl) (by exact enc_len _ _) .grow) ?_
            obtain ⟨r11, hg, h⟩ := of_bind h
            refine wpG.only 19 (by kernel_rfl) (op_call (d := (some 38)) (by kernel_rfl) hs (fun _ => by kernel_rfl) (kq_Times.ok hg _) ?_)
            intro w gw hs
            refine ⟨.of gw, ?_⟩
            obtain ⟨r12, hg, h⟩ := of_bind h
            refine wpG.only 22 (by kernel_rfl) (op_call (d := (some 41)) (by kernel_rfl) hs (fun _ => by kernel_rfl) (ref25_Times.ok hg _) ?_)
            intro w gw hs
            refine ⟨.of gw, ?_⟩
            rcases of_ifb h with ⟨hc, h⟩ | ⟨hc, h⟩
            · refine wpG.takeD 23 false (some 42) (.bool true) (by kernel_rfl) (by kernel_rfl) (yld_bb hc (yld_eqA (t := 23) (e := 21) (k := .i32) (.tmp 38) (.tmp 41) (by kernel_rfl) (by kernel_rfl) (by kernel_rfl) (by kernel_rfl) (by kernel_rfl) (by kernel_rfl))) ?_
              refine wpG.takeD 24 false (some 43) (.bool true) (by kernel_rfl) (by kernel_rfl) (yld fun _ => by kernel_rfl) ?_
              refine wpG.takeD 25 false (some 44) (.bool true) (by kernel_rfl) (by kernel_rfl) (yld fun _ => by kernel_rfl) ?_
              refine wpG.takeD 26 true (some 45) (.agg (enc .i32 a0).toArray) (by kernel_rfl) (by kernel_rfl) (yld_loadW (e := 23) (n := 256) hs 1 rfl (by kernel_rfl) (by kernel_rfl) (by kernel_rfl) (by exact enc_len _ _) .grow) ?_
              refine wpG.takeD 28 true (some 47) (.agg (enc .i32 a0).toArray) (by kernel_rfl) (by kernel_rfl) (yld_loadW (e := 23) (n := 256) hs 1 rfl (by kernel_rfl) (by kernel_rfl) (by kernel_rfl) (by exact enc_len _ _) .grow) ?_
              obtain ⟨r13, hg, h⟩ := of_bind h
              refine wpG.only 27 (by kernel_rfl) (op_call (d := (some 46)) (by kernel_rfl) hs (fun _ => by kernel_rfl) (kq_Ntt.ok hg _) ?_)
              intro w gw hs
              refine ⟨.of gw, ?_⟩
              obtain ⟨r14, hg, h⟩ := of_bind h
              refine wpG.only 29 (by kernel_rfl) (op_call (d := (some 48)) (by kernel_rfl) hs (fun _ => by kernel_rfl) (ref25_Ntt.ok hg _) ?_)
              intro w gw hs
              refine ⟨.of gw, ?_⟩
              rcases of_ifb h with ⟨hc, h⟩ | ⟨hc, h⟩
              · refine wpG.takeD 30 false (some 49) (.bool true) (by kernel_rfl) (by kernel_rfl) (yld_bb hc (yld_eqA (t := 23) (e := 21) (k := .i32) (.tmp 46) (.tmp 48) (by kernel_rfl) (by kernel_rfl) (by kernel_rfl) (by kernel_rfl) (by kernel_rfl) (by kernel_rfl))) ?_
                refine wpG.takeD 31 false (some 50) (.bool true) (by kernel_rfl) (by kernel_rfl) (yld fun _ => by kernel_rfl) ?_
                refine wpG.takeD 32 false (some 51) (.bool true) (by kernel_rfl) (by kernel_rfl) (yld fun _ => by kernel_rfl) ?_
                refine wpG.takeD 33 true (some 52) (.agg (enc .i32 a0).toArray) (by kernel_rfl) (by kernel_rfl) (yld_loadW (e := 23) (n := 256) hs 1 rfl (by kernel_rfl) (by kernel_rfl) (by kernel_rfl) (by exact enc_len _ _) .grow) ?_
                refine wpG.takeD 35 true (some 54) (.agg (enc .i32 a0).toArray) (by kernel_rfl) (by kernel_rfl) (yld_loadW (e := 23) (n := 256) hs 1 rfl (by kernel_rfl) (by kernel_rfl) (by kernel_rfl) (by exact enc_len _ _) .grow) ?_
                obtain ⟨r15, hg, h⟩ := of_bind h
                refine wpG.only 34 (by kernel_rfl) (op_call (d := (some 53)) (by kernel_rfl) hs (fun _ => by kernel_rfl) (kq_Back.ok hg _) ?_)
                intro w gw hs
                refine ⟨.of gw, ?_⟩
                obtain ⟨r16, hg, h⟩ := of_bind h
                refine wpG.only 36 (by kernel_rfl) (op_call (d := (some 55)) (by kernel_rfl) hs (fun _ => by kernel_rfl) (ref25_Back.ok hg _) ?_)
                intro w gw hs
                refine ⟨.of gw, ?_⟩
                rcases of_ifb h with ⟨hc, h⟩ | ⟨hc, h⟩
                · refine wpG.takeD 37 false (some 56) (.bool true) (by kernel_rfl) (by kernel_rfl) (yld_bb hc (yld_eqA (t := 23) (e := 21) (k := .i32) (.tmp 53) (.tmp 55) (by kernel_rfl) (by kernel_rfl) (by kernel_rfl) (by kernel_rfl) (by kernel_rfl) (by kernel_rfl))) ?_
                  refine wpG.takeD 38 false (some 57) (.bool true) (by kernel_rfl) (by kernel_rfl) (yld fun _ => by kernel_rfl) ?_
                  refine wpG.takeD 39 false (some 58) (.bool true) (by kernel_rfl) (by kernel_rfl) (yld fun _ => by kernel_rfl) ?_
                  refine wpG.takeD 40 true (some 59) (.agg (enc .i32 a0).toArray) (by kernel_rfl) (by kernel_rfl) (yld_loadW (e := 23) (n := 256) hs 1 rfl (by kernel_rfl) (by kernel_rfl) (by kernel_rfl) (by exact enc_len _ _) .grow) ?_
                  refine wpG.takeD 41 true (some 60) (.agg (enc .i32 a1).toArray) (by kernel_rfl) (by kernel_rfl) (yld_loadW (e := 23) (n := 256) hs 0 rfl (by kernel_rfl) (by kernel_rfl) (by kernel_rfl) (by exact enc_len _ _) .grow) ?_
                  refine wpG.takeD 43 true (some 62) (.agg (enc .i32 a0).toArray) (by kernel_rfl) (by kernel_rfl) (yld_loadW (e := 23) (n := 256) hs 1 rfl (by kernel_rfl) (by kernel_rfl) (by kernel_rfl) (by exact enc_len _ _) .grow) ?_
                  refine wpG.takeD 44 true (some 63) (.agg (enc .i32 a1).toArray) (by kernel_rfl) (by kernel_rfl) (yld_loadW (e := 23) (n := 256) hs 0 rfl (by kernel_rfl) (by kernel_rfl) (by kernel_rfl) (by exact enc_len _ _) .grow) ?_
                  obtain ⟨r17, hg, h⟩ := of_bind h
                  refine wpG.only 42 (by kernel_rfl) (op_call (d := (some 61)) (by kernel_rfl) hs (fun _ => by kernel_rfl) (kq_Mul.ok hg _) ?_)
                  intro w gw hs
                  refine ⟨.of gw, ?_⟩
                  obtain ⟨r18, hg, h⟩ := of_bind h
                  refine wpG.only 45 (by kernel_rfl) (op_call (d := (some 64)) (by kernel_rfl) hs (fun _ => by kernel_rfl) (ref25_Mul.ok hg _) ?_)
                  intro w gw hs
                  refine ⟨.of gw, ?_⟩
                  rcases of_ifb h with ⟨hc, h⟩ | ⟨hc, h⟩
                  · refine wpG.takeD 46 false (some 65) (.bool true) (by kernel_rfl) (by kernel_rfl) (yld_bb hc (yld_eqA (t := 23) (e := 21) (k := .i32) (.tmp 61) (.tmp 64) (by kernel_rfl) (by kernel_rfl) (by kernel_rfl) (by kernel_rfl) (by kernel_rfl) (by kernel_rfl))) ?_
                    refine wpG.takeD 47 false (some 66) (.bool true) (by kernel_rfl) (by kernel_rfl) (yld fun _ => by kernel_rfl) ?_
                    refine wpG.takeD 48 false (some 67) (.bool true) (by kernel_rfl) (by kernel_rfl) (yld fun _ => by kernel_rfl) ?_
                    obtain ⟨r19, hg, h⟩ := of_bind h
                    refine wpG.only 49 (by kernel_rfl) (op_call (d := (some 68)) (by kernel_rfl) hs (fun _ => by kernel_rfl) (law25_awake.ok hg _) ?_)
                    intro w gw hs
                    refine ⟨.of gw, ?_⟩
                    refine wpG.takeD 50 false (some 69) (.bool r19) (by kernel_rfl) (by kernel_rfl) (yld fun _ => by kernel_rfl) ?_
                    refine wpG.takeD 51 false (some 4) (.bool r19) (by kernel_rfl) (by kernel_rfl) (yld fun _ => by kernel_rfl) ?_
                    refine wpG.fin (by kernel_rfl) rfl (kr _ _ ?_)
                    refine then_n (ks12 _ _ ?_)
                    refine wp_ret ?_
                    have q0 := of_some h
                    subst q0
                    exact qq _ _ (post_ret (by kernel_rfl) (run_results [.tmp 4] [.bool r19] (by kernel_rfl) (.cons (res_tmp (by kernel_rfl)) .nil)) ⟨congrArg Ending.returned (by kernel_rfl), hs.none⟩)
                  · refine wpG.takeD 46 false (some 65) (.bool false) (by kernel_rfl) (by kernel_rfl) (yld_bb hc (yld_eqA (t := 23) (e := 21) (k := .i32) (.tmp 61) (.tmp 64) (by kernel_rfl) (by kernel_rfl) (by kernel_rfl) (by kernel_rfl) (by kernel_rfl) (by kernel_rfl))) ?_
                    refine wpG.takeD 47 false (some 66) (.bool false) (by kernel_rfl) (by kernel_rfl) (yld fun _ => by kernel_rfl) ?_
                    refine wpG.takeD 48 false (some 67) (.bool false) (by kernel_rfl) (by kernel_rfl) (yld fun _ => by kernel_rfl) ?_
                    refine wpG.takeD 49 false (some 68) (undef) (by kernel_rfl) (by kernel_rfl) (yld fun _ => by kernel_rfl) ?_
                    refine wpG.takeD 50 false (some 69) (.bool false) (by kernel_rfl) (by kernel_rfl) (yld fun _ => by kernel_rfl) ?_
                    refine wpG.takeD 51 false (some 4) (.bool false) (by kernel_rfl) (by kernel_rfl) (yld fun _ => by kernel_rfl) ?_
                    refine wpG.fin (by kernel_rfl) rfl (kr _ _ ?_)
                    refine then_n (ks12 _ _ ?_)
                    refine wp_ret ?_
                    have q0 := of_some h
                    subst q0
                    exact qq _ _ (post_ret (by kernel_rfl) (run_results [.tmp 4] [.bool false] (by kernel_rfl) (.cons (res_tmp (by kernel_rfl)) .nil)) ⟨congrArg Ending.returned (by kernel_rfl), hs.none⟩)
                · refine wpG.takeD 37 false (some 56) (.bool false) (by kernel_rfl) (by kernel_rfl) (yld_bb hc (yld_eqA (t := 23) (e := 21) (k := .i32) (.tmp 53) (.tmp 55) (by kernel_rfl) (by kernel_rfl) (by kernel_rfl) (by kernel_rfl) (by kernel_rfl) (by kernel_rfl))) ?_
                  refine wpG.takeD 38 false (some 57) (.bool false) (by kernel_rfl) (by kernel_rfl) (yld fun _ => by kernel_rfl) ?_
                  refine wpG.takeD 39 false (some 58) (.bool false) (by kernel_rfl) (by kernel_rfl) (yld fun _ => by kernel_rfl) ?_
                  refine wpG.takeD 40 false (some 59) (undef) (by kernel_rfl) (by kernel_rfl) (yld fun _ => by kernel_rfl) ?_
                  refine wpG.takeD 41 false (some 60) (undef) (by kernel_rfl) (by kernel_rfl) (yld fun _ => by kernel_rfl) ?_
                  refine wpG.takeD 43 false (some 62) (undef) (by kernel_rfl) (by kernel_rfl) (yld fun _ => by kernel_rfl) ?_
                  refine wpG.takeD 44 false (some 63) (undef) (by kernel_rfl) (by kernel_rfl) (yld fun _ => by kernel_rfl) ?_
                  refine wpG.takeD 42 false (some 61) (undef) (by kernel_rfl) (by kernel_rfl) (yld fun _ => by kernel_rfl) ?_
                  refine wpG.takeD 45 false (some 64) (undef) (by kernel_rfl) (by kernel_rfl) (yld fun _ => by kernel_rfl) ?_
                  refine wpG.takeD 46 false (some 65) (undef) (by kernel_rfl) (by kernel_rfl) (yld fun _ => by kernel_rfl) ?_
                  refine wpG.takeD 47 false (some 66) (.bool false) (by kernel_rfl) (by kernel_rfl) (yld fun _ => by kernel_rfl) ?_
                  refine wpG.takeD 48 false (some 67) (.bool false) (by kernel_rfl) (by kernel_rfl) (yld fun _ => by kernel_rfl) ?_
                  refine wpG.takeD 49 false (some 68) (undef) (by kernel_rfl) (by kernel_rfl) (yld fun _ => by kernel_rfl) ?_
                  refine wpG.takeD 50 false (some 69) (.bool false) (by kernel_rfl) (by kernel_rfl) (yld fun _ => by kernel_rfl) ?_
                  refine wpG.takeD 51 false (some 4) (.bool false) (by kernel_rfl) (by kernel_rfl) (yld fun _ => by kernel_rfl) ?_
                  refine wpG.fin (by kernel_rfl) rfl (kr _ _ ?_)
                  refine then_n (ks12 _ _ ?_)
                  refine wp_ret ?_
                  have q0 := of_some h
                  subst q0
                  exact qq _ _ (post_ret (by kernel_rfl) (run_results [.tmp 4] [.bool false] (by kernel_rfl) (.cons (res_tmp (by kernel_rfl)) .nil)) ⟨congrArg Ending.returned (by kernel_rfl), hs.none⟩)
              · refine wpG.takeD 30 false (some 49) (.bool false) (by kernel_rfl) (by kernel_rfl) (yld_bb hc (yld_eqA (t := 23) (e := 21) (k := .i32) (.tmp 46) (.tmp 48) (by kernel_rfl) (by kernel_rfl) (by kernel_rfl) (by kernel_rfl) (by kernel_rfl) (by kernel_rfl))) ?_
                refine wpG.takeD 31 false (some 50) (.bool false) (by kernel_rfl) (by kernel_rfl) (yld fun _ => by kernel_rfl) ?_
                refine wpG.takeD 32 false (some 51) (.bool false) (by kernel_rfl) (by kernel_rfl) (yld fun _ => by kernel_rfl) ?_
                refine wpG.takeD 33 false (some 52) (undef) (by kernel_rfl) (by kernel_rfl) (yld fun _ => by kernel_rfl) ?_
                refine wpG.takeD 35 false (some 54) (undef) (by kernel_rfl) (by kernel_rfl) (yld fun _ => by kernel_rfl) ?_
                refine wpG.takeD 34 false (some 53) (undef) (by kernel_rfl) (by kernel_rfl) (yld fun _ => by kernel_rfl) ?_
                refine wpG.takeD 36 false (some 55) (undef) (by kernel_rfl) (by kernel_rfl) (yld fun _ => by kernel_rfl) ?_
                refine wpG.takeD 37 false (some 56) (undef) (by kernel_rfl) (by kernel_rfl) (yld fun _ => by kernel_rfl) ?_
                refine wpG.takeD 38 false (some 57) (.bool false) (by kernel_rfl) (by kernel_rfl) (yld fun _ => by kernel_rfl) ?_
                refine wpG.takeD 39 false (some 58) (.bool false) (by kernel_rfl) (by kernel_rfl) (yld fun _ => by kernel_rfl) ?_
                refine wpG.takeD 40 false (some 59) (undef) (by kernel_rfl) (by kernel_rfl) (yld fun _ => by kernel_rfl) ?_
                refine wpG.takeD 41 false (some 60) (undef) (by kernel_rfl) (by kernel_rfl) (yld fun _ => by kernel_rfl) ?_
                refine wpG.takeD 43 false (some 62) (undef) (by kernel_rfl) (by kernel_rfl) (yld fun _ => by kernel_rfl) ?_
                refine wpG.takeD 44 false (some 63) (undef) (by kernel_rfl) (by kernel_rfl) (yld fun _ => by kernel_rfl) ?_
                refine wpG.takeD 42 false (some 61) (undef) (by kernel_rfl) (by kernel_rfl) (yld fun _ => by kernel_rfl) ?_
                refine wpG.takeD 45 false (some 64) (undef) (by kernel_rfl) (by kernel_rfl) (yld fun _ => by kernel_rfl) ?_
                refine wpG.takeD 46 false (some 65) (undef) (by kernel_rfl) (by kernel_rfl) (yld fun _ => by kernel_rfl) ?_
                refine wpG.takeD 47 false (some 66) (.bool false) (by kernel_rfl) (by kernel_rfl) (yld fun _ => by kernel_rfl) ?_
                refine wpG.takeD 48 false (some 67) (.bool false) (by kernel_rfl) (by kernel_rfl) (yld fun _ => by kernel_rfl) ?_
                refine wpG.takeD 49 false (some 68) (undef) (by kernel_rfl) (by kernel_rfl) (yld fun _ => by kernel_rfl) ?_
                refine wpG.takeD 50 false (some 69) (.bool false) (by kernel_rfl) (by kernel_rfl) (yld fun _ => by kernel_rfl) ?_
                refine wpG.takeD 51 false (some 4) (.bool false) (by kernel_rfl) (by kernel_rfl) (yld fun _ => by kernel_rfl) ?_
                refine wpG.fin (by kernel_rfl) rfl (kr _ _ ?_)
                refine then_n (ks12 _ _ ?_)
                refine wp_ret ?_
                have q0 := of_some h
                subst q0
                exact qq _ _ (post_ret (by kernel_rfl) (run_results [.tmp 4] [.bool false] (by kernel_rfl) (.cons (res_tmp (by kernel_rfl)) .nil)) ⟨congrArg Ending.returned (by kernel_rfl), hs.none⟩)
            · refine wpG.takeD 23 false (some 42) (.bool false) (by kernel_rfl) (by kernel_rfl) (yld_bb hc (yld_eqA (t := 23) (e := 21) (k := .i32) (.tmp 38) (.tmp 41) (by kernel_rfl) (by kernel_rfl) (by kernel_rfl) (by kernel_rfl) (by kernel_rfl) (by kernel_rfl))) ?_
              refine wpG.takeD 24 false (some 43) (.bool false) (by kernel_rfl) (by kernel_rfl) (yld fun _ => by kernel_rfl) ?_
              refine wpG.takeD 25 false (some 44) (.bool false) (by kernel_rfl) (by kernel_rfl) (yld fun _ => by kernel_rfl) ?_
              refine wpG.takeD 26 false (some 45) (undef) (by kernel_rfl) (by kernel_rfl) (yld fun _ => by kernel_rfl) ?_
              refine wpG.takeD 28 false (some 47) (undef) (by kernel_rfl) (by kernel_rfl) (yld fun _ => by kernel_rfl) ?_
              refine wpG.takeD 27 false (some 46) (undef) (by kernel_rfl) (by kernel_rfl) (yld fun _ => by kernel_rfl) ?_
              refine wpG.takeD 29 false (some 48) (undef) (by kernel_rfl) (by kernel_rfl) (yld fun _ => by kernel_rfl) ?_
              refine wpG.takeD 30 false (some 49) (undef) (by kernel_rfl) (by kernel_rfl) (yld fun _ => by kernel_rfl) ?_
              refine wpG.takeD 31 false (some 50) (.bool false) (by kernel_rfl) (by kernel_rfl) (yld fun _ => by kernel_rfl) ?_
              refine wpG.takeD 32 false (some 51) (.bool false) (by kernel_rfl) (by kernel_rfl) (yld fun _ => by kernel_rfl) ?_
              refine wpG.takeD 33 false (some 52) (undef) (by kernel_rfl) (by kernel_rfl) (yld fun _ => by kernel_rfl) ?_
              refine wpG.takeD 35 false (some 54) (undef) (by kernel_rfl) (by kernel_rfl) (yld fun _ => by kernel_rfl) ?_
              refine wpG.takeD 34 false (some 53) (undef) (by kernel_rfl) (by kernel_rfl) (yld fun _ => by kernel_rfl) ?_
              refine wpG.takeD 36 false (some 55) (undef) (by kernel_rfl) (by kernel_rfl) (yld fun _ => by kernel_rfl) ?_
              refine wpG.takeD 37 false (some 56) (undef) (by kernel_rfl) (by kernel_rfl) (yld fun _ => by kernel_rfl) ?_
              refine wpG.takeD 38 false (some 57) (.bool false) (by kernel_rfl) (by kernel_rfl) (yld fun _ => by kernel_rfl) ?_
              refine wpG.takeD 39 false (some 58) (.bool false) (by kernel_rfl) (by kernel_rfl) (yld fun _ => by kernel_rfl) ?_
              refine wpG.takeD 40 false (some 59) (undef) (by kernel_rfl) (by kernel_rfl) (yld fun _ => by kernel_rfl) ?_
              refine wpG.takeD 41 false (some 60) (undef) (by kernel_rfl) (by kernel_rfl) (yld fun _ => by kernel_rfl) ?_
              refine wpG.takeD 43 false (some 62) (undef) (by kernel_rfl) (by kernel_rfl) (yld fun _ => by kernel_rfl) ?_
              refine wpG.takeD 44 false (some 63) (undef) (by kernel_rfl) (by kernel_rfl) (yld fun _ => by kernel_rfl) ?_
              refine wpG.takeD 42 false (some 61) (undef) (by kernel_rfl) (by kernel_rfl) (yld fun _ => by kernel_rfl) ?_
              refine wpG.takeD 45 false (some 64) (undef) (by kernel_rfl) (by kernel_rfl) (yld fun _ => by kernel_rfl) ?_
              refine wpG.takeD 46 false (some 65) (undef) (by kernel_rfl) (by kernel_rfl) (yld fun _ => by kernel_rfl) ?_
              refine wpG.takeD 47 false (some 66) (.bool false) (by kernel_rfl) (by kernel_rfl) (yld fun _ => by kernel_rfl) ?_
              refine wpG.takeD 48 false (some 67) (.bool false) (by kernel_rfl) (by kernel_rfl) (yld fun _ => by kernel_rfl) ?_
              refine wpG.takeD 49 false (some 68) (undef) (by kernel_rfl) (by kernel_rfl) (yld fun _ => by kernel_rfl) ?_
              refine wpG.takeD 50 false (some 69) (.bool false) (by kernel_rfl) (by kernel_rfl) (yld fun _ => by kernel_rfl) ?_
              refine wpG.takeD 51 false (some 4) (.bool false) (by kernel_rfl) (by kernel_rfl) (yld fun _ => by kernel_rfl) ?_
              refine wpG.fin (by kernel_rfl) rfl (kr _ _ ?_)
              refine then_n (ks12 _ _ ?_)
              refine wp_ret ?_
              have q0 := of_some h
              subst q0
              exact qq _ _ (post_ret (by kernel_rfl) (run_results [.tmp 4] [.bool false] (by kernel_rfl) (.cons (res_tmp (by kernel_rfl)) .nil)) ⟨congrArg Ending.returned (by kernel_rfl), hs.none⟩)
          · refine wpG.takeD 14 false (some 33) (.bool false) (by kernel_rfl) (by kernel_rfl) (yld_bb hc (yld_eqA (t := 23) (e := 21) (k := .i32) (.tmp 29) (.tmp 32) (by kernel_rfl) (by kernel_rfl) (by kernel_rfl) (by kernel_rfl) (by kernel_rfl) (by kernel_rfl))) ?_
            refine wpG.takeD 15 false (some 34) (.bool false) (by kernel_rfl) (by kernel_rfl) (yld fun _ => by kernel_rfl) ?_
            refine wpG.takeD 16 false (some 35) (.bool false) (by kernel_rfl) (by kernel_rfl) (yld fun _ => by kernel_rfl) ?_
            refine wpG.takeD 17 false (some 36) (undef) (by kernel_rfl) (by kernel_rfl) (yld fun _ => by kernel_rfl) ?_
            refine wpG.takeD 18 false (some 37) (undef) (by kernel_rfl) (by kernel_rfl) (yld fun _ => by kernel_rfl) ?_
            refine wpG.takeD 20 false (some 39) (undef) (by kernel_rfl) (by kernel_rfl) (yld fun _ => by kernel_rfl) ?_
            refine wpG.takeD 21 false (some 40) (undef) (by kernel_rfl) (by kernel_rfl) (yld fun _ => by kernel_rfl) ?_
            refine wpG.takeD 19 false (some 38) (undef) (by kernel_rfl) (by kernel_rfl) (yld fun _ => by kernel_rfl) ?_
            refine wpG.takeD 22 false (some 41) (undef) (by kernel_rfl) (by kernel_rfl) (yld fun _ => by kernel_rfl) ?_
            refine wpG.takeD 23 false (some 42) (undef) (by kernel_rfl) (by kernel_rfl) (yld fun _ => by kernel_rfl) ?_
            refine wpG.takeD 24 false (some 43) (.bool false) (by kernel_rfl) (by kernel_rfl) (yld fun _ => by kernel_rfl) ?_
            refine wpG.takeD 25 false (some 44) (.bool false) (by kernel_rfl) (by kernel_rfl) (yld fun _ => by kernel_rfl) ?_
            refine wpG.takeD 26 false (some 45) (undef) (by kernel_rfl) (by kernel_rfl) (yld fun _ => by kernel_rfl) ?_
            refine wpG.takeD 28 false (some 47) (undef) (by kernel_rfl) (by kernel_rfl) (yld fun _ => by kernel_rfl) ?_
            refine wpG.takeD 27 false (some 46) (undef) (by kernel_rfl) (by kernel_rfl) (yld fun _ => by kernel_rfl) ?_
            refine wpG.takeD 29 false (some 48) (undef) (by kernel_rfl) (by kernel_rfl) (yld fun _ => by kernel_rfl) ?_
            refine wpG.takeD 30 false (some 49) (undef) (by kernel_rfl) (by kernel_rfl) (yld fun _ => by kernel_rfl) ?_
            refine wpG.takeD 31 false (some 50) (.bool false) (by kernel_rfl) (by kernel_rfl) (yld fun _ => by kernel_rfl) ?_
            refine wpG.takeD 32 false (some 51) (.bool false) (by kernel_rfl) (by kernel_rfl) (yld fun _ => by kernel_rfl) ?_
            refine wpG.takeD 33 false (some 52) (undef) (by kernel_rfl) (by kernel_rfl) (yld fun _ => by kernel_rfl) ?_
            refine wpG.takeD 35 false (some 54) (undef) (by kernel_rfl) (by kernel_rfl) (yld fun _ => by kernel_rfl) ?_
            refine wpG.takeD 34 false (some 53) (undef) (by kernel_rfl) (by kernel_rfl) (yld fun _ => by kernel_rfl) ?_
            refine wpG.takeD 36 false (some 55) (undef) (by kernel_rfl) (by kernel_rfl) (yld fun _ => by kernel_rfl) ?_
            refine wpG.takeD 37 false (some 56) (undef) (by kernel_rfl) (by kernel_rfl) (yld fun _ => by kernel_rfl) ?_
            refine wpG.takeD 38 false (some 57) (.bool false) (by kernel_rfl) (by kernel_rfl) (yld fun _ => by kernel_rfl) ?_
            refine wpG.takeD 39 false (some 58) (.bool false) (by kernel_rfl) (by kernel_rfl) (yld fun _ => by kernel_rfl) ?_
            refine wpG.takeD 40 false (some 59) (undef) (by kernel_rfl) (by kernel_rfl) (yld fun _ => by kernel_rfl) ?_
            refine wpG.takeD 41 false (some 60) (undef) (by kernel_rfl) (by kernel_rfl) (yld fun _ => by kernel_rfl) ?_
            refine wpG.takeD 43 false (some 62) (undef) (by kernel_rfl) (by kernel_rfl) (yld fun _ => by kernel_rfl) ?_
            refine wpG.takeD 44 false (some 63) (undef) (by kernel_rfl) (by kernel_rfl) (yld fun _ => by kernel_rfl) ?_
            refine wpG.takeD 42 false (some 61) (undef) (by kernel_rfl) (by kernel_rfl) (yld fun _ => by kernel_rfl) ?_
            refine wpG.takeD 45 false (some 64) (undef) (by kernel_rfl) (by kernel_rfl) (yld fun _ => by kernel_rfl) ?_
            refine wpG.takeD 46 false (some 65) (undef) (by kernel_rfl) (by kernel_rfl) (yld fun _ => by kernel_rfl) ?_
            refine wpG.takeD 47 false (some 66) (.bool false) (by kernel_rfl) (by kernel_rfl) (yld fun _ => by kernel_rfl) ?_
            refine wpG.takeD 48 false (some 67) (.bool false) (by kernel_rfl) (by kernel_rfl) (yld fun _ => by kernel_rfl) ?_
            refine wpG.takeD 49 false (some 68) (undef) (by kernel_rfl) (by kernel_rfl) (yld fun _ => by kernel_rfl) ?_
            refine wpG.takeD 50 false (some 69) (.bool false) (by kernel_rfl) (by kernel_rfl) (yld fun _ => by kernel_rfl) ?_
            refine wpG.takeD 51 false (some 4) (.bool false) (by kernel_rfl) (by kernel_rfl) (yld fun _ => by kernel_rfl) ?_
            refine wpG.fin (by kernel_rfl) rfl (kr _ _ ?_)
            refine then_n (ks12 _ _ ?_)
            refine wp_ret ?_
            have q0 := of_some h
            subst q0
            exact qq _ _ (post_ret (by kernel_rfl) (run_results [.tmp 4] [.bool false] (by kernel_rfl) (.cons (res_tmp (by kernel_rfl)) .nil)) ⟨congrArg Ending.returned (by kernel_rfl), hs.none⟩)
        · refine wpG.takeD 6 false (some 25) (.bool false) (by kernel_rfl) (by kernel_rfl) (yld_bb hc (yld_eqA (t := 23) (e := 21) (k := .i32) (.tmp 21) (.tmp 24) (by kernel_rfl) (by kernel_rfl) (by kernel_rfl) (by kernel_rfl) (by kernel_rfl) (by kernel_rfl))) ?_
          refine wpG.takeD 7 false (some 26) (.bool false) (by kernel_rfl) (by kernel_rfl) (yld fun _ => by kernel_rfl) ?_
          refine wpG.takeD 8 false (some 27) (undef) (by kernel_rfl) (by kernel_rfl) (yld fun _ => by kernel_rfl) ?_
          refine wpG.takeD 9 false (some 28) (undef) (by kernel_rfl) (by kernel_rfl) (yld fun _ => by kernel_rfl) ?_
          refine wpG.takeD 11 false (some 30) (undef) (by kernel_rfl) (by kernel_rfl) (yld fun _ => by kernel_rfl) ?_
          refine wpG.takeD 12 false (some 31) (undef) (by kernel_rfl) (by kernel_rfl) (yld fun _ => by kernel_rfl) ?_
          refine wpG.takeD 10 false (some 29) (undef) (by kernel_rfl) (by kernel_rfl) (yld fun _ => by kernel_rfl) ?_
          refine wpG.takeD 13 false (some 32) (undef) (by kernel_rfl) (by kernel_rfl) (yld fun _ => by kernel_rfl) ?_
          refine wpG.takeD 14 false (some 33) (undef) (by kernel_rfl) (by kernel_rfl) (yld fun _ => by kernel_rfl) ?_
          refine wpG.takeD 15 false (some 34) (.bool false) (by kernel_rfl) (by kernel_rfl) (yld fun _ => by kernel_rfl) ?_
          refine wpG.takeD 16 false (some 35) (.bool false) (by kernel_rfl) (by kernel_rfl) (yld fun _ => by kernel_rfl) ?_
          refine wpG.takeD 17 false (some 36) (undef) (by kernel_rfl) (by kernel_rfl) (yld fun _ => by kernel_rfl) ?_
          refine wpG.takeD 18 false (some 37) (undef) (by kernel_rfl) (by kernel_rfl) (yld fun _ => by kernel_rfl) ?_
          refine wpG.takeD 20 false (some 39) (undef) (by kernel_rfl) (by kernel_rfl) (yld fun _ => by kernel_rfl) ?_
          refine wpG.takeD 21 false (some 40) (undef) (by kernel_rfl) (by kernel_rfl) (yld fun _ => by kernel_rfl) ?_
          refine wpG.takeD 19 false (some 38) (undef) (by kernel_rfl) (by kernel_rfl) (yld fun _ => by kernel_rfl) ?_
          refine wpG.takeD 22 false (some 41) (undef) (by kernel_rfl) (by kernel_rfl) (yld fun _ => by kernel_rfl) ?_
          refine wpG.takeD 23 false (some 42) (undef) (by kernel_rfl) (by kernel_rfl) (yld fun _ => by kernel_rfl) ?_
          refine wpG.takeD 24 false (some 43) (.bool false) (by kernel_rfl) (by kernel_rfl) (yld fun _ => by kernel_rfl) ?_
          refine wpG.takeD 25 false (some 44) (.bool false) (by kernel_rfl) (by kernel_rfl) (yld fun _ => by kernel_rfl) ?_
          refine wpG.takeD 26 false (some 45) (undef) (by kernel_rfl) (by kernel_rfl) (yld fun _ => by kernel_rfl) ?_
          refine wpG.takeD 28 false (some 47) (undef) (by kernel_rfl) (by kernel_rfl) (yld fun _ => by kernel_rfl) ?_
          refine wpG.takeD 27 false (some 46) (undef) (by kernel_rfl) (by kernel_rfl) (yld fun _ => by kernel_rfl) ?_
          refine wpG.takeD 29 false (some 48) (undef) (by kernel_rfl) (by kernel_rfl) (yld fun _ => by kernel_rfl) ?_
          refine wpG.takeD 30 false (some 49) (undef) (by kernel_rfl) (by kernel_rfl) (yld fun _ => by kernel_rfl) ?_
          refine wpG.takeD 31 false (some 50) (.bool false) (by kernel_rfl) (by kernel_rfl) (yld fun _ => by kernel_rfl) ?_
          refine wpG.takeD 32 false (some 51) (.bool false) (by kernel_rfl) (by kernel_rfl) (yld fun _ => by kernel_rfl) ?_
          refine wpG.takeD 33 false (some 52) (undef) (by kernel_rfl) (by kernel_rfl) (yld fun _ => by kernel_rfl) ?_
          refine wpG.takeD 35 false (some 54) (undef) (by kernel_rfl) (by kernel_rfl) (yld fun _ => by kernel_rfl) ?_
          refine wpG.takeD 34 false (some 53) (undef) (by kernel_rfl) (by kernel_rfl) (yld fun _ => by kernel_rfl) ?_
          refine wpG.takeD 36 false (some 55) (undef) (by kernel_rfl) (by kernel_rfl) (yld fun _ => by kernel_rfl) ?_
          refine wpG.takeD 37 false (some 56) (undef) (by kernel_rfl) (by kernel_rfl) (yld fun _ => by kernel_rfl) ?_
          refine wpG.takeD 38 false (some 57) (.bool false) (by kernel_rfl) (by kernel_rfl) (yld fun _ => by kernel_rfl) ?_
          refine wpG.takeD 39 false (some 58) (.bool false) (by kernel_rfl) (by kernel_rfl) (yld fun _ => by kernel_rfl) ?_
          refine wpG.takeD 40 false (some 59) (undef) (by kernel_rfl) (by kernel_rfl) (yld fun _ => by kernel_rfl) ?_
          refine wpG.takeD 41 false (some 60) (undef) (by kernel_rfl) (by kernel_rfl) (yld fun _ => by kernel_rfl) ?_
          refine wpG.takeD 43 false (some 62) (undef) (by kernel_rfl) (by kernel_rfl) (yld fun _ => by kernel_rfl) ?_
          refine wpG.takeD 44 false (some 63) (undef) (by kernel_rfl) (by kernel_rfl) (yld fun _ => by kernel_rfl) ?_
          refine wpG.takeD 42 false (some 61) (undef) (by kernel_rfl) (by kernel_rfl) (yld fun _ => by kernel_rfl) ?_
          refine wpG.takeD 45 false (some 64) (undef) (by kernel_rfl) (by kernel_rfl) (yld fun _ => by kernel_rfl) ?_
          refine wpG.takeD 46 false (some 65) (undef) (by kernel_rfl) (by kernel_rfl) (yld fun _ => by kernel_rfl) ?_
          refine wpG.takeD 47 false (some 66) (.bool false) (by kernel_rfl) (by kernel_rfl) (yld fun _ => by kernel_rfl) ?_
          refine wpG.takeD 48 false (some 67) (.bool false) (by kernel_rfl) (by kernel_rfl) (yld fun _ => by kernel_rfl) ?_
          refine wpG.takeD 49 false (some 68) (undef) (by kernel_rfl) (by kernel_rfl) (yld fun _ => by kernel_rfl) ?_
          refine wpG.takeD 50 false (some 69) (.bool false) (by kernel_rfl) (by kernel_rfl) (yld fun _ => by kernel_rfl) ?_
          refine wpG.takeD 51 false (some 4) (.bool false) (by kernel_rfl) (by kernel_rfl) (yld fun _ => by kernel_rfl) ?_
          refine wpG.fin (by kernel_rfl) rfl (kr _ _ ?_)
          refine then_n (ks12 _ _ ?_)
          refine wp_ret ?_
          have q0 := of_some h
          subst q0
          exact qq _ _ (post_ret (by kernel_rfl) (run_results [.tmp 4] [.bool false] (by kernel_rfl) (.cons (res_tmp (by kernel_rfl)) .nil)) ⟨congrArg Ending.returned (by kernel_rfl), hs.none⟩)
      | false =>
        have h := of_if_f h
        refine wpS.only 5 (op_call (d := (some 15)) (by kernel_rfl) hs (fun _ => by kernel_rfl) (ref25_Fit.ok hg _) ?_)
        intro w gw hs
        refine ⟨fun _ => trivial, ?_⟩
        refine wpS.take 6 false (some 16) (.bool true) (by kernel_rfl) (yld fun _ => by kernel_rfl) ?_
        refine wpS.take 7 false (some 17) (.bool true) (by kernel_rfl) (yld fun _ => by kernel_rfl) ?_
        refine wpS.fin rfl (kr _ _ ?_)
        refine then_n (ks11 _ _ ?_)
        refine wp_cond_t (by kernel_rfl) ?_
        refine wp_seq_k fun KS13 ks13 => ?_
        refine wp_regS (l := [0, 1]) (by kernel_rfl) fun KR kr => ?_
        obtain ⟨r20, hg, h⟩ := of_bind h
        refine wpS.only 0 (op_call (d := (some 18)) (by kernel_rfl) hs (fun _ => by kernel_rfl) (law25_awake.ok hg _) ?_)
        intro w gw hs
        refine ⟨fun _ => trivial, ?_⟩
        refine wpS.take 1 false (some 4) (.bool r20) (by kernel_rfl) (yld fun _ => by kernel_rfl) ?_
        refine wpS.fin rfl (kr _ _ ?_)
        refine then_n (ks13 _ _ ?_)
        refine wp_ret ?_
        refine then_r ?_
        have q0 := of_some h
        subst q0
        exact qq _ _ (post_ret (by kernel_rfl) (run_results [.tmp 4] [.bool r20] (by kernel_rfl) (.cons (res_tmp (by kernel_rfl)) .nil)) ⟨congrArg Ending.returned (by kernel_rfl), hs.none⟩)
    | false =>
      have h := of_if_f h
      refine wpS.only 1 (op_call (d := (some 11)) (by kernel_rfl) hs (fun _ => by kernel_rfl) (ref25_Fit.ok hg _) ?_)
      intro w gw hs
      refine ⟨fun _ => trivial, ?_⟩
      refine wpS.take 2 false (some 12) (.bool true) (by kernel_rfl) (yld fun _ => by kernel_rfl) ?_
      refine wpS.take 3 false (some 13) (.bool true) (by kernel_rfl) (yld fun _ => by kernel_rfl) ?_
      refine wpS.take 4 false (some 14) (undef) (by kernel_rfl) (yld fun _ => by kernel_rfl) ?_
      refine wpS.take 5 false (some 15) (undef) (by kernel_rfl) (yld fun _ => by kernel_rfl) ?_
      refine wpS.take 6 false (some 16) (undef) (by kernel_rfl) (yld fun _ => by kernel_rfl) ?_
      refine wpS.take 7 false (some 17) (.bool true) (by kernel_rfl) (yld fun _ => by kernel_rfl) ?_
      refine wpS.fin rfl (kr _ _ ?_)
      refine then_n (ks11 _ _ ?_)
      refine wp_cond_t (by kernel_rfl) ?_
      refine wp_seq_k fun KS14 ks14 => ?_
      refine wp_regS (l := [0, 1]) (by kernel_rfl) fun KR kr => ?_
      obtain ⟨r21, hg, h⟩ := of_bind h
      refine wpS.only 0 (op_call (d := (some 18)) (by kernel_rfl) hs (fun _ => by kernel_rfl) (law25_awake.ok hg _) ?_)
      intro w gw hs
      refine ⟨fun _ => trivial, ?_⟩
      refine wpS.take 1 false (some 4) (.bool r21) (by kernel_rfl) (yld fun _ => by kernel_rfl) ?_
      refine wpS.fin rfl (kr _ _ ?_)
      refine then_n (ks14 _ _ ?_)
      refine wp_ret ?_
      refine then_r ?_
      have q0 := of_some h
      subst q0
      exact qq _ _ (post_ret (by kernel_rfl) (run_results [.tmp 4] [.bool r21] (by kernel_rfl) (.cons (res_tmp (by kernel_rfl)) .nil)) ⟨congrArg Ending.returned (by kernel_rfl), hs.none⟩)
end Go.Proofs.Ytijahfdldlmnhaa
