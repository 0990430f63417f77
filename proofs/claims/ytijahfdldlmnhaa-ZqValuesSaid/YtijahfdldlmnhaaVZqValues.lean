/- Printed by this work's own program: the code of each function below comes to the answer that its plain form tells. -/
import Derived.Test.YtijahfdldlmnhaaMr
import Derived.Test.YtijahfdldlmnhaaProg
import Derived.Test.YtijahfdldlmnhaaLZqValues
import Derived.Test.YtijahfdldlmnhaaX0
import Derived.Test.YtijahfdldlmnhaaX1
import Derived.Test.YtijahfdldlmnhaaX2
import Derived.Test.YtijahfdldlmnhaaX3
set_option linter.unusedVariables false
set_option maxRecDepth 100000
set_option maxHeartbeats 4000000
namespace Go.Proofs.Ytijahfdldlmnhaa
open Go.Mx
attribute [local irreducible] wpOp

theorem law21_ZqValues.ok {K : Nat} {a0 : Arr 256} {a1 : Arr 256} {r0 : Bool} (h : law21_ZqValues.f K a0 a1 = some r0) (w0 : World) : Ret Try.prog 6 #[.agg (enc .i32 a0).toArray, .agg (enc .i32 a1).toArray] w0 (.bool r0) := by
  refine calls_k Try.func6 rfl fun Q qq => ?_
  have hs := St.start w0
  refine wp_conv (a' := ⟨#[.agg (enc .i32 a0).toArray, .agg (enc .i32 a1).toArray, undef, undef, undef, undef, undef, undef, undef, undef, undef, undef, undef, undef, undef, undef, undef, undef, undef, undef, undef, undef, undef, undef, undef, undef, undef, undef, undef, undef, undef, undef, undef, undef, undef, undef, undef, undef, undef, undef, undef, undef, undef, undef, undef, undef, undef], []⟩) (by kernel_rfl) ?_
  refine wp_seq_k fun KS1 ks1 => ?_
  refine wp_regS (l := [0, 1, 2]) (by kernel_rfl) fun KR kr => ?_
  refine wpS.only 0 (op_box (t := 23) (v := .agg (enc .i32 a0).toArray) (d := (some 2)) (by kernel_rfl) hs (enc .i32 a0) (by kernel_rfl) (by kernel_rfl) ?_)
  intro b1 w gw hs
  refine ⟨fun _ => trivial, ?_⟩
  refine wpS.only 1 (op_box (t := 23) (v := .agg (enc .i32 a1).toArray) (d := (some 3)) (by kernel_rfl) hs (enc .i32 a1) (by kernel_rfl) (by kernel_rfl) ?_)
  intro b2 w gw hs
  refine ⟨fun _ => trivial, ?_⟩
  refine wpS.take 2 false (some 4) (.bool false) (by kernel_rfl) (yld fun _ => by kernel_rfl) ?_
  refine wpS.fin rfl (kr _ _ ?_)
  refine then_n (ks1 _ _ ?_)
  refine wp_seq_k fun KS5 ks5 => ?_
  refine wp_seq_k fun KS6 ks6 => ?_
  refine wp_regS (l := [0, 1, 2, 3, 4, 5, 6, 7]) (by kernel_rfl) fun KR kr => ?_
  refine wpS.take 0 true (some 5) (.agg (enc .i32 a0).toArray) (by kernel_rfl) (yld_loadW (e := 23) (n := 256) hs 1 rfl (by kernel_rfl) (by kernel_rfl) (by kernel_rfl) (by exact enc_len _ _)) ?_
  obtain ⟨r3, hg, h⟩ := of_bind h
  cases r3 with
  | true =>
    have h := of_if_t h
    refine wpS.only 1 (op_call (d := (some 6)) (by kernel_rfl) hs (fun _ => by kernel_rfl) (ref21_Fit.ok hg _) ?_)
    intro w gw hs
    refine ⟨fun _ => trivial, ?_⟩
    refine wpS.take 2 false (some 7) (.bool false) (by kernel_rfl) (yld fun _ => by kernel_rfl) ?_
    refine wpS.take 3 false (some 8) (.bool false) (by kernel_rfl) (yld fun _ => by kernel_rfl) ?_
    refine wpS.take 4 true (some 9) (.agg (enc .i32 a1).toArray) (by kernel_rfl) (yld_loadW (e := 23) (n := 256) hs 0 rfl (by kernel_rfl) (by kernel_rfl) (by kernel_rfl) (by exact enc_len _ _)) ?_
    obtain ⟨r4, hg, h⟩ := of_bind h
    cases r4 with
    | true =>
      have h := of_if_t h
      refine wpS.only 5 (op_call (d := (some 10)) (by kernel_rfl) hs (fun _ => by kernel_rfl) (ref21_Fit.ok hg _) ?_)
      intro w gw hs
      refine ⟨fun _ => trivial, ?_⟩
      refine wpS.take 6 false (some 11) (.bool false) (by kernel_rfl) (yld fun _ => by kernel_rfl) ?_
      refine wpS.take 7 false (some 12) (.bool false) (by kernel_rfl) (yld fun _ => by kernel_rfl) ?_
      refine wpS.fin rfl (kr _ _ ?_)
      refine then_n (ks6 _ _ ?_)
      refine wp_cond_f (by kernel_rfl) ?_
      refine wp_skip ?_
      refine then_n (ks5 _ _ ?_)
      refine wp_seq_k fun KS7 ks7 => ?_
      refine wp_regG [] 34 (by kernel_rfl) (by kernel_rfl) fun KR kr => ?_
      have hs := hs.drawn1
      refine wpG.take 0 true (some 14) (.agg (enc .i32 a0).toArray) (by kernel_rfl) (by kernel_rfl) (yld_loadW (e := 23) (n := 256) hs 1 rfl (by kernel_rfl) (by kernel_rfl) (by kernel_rfl) (by exact enc_len _ _)) ?_
      refine wpG.take 2 true (some 16) (.agg (enc .i32 a0).toArray) (by kernel_rfl) (by kernel_rfl) (yld_loadW (e := 23) (n := 256) hs 1 rfl (by kernel_rfl) (by kernel_rfl) (by kernel_rfl) (by exact enc_len _ _)) ?_
      obtain ⟨r5, hg, h⟩ := of_bind h
      refine wpG.only 1 (by kernel_rfl) (op_call (d := (some 15)) (by kernel_rfl) hs (fun _ => by kernel_rfl) (zq_Ntt.ok hg _) ?_)
      intro w gw hs
      refine ⟨fun _ => gw, ?_⟩
      obtain ⟨r6, hg, h⟩ := of_bind h
      refine wpG.only 3 (by kernel_rfl) (op_call (d := (some 17)) (by kernel_rfl) hs (fun _ => by kernel_rfl) (ref21_Ntt.ok hg _) ?_)
      intro w gw hs
      refine ⟨fun _ => gw, ?_⟩
      rcases of_ifb h with ⟨hc, h⟩ | ⟨hc, h⟩
      · refine wpG.take 4 false (some 18) (.bool true) (by kernel_rfl) (by kernel_rfl) (yld_bb hc (yld_eqA (t := 23) (e := 21) (k := .i32) (.tmp 15) (.tmp 17) (by kernel_rfl) (by kernel_rfl) (by kernel_rfl) (by kernel_rfl) (by kernel_rfl) (by kernel_rfl))) ?_
        refine wpG.take 5 false (some 19) (.bool true) (by kernel_rfl) (by kernel_rfl) (yld fun _ => by kernel_rfl) ?_
        refine wpG.take 6 true (some 20) (.agg (enc .i32 a0).toArray) (by kernel_rfl) (by kernel_rfl) (yld_loadW (e := 23) (n := 256) hs 1 rfl (by kernel_rfl) (by kernel_rfl) (by kernel_rfl) (by exact enc_len _ _)) ?_
        refine wpG.take 8 true (some 22) (.agg (enc .i32 a0).toArray) (by kernel_rfl) (by kernel_rfl) (yld_loadW (e := 23) (n := 256) hs 1 rfl (by kernel_rfl) (by kernel_rfl) (by kernel_rfl) (by exact enc_len _ _)) ?_
        obtain ⟨r7, hg, h⟩ := of_bind h
        refine wpG.only 7 (by kernel_rfl) (op_call (d := (some 21)) (by kernel_rfl) hs (fun _ => by kernel_rfl) (zq_Back.ok hg _) ?_)
        intro w gw hs
        refine ⟨fun _ => gw, ?_⟩
        obtain ⟨r8, hg, h⟩ := of_bind h
        refine wpG.only 9 (by kernel_rfl) (op_call (d := (some 23)) (by kernel_rfl) hs (fun _ => by kernel_rfl) (ref21_Back.ok hg _) ?_)
        intro w gw hs
        refine ⟨fun _ => gw, ?_⟩
        rcases of_ifb h with ⟨hc, h⟩ | ⟨hc, h⟩
        · refine wpG.take 10 false (some 24) (.bool true) (by kernel_rfl) (by kernel_rfl) (yld_bb hc (yld_eqA (t := 23) (e := 21) (k := .i32) (.tmp 21) (.tmp 23) (by kernel_rfl) (by kernel_rfl) (by kernel_rfl) (by kernel_rfl) (by kernel_rfl) (by kernel_rfl))) ?_
          refine wpG.take 11 false (some 25) (.bool true) (by kernel_rfl) (by kernel_rfl) (yld fun _ => by kernel_rfl) ?_
          refine wpG.take 12 false (some 26) (.bool true) (by kernel_rfl) (by kernel_rfl) (yld fun _ => by kernel_rfl) ?_
          refine wpG.take 13 true (some 27) (.agg (enc .i32 a0).toArray) (by kernel_rfl) (by kernel_rfl) (yld_loadW (e := 23) (n := 256) hs 1 rfl (by kernel_rfl) (by kernel_rfl) (by kernel_rfl) (by exact enc_len _ _)) ?_
          refine wpG.take 14 true (some 28) (.agg (enc .i32 a1).toArray) (by kernel_rfl) (by kernel_rfl) (yld_loadW (e := 23) (n := 256) hs 0 rfl (by kernel_rfl) (by kernel_rfl) (by kernel_rfl) (by exact enc_len _ _)) ?_
          refine wpG.take 16 true (some 30) (.agg (enc .i32 a0).toArray) (by kernel_rfl) (by kernel_rfl) (yld_loadW (e := 23) (n := 256) hs 1 rfl (by kernel_rfl) (by kernel_rfl) (by kernel_rfl) (by exact enc_len _ _)) ?_
          refine wpG.take 17 true (some 31) (.agg (enc .i32 a1).toArray) (by kernel_rfl) (by kernel_rfl) (yld_loadW (e := 23) (n := 256) hs 0 rfl (by kernel_rfl) (by kernel_rfl) (by kernel_rfl) (by exact enc_len _ _)) ?_
          obtain ⟨r9, hg, h⟩ := of_bind h
          refine wpG.only 15 (by kernel_rfl) (op_call (d := (some 29)) (by kernel_rfl) hs (fun _ => by kernel_rfl) (zq_Mul.ok hg _) ?_)
          intro w gw hs
          refine ⟨fun _ => gw, ?_⟩
          obtain ⟨r10, hg, h⟩ := of_bind h
          refine wpG.only 18 (by kernel_rfl) (op_call (d := (some 32)) (by kernel_rfl) hs (fun _ => by kernel_rfl) (ref21_Mul.ok hg _) ?_)
          intro w gw hs
          refine ⟨fun _ => gw, ?_⟩
          rcases of_ifb h with ⟨hc, h⟩ | ⟨hc, h⟩
          · refine wpG.take 19 false (some 33) (.bool true) (by kernel_rfl) (by kernel_rfl) (yld_bb hc (yld_eqA (t := 23) (e := 21) (k := .i32) (.tmp 29) (.tmp 32) (by kernel_rfl) (by kernel_rfl) (by kernel_rfl) (by kernel_rfl) (by kernel_rfl) (by kernel_rfl))) ?_
            refine wpG.take 20 false (some 34) (.bool true) (by kernel_rfl) (by kernel_rfl) (yld fun _ => by kernel_rfl) ?_
            refine wpG.take 21 false (some 35) (.bool true) (by kernel_rfl) (by kernel_rfl) (yld fun _ => by kernel_rfl) ?_
            refine wpG.take 22 true (some 36) (.agg (enc .i32 a0).toArray) (by kernel_rfl) (by kernel_rfl) (yld_loadW (e := 23) (n := 256) hs 1 rfl (by kernel_rfl) (by kernel_rfl) (by kernel_rfl) (by exact enc_len _ _)) ?_
            refine wpG.take 23 true (some 37) (.agg (enc .i32 a1).toArray) (by kernel_rfl) (by kernel_rfl) (yld_loadW (e := 23) (n := 256) hs 0 rfl (by kernel_rfl) (by kernel_rfl) (by kernel_rfl) (by exact enc_len _ _)) ?_
            refine wpG.take 25 true (some 39) (.agg (enc .i32 a0).toArray) (by kernel_rfl) (by kernel_rfl) (yld_loadW (e := 23) (n := 256) hs 1 rfl (by kernel_rfl) (by kernel_rfl) (by kernel_rfl) (by exact enc_len _ _)) ?_
            refine wpG.take 26 true (some 40) (.agg (enc .i32 a1).toArray) (by kernel_rfl) (by kernel_rfl) (yld_loadW (e := 23) (n := 256) hs 0 rfl (by kernel_rfl) (by kernel_rfl) (by kernel_rfl) (by exact enc_len _ _)) ?_
            obtain ⟨r11, hg, h⟩ := of_bind h
            refine wpG.only 24 (by kernel_rfl) (op_call (d := (some 38)) (by kernel_rfl) hs (fun _ => by kernel_rfl) (zq_Times.ok hg _) ?_)
            intro w gw hs
            refine ⟨fun _ => gw, ?_⟩
            obtain ⟨r12, hg, h⟩ := of_bind h
            refine wpG.only 27 (by kernel_rfl) (op_call (d := (some 41)) (by kernel_rfl) hs (fun _ => by kernel_rfl) (ref21_Times.ok hg _) ?_)
            intro w gw hs
            refine ⟨fun _ => gw, ?_⟩
            rcases of_ifb h with ⟨hc, h⟩ | ⟨hc, h⟩
            · refine wpG.take 28 false (some 42) (.bool true) (by kernel_rfl) (by kernel_rfl) (yld_bb hc (yld_eqA (t := 23) (e := 21) (k := .i32) (.tmp 38) (.tmp 41) (by kernel_rfl) (by kernel_rfl) (by kernel_rfl) (by kernel_rfl) (by kernel_rfl) (by kernel_rfl))) ?_
              refine wpG.take 29 false (some 43) (.bool true) (by kernel_rfl) (by kernel_rfl) (yld fun _ => by kernel_rfl) ?_
              refine wpG.take 30 false (some 44) (.bool true) (by kernel_rfl) (by kernel_rfl) (yld fun _ => by kernel_rfl) ?_
              obtain ⟨r13, hg, h⟩ := of_bind h
              refine wpG.only 31 (by kernel_rfl) (op_call (d := (some 45)) (by kernel_rfl) hs (fun _ => by kernel_rfl) (law21_awake.ok hg _) ?_)
              intro w gw hs
              refine ⟨fun _ => gw, ?_⟩
              refine wpG.take 32 false (some 46) (.bool r13) (by kernel_rfl) (by kernel_rfl) (yld fun _ => by kernel_rfl) ?_
              refine wpG.take 33 false (some 4) (.bool r13) (by kernel_rfl) (by kernel_rfl) (yld fun _ => by kernel_rfl) ?_
              refine wpG.fin (by kernel_rfl) rfl (kr _ _ ?_)
              refine then_n (ks7 _ _ ?_)
              refine wp_ret ?_
              have q0 := of_some h
              subst q0
              exact qq _ _ (post_ret (by kernel_rfl) (run_results [.tmp 4] [.bool r13] (by kernel_rfl) (.cons (res_tmp (by kernel_rfl)) .nil)) ⟨congrArg Ending.returned (by kernel_rfl), hs.none⟩)
            · refine wpG.take 28 false (some 42) (.bool false) (by kernel_rfl) (by kernel_rfl) (yld_bb hc (yld_eqA (t := 23) (e := 21) (k := .i32) (.tmp 38) (.tmp 41) (by kernel_rfl) (by kernel_rfl) (by kernel_rfl) (by kernel_rfl) (by kernel_rfl) (by kernel_rfl))) ?_
              refine wpG.take 29 false (some 43) (.bool false) (by kernel_rfl) (by kernel_rfl) (yld fun _ => by kernel_rfl) ?_
              refine wpG.take 30 false (some 44) (.bool false) (by kernel_rfl) (by kernel_rfl) (yld fun _ => by kernel_rfl) ?_
              refine wpG.take 31 false (some 45) (undef) (by kernel_rfl) (by kernel_rfl) (yld fun _ => by kernel_rfl) ?_
              refine wpG.take 32 false (some 46) (.bool false) (by kernel_rfl) (by kernel_rfl) (yld fun _ => by kernel_rfl) ?_
              refine wpG.take 33 false (some 4) (.bool false) (by kernel_rfl) (by kernel_rfl) (yld fun _ => by kernel_rfl) ?_
              refine wpG.fin (by kernel_rfl) rfl (kr _ _ ?_)
              refine then_n (ks7 _ _ ?_)
              refine wp_ret ?_
              have q0 := of_some h
              subst q0
              exact qq _ _ (post_ret (by kernel_rfl) (run_results [.tmp 4] [.bool false] (by kernel_rfl) (.cons (res_tmp (by kernel_rfl)) .nil)) ⟨congrArg Ending.returned (by kernel_rfl), hs.none⟩)
          · refine wpG.take 19 false (some 33) (.bool false) (by kernel_rfl) (by kernel_rfl) (yld_bb hc (yld_eqA (t := 23) (e := 21) (k := .i32) (.tmp 29) (.tmp 32) (by kernel_rfl) (by kernel_rfl) (by kernel_rfl) (by kernel_rfl) (by kernel_rfl) (by kernel_rfl))) ?_
            refine wpG.take 20 false (some 34) (.bool false) (by kernel_rfl) (by kernel_rfl) (yld fun _ => by kernel_rfl) ?_
            refine wpG.take 21 false (some 35) (.bool false) (by kernel_rfl) (by kernel_rfl) (yld fun _ => by kernel_rfl) ?_
            refine wpG.take 22 false (some 36) (undef) (by kernel_rfl) (by kernel_rfl) (yld fun _ => by kernel_rfl) ?_
            refine wpG.take 23 false (some 37) (undef) (by kernel_rfl) (by kernel_rfl) (yld fun _ => by kernel_rfl) ?_
            refine wpG.take 25 false (some 39) (undef) (by kernel_rfl) (by kernel_rfl) (yld fun _ => by kernel_rfl) ?_
            refine wpG.take 26 false (some 40) (undef) (by kernel_rfl) (by kernel_rfl) (yld fun _ => by kernel_rfl) ?_
            refine wpG.take 24 false (some 38) (undef) (by kernel_rfl) (by kernel_rfl) (yld fun _ => by kernel_rfl) ?_
            refine wpG.take 27 false (some 41) (undef) (by kernel_rfl) (by kernel_rfl) (yld fun _ => by kernel_rfl) ?_
            refine wpG.take 28 false (some 42) (undef) (by kernel_rfl) (by kernel_rfl) (yld fun _ => by kernel_rfl) ?_
            refine wpG.take 29 false (some 43) (.bool false) (by kernel_rfl) (by kernel_rfl) (yld fun _ => by kernel_rfl) ?_
            refine wpG.take 30 false (some 44) (.bool false) (by kernel_rfl) (by kernel_rfl) (yld fun _ => by kernel_rfl) ?_
            refine wpG.take 31 false (some 45) (undef) (by kernel_rfl) (by kernel_rfl) (yld fun _ => by kernel_rfl) ?_
            refine wpG.take 32 false (some 46) (.bool false) (by kernel_rfl) (by kernel_rfl) (yld fun _ => by kernel_rfl) ?_
            refine wpG.take 33 false (some 4) (.bool false) (by kernel_rfl) (by kernel_rfl) (yld fun _ => by kernel_rfl) ?_
            refine wpG.fin (by kernel_rfl) rfl (kr _ _ ?_)
            refine then_n (ks7 _ _ ?_)
            refine wp_ret ?_
            have q0 := of_some h
            subst q0
            exact qq _ _ (post_ret (by kernel_rfl) (run_results [.tmp 4] [.bool false] (by kernel_rfl) (.cons (res_tmp (by kernel_rfl)) .nil)) ⟨congrArg Ending.returned (by kernel_rfl), hs.none⟩)
        · refine wpG.take 10 false (some 24) (.bool false) (by kernel_rfl) (by kernel_rfl) (yld_bb hc (yld_eqA (t := 23) (e := 21) (k := .i32) (.tmp 21) (.tmp 23) (by kernel_rfl) (by kernel_rfl) (by kernel_rfl) (by kernel_rfl) (by kernel_rfl) (by kernel_rfl))) ?_
          refine wpG.take 11 false (some 25) (.bool false) (by kernel_rfl) (by kernel_rfl) (yld fun _ => by kernel_rfl) ?_
          refine wpG.take 12 false (some 26) (.bool false) (by kernel_rfl) (by kernel_rfl) (yld fun _ => by kernel_rfl) ?_
          refine wpG.take 13 false (some 27) (undef) (by kernel_rfl) (by kernel_rfl) (yld fun _ => by kernel_rfl) ?_
          refine wpG.take 14 false (some 28) (undef) (by kernel_rfl) (by kernel_rfl) (yld fun _ => by kernel_rfl) ?_
          refine wpG.take 16 false (some 30) (undef) (by kernel_rfl) (by kernel_rfl) (yld fun _ => by kernel_rfl) ?_
          refine wpG.take 17 false (some 31) (undef) (by kernel_rfl) (by kernel_rfl) (yld fun _ => by kernel_rfl) ?_
          refine wpG.take 15 false (some 29) (undef) (by kernel_rfl) (by kernel_rfl) (yld fun _ => by kernel_rfl) ?_
          refine wpG.take 18 false (some 32) (undef) (by kernel_rfl) (by kernel_rfl) (yld fun _ => by kernel_rfl) ?_
          refine wpG.take 19 false (some 33) (undef) (by kernel_rfl) (by kernel_rfl) (yld fun _ => by kernel_rfl) ?_
          refine wpG.take 20 false (some 34) (.bool false) (by kernel_rfl) (by kernel_rfl) (yld fun _ => by kernel_rfl) ?_
          refine wpG.take 21 false (some 35) (.bool false) (by kernel_rfl) (by kernel_rfl) (yld fun _ => by kernel_rfl) ?_
          refine wpG.take 22 false (some 36) (undef) (by kernel_rfl) (by kernel_rfl) (yld fun _ => by kernel_rfl) ?_
          refine wpG.take 23 false (some 37) (undef) (by kernel_rfl) (by kernel_rfl) (yld fun _ => by kernel_rfl) ?_
          refine wpG.take 25 false (some 39) (undef) (by kernel_rfl) (by kernel_rfl) (yld fun _ => by kernel_rfl) ?_
          refine wpG.take 26 false (some 40) (undef) (by kernel_rfl) (by kernel_rfl) (yld fun _ => by kernel_rfl) ?_
          refine wpG.take 24 false (some 38) (undef) (by kernel_rfl) (by kernel_rfl) (yld fun _ => by kernel_rfl) ?_
          refine wpG.take 27 false (some 41) (undef) (by kernel_rfl) (by kernel_rfl) (yld fun _ => by kernel_rfl) ?_
          refine wpG.take 28 false (some 42) (undef) (by kernel_rfl) (by kernel_rfl) (yld fun _ => by kernel_rfl) ?_
          refine wpG.take 29 false (some 43) (.bool false) (by kernel_rfl) (by kernel_rfl) (yld fun _ => by kernel_rfl) ?_
          refine wpG.take 30 false (some 44) (.bool false) (by kernel_rfl) (by kernel_rfl) (yld fun _ => by kernel_rfl) ?_
          refine wpG.take 31 false (some 45) (undef) (by kernel_rfl) (by kernel_rfl) (yld fun _ => by kernel_rfl) ?_
          refine wpG.take 32 false (some 46) (.bool false) (by kernel_rfl) (by kernel_rfl) (yld fun _ => by kernel_rfl) ?_
          refine wpG.take 33 false (some 4) (.bool false) (by kernel_rfl) (by kernel_rfl) (yld fun _ => by kernel_rfl) ?_
          refine wpG.fin (by kernel_rfl) rfl (kr _ _ ?_)
          refine then_n (ks7 _ _ ?_)
          refine wp_ret ?_
          have q0 := of_some h
          subst q0
          exact qq _ _ (post_ret (by kernel_rfl) (run_results [.tmp 4] [.bool false] (by kernel_rfl) (.cons (res_tmp (by kernel_rfl)) .nil)) ⟨congrArg Ending.returned (by kernel_rfl), hs.none⟩)
      · refine wpG.take 4 false (some 18) (.bool false) (by kernel_rfl) (by kernel_rfl) (yld_bb hc (yld_eqA (t := 23) (e := 21) (k := .i32) (.tmp 15) (.tmp 17) (by kernel_rfl) (by kernel_rfl) (by kernel_rfl) (by kernel_rfl) (by kernel_rfl) (by kernel_rfl))) ?_
        refine wpG.take 5 false (some 19) (.bool false) (by kernel_rfl) (by kernel_rfl) (yld fun _ => by kernel_rfl) ?_
        refine wpG.take 6 false (some 20) (undef) (by kernel_rfl) (by kernel_rfl) (yld fun _ => by kernel_rfl) ?_
        refine wpG.take 8 false (some 22) (undef) (by kernel_rfl) (by kernel_rfl) (yld fun _ => by kernel_rfl) ?_
        refine wpG.take 7 false (some 21) (undef) (by kernel_rfl) (by kernel_rfl) (yld fun _ => by kernel_rfl) ?_
        refine wpG.take 9 false (some 23) (undef) (by kernel_rfl) (by kernel_rfl) (yld fun _ => by kernel_rfl) ?_
        refine wpG.take 10 false (some 24) (undef) (by kernel_rfl) (by kernel_rfl) (yld fun _ => by kernel_rfl) ?_
        refine wpG.take 11 false (some 25) (.bool false) (by kernel_rfl) (by kernel_rfl) (yld fun _ => by kernel_rfl) ?_
        refine wpG.take 12 false (some 26) (.bool false) (by kernel_rfl) (by kernel_rfl) (yld fun _ => by kernel_rfl) ?_
        refine wpG.take 13 false (some 27) (undef) (by kernel_rfl) (by kernel_rfl) (yld fun _ => by kernel_rfl) ?_
        refine wpG.take 14 false (some 28) (undef) (by kernel_rfl) (by kernel_rfl) (yld fun _ => by kernel_rfl) ?_
        refine wpG.take 16 false (some 30) (undef) (by kernel_rfl) (by kernel_rfl) (yld fun _ => by kernel_rfl) ?_
        refine wpG.take 17 false (some 31) (undef) (by kernel_rfl) (by kernel_rfl) (yld fun _ => by kernel_rfl) ?_
        refine wpG.take 15 false (some 29) (undef) (by kernel_rfl) (by kernel_rfl) (yld fun _ => by kernel_rfl) ?_
        refine wpG.take 18 false (some 32) (undef) (by kernel_rfl) (by kernel_rfl) (yld fun _ => by kernel_rfl) ?_
        refine wpG.take 19 false (some 33) (undef) (by kernel_rfl) (by kernel_rfl) (yld fun _ => by kernel_rfl) ?_
        refine wpG.take 20 false (some 34) (.bool false) (by kernel_rfl) (by kernel_rfl) (yld fun _ => by kernel_rfl) ?_
        refine wpG.take 21 false (some 35) (.bool false) (by kernel_rfl) (by kernel_rfl) (yld fun _ => by kernel_rfl) ?_
        refine wpG.take 22 false (some 36) (undef) (by kernel_rfl) (by kernel_rfl) (yld fun _ => by kernel_rfl) ?_
        refine wpG.take 23 false (some 37) (undef) (by kernel_rfl) (by kernel_rfl) (yld fun _ => by kernel_rfl) ?_
        refine wpG.take 25 false (some 39) (undef) (by kernel_rfl) (by kernel_rfl) (yld fun _ => by kernel_rfl) ?_
        refine wpG.take 26 false (some 40) (undef) (by kernel_rfl) (by kernel_rfl) (yld fun _ => by kernel_rfl) ?_
        refine wpG.take 24 false (some 38) (undef) (by kernel_rfl) (by kernel_rfl) (yld fun _ => by kernel_rfl) ?_
        refine wpG.take 27 false (some 41) (undef) (by kernel_rfl) (by kernel_rfl) (yld fun _ => by kernel_rfl) ?_
        refine wpG.take 28 false (some 42) (undef) (by kernel_rfl) (by kernel_rfl) (yld fun _ => by kernel_rfl) ?_
        refine wpG.take 29 false (some 43) (.bool false) (by kernel_rfl) (by kernel_rfl) (yld fun _ => by kernel_rfl) ?_
        refine wpG.take 30 false (some 44) (.bool false) (by kernel_rfl) (by kernel_rfl) (yld fun _ => by kernel_rfl) ?_
        refine wpG.take 31 false (some 45) (undef) (by kernel_rfl) (by kernel_rfl) (yld fun _ => by kernel_rfl) ?_
        refine wpG.take 32 false (some 46) (.bool false) (by kernel_rfl) (by kernel_rfl) (yld fun _ => by kernel_rfl) ?_
        refine wpG.take 33 false (some 4) (.bool false) (by kernel_rfl) (by kernel_rfl) (yld fun _ => by kernel_rfl) ?_
        refine wpG.fin (by kernel_rfl) rfl (kr _ _ ?_)
        refine then_n (ks7 _ _ ?_)
        refine wp_ret ?_
        have q0 := of_some h
        subst q0
        exact qq _ _ (post_ret (by kernel_rfl) (run_results [.tmp 4] [.bool false] (by kernel_rfl) (.cons (res_tmp (by kernel_rfl)) .nil)) ⟨congrArg Ending.returned (by kernel_rfl), hs.none⟩)
    | false =>
      have h := of_if_f h
      refine wpS.only 5 (op_call (d := (some 10)) (by kernel_rfl) hs (fun _ => by kernel_rfl) (ref21_Fit.ok hg _) ?_)
      intro w gw hs
      refine ⟨fun _ => trivial, ?_⟩
      refine wpS.take 6 false (some 11) (.bool true) (by kernel_rfl) (yld fun _ => by kernel_rfl) ?_
      refine wpS.take 7 false (some 12) (.bool true) (by kernel_rfl) (yld fun _ => by kernel_rfl) ?_
      refine wpS.fin rfl (kr _ _ ?_)
      refine then_n (ks6 _ _ ?_)
      refine wp_cond_t (by kernel_rfl) ?_
      refine wp_seq_k fun KS8 ks8 => ?_
      refine wp_regS (l := [0, 1]) (by kernel_rfl) fun KR kr => ?_
      obtain ⟨r14, hg, h⟩ := of_bind h
      refine wpS.only 0 (op_call (d := (some 13)) (by kernel_rfl) hs (fun _ => by kernel_rfl) (law21_awake.ok hg _) ?_)
      intro w gw hs
      refine ⟨fun _ => trivial, ?_⟩
      refine wpS.take 1 false (some 4) (.bool r14) (by kernel_rfl) (yld fun _ => by kernel_rfl) ?_
      refine wpS.fin rfl (kr _ _ ?_)
      refine then_n (ks8 _ _ ?_)
      refine wp_ret ?_
      refine then_r ?_
      have q0 := of_some h
      subst q0
      exact qq _ _ (post_ret (by kernel_rfl) (run_results [.tmp 4] [.bool r14] (by kernel_rfl) (.cons (res_tmp (by kernel_rfl)) .nil)) ⟨congrArg Ending.returned (by kernel_rfl), hs.none⟩)
  | false =>
    have h := of_if_f h
    refine wpS.only 1 (op_call (d := (some 6)) (by kernel_rfl) hs (fun _ => by kernel_rfl) (ref21_Fit.ok hg _) ?_)
    intro w gw hs
    refine ⟨fun _ => trivial, ?_⟩
    refine wpS.take 2 false (some 7) (.bool true) (by kernel_rfl) (yld fun _ => by kernel_rfl) ?_
    refine wpS.take 3 false (some 8) (.bool true) (by kernel_rfl) (yld fun _ => by kernel_rfl) ?_
    refine wpS.take 4 false (some 9) (undef) (by kernel_rfl) (yld fun _ => by kernel_rfl) ?_
    refine wpS.take 5 false (some 10) (undef) (by kernel_rfl) (yld fun _ => by kernel_rfl) ?_
    refine wpS.take 6 false (some 11) (undef) (by kernel_rfl) (yld fun _ => by kernel_rfl) ?_
    refine wpS.take 7 false (some 12) (.bool true) (by kernel_rfl) (yld fun _ => by kernel_rfl) ?_
    refine wpS.fin rfl (kr _ _ ?_)
    refine then_n (ks6 _ _ ?_)
    refine wp_cond_t (by kernel_rfl) ?_
    refine wp_seq_k fun KS9 ks9 => ?_
    refine wp_regS (l := [0, 1]) (by kernel_rfl) fun KR kr => ?_
    obtain ⟨r15, hg, h⟩ := of_bind h
    refine wpS.only 0 (op_call (d := (some 13)) (by kernel_rfl) hs (fun _ => by kernel_rfl) (law21_awake.ok hg _) ?_)
    intro w gw hs
    refine ⟨fun _ => trivial, ?_⟩
    refine wpS.take 1 false (some 4) (.bool r15) (by kernel_rfl) (yld fun _ => by kernel_rfl) ?_
    refine wpS.fin rfl (kr _ _ ?_)
    refine then_n (ks9 _ _ ?_)
    refine wp_ret ?_
    refine then_r ?_
    have q0 := of_some h
    subst q0
    exact qq _ _ (post_ret (by kernel_rfl) (run_results [.tmp 4] [.bool r15] (by kernel_rfl) (.cons (res_tmp (by kernel_rfl)) .nil)) ⟨congrArg Ending.returned (by kernel_rfl), hs.none⟩)
end Go.Proofs.Ytijahfdldlmnhaa
