/- Printed by this work's own program: the code of each function below comes to the answer that its plain form tells. -/
import Derived.Test.YtijahfdldlmnhaaMr
import Derived.Test.YtijahfdldlmnhaaProg
import Derived.Test.YtijahfdldlmnhaaLZqBack
import Derived.Test.YtijahfdldlmnhaaX0
import Derived.Test.YtijahfdldlmnhaaX1
import Derived.Test.YtijahfdldlmnhaaX2
import Derived.Test.YtijahfdldlmnhaaX3
set_option linter.unusedVariables false
set_option maxRecDepth 100000
set_option maxHeartbeats 4000000
namespace Go.Proofs.Ytijahfdldlmnhaa
open Go.Mx
attribute [local irreducible] wpOp

theorem law21_ZqBack.ok {K : Nat} {a0 : Arr 256} {a1 : Arr 256} {a2 : Arr 256} {r0 : Bool} (h : law21_ZqBack.f K a0 a1 a2 = some r0) (w0 : World) : Ret Try.prog 9 #[.agg (enc .i32 a0).toArray, .agg (enc .i32 a1).toArray, .agg (enc .i32 a2).toArray] w0 (.bool r0) := by
  refine calls_k Try.func9 rfl fun Q qq => ?_
  have hs := St.start w0
  refine wp_conv (a' := ⟨#[.agg (enc .i32 a0).toArray, .agg (enc .i32 a1).toArray, .agg (enc .i32 a2).toArray, undef, undef, undef, undef, undef, undef, undef, undef, undef, undef, undef, undef, undef, undef, undef, undef, undef, undef, undef, undef, undef, undef, undef, undef, undef, undef, undef, undef, undef, undef, undef, undef, undef, undef, undef, undef, undef, undef, undef, undef, undef, undef, undef, undef, undef, undef, undef, undef, undef, undef, undef, undef, undef, undef, undef, undef, undef, undef, undef, undef, undef, undef, undef, undef, undef, undef, undef, undef, undef, undef, undef, undef, undef, undef, undef, undef, undef, undef, undef, undef, undef, undef], []⟩) (by kernel_rfl) ?_
  refine wp_seq_k fun KS1 ks1 => ?_
  refine wp_regS (l := [0, 1, 2, 3]) (by kernel_rfl) fun KR kr => ?_
  refine wpS.only 0 (op_box (t := 23) (v := .agg (enc .i32 a0).toArray) (d := (some 3)) (by kernel_rfl) hs (enc .i32 a0) (by kernel_rfl) (by kernel_rfl) ?_)
  intro b1 w gw hs
  refine ⟨fun _ => trivial, ?_⟩
  refine wpS.only 1 (op_box (t := 23) (v := .agg (enc .i32 a1).toArray) (d := (some 4)) (by kernel_rfl) hs (enc .i32 a1) (by kernel_rfl) (by kernel_rfl) ?_)
  intro b2 w gw hs
  refine ⟨fun _ => trivial, ?_⟩
  refine wpS.only 2 (op_box (t := 23) (v := .agg (enc .i32 a2).toArray) (d := (some 5)) (by kernel_rfl) hs (enc .i32 a2) (by kernel_rfl) (by kernel_rfl) ?_)
  intro b3 w gw hs
  refine ⟨fun _ => trivial, ?_⟩
  refine wpS.take 3 false (some 6) (.bool false) (by kernel_rfl) (yld fun _ => by kernel_rfl) ?_
  refine wpS.fin rfl (kr _ _ ?_)
  refine then_n (ks1 _ _ ?_)
  refine wp_seq_k fun KS6 ks6 => ?_
  refine wp_seq_k fun KS7 ks7 => ?_
  refine wp_regS (l := [0, 1, 2, 3, 4, 5, 6, 7, 8, 9, 10, 11, 12]) (by kernel_rfl) fun KR kr => ?_
  refine wpS.take 0 true (some 9) (.agg (enc .i32 a0).toArray) (by kernel_rfl) (yld_loadW (e := 23) (n := 256) hs 2 rfl (by kernel_rfl) (by kernel_rfl) (by kernel_rfl) (by exact enc_len _ _)) ?_
  obtain ⟨r4, hg, h⟩ := of_bind h
  cases r4 with
  | true =>
    have h := of_if_t h
    refine wpS.only 1 (op_call (d := (some 10)) (by kernel_rfl) hs (fun _ => by kernel_rfl) (ref21_Fit.ok hg _) ?_)
    intro w gw hs
    refine ⟨fun _ => trivial, ?_⟩
    refine wpS.take 2 false (some 11) (.bool false) (by kernel_rfl) (yld fun _ => by kernel_rfl) ?_
    refine wpS.take 3 false (some 12) (.bool false) (by kernel_rfl) (yld fun _ => by kernel_rfl) ?_
    refine wpS.take 4 true (some 13) (.agg (enc .i32 a1).toArray) (by kernel_rfl) (yld_loadW (e := 23) (n := 256) hs 1 rfl (by kernel_rfl) (by kernel_rfl) (by kernel_rfl) (by exact enc_len _ _)) ?_
    obtain ⟨r5, hg, h⟩ := of_bind h
    cases r5 with
    | true =>
      have h := of_if_t h
      refine wpS.only 5 (op_call (d := (some 14)) (by kernel_rfl) hs (fun _ => by kernel_rfl) (ref21_Fit.ok hg _) ?_)
      intro w gw hs
      refine ⟨fun _ => trivial, ?_⟩
      refine wpS.take 6 false (some 15) (.bool false) (by kernel_rfl) (yld fun _ => by kernel_rfl) ?_
      refine wpS.take 7 false (some 16) (.bool false) (by kernel_rfl) (yld fun _ => by kernel_rfl) ?_
      refine wpS.take 8 false (some 17) (.bool false) (by kernel_rfl) (yld fun _ => by kernel_rfl) ?_
      refine wpS.take 9 true (some 18) (.agg (enc .i32 a2).toArray) (by kernel_rfl) (yld_loadW (e := 23) (n := 256) hs 0 rfl (by kernel_rfl) (by kernel_rfl) (by kernel_rfl) (by exact enc_len _ _)) ?_
      obtain ⟨r6, hg, h⟩ := of_bind h
      cases r6 with
      | true =>
        have h := of_if_t h
        refine wpS.only 10 (op_call (d := (some 19)) (by kernel_rfl) hs (fun _ => by kernel_rfl) (ref21_Fit.ok hg _) ?_)
        intro w gw hs
        refine ⟨fun _ => trivial, ?_⟩
        refine wpS.take 11 false (some 20) (.bool false) (by kernel_rfl) (yld fun _ => by kernel_rfl) ?_
        refine wpS.take 12 false (some 21) (.bool false) (by kernel_rfl) (yld fun _ => by kernel_rfl) ?_
        refine wpS.fin rfl (kr _ _ ?_)
        refine then_n (ks7 _ _ ?_)
        refine wp_cond_f (by kernel_rfl) ?_
        refine wp_skip ?_
        refine then_n (ks6 _ _ ?_)
        refine wp_seq_k fun KS14 ks14 => ?_
        refine wp_seq_k fun KS15 ks15 => ?_
        refine wp_regG [] 48 (by kernel_rfl) (by kernel_rfl) fun KR kr => ?_
        have hs := hs.drawn1
        refine wpG.take 0 true (some 23) (.agg (enc .i32 a0).toArray) (by kernel_rfl) (by kernel_rfl) (yld_loadW (e := 23) (n := 256) hs 2 rfl (by kernel_rfl) (by kernel_rfl) (by kernel_rfl) (by exact enc_len _ _)) ?_
        refine wpG.take 3 true (some 26) (.agg (enc .i32 a0).toArray) (by kernel_rfl) (by kernel_rfl) (yld_loadW (e := 23) (n := 256) hs 2 rfl (by kernel_rfl) (by kernel_rfl) (by kernel_rfl) (by exact enc_len _ _)) ?_
        obtain ⟨r7, hg, h⟩ := of_bind h
        refine wpG.only 1 (by kernel_rfl) (op_call (d := (some 24)) (by kernel_rfl) hs (fun _ => by kernel_rfl) (zq_Ntt.ok hg _) ?_)
        intro w gw hs
        refine ⟨fun _ => gw, ?_⟩
        obtain ⟨r8, hg, h⟩ := of_bind h
        refine wpG.only 2 (by kernel_rfl) (op_call (d := (some 25)) (by kernel_rfl) hs (fun _ => by kernel_rfl) (zq_Back.ok hg _) ?_)
        intro w gw hs
        refine ⟨fun _ => gw, ?_⟩
        rcases of_ifb h with ⟨hc, h⟩ | ⟨hc, h⟩
        · refine wpG.take 4 false (some 27) (.bool true) (by kernel_rfl) (by kernel_rfl) (yld_bb hc (yld_eqAn (t := 23) (e := 21) (k := .i32) (.tmp 25) (.tmp 26) (by kernel_rfl) (by kernel_rfl) (by kernel_rfl) (by kernel_rfl) (by kernel_rfl) (by kernel_rfl))) ?_
          refine wpG.take 5 false (some 28) (.bool true) (by kernel_rfl) (by kernel_rfl) (yld fun _ => by kernel_rfl) ?_
          refine wpG.take 6 false (some 29) (undef) (by kernel_rfl) (by kernel_rfl) (yld fun _ => by kernel_rfl) ?_
          refine wpG.take 9 false (some 32) (undef) (by kernel_rfl) (by kernel_rfl) (yld fun _ => by kernel_rfl) ?_
          refine wpG.take 7 false (some 30) (undef) (by kernel_rfl) (by kernel_rfl) (yld fun _ => by kernel_rfl) ?_
          refine wpG.take 8 false (some 31) (undef) (by kernel_rfl) (by kernel_rfl) (yld fun _ => by kernel_rfl) ?_
          refine wpG.take 10 false (some 33) (undef) (by kernel_rfl) (by kernel_rfl) (yld fun _ => by kernel_rfl) ?_
          refine wpG.take 11 false (some 34) (.bool true) (by kernel_rfl) (by kernel_rfl) (yld fun _ => by kernel_rfl) ?_
          refine wpG.take 12 false (some 35) (.bool true) (by kernel_rfl) (by kernel_rfl) (yld fun _ => by kernel_rfl) ?_
          refine wpG.take 13 false (some 36) (undef) (by kernel_rfl) (by kernel_rfl) (yld fun _ => by kernel_rfl) ?_
          refine wpG.take 14 false (some 37) (undef) (by kernel_rfl) (by kernel_rfl) (yld fun _ => by kernel_rfl) ?_
          refine wpG.take 17 false (some 40) (undef) (by kernel_rfl) (by kernel_rfl) (yld fun _ => by kernel_rfl) ?_
          refine wpG.take 19 false (some 42) (undef) (by kernel_rfl) (by kernel_rfl) (yld fun _ => by kernel_rfl) ?_
          refine wpG.take 15 false (some 38) (undef) (by kernel_rfl) (by kernel_rfl) (yld fun _ => by kernel_rfl) ?_
          refine wpG.take 16 false (some 39) (undef) (by kernel_rfl) (by kernel_rfl) (yld fun _ => by kernel_rfl) ?_
          refine wpG.take 18 false (some 41) (undef) (by kernel_rfl) (by kernel_rfl) (yld fun _ => by kernel_rfl) ?_
          refine wpG.take 20 false (some 43) (undef) (by kernel_rfl) (by kernel_rfl) (yld fun _ => by kernel_rfl) ?_
          refine wpG.take 21 false (some 44) (undef) (by kernel_rfl) (by kernel_rfl) (yld fun _ => by kernel_rfl) ?_
          refine wpG.take 22 false (some 45) (undef) (by kernel_rfl) (by kernel_rfl) (yld fun _ => by kernel_rfl) ?_
          refine wpG.take 23 false (some 46) (.bool true) (by kernel_rfl) (by kernel_rfl) (yld fun _ => by kernel_rfl) ?_
          refine wpG.take 24 false (some 47) (.bool true) (by kernel_rfl) (by kernel_rfl) (yld fun _ => by kernel_rfl) ?_
          refine wpG.take 25 false (some 48) (undef) (by kernel_rfl) (by kernel_rfl) (yld fun _ => by kernel_rfl) ?_
          refine wpG.take 26 false (some 49) (undef) (by kernel_rfl) (by kernel_rfl) (yld fun _ => by kernel_rfl) ?_
          refine wpG.take 27 false (some 50) (undef) (by kernel_rfl) (by kernel_rfl) (yld fun _ => by kernel_rfl) ?_
          refine wpG.take 30 false (some 53) (undef) (by kernel_rfl) (by kernel_rfl) (yld fun _ => by kernel_rfl) ?_
          refine wpG.take 31 false (some 54) (undef) (by kernel_rfl) (by kernel_rfl) (yld fun _ => by kernel_rfl) ?_
          refine wpG.take 33 false (some 56) (undef) (by kernel_rfl) (by kernel_rfl) (yld fun _ => by kernel_rfl) ?_
          refine wpG.take 34 false (some 57) (undef) (by kernel_rfl) (by kernel_rfl) (yld fun _ => by kernel_rfl) ?_
          refine wpG.take 28 false (some 51) (undef) (by kernel_rfl) (by kernel_rfl) (yld fun _ => by kernel_rfl) ?_
          refine wpG.take 29 false (some 52) (undef) (by kernel_rfl) (by kernel_rfl) (yld fun _ => by kernel_rfl) ?_
          refine wpG.take 32 false (some 55) (undef) (by kernel_rfl) (by kernel_rfl) (yld fun _ => by kernel_rfl) ?_
          refine wpG.take 35 false (some 58) (undef) (by kernel_rfl) (by kernel_rfl) (yld fun _ => by kernel_rfl) ?_
          refine wpG.take 36 false (some 59) (undef) (by kernel_rfl) (by kernel_rfl) (yld fun _ => by kernel_rfl) ?_
          refine wpG.take 37 false (some 60) (undef) (by kernel_rfl) (by kernel_rfl) (yld fun _ => by kernel_rfl) ?_
          refine wpG.take 38 false (some 61) (.bool true) (by kernel_rfl) (by kernel_rfl) (yld fun _ => by kernel_rfl) ?_
          refine wpG.take 39 false (some 62) (.bool true) (by kernel_rfl) (by kernel_rfl) (yld fun _ => by kernel_rfl) ?_
          refine wpG.take 40 false (some 63) (undef) (by kernel_rfl) (by kernel_rfl) (yld fun _ => by kernel_rfl) ?_
          refine wpG.take 41 false (some 64) (undef) (by kernel_rfl) (by kernel_rfl) (yld fun _ => by kernel_rfl) ?_
          refine wpG.take 43 false (some 66) (undef) (by kernel_rfl) (by kernel_rfl) (yld fun _ => by kernel_rfl) ?_
          refine wpG.take 45 false (some 68) (undef) (by kernel_rfl) (by kernel_rfl) (yld fun _ => by kernel_rfl) ?_
          refine wpG.take 42 false (some 65) (undef) (by kernel_rfl) (by kernel_rfl) (yld fun _ => by kernel_rfl) ?_
          refine wpG.take 44 false (some 67) (undef) (by kernel_rfl) (by kernel_rfl) (yld fun _ => by kernel_rfl) ?_
          refine wpG.take 46 false (some 69) (undef) (by kernel_rfl) (by kernel_rfl) (yld fun _ => by kernel_rfl) ?_
          refine wpG.take 47 false (some 70) (.bool true) (by kernel_rfl) (by kernel_rfl) (yld fun _ => by kernel_rfl) ?_
          refine wpG.fin (by kernel_rfl) rfl (kr _ _ ?_)
          refine then_n (ks15 _ _ ?_)
          refine wp_cond_t (by kernel_rfl) ?_
          refine wp_seq_k fun KS16 ks16 => ?_
          refine wp_regS (l := [0]) (by kernel_rfl) fun KR kr => ?_
          refine wpS.take 0 false (some 6) (.bool false) (by kernel_rfl) (yld fun _ => by kernel_rfl) ?_
          refine wpS.fin rfl (kr _ _ ?_)
          refine then_n (ks16 _ _ ?_)
          refine wp_ret ?_
          refine then_r ?_
          have q0 := of_some h
          subst q0
          exact qq _ _ (post_ret (by kernel_rfl) (run_results [.tmp 6] [.bool false] (by kernel_rfl) (.cons (res_tmp (by kernel_rfl)) .nil)) ⟨congrArg Ending.returned (by kernel_rfl), hs.none⟩)
        · refine wpG.take 4 false (some 27) (.bool false) (by kernel_rfl) (by kernel_rfl) (yld_bb hc (yld_eqAn (t := 23) (e := 21) (k := .i32) (.tmp 25) (.tmp 26) (by kernel_rfl) (by kernel_rfl) (by kernel_rfl) (by kernel_rfl) (by kernel_rfl) (by kernel_rfl))) ?_
          refine wpG.take 5 false (some 28) (.bool false) (by kernel_rfl) (by kernel_rfl) (yld fun _ => by kernel_rfl) ?_
          refine wpG.take 6 true (some 29) (.agg (enc .i32 a0).toArray) (by kernel_rfl) (by kernel_rfl) (yld_loadW (e := 23) (n := 256) hs 2 rfl (by kernel_rfl) (by kernel_rfl) (by kernel_rfl) (by exact enc_len _ _)) ?_
          refine wpG.take 9 true (some 32) (.agg (enc .i32 a0).toArray) (by kernel_rfl) (by kernel_rfl) (yld_loadW (e := 23) (n := 256) hs 2 rfl (by kernel_rfl) (by kernel_rfl) (by kernel_rfl) (by exact enc_len _ _)) ?_
          obtain ⟨r9, hg, h⟩ := of_bind h
          refine wpG.only 7 (by kernel_rfl) (op_call (d := (some 30)) (by kernel_rfl) hs (fun _ => by kernel_rfl) (zq_Back.ok hg _) ?_)
          intro w gw hs
          refine ⟨fun _ => gw, ?_⟩
          obtain ⟨r10, hg, h⟩ := of_bind h
          refine wpG.only 8 (by kernel_rfl) (op_call (d := (some 31)) (by kernel_rfl) hs (fun _ => by kernel_rfl) (zq_Ntt.ok hg _) ?_)
          intro w gw hs
          refine ⟨fun _ => gw, ?_⟩
          rcases of_ifb h with ⟨hc, h⟩ | ⟨hc, h⟩
          · refine wpG.take 10 false (some 33) (.bool true) (by kernel_rfl) (by kernel_rfl) (yld_bb hc (yld_eqAn (t := 23) (e := 21) (k := .i32) (.tmp 31) (.tmp 32) (by kernel_rfl) (by kernel_rfl) (by kernel_rfl) (by kernel_rfl) (by kernel_rfl) (by kernel_rfl))) ?_
            refine wpG.take 11 false (some 34) (.bool true) (by kernel_rfl) (by kernel_rfl) (yld fun _ => by kernel_rfl) ?_
            refine wpG.take 12 false (some 35) (.bool true) (by kernel_rfl) (by kernel_rfl) (yld fun _ => by kernel_rfl) ?_
            refine wpG.take 13 false (some 36) (undef) (by kernel_rfl) (by kernel_rfl) (yld fun _ => by kernel_rfl) ?_
            refine wpG.take 14 false (some 37) (undef) (by kernel_rfl) (by kernel_rfl) (yld fun _ => by kernel_rfl) ?_
            refine wpG.take 17 false (some 40) (undef) (by kernel_rfl) (by kernel_rfl) (yld fun _ => by kernel_rfl) ?_
            refine wpG.take 19 false (some 42) (undef) (by kernel_rfl) (by kernel_rfl) (yld fun _ => by kernel_rfl) ?_
            refine wpG.take 15 false (some 38) (undef) (by kernel_rfl) (by kernel_rfl) (yld fun _ => by kernel_rfl) ?_
            refine wpG.take 16 false (some 39) (undef) (by kernel_rfl) (by kernel_rfl) (yld fun _ => by kernel_rfl) ?_
            refine wpG.take 18 false (some 41) (undef) (by kernel_rfl) (by kernel_rfl) (yld fun _ => by kernel_rfl) ?_
            refine wpG.take 20 false (some 43) (undef) (by kernel_rfl) (by kernel_rfl) (yld fun _ => by kernel_rfl) ?_
            refine wpG.take 21 false (some 44) (undef) (by kernel_rfl) (by kernel_rfl) (yld fun _ => by kernel_rfl) ?_
            refine wpG.take 22 false (some 45) (undef) (by kernel_rfl) (by kernel_rfl) (yld fun _ => by kernel_rfl) ?_
            refine wpG.take 23 false (some 46) (.bool true) (by kernel_rfl) (by kernel_rfl) (yld fun _ => by kernel_rfl) ?_
            refine wpG.take 24 false (some 47) (.bool true) (by kernel_rfl) (by kernel_rfl) (yld fun _ => by kernel_rfl) ?_
            refine wpG.take 25 false (some 48) (undef) (by kernel_rfl) (by kernel_rfl) (yld fun _ => by kernel_rfl) ?_
            refine wpG.take 26 false (some 49) (undef) (by kernel_rfl) (by kernel_rfl) (yld fun _ => by kernel_rfl) ?_
            refine wpG.take 27 false (some 50) (undef) (by kernel_rfl) (by kernel_rfl) (yld fun _ => by kernel_rfl) ?_
            refine wpG.take 30 false (some 53) (undef) (by kernel_rfl) (by kernel_rfl) (yld fun _ => by kernel_rfl) ?_
            refine wpG.take 31 false (some 54) (undef) (by kernel_rfl) (by kernel_rfl) (yld fun _ => by kernel_rfl) ?_
            refine wpG.take 33 false (some 56) (undef) (by kernel_rfl) (by kernel_rfl) (yld fun _ => by kernel_rfl) ?_
            refine wpG.take 34 false (some 57) (undef) (by kernel_rfl) (by kernel_rfl) (yld fun _ => by kernel_rfl) ?_
            refine wpG.take 28 false (some 51) (undef) (by kernel_rfl) (by kernel_rfl) (yld fun _ => by kernel_rfl) ?_
            refine wpG.take 29 false (some 52) (undef) (by kernel_rfl) (by kernel_rfl) (yld fun _ => by kernel_rfl) ?_
            refine wpG.take 32 false (some 55) (undef) (by kernel_rfl) (by kernel_rfl) (yld fun _ => by kernel_rfl) ?_
            refine wpG.take 35 false (some 58) (undef) (by kernel_rfl) (by kernel_rfl) (yld fun _ => by kernel_rfl) ?_
            refine wpG.take 36 false (some 59) (undef) (by kernel_rfl) (by kernel_rfl) (yld fun _ => by kernel_rfl) ?_
            refine wpG.take 37 false (some 60) (undef) (by kernel_rfl) (by kernel_rfl) (yld fun _ => by kernel_rfl) ?_
            refine wpG.take 38 false (some 61) (.bool true) (by kernel_rfl) (by kernel_rfl) (yld fun _ => by kernel_rfl) ?_
            refine wpG.take 39 false (some 62) (.bool true) (by kernel_rfl) (by kernel_rfl) (yld fun _ => by kernel_rfl) ?_
            refine wpG.take 40 false (some 63) (undef) (by kernel_rfl) (by kernel_rfl) (yld fun _ => by kernel_rfl) ?_
            refine wpG.take 41 false (some 64) (undef) (by kernel_rfl) (by kernel_rfl) (yld fun _ => by kernel_rfl) ?_
            refine wpG.take 43 false (some 66) (undef) (by kernel_rfl) (by kernel_rfl) (yld fun _ => by kernel_rfl) ?_
            refine wpG.take 45 false (some 68) (undef) (by kernel_rfl) (by kernel_rfl) (yld fun _ => by kernel_rfl) ?_
            refine wpG.take 42 false (some 65) (undef) (by kernel_rfl) (by kernel_rfl) (yld fun _ => by kernel_rfl) ?_
            refine wpG.take 44 false (some 67) (undef) (by kernel_rfl) (by kernel_rfl) (yld fun _ => by kernel_rfl) ?_
            refine wpG.take 46 false (some 69) (undef) (by kernel_rfl) (by kernel_rfl) (yld fun _ => by kernel_rfl) ?_
            refine wpG.take 47 false (some 70) (.bool true) (by kernel_rfl) (by kernel_rfl) (yld fun _ => by kernel_rfl) ?_
            refine wpG.fin (by kernel_rfl) rfl (kr _ _ ?_)
            refine then_n (ks15 _ _ ?_)
            refine wp_cond_t (by kernel_rfl) ?_
            refine wp_seq_k fun KS17 ks17 => ?_
            refine wp_regS (l := [0]) (by kernel_rfl) fun KR kr => ?_
            refine wpS.take 0 false (some 6) (.bool false) (by kernel_rfl) (yld fun _ => by kernel_rfl) ?_
            refine wpS.fin rfl (kr _ _ ?_)
            refine then_n (ks17 _ _ ?_)
            refine wp_ret ?_
            refine then_r ?_
            have q0 := of_some h
            subst q0
            exact qq _ _ (post_ret (by kernel_rfl) (run_results [.tmp 6] [.bool false] (by kernel_rfl) (.cons (res_tmp (by kernel_rfl)) .nil)) ⟨congrArg Ending.returned (by kernel_rfl), hs.none⟩)
          · refine wpG.take 10 false (some 33) (.bool false) (by kernel_rfl) (by kernel_rfl) (yld_bb hc (yld_eqAn (t := 23) (e := 21) (k := .i32) (.tmp 31) (.tmp 32) (by kernel_rfl) (by kernel_rfl) (by kernel_rfl) (by kernel_rfl) (by kernel_rfl) (by kernel_rfl))) ?_
            refine wpG.take 11 false (some 34) (.bool false) (by kernel_rfl) (by kernel_rfl) (yld fun _ => by kernel_rfl) ?_
            refine wpG.take 12 false (some 35) (.bool false) (by kernel_rfl) (by kernel_rfl) (yld fun _ => by kernel_rfl) ?_
            refine wpG.take 13 true (some 36) (.agg (enc .i32 a0).toArray) (by kernel_rfl) (by kernel_rfl) (yld_loadW (e := 23) (n := 256) hs 2 rfl (by kernel_rfl) (by kernel_rfl) (by kernel_rfl) (by exact enc_len _ _)) ?_
            refine wpG.take 14 true (some 37) (.agg (enc .i32 a1).toArray) (by kernel_rfl) (by kernel_rfl) (yld_loadW (e := 23) (n := 256) hs 1 rfl (by kernel_rfl) (by kernel_rfl) (by kernel_rfl) (by exact enc_len _ _)) ?_
            refine wpG.take 17 true (some 40) (.agg (enc .i32 a0).toArray) (by kernel_rfl) (by kernel_rfl) (yld_loadW (e := 23) (n := 256) hs 2 rfl (by kernel_rfl) (by kernel_rfl) (by kernel_rfl) (by exact enc_len _ _)) ?_
            refine wpG.take 19 true (some 42) (.agg (enc .i32 a1).toArray) (by kernel_rfl) (by kernel_rfl) (yld_loadW (e := 23) (n := 256) hs 1 rfl (by kernel_rfl) (by kernel_rfl) (by kernel_rfl) (by exact enc_len _ _)) ?_
            obtain ⟨r11, hg, h⟩ := of_bind h
            refine wpG.only 15 (by kernel_rfl) (op_call (d := (some 38)) (by kernel_rfl) hs (fun _ => by kernel_rfl) (zq_Times.ok hg _) ?_)
            intro w gw hs
            refine ⟨fun _ => gw, ?_⟩
            obtain ⟨r12, hg, h⟩ := of_bind h
            refine wpG.only 16 (by kernel_rfl) (op_call (d := (some 39)) (by kernel_rfl) hs (fun _ => by kernel_rfl) (zq_Ntt.ok hg _) ?_)
            intro w gw hs
            refine ⟨fun _ => gw, ?_⟩
            obtain ⟨r13, hg, h⟩ := of_bind h
            refine wpG.only 18 (by kernel_rfl) (op_call (d := (some 41)) (by kernel_rfl) hs (fun _ => by kernel_rfl) (zq_Ntt.ok hg _) ?_)
            intro w gw hs
            refine ⟨fun _ => gw, ?_⟩
            obtain ⟨r14, hg, h⟩ := of_bind h
            refine wpG.only 20 (by kernel_rfl) (op_call (d := (some 43)) (by kernel_rfl) hs (fun _ => by kernel_rfl) (zq_Ntt.ok hg _) ?_)
            intro w gw hs
            refine ⟨fun _ => gw, ?_⟩
            obtain ⟨r15, hg, h⟩ := of_bind h
            refine wpG.only 21 (by kernel_rfl) (op_call (d := (some 44)) (by kernel_rfl) hs (fun _ => by kernel_rfl) (zq_Mul.ok hg _) ?_)
            intro w gw hs
            refine ⟨fun _ => gw, ?_⟩
            rcases of_ifb h with ⟨hc, h⟩ | ⟨hc, h⟩
            · refine wpG.take 22 false (some 45) (.bool true) (by kernel_rfl) (by kernel_rfl) (yld_bb hc (yld_eqAn (t := 23) (e := 21) (k := .i32) (.tmp 39) (.tmp 44) (by kernel_rfl) (by kernel_rfl) (by kernel_rfl) (by kernel_rfl) (by kernel_rfl) (by kernel_rfl))) ?_
              refine wpG.take 23 false (some 46) (.bool true) (by kernel_rfl) (by kernel_rfl) (yld fun _ => by kernel_rfl) ?_
              refine wpG.take 24 false (some 47) (.bool true) (by kernel_rfl) (by kernel_rfl) (yld fun _ => by kernel_rfl) ?_
              refine wpG.take 25 false (some 48) (undef) (by kernel_rfl) (by kernel_rfl) (yld fun _ => by kernel_rfl) ?_
              refine wpG.take 26 false (some 49) (undef) (by kernel_rfl) (by kernel_rfl) (yld fun _ => by kernel_rfl) ?_
              refine wpG.take 27 false (some 50) (undef) (by kernel_rfl) (by kernel_rfl) (yld fun _ => by kernel_rfl) ?_
              refine wpG.take 30 false (some 53) (undef) (by kernel_rfl) (by kernel_rfl) (yld fun _ => by kernel_rfl) ?_
              refine wpG.take 31 false (some 54) (undef) (by kernel_rfl) (by kernel_rfl) (yld fun _ => by kernel_rfl) ?_
              refine wpG.take 33 false (some 56) (undef) (by kernel_rfl) (by kernel_rfl) (yld fun _ => by kernel_rfl) ?_
              refine wpG.take 34 false (some 57) (undef) (by kernel_rfl) (by kernel_rfl) (yld fun _ => by kernel_rfl) ?_
              refine wpG.take 28 false (some 51) (undef) (by kernel_rfl) (by kernel_rfl) (yld fun _ => by kernel_rfl) ?_
              refine wpG.take 29 false (some 52) (undef) (by kernel_rfl) (by kernel_rfl) (yld fun _ => by kernel_rfl) ?_
              refine wpG.take 32 false (some 55) (undef) (by kernel_rfl) (by kernel_rfl) (yld fun _ => by kernel_rfl) ?_
              refine wpG.take 35 false (some 58) (undef) (by kernel_rfl) (by kernel_rfl) (yld fun _ => by kernel_rfl) ?_
              refine wpG.take 36 false (some 59) (undef) (by kernel_rfl) (by kernel_rfl) (yld fun _ => by kernel_rfl) ?_
              refine wpG.take 37 false (some 60) (undef) (by kernel_rfl) (by kernel_rfl) (yld fun _ => by kernel_rfl) ?_
              refine wpG.take 38 false (some 61) (.bool true) (by kernel_rfl) (by kernel_rfl) (yld fun _ => by kernel_rfl) ?_
              refine wpG.take 39 false (some 62) (.bool true) (by kernel_rfl) (by kernel_rfl) (yld fun _ => by kernel_rfl) ?_
              refine wpG.take 40 false (some 63) (undef) (by kernel_rfl) (by kernel_rfl) (yld fun _ => by kernel_rfl) ?_
              refine wpG.take 41 false (some 64) (undef) (by kernel_rfl) (by kernel_rfl) (yld fun _ => by kernel_rfl) ?_
              refine wpG.take 43 false (some 66) (undef) (by kernel_rfl) (by kernel_rfl) (yld fun _ => by kernel_rfl) ?_
              refine wpG.take 45 false (some 68) (undef) (by kernel_rfl) (by kernel_rfl) (yld fun _ => by kernel_rfl) ?_
              refine wpG.take 42 false (some 65) (undef) (by kernel_rfl) (by kernel_rfl) (yld fun _ => by kernel_rfl) ?_
              refine wpG.take 44 false (some 67) (undef) (by kernel_rfl) (by kernel_rfl) (yld fun _ => by kernel_rfl) ?_
              refine wpG.take 46 false (some 69) (undef) (by kernel_rfl) (by kernel_rfl) (yld fun _ => by kernel_rfl) ?_
              refine wpG.take 47 false (some 70) (.bool true) (by kernel_rfl) (by kernel_rfl) (yld fun _ => by kernel_rfl) ?_
              refine wpG.fin (by kernel_rfl) rfl (kr _ _ ?_)
              refine then_n (ks15 _ _ ?_)
              refine wp_cond_t (by kernel_rfl) ?_
              refine wp_seq_k fun KS18 ks18 => ?_
              refine wp_regS (l := [0]) (by kernel_rfl) fun KR kr => ?_
              refine wpS.take 0 false (some 6) (.bool false) (by kernel_rfl) (yld fun _ => by kernel_rfl) ?_
              refine wpS.fin rfl (kr _ _ ?_)
              refine then_n (ks18 _ _ ?_)
              refine wp_ret ?_
              refine then_r ?_
              have q0 := of_some h
              subst q0
              exact qq _ _ (post_ret (by kernel_rfl) (run_results [.tmp 6] [.bool false] (by kernel_rfl) (.cons (res_tmp (by kernel_rfl)) .nil)) ⟨congrArg Ending.returned (by kernel_rfl), hs.none⟩)
            · refine wpG.take 22 false (some 45) (.bool false) (by kernel_rfl) (by kernel_rfl) (yld_bb hc (yld_eqAn (t := 23) (e := 21) (k := .i32) (.tmp 39) (.tmp 44) (by kernel_rfl) (by kernel_rfl) (by kernel_rfl) (by kernel_rfl) (by kernel_rfl) (by kernel_rfl))) ?_
              refine wpG.take 23 false (some 46) (.bool false) (by kernel_rfl) (by kernel_rfl) (yld fun _ => by kernel_rfl) ?_
              refine wpG.take 24 false (some 47) (.bool false) (by kernel_rfl) (by kernel_rfl) (yld fun _ => by kernel_rfl) ?_
              refine wpG.take 25 true (some 48) (.agg (enc .i32 a0).toArray) (by kernel_rfl) (by kernel_rfl) (yld_loadW (e := 23) (n := 256) hs 2 rfl (by kernel_rfl) (by kernel_rfl) (by kernel_rfl) (by exact enc_len _ _)) ?_
              refine wpG.take 26 true (some 49) (.agg (enc .i32 a1).toArray) (by kernel_rfl) (by kernel_rfl) (yld_loadW (e := 23) (n := 256) hs 1 rfl (by kernel_rfl) (by kernel_rfl) (by kernel_rfl) (by exact enc_len _ _)) ?_
              refine wpG.take 27 true (some 50) (.agg (enc .i32 a2).toArray) (by kernel_rfl) (by kernel_rfl) (yld_loadW (e := 23) (n := 256) hs 0 rfl (by kernel_rfl) (by kernel_rfl) (by kernel_rfl) (by exact enc_len _ _)) ?_
              refine wpG.take 30 true (some 53) (.agg (enc .i32 a0).toArray) (by kernel_rfl) (by kernel_rfl) (yld_loadW (e := 23) (n := 256) hs 2 rfl (by kernel_rfl) (by kernel_rfl) (by kernel_rfl) (by exact enc_len _ _)) ?_
              refine wpG.take 31 true (some 54) (.agg (enc .i32 a1).toArray) (by kernel_rfl) (by kernel_rfl) (yld_loadW (e := 23) (n := 256) hs 1 rfl (by kernel_rfl) (by kernel_rfl) (by kernel_rfl) (by exact enc_len _ _)) ?_
              refine wpG.take 33 true (some 56) (.agg (enc .i32 a0).toArray) (by kernel_rfl) (by kernel_rfl) (yld_loadW (e := 23) (n := 256) hs 2 rfl (by kernel_rfl) (by kernel_rfl) (by kernel_rfl) (by exact enc_len _ _)) ?_
              refine wpG.take 34 true (some 57) (.agg (enc .i32 a2).toArray) (by kernel_rfl) (by kernel_rfl) (yld_loadW (e := 23) (n := 256) hs 0 rfl (by kernel_rfl) (by kernel_rfl) (by kernel_rfl) (by exact enc_len _ _)) ?_
              obtain ⟨r16, hg, h⟩ := of_bind h
              refine wpG.only 28 (by kernel_rfl) (op_call (d := (some 51)) (by kernel_rfl) hs (fun _ => by kernel_rfl) (zq_Add.ok hg _) ?_)
              intro w gw hs
              refine ⟨fun _ => gw, ?_⟩
              obtain ⟨r17, hg, h⟩ := of_bind h
              refine wpG.only 29 (by kernel_rfl) (op_call (d := (some 52)) (by kernel_rfl) hs (fun _ => by kernel_rfl) (zq_Times.ok hg _) ?_)
              intro w gw hs
              refine ⟨fun _ => gw, ?_⟩
              obtain ⟨r18, hg, h⟩ := of_bind h
              refine wpG.only 32 (by kernel_rfl) (op_call (d := (some 55)) (by kernel_rfl) hs (fun _ => by kernel_rfl) (zq_Times.ok hg _) ?_)
              intro w gw hs
              refine ⟨fun _ => gw, ?_⟩
              obtain ⟨r19, hg, h⟩ := of_bind h
              refine wpG.only 35 (by kernel_rfl) (op_call (d := (some 58)) (by kernel_rfl) hs (fun _ => by kernel_rfl) (zq_Times.ok hg _) ?_)
              intro w gw hs
              refine ⟨fun _ => gw, ?_⟩
              obtain ⟨r20, hg, h⟩ := of_bind h
              refine wpG.only 36 (by kernel_rfl) (op_call (d := (some 59)) (by kernel_rfl) hs (fun _ => by kernel_rfl) (zq_Add.ok hg _) ?_)
              intro w gw hs
              refine ⟨fun _ => gw, ?_⟩
              rcases of_ifb h with ⟨hc, h⟩ | ⟨hc, h⟩
              · refine wpG.take 37 false (some 60) (.bool true) (by kernel_rfl) (by kernel_rfl) (yld_bb hc (yld_eqAn (t := 23) (e := 21) (k := .i32) (.tmp 52) (.tmp 59) (by kernel_rfl) (by kernel_rfl) (by kernel_rfl) (by kernel_rfl) (by kernel_rfl) (by kernel_rfl))) ?_
                refine wpG.take 38 false (some 61) (.bool true) (by kernel_rfl) (by kernel_rfl) (yld fun _ => by kernel_rfl) ?_
                refine wpG.take 39 false (some 62) (.bool true) (by kernel_rfl) (by kernel_rfl) (yld fun _ => by kernel_rfl) ?_
                refine wpG.take 40 false (some 63) (undef) (by kernel_rfl) (by kernel_rfl) (yld fun _ => by kernel_rfl) ?_
                refine wpG.take 41 false (some 64) (undef) (by kernel_rfl) (by kernel_rfl) (yld fun _ => by kernel_rfl) ?_
                refine wpG.take 43 false (some 66) (undef) (by kernel_rfl) (by kernel_rfl) (yld fun _ => by kernel_rfl) ?_
                refine wpG.take 45 false (some 68) (undef) (by kernel_rfl) (by kernel_rfl) (yld fun _ => by kernel_rfl) ?_
                refine wpG.take 42 false (some 65) (undef) (by kernel_rfl) (by kernel_rfl) (yld fun _ => by kernel_rfl) ?_
                refine wpG.take 44 false (some 67) (undef) (by kernel_rfl) (by kernel_rfl) (yld fun _ => by kernel_rfl) ?_
                refine wpG.take 46 false (some 69) (undef) (by kernel_rfl) (by kernel_rfl) (yld fun _ => by kernel_rfl) ?_
                refine wpG.take 47 false (some 70) (.bool true) (by kernel_rfl) (by kernel_rfl) (yld fun _ => by kernel_rfl) ?_
                refine wpG.fin (by kernel_rfl) rfl (kr _ _ ?_)
                refine then_n (ks15 _ _ ?_)
                refine wp_cond_t (by kernel_rfl) ?_
                refine wp_seq_k fun KS19 ks19 => ?_
                refine wp_regS (l := [0]) (by kernel_rfl) fun KR kr => ?_
                refine wpS.take 0 false (some 6) (.bool false) (by kernel_rfl) (yld fun _ => by kernel_rfl) ?_
                refine wpS.fin rfl (kr _ _ ?_)
                refine then_n (ks19 _ _ ?_)
                refine wp_ret ?_
                refine then_r ?_
                have q0 := of_some h
                subst q0
                exact qq _ _ (post_ret (by kernel_rfl) (run_results [.tmp 6] [.bool false] (by kernel_rfl) (.cons (res_tmp (by kernel_rfl)) .nil)) ⟨congrArg Ending.returned (by kernel_rfl), hs.none⟩)
              · refine wpG.take 37 false (some 60) (.bool false) (by kernel_rfl) (by kernel_rfl) (yld_bb hc (yld_eqAn (t := 23) (e := 21) (k := .i32) (.tmp 52) (.tmp 59) (by kernel_rfl) (by kernel_rfl) (by kernel_rfl) (by kernel_rfl) (by kernel_rfl) (by kernel_rfl))) ?_
                refine wpG.take 38 false (some 61) (.bool false) (by kernel_rfl) (by kernel_rfl) (yld fun _ => by kernel_rfl) ?_
                refine wpG.take 39 false (some 62) (.bool false) (by kernel_rfl) (by kernel_rfl) (yld fun _ => by kernel_rfl) ?_
                refine wpG.take 40 true (some 63) (.agg (enc .i32 a0).toArray) (by kernel_rfl) (by kernel_rfl) (yld_loadW (e := 23) (n := 256) hs 2 rfl (by kernel_rfl) (by kernel_rfl) (by kernel_rfl) (by exact enc_len _ _)) ?_
                refine wpG.take 41 true (some 64) (.agg (enc .i32 a1).toArray) (by kernel_rfl) (by kernel_rfl) (yld_loadW (e := 23) (n := 256) hs 1 rfl (by kernel_rfl) (by kernel_rfl) (by kernel_rfl) (by exact enc_len _ _)) ?_
                refine wpG.take 43 true (some 66) (.agg (enc .i32 a1).toArray) (by kernel_rfl) (by kernel_rfl) (yld_loadW (e := 23) (n := 256) hs 1 rfl (by kernel_rfl) (by kernel_rfl) (by kernel_rfl) (by exact enc_len _ _)) ?_
                refine wpG.take 45 true (some 68) (.agg (enc .i32 a0).toArray) (by kernel_rfl) (by kernel_rfl) (yld_loadW (e := 23) (n := 256) hs 2 rfl (by kernel_rfl) (by kernel_rfl) (by kernel_rfl) (by exact enc_len _ _)) ?_
                obtain ⟨r21, hg, h⟩ := of_bind h
                refine wpG.only 42 (by kernel_rfl) (op_call (d := (some 65)) (by kernel_rfl) hs (fun _ => by kernel_rfl) (zq_Sub.ok hg _) ?_)
                intro w gw hs
                refine ⟨fun _ => gw, ?_⟩
                obtain ⟨r22, hg, h⟩ := of_bind h
                refine wpG.only 44 (by kernel_rfl) (op_call (d := (some 67)) (by kernel_rfl) hs (fun _ => by kernel_rfl) (zq_Add.ok hg _) ?_)
                intro w gw hs
                refine ⟨fun _ => gw, ?_⟩
                rcases of_ifb h with ⟨hc, h⟩ | ⟨hc, h⟩
                · refine wpG.take 46 false (some 69) (.bool true) (by kernel_rfl) (by kernel_rfl) (yld_bb hc (yld_eqAn (t := 23) (e := 21) (k := .i32) (.tmp 67) (.tmp 68) (by kernel_rfl) (by kernel_rfl) (by kernel_rfl) (by kernel_rfl) (by kernel_rfl) (by kernel_rfl))) ?_
                  refine wpG.take 47 false (some 70) (.bool true) (by kernel_rfl) (by kernel_rfl) (yld fun _ => by kernel_rfl) ?_
                  refine wpG.fin (by kernel_rfl) rfl (kr _ _ ?_)
                  refine then_n (ks15 _ _ ?_)
                  refine wp_cond_t (by kernel_rfl) ?_
                  refine wp_seq_k fun KS20 ks20 => ?_
                  refine wp_regS (l := [0]) (by kernel_rfl) fun KR kr => ?_
                  refine wpS.take 0 false (some 6) (.bool false) (by kernel_rfl) (yld fun _ => by kernel_rfl) ?_
                  refine wpS.fin rfl (kr _ _ ?_)
                  refine then_n (ks20 _ _ ?_)
                  refine wp_ret ?_
                  refine then_r ?_
                  have q0 := of_some h
                  subst q0
                  exact qq _ _ (post_ret (by kernel_rfl) (run_results [.tmp 6] [.bool false] (by kernel_rfl) (.cons (res_tmp (by kernel_rfl)) .nil)) ⟨congrArg Ending.returned (by kernel_rfl), hs.none⟩)
                · refine wpG.take 46 false (some 69) (.bool false) (by kernel_rfl) (by kernel_rfl) (yld_bb hc (yld_eqAn (t := 23) (e := 21) (k := .i32) (.tmp 67) (.tmp 68) (by kernel_rfl) (by kernel_rfl) (by kernel_rfl) (by kernel_rfl) (by kernel_rfl) (by kernel_rfl))) ?_
                  refine wpG.take 47 false (some 70) (.bool false) (by kernel_rfl) (by kernel_rfl) (yld fun _ => by kernel_rfl) ?_
                  refine wpG.fin (by kernel_rfl) rfl (kr _ _ ?_)
                  refine then_n (ks15 _ _ ?_)
                  refine wp_cond_f (by kernel_rfl) ?_
                  refine wp_skip ?_
                  refine then_n (ks14 _ _ ?_)
                  refine wp_seq_k fun KS21 ks21 => ?_
                  refine wp_regS (l := [0]) (by kernel_rfl) fun KR kr => ?_
                  refine wpS.only 0 (op_alloc (t := 23) (d := (some 7)) (by kernel_rfl) hs (enc .i32 (zeroA 256)) (.agg (enc .i32 (zeroA 256)).toArray) (by kernel_rfl) (by kernel_rfl) (by kernel_rfl) ?_)
                  intro b23 w gw hs
                  refine ⟨fun _ => trivial, ?_⟩
                  refine wpS.fin rfl (kr _ _ ?_)
                  refine then_n (ks21 _ _ ?_)
                  refine wp_seq_k fun KS22 ks22 => ?_
                  refine wp_regS (l := [0, 1]) (by kernel_rfl) fun KR kr => ?_
                  refine wpS.take 0 false (some 71) (.pointer (some ⟨b23, 0 + (128 : Int).toNat * 1, none⟩)) (by kernel_rfl) (yld_idx (t := 23) (e := 21) (n := 256) (sz := 1) (k := .i64) (x := 128) (by kernel_rfl) (by kernel_rfl) (by kernel_rfl) (by decide) (by decide)) ?_
                  refine wpS.only 1 (op_storeA (t := 21) (x := 128) (v := 1) (d := none) (by kernel_rfl) hs 0 rfl (by kernel_rfl /-v-/) (by kernel_rfl) (by decide) (by decide) ?_)
                  intro w hs
                  refine ⟨fun _ => trivial, ?_⟩
                  refine wpS.fin rfl (kr _ _ ?_)
                  refine then_n (ks22 _ _ ?_)
                  refine wp_seq_k fun KS23 ks23 => ?_
                  refine wp_regG [6] 7 (by kernel_rfl) (by kernel_rfl) fun KR kr => ?_
                  have hs := hs.drawn1
                  refine wpG.take 0 true (some 72) (.agg (enc .i32 (wr (zeroA 256) 128 1)).toArray) (by kernel_rfl) (by kernel_rfl) (yld_loadW (e := 23) (n := 256) hs 0 rfl (by kernel_rfl) (by kernel_rfl) (by kernel_rfl) (by exact enc_len _ _)) ?_
                  refine wpG.take 1 true (some 73) (.agg (enc .i32 (wr (zeroA 256) 128 1)).toArray) (by kernel_rfl) (by kernel_rfl) (yld_loadW (e := 23) (n := 256) hs 0 rfl (by kernel_rfl) (by kernel_rfl) (by kernel_rfl) (by exact enc_len _ _)) ?_
                  refine wpG.take 2 true (some 74) (.agg (enc .i32 a0).toArray) (by kernel_rfl) (by kernel_rfl) (yld_loadW (e := 23) (n := 256) hs 3 rfl (by kernel_rfl) (by kernel_rfl) (by kernel_rfl) (by exact enc_len _ _)) ?_
                  refine wpG.two 3 5 (by kernel_rfl) ?_ ?_
                  · obtain ⟨r24, hg, h⟩ := of_bind h
                    refine (op_call (d := (some 75)) (by kernel_rfl) hs (fun _ => by kernel_rfl) (zq_Times.ok hg _) ?_)
                    intro w gw hs
                    refine ⟨fun _ => gw, ?_⟩
                    refine wpG.two 4 5 (by kernel_rfl) ?_ ?_
                    · obtain ⟨r25, hg, h⟩ := of_bind h
                      refine (op_call (d := (some 76)) (by kernel_rfl) hs (fun _ => by kernel_rfl) (zq_Times.ok hg _) ?_)
                      intro w gw hs
                      refine ⟨fun _ => gw, ?_⟩
                      refine wpG.only 5 (by kernel_rfl) (op_alloc (t := 23) (d := (some 8)) (by kernel_rfl) hs (enc .i32 (zeroA 256)) (.agg (enc .i32 (zeroA 256)).toArray) (by kernel_rfl) (by kernel_rfl) (by kernel_rfl) ?_)
                      intro b26 w gw hs
                      refine ⟨fun _ => gw, ?_⟩
                      refine wpG.only 6 (by kernel_rfl) (op_storeW (t := 23) (v := .agg (enc .i32 r25).toArray) (d := none) (by kernel_rfl) hs 0 rfl (vs := enc .i32 r25) (n := 256) (by kernel_rfl) (by kernel_rfl) (by kernel_rfl) (by simp [enc_len]) (by simp [enc_len]) (by intro u hu; exact enc_one _ _ u hu) ?_)
                      intro w hs
                      refine ⟨fun hf => absurd hf (by decide), ?_⟩
                      refine wpG.fin (by kernel_rfl) rfl (kr _ _ ?_)
                      refine then_n (ks23 _ _ ?_)
                      refine wp_seq_k fun KS24 ks24 => ?_
                      refine wp_regS (l := [0, 1, 2, 3, 4, 5, 6, 7, 8]) (by kernel_rfl) fun KR kr => ?_
                      refine wpS.take 0 true (some 77) (.agg (enc .i32 r25).toArray) (by kernel_rfl) (yld_loadW (e := 23) (n := 256) hs 0 rfl (by kernel_rfl) (by kernel_rfl) (by kernel_rfl) (by exact enc_len _ _)) ?_
                      refine wpS.take 1 true (some 78) (.agg (enc .i32 a0).toArray) (by kernel_rfl) (yld_loadW (e := 23) (n := 256) hs 4 rfl (by kernel_rfl) (by kernel_rfl) (by kernel_rfl) (by exact enc_len _ _)) ?_
                      obtain ⟨r27, hg, h⟩ := of_bind h
                      refine wpS.only 2 (op_call (d := (some 79)) (by kernel_rfl) hs (fun _ => by kernel_rfl) (zq_Add.ok hg _) ?_)
                      intro w gw hs
                      refine ⟨fun _ => trivial, ?_⟩
                      refine wpS.take 3 false (some 80) (.agg (enc .i32 (zeroA 256)).toArray) (by kernel_rfl) (yld fun _ => by kernel_rfl) ?_
                      rcases of_ifb h with ⟨hc, h⟩ | ⟨hc, h⟩
                      · refine wpS.take 4 false (some 81) (.bool true) (by kernel_rfl) (yld_bb hc (yld_eqA (t := 23) (e := 21) (k := .i32) (.tmp 79) (.tmp 80) (by kernel_rfl) (by kernel_rfl) (by kernel_rfl) (by kernel_rfl) (by kernel_rfl) (by kernel_rfl))) ?_
                        refine wpS.take 5 false (some 82) (.bool true) (by kernel_rfl) (yld fun _ => by kernel_rfl) ?_
                        obtain ⟨r28, hg, h⟩ := of_bind h
                        refine wpS.only 6 (op_call (d := (some 83)) (by kernel_rfl) hs (fun _ => by kernel_rfl) (law21_awake.ok hg _) ?_)
                        intro w gw hs
                        refine ⟨fun _ => trivial, ?_⟩
                        refine wpS.take 7 false (some 84) (.bool r28) (by kernel_rfl) (yld fun _ => by kernel_rfl) ?_
                        refine wpS.take 8 false (some 6) (.bool r28) (by kernel_rfl) (yld fun _ => by kernel_rfl) ?_
                        refine wpS.fin rfl (kr _ _ ?_)
                        refine then_n (ks24 _ _ ?_)
                        refine wp_ret ?_
                        have q0 := of_some h
                        subst q0
                        exact qq _ _ (post_ret (by kernel_rfl) (run_results [.tmp 6] [.bool r28] (by kernel_rfl) (.cons (res_tmp (by kernel_rfl)) .nil)) ⟨congrArg Ending.returned (by kernel_rfl), hs.none⟩)
                      · refine wpS.take 4 false (some 81) (.bool false) (by kernel_rfl) (yld_bb hc (yld_eqA (t := 23) (e := 21) (k := .i32) (.tmp 79) (.tmp 80) (by kernel_rfl) (by kernel_rfl) (by kernel_rfl) (by kernel_rfl) (by kernel_rfl) (by kernel_rfl))) ?_
                        refine wpS.take 5 false (some 82) (.bool false) (by kernel_rfl) (yld fun _ => by kernel_rfl) ?_
                        refine wpS.take 6 false (some 83) (undef) (by kernel_rfl) (yld fun _ => by kernel_rfl) ?_
                        refine wpS.take 7 false (some 84) (.bool false) (by kernel_rfl) (yld fun _ => by kernel_rfl) ?_
                        refine wpS.take 8 false (some 6) (.bool false) (by kernel_rfl) (yld fun _ => by kernel_rfl) ?_
                        refine wpS.fin rfl (kr _ _ ?_)
                        refine then_n (ks24 _ _ ?_)
                        refine wp_ret ?_
                        have q0 := of_some h
                        subst q0
                        exact qq _ _ (post_ret (by kernel_rfl) (run_results [.tmp 6] [.bool false] (by kernel_rfl) (.cons (res_tmp (by kernel_rfl)) .nil)) ⟨congrArg Ending.returned (by kernel_rfl), hs.none⟩)
                    · refine (op_alloc (t := 23) (d := (some 8)) (by kernel_rfl) hs (enc .i32 (zeroA 256)) (.agg (enc .i32 (zeroA 256)).toArray) (by kernel_rfl) (by kernel_rfl) (by kernel_rfl) ?_)
                      intro b25 w gw hs
                      refine ⟨fun _ => gw, ?_⟩
                      obtain ⟨r26, hg, h⟩ := of_bind h
                      refine wpG.only 4 (by kernel_rfl) (op_call (d := (some 76)) (by kernel_rfl) hs (fun _ => by kernel_rfl) (zq_Times.ok hg _) ?_)
                      intro w gw hs
                      refine ⟨fun _ => gw, ?_⟩
                      refine wpG.only 6 (by kernel_rfl) (op_storeW (t := 23) (v := .agg (enc .i32 r26).toArray) (d := none) (by kernel_rfl) hs 0 rfl (vs := enc .i32 r26) (n := 256) (by kernel_rfl) (by kernel_rfl) (by kernel_rfl) (by simp [enc_len]) (by simp [enc_len]) (by intro u hu; exact enc_one _ _ u hu) ?_)
                      intro w hs
                      refine ⟨fun hf => absurd hf (by decide), ?_⟩
                      refine wpG.fin (by kernel_rfl) rfl (kr _ _ ?_)
                      refine then_n (ks23 _ _ ?_)
                      refine wp_seq_k fun KS25 ks25 => ?_
                      refine wp_regS (l := [0, 1, 2, 3, 4, 5, 6, 7, 8]) (by kernel_rfl) fun KR kr => ?_
                      refine wpS.take 0 true (some 77) (.agg (enc .i32 r26).toArray) (by kernel_rfl) (yld_loadW (e := 23) (n := 256) hs 0 rfl (by kernel_rfl) (by kernel_rfl) (by kernel_rfl) (by exact enc_len _ _)) ?_
                      refine wpS.take 1 true (some 78) (.agg (enc .i32 a0).toArray) (by kernel_rfl) (yld_loadW (e := 23) (n := 256) hs 4 rfl (by kernel_rfl) (by kernel_rfl) (by kernel_rfl) (by exact enc_len _ _)) ?_
                      obtain ⟨r27, hg, h⟩ := of_bind h
                      refine wpS.only 2 (op_call (d := (some 79)) (by kernel_rfl) hs (fun _ => by kernel_rfl) (zq_Add.ok hg _) ?_)
                      intro w gw hs
                      refine ⟨fun _ => trivial, ?_⟩
                      refine wpS.take 3 false (some 80) (.agg (enc .i32 (zeroA 256)).toArray) (by kernel_rfl) (yld fun _ => by kernel_rfl) ?_
                      rcases of_ifb h with ⟨hc, h⟩ | ⟨hc, h⟩
                      · refine wpS.take 4 false (some 81) (.bool true) (by kernel_rfl) (yld_bb hc (yld_eqA (t := 23) (e := 21) (k := .i32) (.tmp 79) (.tmp 80) (by kernel_rfl) (by kernel_rfl) (by kernel_rfl) (by kernel_rfl) (by kernel_rfl) (by kernel_rfl))) ?_
                        refine wpS.take 5 false (some 82) (.bool true) (by kernel_rfl) (yld fun _ => by kernel_rfl) ?_
                        obtain ⟨r28, hg, h⟩ := of_bind h
                        refine wpS.only 6 (op_call (d := (some 83)) (by kernel_rfl) hs (fun _ => by kernel_rfl) (law21_awake.ok hg _) ?_)
                        intro w gw hs
                        refine ⟨fun _ => trivial, ?_⟩
                        refine wpS.take 7 false (some 84) (.bool r28) (by kernel_rfl) (yld fun _ => by kernel_rfl) ?_
                        refine wpS.take 8 false (some 6) (.bool r28) (by kernel_rfl) (yld fun _ => by kernel_rfl) ?_
                        refine wpS.fin rfl (kr _ _ ?_)
                        refine then_n (ks25 _ _ ?_)
                        refine wp_ret ?_
                        have q0 := of_some h
                        subst q0
                        exact qq _ _ (post_ret (by kernel_rfl) (run_results [.tmp 6] [.bool r28] (by kernel_rfl) (.cons (res_tmp (by kernel_rfl)) .nil)) ⟨congrArg Ending.returned (by kernel_rfl), hs.none⟩)
                      · refine wpS.take 4 false (some 81) (.bool false) (by kernel_rfl) (yld_bb hc (yld_eqA (t := 23) (e := 21) (k := .i32) (.tmp 79) (.tmp 80) (by kernel_rfl) (by kernel_rfl) (by kernel_rfl) (by kernel_rfl) (by kernel_rfl) (by kernel_rfl))) ?_
                        refine wpS.take 5 false (some 82) (.bool false) (by kernel_rfl) (yld fun _ => by kernel_rfl) ?_
                        refine wpS.take 6 false (some 83) (undef) (by kernel_rfl) (yld fun _ => by kernel_rfl) ?_
                        refine wpS.take 7 false (some 84) (.bool false) (by kernel_rfl) (yld fun _ => by kernel_rfl) ?_
                        refine wpS.take 8 false (some 6) (.bool false) (by kernel_rfl) (yld fun _ => by kernel_rfl) ?_
                        refine wpS.fin rfl (kr _ _ ?_)
                        refine then_n (ks25 _ _ ?_)
                        refine wp_ret ?_
                        have q0 := of_some h
                        subst q0
                        exact qq _ _ (post_ret (by kernel_rfl) (run_results [.tmp 6] [.bool false] (by kernel_rfl) (.cons (res_tmp (by kernel_rfl)) .nil)) ⟨congrArg Ending.returned (by kernel_rfl), hs.none⟩)
                  · refine (op_alloc (t := 23) (d := (some 8)) (by kernel_rfl) hs (enc .i32 (zeroA 256)) (.agg (enc .i32 (zeroA 256)).toArray) (by kernel_rfl) (by kernel_rfl) (by kernel_rfl) ?_)
                    intro b24 w gw hs
                    refine ⟨fun _ => gw, ?_⟩
                    obtain ⟨r25, hg, h⟩ := of_bind h
                    refine wpG.only 3 (by kernel_rfl) (op_call (d := (some 75)) (by kernel_rfl) hs (fun _ => by kernel_rfl) (zq_Times.ok hg _) ?_)
                    intro w gw hs
                    refine ⟨fun _ => gw, ?_⟩
                    obtain ⟨r26, hg, h⟩ := of_bind h
                    refine wpG.only 4 (by kernel_rfl) (op_call (d := (some 76)) (by kernel_rfl) hs (fun _ => by kernel_rfl) (zq_Times.ok hg _) ?_)
                    intro w gw hs
                    refine ⟨fun _ => gw, ?_⟩
                    refine wpG.only 6 (by kernel_rfl) (op_storeW (t := 23) (v := .agg (enc .i32 r26).toArray) (d := none) (by kernel_rfl) hs 0 rfl (vs := enc .i32 r26) (n := 256) (by kernel_rfl) (by kernel_rfl) (by kernel_rfl) (by simp [enc_len]) (by simp [enc_len]) (by intro u hu; exact enc_one _ _ u hu) ?_)
                    intro w hs
                    refine ⟨fun hf => absurd hf (by decide), ?_⟩
                    refine wpG.fin (by kernel_rfl) rfl (kr _ _ ?_)
                    refine then_n (ks23 _ _ ?_)
                    refine wp_seq_k fun KS26 ks26 => ?_
                    refine wp_regS (l := [0, 1, 2, 3, 4, 5, 6, 7, 8]) (by kernel_rfl) fun KR kr => ?_
                    refine wpS.take 0 true (some 77) (.agg (enc .i32 r26).toArray) (by kernel_rfl) (yld_loadW (e := 23) (n := 256) hs 0 rfl (by kernel_rfl) (by kernel_rfl) (by kernel_rfl) (by exact enc_len _ _)) ?_
                    refine wpS.take 1 true (some 78) (.agg (enc .i32 a0).toArray) (by kernel_rfl) (yld_loadW (e := 23) (n := 256) hs 4 rfl (by kernel_rfl) (by kernel_rfl) (by kernel_rfl) (by exact enc_len _ _)) ?_
                    obtain ⟨r27, hg, h⟩ := of_bind h
                    refine wpS.only 2 (op_call (d := (some 79)) (by kernel_rfl) hs (fun _ => by kernel_rfl) (zq_Add.ok hg _) ?_)
                    intro w gw hs
                    refine ⟨fun _ => trivial, ?_⟩
                    refine wpS.take 3 false (some 80) (.agg (enc .i32 (zeroA 256)).toArray) (by kernel_rfl) (yld fun _ => by kernel_rfl) ?_
                    rcases of_ifb h with ⟨hc, h⟩ | ⟨hc, h⟩
                    · refine wpS.take 4 false (some 81) (.bool true) (by kernel_rfl) (yld_bb hc (yld_eqA (t := 23) (e := 21) (k := .i32) (.tmp 79) (.tmp 80) (by kernel_rfl) (by kernel_rfl) (by kernel_rfl) (by kernel_rfl) (by kernel_rfl) (by kernel_rfl))) ?_
                      refine wpS.take 5 false (some 82) (.bool true) (by kernel_rfl) (yld fun _ => by kernel_rfl) ?_
                      obtain ⟨r28, hg, h⟩ := of_bind h
                      refine wpS.only 6 (op_call (d := (some 83)) (by kernel_rfl) hs (fun _ => by kernel_rfl) (law21_awake.ok hg _) ?_)
                      intro w gw hs
                      refine ⟨fun _ => trivial, ?_⟩
                      refine wpS.take 7 false (some 84) (.bool r28) (by kernel_rfl) (yld fun _ => by kernel_rfl) ?_
                      refine wpS.take 8 false (some 6) (.bool r28) (by kernel_rfl) (yld fun _ => by kernel_rfl) ?_
                      refine wpS.fin rfl (kr _ _ ?_)
                      refine then_n (ks26 _ _ ?_)
                      refine wp_ret ?_
                      have q0 := of_some h
                      subst q0
                      exact qq _ _ (post_ret (by kernel_rfl) (run_results [.tmp 6] [.bool r28] (by kernel_rfl) (.cons (res_tmp (by kernel_rfl)) .nil)) ⟨congrArg Ending.returned (by kernel_rfl), hs.none⟩)
                    · refine wpS.take 4 false (some 81) (.bool false) (by kernel_rfl) (yld_bb hc (yld_eqA (t := 23) (e := 21) (k := .i32) (.tmp 79) (.tmp 80) (by kernel_rfl) (by kernel_rfl) (by kernel_rfl) (by kernel_rfl) (by kernel_rfl) (by kernel_rfl))) ?_
                      refine wpS.take 5 false (some 82) (.bool false) (by kernel_rfl) (yld fun _ => by kernel_rfl) ?_
                      refine wpS.take 6 false (some 83) (undef) (by kernel_rfl) (yld fun _ => by kernel_rfl) ?_
                      refine wpS.take 7 false (some 84) (.bool false) (by kernel_rfl) (yld fun _ => by kernel_rfl) ?_
                      refine wpS.take 8 false (some 6) (.bool false) (by kernel_rfl) (yld fun _ => by kernel_rfl) ?_
                      refine wpS.fin rfl (kr _ _ ?_)
                      refine then_n (ks26 _ _ ?_)
                      refine wp_ret ?_
                      have q0 := of_some h
                      subst q0
                      exact qq _ _ (post_ret (by kernel_rfl) (run_results [.tmp 6] [.bool false] (by kernel_rfl) (.cons (res_tmp (by kernel_rfl)) .nil)) ⟨congrArg Ending.returned (by kernel_rfl), hs.none⟩)
      | false =>
        have h := of_if_f h
        refine wpS.only 10 (op_call (d := (some 19)) (by kernel_rfl) hs (fun _ => by kernel_rfl) (ref21_Fit.ok hg _) ?_)
        intro w gw hs
        refine ⟨fun _ => trivial, ?_⟩
        refine wpS.take 11 false (some 20) (.bool true) (by kernel_rfl) (yld fun _ => by kernel_rfl) ?_
        refine wpS.take 12 false (some 21) (.bool true) (by kernel_rfl) (yld fun _ => by kernel_rfl) ?_
        refine wpS.fin rfl (kr _ _ ?_)
        refine then_n (ks7 _ _ ?_)
        refine wp_cond_t (by kernel_rfl) ?_
        refine wp_seq_k fun KS27 ks27 => ?_
        refine wp_regS (l := [0, 1]) (by kernel_rfl) fun KR kr => ?_
        obtain ⟨r29, hg, h⟩ := of_bind h
        refine wpS.only 0 (op_call (d := (some 22)) (by kernel_rfl) hs (fun _ => by kernel_rfl) (law21_awake.ok hg _) ?_)
        intro w gw hs
        refine ⟨fun _ => trivial, ?_⟩
        refine wpS.take 1 false (some 6) (.bool r29) (by kernel_rfl) (yld fun _ => by kernel_rfl) ?_
        refine wpS.fin rfl (kr _ _ ?_)
        refine then_n (ks27 _ _ ?_)
        refine wp_ret ?_
        refine then_r ?_
        have q0 := of_some h
        subst q0
        exact qq _ _ (post_ret (by kernel_rfl) (run_results [.tmp 6] [.bool r29] (by kernel_rfl) (.cons (res_tmp (by kernel_rfl)) .nil)) ⟨congrArg Ending.returned (by kernel_rfl), hs.none⟩)
    | false =>
      have h := of_if_f h
      refine wpS.only 5 (op_call (d := (some 14)) (by kernel_rfl) hs (fun _ => by kernel_rfl) (ref21_Fit.ok hg _) ?_)
      intro w gw hs
      refine ⟨fun _ => trivial, ?_⟩
      refine wpS.take 6 false (some 15) (.bool true) (by kernel_rfl) (yld fun _ => by kernel_rfl) ?_
      refine wpS.take 7 false (some 16) (.bool true) (by kernel_rfl) (yld fun _ => by kernel_rfl) ?_
      refine wpS.take 8 false (some 17) (.bool true) (by kernel_rfl) (yld fun _ => by kernel_rfl) ?_
      refine wpS.take 9 false (some 18) (undef) (by kernel_rfl) (yld fun _ => by kernel_rfl) ?_
      refine wpS.take 10 false (some 19) (undef) (by kernel_rfl) (yld fun _ => by kernel_rfl) ?_
      refine wpS.take 11 false (some 20) (undef) (by kernel_rfl) (yld fun _ => by kernel_rfl) ?_
      refine wpS.take 12 false (some 21) (.bool true) (by kernel_rfl) (yld fun _ => by kernel_rfl) ?_
      refine wpS.fin rfl (kr _ _ ?_)
      refine then_n (ks7 _ _ ?_)
      refine wp_cond_t (by kernel_rfl) ?_
      refine wp_seq_k fun KS28 ks28 => ?_
      refine wp_regS (l := [0, 1]) (by kernel_rfl) fun KR kr => ?_
      obtain ⟨r30, hg, h⟩ := of_bind h
      refine wpS.only 0 (op_call (d := (some 22)) (by kernel_rfl) hs (fun _ => by kernel_rfl) (law21_awake.ok hg _) ?_)
      intro w gw hs
      refine ⟨fun _ => trivial, ?_⟩
      refine wpS.take 1 false (some 6) (.bool r30) (by kernel_rfl) (yld fun _ => by kernel_rfl) ?_
      refine wpS.fin rfl (kr _ _ ?_)
      refine then_n (ks28 _ _ ?_)
      refine wp_ret ?_
      refine then_r ?_
      have q0 := of_some h
      subst q0
      exact qq _ _ (post_ret (by kernel_rfl) (run_results [.tmp 6] [.bool r30] (by kernel_rfl) (.cons (res_tmp (by kernel_rfl)) .nil)) ⟨congrArg Ending.returned (by kernel_rfl), hs.none⟩)
  | false =>
    have h := of_if_f h
    refine wpS.only 1 (op_call (d := (some 10)) (by kernel_rfl) hs (fun _ => by kernel_rfl) (ref21_Fit.ok hg _) ?_)
    intro w gw hs
    refine ⟨fun _ => trivial, ?_⟩
    refine wpS.take 2 false (some 11) (.bool true) (by kernel_rfl) (yld fun _ => by kernel_rfl) ?_
    refine wpS.take 3 false (some 12) (.bool true) (by kernel_rfl) (yld fun _ => by kernel_rfl) ?_
    refine wpS.take 4 false (some 13) (undef) (by kernel_rfl) (yld fun _ => by kernel_rfl) ?_
    refine wpS.take 5 false (some 14) (undef) (by kernel_rfl) (yld fun _ => by kernel_rfl) ?_
    refine wpS.take 6 false (some 15) (undef) (by kernel_rfl) (yld fun _ => by kernel_rfl) ?_
    refine wpS.take 7 false (some 16) (.bool true) (by kernel_rfl) (yld fun _ => by kernel_rfl) ?_
    refine wpS.take 8 false (some 17) (.bool true) (by kernel_rfl) (yld fun _ => by kernel_rfl) ?_
    refine wpS.take 9 false (some 18) (undef) (by kernel_rfl) (yld fun _ => by kernel_rfl) ?_
    refine wpS.take 10 false (some 19) (undef) (by kernel_rfl) (yld fun _ => by kernel_rfl) ?_
    refine wpS.take 11 false (some 20) (undef) (by kernel_rfl) (yld fun _ => by kernel_rfl) ?_
    refine wpS.take 12 false (some 21) (.bool true) (by kernel_rfl) (yld fun _ => by kernel_rfl) ?_
    refine wpS.fin rfl (kr _ _ ?_)
    refine then_n (ks7 _ _ ?_)
    refine wp_cond_t (by kernel_rfl) ?_
    refine wp_seq_k fun KS29 ks29 => ?_
    refine wp_regS (l := [0, 1]) (by kernel_rfl) fun KR kr => ?_
    obtain ⟨r31, hg, h⟩ := of_bind h
    refine wpS.only 0 (op_call (d := (some 22)) (by kernel_rfl) hs (fun _ => by kernel_rfl) (law21_awake.ok hg _) ?_)
    intro w gw hs
    refine ⟨fun _ => trivial, ?_⟩
    refine wpS.take 1 false (some 6) (.bool r31) (by kernel_rfl) (yld fun _ => by kernel_rfl) ?_
    refine wpS.fin rfl (kr _ _ ?_)
    refine then_n (ks29 _ _ ?_)
    refine wp_ret ?_
    refine then_r ?_
    have q0 := of_some h
    subst q0
    exact qq _ _ (post_ret (by kernel_rfl) (run_results [.tmp 6] [.bool r31] (by kernel_rfl) (.cons (res_tmp (by kernel_rfl)) .nil)) ⟨congrArg Ending.returned (by kernel_rfl), hs.none⟩)
end Go.Proofs.Ytijahfdldlmnhaa
